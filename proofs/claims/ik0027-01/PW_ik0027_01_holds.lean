import PyProof.Rows.All
import Wide.All
import OpenK.AllK
import Wide.FinOn
import KE.KFromBytes
import KE.LcTurns
import KE.KLcTest
import KE.KMulAny
import PyProof.ListIndexNeg
import PyProof.Rows.SetFrom
import PyProof.DictIter
import PySem.Challenge.RW_ik0027_01
set_option Elab.async false
set_option linter.all false
set_option rowWalk.seconds 0
set_option compiler.extract_closed false
open PySem PySem.W PyProof.Rows
section HdPart
theorem PySem.W.Fast.tw6733733256287894996 : True := trivial
theorem PySem.W.Fast.tw14553827428707814869 : True := trivial
theorem PySem.W.Fast.tw8075568018651887793 : True := trivial
theorem PySem.W.Fast.tw16157014435343321033 : True := trivial
theorem PySem.W.Fast.tw14979626087600564940 : True := trivial
theorem PySem.W.Fast.tw10569802208783239087 : True := trivial
theorem PySem.W.Fast.tw8901101332624060146 : True := trivial
theorem PySem.W.Fast.tw13896205201685373497 : True := trivial
theorem PySem.W.Fast.tw15156459632440246869 : True := trivial
theorem PySem.W.Fast.tw358454259470677404 : True := trivial
theorem PySem.W.Fast.tw8703263022893421829 : True := trivial
theorem PySem.W.Fast.tw17000155066101142889 : True := trivial
theorem PySem.W.Fast.tw132011934403449861 : True := trivial
theorem PySem.W.Fast.tw11853533878840232495 : True := trivial
theorem PySem.W.Fast.tw17164873540382356111 : True := trivial
theorem PySem.W.Fast.tw8401167489291999205 : True := trivial
theorem PySem.W.Fast.tw6434138532213402376 : True := trivial
theorem PySem.W.Fast.tw5032809538720368765 : True := trivial
theorem PySem.W.Fast.tw14168537005229113720 : True := trivial
theorem PySem.W.Fast.tw12290603225136948437 : True := trivial
theorem PySem.W.Fast.tw1355338860687761863 : True := trivial
theorem PySem.W.Fast.tw16349804527192203551 : True := trivial
theorem PySem.W.Fast.tw17070079461858475408 : True := trivial
theorem PySem.W.Fast.tw15278061642289888581 : True := trivial
theorem PySem.W.Fast.tw9697512110049397445 : True := trivial
theorem PySem.W.Fast.tw9029142643779711378 : True := trivial
theorem PySem.W.Fast.tw4388067698380316889 : True := trivial
theorem PySem.W.Fast.tw4083366629787285363 : True := trivial
theorem PySem.W.Fast.tw2921100012855380799 : True := trivial
theorem PySem.W.Fast.tw15236012663528867214 : True := trivial
theorem PySem.W.Fast.tw14676129246514791375 : True := trivial
theorem PySem.W.Fast.tw14204384831589138817 : True := trivial
theorem PySem.W.Fast.tw2719445374943340272 : True := trivial
theorem PySem.W.Fast.tw9862997608875712007 : True := trivial
theorem PySem.W.Fast.tw460243522976405022 : True := trivial
theorem PySem.W.Fast.tw9011979029575296479 : True := trivial
theorem PySem.W.Fast.tw3698559305507148144 : True := trivial
theorem PySem.W.Fast.tw18211773271919218964 : True := trivial
theorem PySem.W.Fast.tw16414604833108395602 : True := trivial
theorem PySem.W.Fast.tw8537084889766193716 : True := trivial
theorem PySem.W.Fast.tw16214148842636244229 : True := trivial
theorem PySem.W.Fast.tw15480198773659482676 : True := trivial
theorem PySem.W.Fast.tw11452132507678324671 : True := trivial
theorem PySem.W.Fast.tw10938465397075749097 : True := trivial
theorem PySem.W.Fast.tw392140993173905013 : True := trivial
theorem PySem.W.Fast.tw4636218855388986860 : True := trivial
theorem PySem.W.Fast.tw4444965560193506482 : True := trivial
theorem PySem.W.Fast.tw11588390666370768167 : True := trivial
theorem PySem.W.Fast.tw13512673800721320934 : True := trivial
theorem PySem.W.Fast.tw14376985748213822385 : True := trivial
theorem PySem.W.Fast.tw662354867322794072 : True := trivial
theorem PySem.W.Fast.tw5591276700874282246 : True := trivial
theorem PySem.W.Fast.tw9948023125614773506 : True := trivial
theorem PySem.W.Fast.tw12635297910168745909 : True := trivial
theorem PySem.W.Fast.tw3619232141914619222 : True := trivial
theorem PySem.W.Fast.tw8119918657739134586 : True := trivial
theorem PySem.W.Fast.tw6679490504615227074 : True := trivial
theorem PySem.W.Fast.tw14126943448341045398 : True := trivial
theorem PySem.W.Fast.tw6654550962395885724 : True := trivial
theorem PySem.W.Fast.tw17925548735911062312 : True := trivial
theorem PySem.W.Fast.tw10253492065209306289 : True := trivial
theorem PySem.W.Fast.tw2670528217467546775 : True := trivial
theorem PySem.W.Fast.tw10942035263794033107 : True := trivial
theorem PySem.W.Fast.tw4797165386629745026 : True := trivial
theorem PySem.W.Fast.tw10227693086864044499 : True := trivial
theorem PySem.W.Fast.tw2313353295222260650 : True := trivial
theorem PySem.W.Fast.tw14956549838072327282 : True := trivial
theorem PySem.W.Fast.tw2452820758585089575 : True := trivial
theorem PySem.W.Fast.tw3152983702415266003 : True := trivial
theorem PySem.W.Fast.tw17672482021469178181 : True := trivial
theorem PySem.W.Fast.tw17279654841073493023 : True := trivial
theorem PySem.W.Fast.tw11420187438672877268 : True := trivial
theorem PySem.W.Fast.tw9908251947323293946 : True := trivial
theorem PySem.W.Fast.tw2905824091091238844 : True := trivial
theorem PySem.W.Fast.tw16804044748790271530 : True := trivial
theorem PySem.W.Fast.tw11270796479367742343 : True := trivial
theorem PySem.W.Fast.tw18323700119837366958 : True := trivial
theorem PySem.W.Fast.tw2354135333415324597 : True := trivial
theorem PySem.W.Fast.tw10073347824450446311 : True := trivial
theorem PySem.W.Fast.tw4933834842325187142 : True := trivial
theorem PySem.W.Fast.tw11346108149598046533 : True := trivial
theorem PySem.W.Fast.tw13559156169165276386 : True := trivial
theorem PySem.W.Fast.tw14023627001141898710 : True := trivial
theorem PySem.W.Fast.tw6380047634161181297 : True := trivial
theorem PySem.W.Fast.tw3094477031063562474 : True := trivial
theorem PySem.W.Fast.tw16018607276475445134 : True := trivial
theorem PySem.W.Fast.tw4527066259768149269 : True := trivial
theorem PySem.W.Fast.tw10996506086634736982 : True := trivial
theorem PySem.W.Fast.tw2664551874359636763 : True := trivial
theorem PySem.W.Fast.tw17057272898397164401 : True := trivial
theorem PySem.W.Fast.tw11729385059970357855 : True := trivial
theorem PySem.W.Fast.tw15158043598476960053 : True := trivial
theorem PySem.W.Fast.tw6929956602132211858 : True := trivial
theorem PySem.W.Fast.tw14433975572909055671 : True := trivial
theorem PySem.W.Fast.tw2627984346626558326 : True := trivial
theorem PySem.W.Fast.tw14326252917377295143 : True := trivial
theorem PySem.W.Fast.tw9285146279643344392 : True := trivial
theorem PySem.W.Fast.tw8860024209350480642 : True := trivial
theorem PySem.W.Fast.tw5268983451555188008 : True := trivial
theorem PySem.W.Fast.tw14213472795030965493 : True := trivial
theorem PySem.W.Fast.tw6817277305950994716 : True := trivial
theorem PySem.W.Fast.tw14821650378409806113 : True := trivial
theorem PySem.W.Fast.tw13479600455187215721 : True := trivial
theorem PySem.W.Fast.tw8693227569615203950 : True := trivial
theorem PySem.W.Fast.tw15742981410569661332 : True := trivial
theorem PySem.W.Fast.tw10753579090125970612 : True := trivial
theorem PySem.W.Fast.tw7299303143086499733 : True := trivial
theorem PySem.W.Fast.tw18340240734955500558 : True := trivial
theorem PySem.W.Fast.tw18056578402003937789 : True := trivial
theorem PySem.W.Fast.tw16531745337717519161 : True := trivial
theorem PySem.W.Fast.tw16049961110935095269 : True := trivial
theorem PySem.W.Fast.tw11939915149646268982 : True := trivial
theorem PySem.W.Fast.tw17888162413812561239 : True := trivial
theorem PySem.W.Fast.tw5349121933718820234 : True := trivial
theorem PySem.W.Fast.tw1702518465993881591 : True := trivial
theorem PySem.W.Fast.tw10706342367453228570 : True := trivial
theorem PySem.W.Fast.tw13254397897704925713 : True := trivial
theorem PySem.W.Fast.tw17964007177503468958 : True := trivial
theorem PySem.W.Fast.tw14311459727803291754 : True := trivial
theorem PySem.W.Fast.tw2039238271031011813 : True := trivial
theorem PySem.W.Fast.tw2478078296215019888 : True := trivial
theorem PySem.W.Fast.tw4679858250743294509 : True := trivial
theorem PySem.W.Fast.tw9763268239775435451 : True := trivial
theorem PySem.W.Fast.tw505943868828395459 : True := trivial
theorem PySem.W.Fast.tw4558998842232669794 : True := trivial
theorem PySem.W.Fast.tw2997306320072185856 : True := trivial
theorem PySem.W.Fast.tw15007238320947547705 : True := trivial
theorem PySem.W.Fast.tw6004533443673955352 : True := trivial
theorem PySem.W.Fast.tw5529568453561195837 : True := trivial
theorem PySem.W.Fast.tw15066959818950650227 : True := trivial
theorem PySem.W.Fast.tw16593013826814733010 : True := trivial
theorem PySem.W.Fast.tw1218959903707654005 : True := trivial
theorem PySem.W.Fast.tw2862820112641550484 : True := trivial
theorem PySem.W.Fast.tw951843321253372498 : True := trivial
theorem PySem.W.Fast.tw7323676302269181137 : True := trivial
theorem PySem.W.Fast.tw7721631327575515661 : True := trivial
theorem PySem.W.Fast.tw682011567655089306 : True := trivial
theorem PySem.W.Fast.tw5357591511691535388 : True := trivial
theorem PySem.W.Fast.tw2611137233208623240 : True := trivial
theorem PySem.W.Fast.tw18345786424863182364 : True := trivial
theorem PySem.W.Fast.tw13145125596335152023 : True := trivial
theorem PySem.W.Fast.tw1402947280878808549 : True := trivial
theorem PySem.W.Fast.tw10887116778572429059 : True := trivial
theorem PySem.W.Fast.tw8424611434330503625 : True := trivial
theorem PySem.W.Fast.tw10948738476641704880 : True := trivial
theorem PySem.W.Fast.tw4292500188555128830 : True := trivial
theorem PySem.W.Fast.tw900395245841561262 : True := trivial
theorem PySem.W.Fast.tw14223099787259518943 : True := trivial
theorem PySem.W.Fast.tw14108194823987119177 : True := trivial
theorem PySem.W.Fast.tw13678640442995254988 : True := trivial
theorem PySem.W.Fast.tw11186114360453789277 : True := trivial
theorem PySem.W.Fast.tw8719427161674164953 : True := trivial
theorem PySem.W.Fast.tw3577408171920636059 : True := trivial
theorem PySem.W.Fast.tw16643379632663270332 : True := trivial
theorem PySem.W.Fast.tw12233582284571471492 : True := trivial
theorem PySem.W.Fast.tw10010936943081839664 : True := trivial
theorem PySem.W.Fast.tw9501820088010722379 : True := trivial
theorem PySem.W.Fast.tw5902227825499142635 : True := trivial
theorem PySem.W.Fast.tw7269565832213808900 : True := trivial
theorem PySem.W.Fast.tw3764465048917985505 : True := trivial
theorem PySem.W.Fast.tw2283851925072248500 : True := trivial
theorem PySem.W.Fast.tw16916688483869632129 : True := trivial
theorem PySem.W.Fast.tw14834023430324568649 : True := trivial
theorem PySem.W.Fast.tw14725528821904125628 : True := trivial
theorem PySem.W.Fast.tw13900631225919944168 : True := trivial
theorem PySem.W.Fast.tw1258299570235058372 : True := trivial
theorem PySem.W.Fast.tw11985326045990495214 : True := trivial
theorem PySem.W.Fast.tw7275051467321613617 : True := trivial
theorem PySem.W.Fast.tw4980102563643897964 : True := trivial
theorem PySem.W.Fast.tw2660918139993853925 : True := trivial
theorem PySem.W.Fast.tw16145008321745377990 : True := trivial
theorem PySem.W.Fast.tw13981391230805400906 : True := trivial
theorem PySem.W.Fast.tw3976722010076183465 : True := trivial
namespace Mine
set_option maxRecDepth 100000 in
set_option maxHeartbeats 8000000 in
open_top hd for PySem.Challenge.rw_ik0027_01
end Mine
end HdPart
section BasePart
open PySem PySem.W PySem.Spec PySem.Calls PyProof.Rows
namespace Mine

noncomputable abbrev PP : Program := PySem.Challenge.rw_ik0027_01.row.prog
noncomputable abbrev KK (w : World) : Frag := Mine.hd.heap_39 w.params

/-- a call's contract: from any frame, function f on vs gives back what Out says, with new objects nx laid on the ledger -/
def Ct (w : World) (f : Addr) (vs : List Value) (d u : Nat) (Pre : List (Addr × Obj) → Prop) (Out : Value → List (Addr × Obj) → Prop) : Prop :=
  ∀ (p : Program) (loose : List Str) (mean : ExcName → Option Value) (mg mb : Str → Option Value)
    (dp un : Nat) (gd : Option (List Code)) (cn : Str) (cs : Scope) (a : Addr) (ccd : Value) (cl : List (Str × Addr)) (outer : List Env) (A₀ : Around)
    (base h₀ : Heap) (L : Addr) (m : Str → Option Value) (news : List (Addr × Obj)) (s : Shared) (Q E : Value → Shared → Prop),
    Below A₀ base outer h₀ → Fr h₀ L s.heap m → (Mine.hd.heap_39 w.params).In h₀ → News h₀ L s.heap news → Top p loose mean mg mb h₀ → cs.kind = .function →
    dp + d < recursionLimit → un + u < cLine → Pre news →
    (∀ r nx h' tk', Fr h₀ L h' m → News h₀ L h' (nx ++ news) → (∀ q ∈ news, ∀ p ∈ nx, q.1 < p.1) → Out r nx → Q r { s with heap := h', toks := tk' }) →
    wpAny (model PySem.Challenge.rw_ik0027_01.row.prog w) (ktrTop dp un gd cn cs L a ccd cl outer) (call (.ref f) vs) Q E s

theorem Ct.use {w : World} {f : Addr} {vs : List Value} {d u : Nat} {Pre : List (Addr × Obj) → Prop} {Out : Value → List (Addr × Obj) → Prop} (c : Ct w f vs d u Pre Out)
    {p : Program} {loose : List Str} {mean : ExcName → Option Value} {mg mb : Str → Option Value}
    {dp un : Nat} {gd : Option (List Code)} {cn : Str} {cs : Scope} {a : Addr} {ccd : Value} {cl : List (Str × Addr)} {outer : List Env} {A₀ : Around}
    {base h₀ : Heap} {L : Addr} {m : Str → Option Value} {news : List (Addr × Obj)} {s : Shared} {Q E : Value → Shared → Prop}
    (B : Below A₀ base outer h₀) (F : Fr h₀ L s.heap m) (X : (Mine.hd.heap_39 w.params).In h₀) (N : News h₀ L s.heap news) (T : Top p loose mean mg mb h₀) (hk : cs.kind = .function)
    (hd : dp + d < recursionLimit) (hu : un + u < cLine) (hp : Pre news)
    (ret : ∀ r nx h' tk', Fr h₀ L h' m → News h₀ L h' (nx ++ news) → (∀ q ∈ news, ∀ p ∈ nx, q.1 < p.1) → Out r nx → Q r { s with heap := h', toks := tk' }) :
    wpAny (model PySem.Challenge.rw_ik0027_01.row.prog w) (ktrTop dp un gd cn cs L a ccd cl outer) (call (.ref f) vs) Q E s :=
  c p loose mean mg mb dp un gd cn cs a ccd cl outer A₀ base h₀ L m news s Q E B F X N T hk hd hu hp ret
end Mine
end BasePart
section TxtsPart
open PySem PySem.W PySem.Spec PySem.Calls PyProof.Rows
namespace Mine

/-- a text's signs; a text of signs -/
def tl (x : Str) : List Nat := x.cps.toList
def S (l : List Nat) : Str := ⟨l.toArray⟩
@[simp] theorem tl_S (l : List Nat) : tl (S l) = l := by simp [tl, S]
@[simp] theorem S_tl (x : Str) : S (tl x) = x := by cases x; simp [tl, S]
theorem S_inj {a b : List Nat} (h : S a = S b) : a = b := by have := congrArg tl h; simpa using this
@[simp] theorem S_eq (a b : List Nat) : (S a = S b) ↔ a = b := ⟨S_inj, fun e => e ▸ rfl⟩
theorem tl_inj {x y : Str} (h : tl x = tl y) : x = y := by have := congrArg S h; simpa using this
theorem eq_S {x : Str} {l : List Nat} : x = S l ↔ tl x = l := ⟨fun e => by rw [e]; simp, fun e => by rw [← e]; simp⟩
@[simp] theorem tl_append (x y : Str) : tl (x ++ y) = tl x ++ tl y := by simp [tl, Str.cps_append]
theorem S_append (a b : List Nat) : S a ++ S b = S (a ++ b) := by apply tl_inj; simp
theorem len_tl (x : Str) : x.length = (tl x).length := by simp [Str.length, tl]
@[simp] theorem len_S (l : List Nat) : (S l).length = l.length := by simp [len_tl]
theorem lit {s : String} {l : List Nat} (h : Str.ofString s = S l) : tl (Str.ofString s) = l := by rw [h]; simp

theorem clip_nat (a n : Nat) : max (0 : Int) (min (a : Int) (n : Int)) = ((min a n : Nat) : Int) := by omega
theorem idx_nat (a b n : Nat) : Builtin.Str.strSliceIndices (some (a : Int)) (some (b : Int)) 1 n = sliceRange ((min a n : Nat) : Int) ((min b n : Nat) : Int) 1 := by
  have h1 : ¬ ((a : Int) < 0) := Int.not_lt.mpr (Int.natCast_nonneg a)
  have h2 : ¬ ((b : Int) < 0) := Int.not_lt.mpr (Int.natCast_nonneg b)
  simp only [Builtin.Str.strSliceIndices, h1, h2, if_false, show ((1 : Int) > 0) = True from by simp, if_true]
  rw [clip_nat, clip_nat]
theorem range_max (A B : Nat) : sliceRange (A : Int) (B : Int) 1 = sliceRange (A : Int) ((max A B : Nat) : Int) 1 := by
  rcases Nat.le_total A B with h | h
  · rw [Nat.max_eq_right h]
  · rw [Nat.max_eq_left h]
    unfold sliceRange
    simp only [show ((1 : Int) > 0) = True from by simp, if_true]
    rw [if_neg (Int.not_lt.mpr (Int.ofNat_le.mpr h)), if_neg (Int.lt_irrefl _)]
theorem slice_ss (x : Str) (a b : Nat) : Txt.slice x (some (a : Int)) (some (b : Int)) = S (((tl x).drop a).take (b - a)) := by
  show StrLaws.sliceText x _ _ = _
  by_cases hx : a ≤ b ∧ b ≤ x.length
  · rw [StrLaws.sliceText_nat x hx.1 hx.2]; rfl
  · -- clip both ends
    have key : Builtin.Str.strSliceIndices (some (a : Int)) (some (b : Int)) 1 x.length = Builtin.Str.strSliceIndices (some ((min a x.length : Nat) : Int)) (some ((max (min a x.length) (min b x.length) : Nat) : Int)) 1 x.length := by
      rw [idx_nat, idx_nat, Nat.min_eq_left (Nat.min_le_right _ _), Nat.min_eq_left (Nat.max_le.mpr ⟨Nat.min_le_right _ _, Nat.min_le_right _ _⟩)]
      exact range_max _ _
    have e : StrLaws.sliceText x (some (a : Int)) (some (b : Int)) = StrLaws.sliceText x (some ((min a x.length : Nat) : Int)) (some ((max (min a x.length) (min b x.length) : Nat) : Int)) := by
      unfold StrLaws.sliceText; rw [key]
    rw [e, StrLaws.sliceText_nat x (by omega) (by omega)]
    show S _ = S _
    congr 1
    rw [len_tl]
    show ((tl x).drop _).take _ = _
    rcases Nat.lt_or_ge (tl x).length a with h | h
    · rw [show min a (tl x).length = (tl x).length by omega, List.drop_eq_nil_of_le (as := tl x) (i := a) (by omega)]
      simp
    · rw [show min a (tl x).length = a by omega]
      rw [len_tl] at hx
      by_cases hb : b ≤ (tl x).length
      · have : b < a := by omega
        rw [show b - a = 0 by omega, show max a (min b (tl x).length) - a = 0 by omega]
      · rw [List.take_of_length_le (by rw [List.length_drop]; omega), List.take_of_length_le (by rw [List.length_drop]; omega)]
theorem slice_ns (x : Str) (b : Nat) : Txt.slice x none (some (b : Int)) = S ((tl x).take b) := by
  have e : Txt.slice x none (some (b : Int)) = Txt.slice x (some ((0 : Nat) : Int)) (some (b : Int)) := by
    show StrLaws.sliceText x _ _ = StrLaws.sliceText x _ _
    unfold StrLaws.sliceText; rw [StrLaws.sliceIdx_none_lo]; rfl
  rw [e, slice_ss]; simp
theorem slice_sn (x : Str) (a : Nat) : Txt.slice x (some (a : Int)) none = S ((tl x).drop a) := by
  have e : Txt.slice x (some (a : Int)) none = Txt.slice x (some (a : Int)) (some (x.length : Int)) := by
    show StrLaws.sliceText x _ _ = StrLaws.sliceText x _ _
    unfold StrLaws.sliceText; rw [StrLaws.sliceIdx_none_hi]
  rw [e, slice_ss, len_tl, List.take_of_length_le (by rw [List.length_drop]; omega)]
theorem slice_butlast (x : Str) : Txt.slice x none (some (-1)) = S (tl x).dropLast := by
  have key : Builtin.Str.strSliceIndices none (some (-1 : Int)) 1 x.length = Builtin.Str.strSliceIndices none (some ((x.length - 1 : Nat) : Int)) 1 x.length := by
    have h4 : ¬ (((x.length - 1 : Nat) : Int) < 0) := by omega
    simp only [Builtin.Str.strSliceIndices, h4, if_false, show ((1 : Int) > 0) = True from by simp, if_true, show ((-1 : Int) < 0) = True from by simp]
    have e1 : max (0 : Int) (min (-1 + (x.length : Int)) (x.length : Int)) = max (0 : Int) (min ((x.length - 1 : Nat) : Int) (x.length : Int)) := by omega
    rw [e1]
  have e : Txt.slice x none (some (-1 : Int)) = Txt.slice x none (some ((x.length - 1 : Nat) : Int)) := by
    show StrLaws.sliceText x _ _ = StrLaws.sliceText x _ _
    unfold StrLaws.sliceText; rw [key]
  rw [e, slice_ns, len_tl, List.dropLast_eq_take]

theorem beq_S (x y : Str) : (x == y) = decide (tl x = tl y) := by
  rw [Bool.eq_iff_iff]; simp only [beq_iff_eq, decide_eq_true_eq]
  exact ⟨fun e => e ▸ rfl, tl_inj⟩
theorem bne_S (x y : Str) : (x != y) = decide (tl x ≠ tl y) := by
  show (!(x == y)) = _; rw [beq_S]; simp
theorem slice_n1 (x : Str) : Txt.slice x none (some 1) = S ((tl x).take 1) := slice_ns x 1
theorem slice_n2 (x : Str) : Txt.slice x none (some 2) = S ((tl x).take 2) := slice_ns x 2
theorem slice_1n (x : Str) : Txt.slice x (some 1) none = S ((tl x).drop 1) := slice_sn x 1
theorem slice_2n (x : Str) : Txt.slice x (some 2) none = S ((tl x).drop 2) := slice_sn x 2
theorem slice_12 (x : Str) : Txt.slice x (some 1) (some 2) = S (((tl x).drop 1).take 1) := slice_ss x 1 2
theorem slice_23 (x : Str) : Txt.slice x (some 2) (some 3) = S (((tl x).drop 2).take 1) := slice_ss x 2 3
theorem slash : Str.ofString "/" = S [47] := by decide +kernel
theorem emptyS : Str.ofString "" = S [] := by decide +kernel
theorem dotS : Str.ofString "." = S [46] := by decide +kernel
theorem dotdotS : Str.ofString ".." = S [46, 46] := by decide +kernel
theorem qmS : Str.ofString "?" = S [63] := by decide +kernel
theorem qmqmS : Str.ofString "??" = S [63, 63] := by decide +kernel

theorem lt1 {news : List (Addr × Obj)} {D : Addr} {o : Obj} (h : ∀ p ∈ news, p.1 < D) : ∀ q ∈ news, ∀ p ∈ [(D, o)], q.1 < p.1 :=
  fun q hq p hp => by rw [List.mem_singleton.mp hp]; exact h q hq
section
variable {h₀ : Heap} {L : Addr} {m : Str → Option Value} {news : List (Addr × Obj)} {s : Shared} {Q : Value → Shared → Prop} {Out : Value → List (Addr × Obj) → Prop}
  (hret : ∀ r nx h' tk', Fr h₀ L h' m → News h₀ L h' (nx ++ news) → (∀ q ∈ news, ∀ p ∈ nx, q.1 < p.1) → Out r nx → Q r { s with heap := h', toks := tk' })
include hret
theorem ret_none {r : Value} {h' : Heap} {tk' : Nat} (F : Fr h₀ L h' m) (N : News h₀ L h' news) (o : Out r []) : Q r { s with heap := h', toks := tk' } :=
  hret r [] h' tk' F N (fun _ _ _ h => nomatch h) o
theorem ret_drop {r : Value} {h' : Heap} {tk' : Nat} {big : List (Addr × Obj)} (F : Fr h₀ L h' m) (N : News h₀ L h' big) (hs : ∀ p ∈ news, p ∈ big) (o : Out r []) : Q r { s with heap := h', toks := tk' } :=
  hret r [] h' tk' F (fun p hp => N p (hs p hp)) (fun _ _ _ h => nomatch h) o
theorem ret_one {r : Value} {h' : Heap} {tk' : Nat} {D : Addr} {ob : Obj} (F : Fr h₀ L h' m) (N : News h₀ L h' ((D, ob) :: news)) (l : ∀ p ∈ news, p.1 < D) (o : Out r [(D, ob)]) : Q r { s with heap := h', toks := tk' } :=
  hret r [(D, ob)] h' tk' F N (lt1 l) o
end
theorem lt1' {news : List (Addr × Obj)} {D : Addr} {o : Obj} (h : ∀ q ∈ news, ∀ p ∈ [(D, o)], q.1 < p.1) : ∀ q ∈ news, q.1 < D := fun q hq => h q hq _ (List.mem_singleton.mpr rfl)
/-- a tuple, a list of values -/
abbrev tup (vs : List Value) : Obj := { cls := .type "tuple", data := .seq vs.toArray }

/-- os.path: the root and what stands behind it -/
def rootOf (l : List Nat) : List Nat :=
  if l.take 1 ≠ [47] then [] else if (l.drop 1).take 1 ≠ [47] ∨ (l.drop 2).take 1 = [47] then [47] else l.take 2
def restOf (l : List Nat) : List Nat :=
  if l.take 1 ≠ [47] then l else if (l.drop 1).take 1 ≠ [47] ∨ (l.drop 2).take 1 = [47] then l.drop 1 else l.drop 2
end Mine
end TxtsPart
section C1Part
open PySem PySem.W PySem.Spec PySem.Calls PyProof.Rows
namespace Mine
local macro_rules | `(tactic| walk_at "none such") => `(tactic| skip)
local macro_rules | `(tactic| k_room) => `(tactic| ktr_room)

set_option maxRecDepth 100000 in
set_option maxHeartbeats 4000000 in
theorem shelf_fresh (w : World) (x : Str) (t : Tok) (hx : x.length ≤ 1000) : Ct w 83 [.str x t] 1 20 (fun _ => True) (fun r nx => nx = [] ∧ ∃ t', r = .str x t') := by
  w_top off
  unfold Ct
  k_fill
  intro p loose mean mg mb dp un gd cn cs a ccd cl outer A₀ base h₀ L m news s Q E B F X N T hk hd hu hpre hret
  obtain ⟨knd, nms, ig, ic, mo⟩ := cs
  dsimp only at hk
  subst hk
  refine wpAny_call ?_
  k_dflt k_enter
  k_steps
  refine ret_none hret (by k_asm) (by k_asm) ?_
  refine ⟨rfl, _, congrArg (fun y => Value.str y _) ?_⟩
  rw [slice_butlast, tl_append, slash]
  simp
local macro_rules | `(tactic| walk_at "call ref") => `(tactic| (k_here; k_dflt (refine' Ct.use (shelf_fresh _ _ _ ?c0) ?k1 ?k2 ?k3 ?k4 ?k5 ?kK ?kd ?ku ?kp ?_; (case k1 => k_asm); (case k2 => k_asm); (case k3 => k_asm); (case k4 => k_asm); (case k5 => k_asm); (case kK => first | exact rfl | assumption); (case kd => ktr_room); (case ku => ktr_units); (case kp => exact trivial)); (case c0 => omega); intro r' x' h' tk' F' N' l' o'; obtain ⟨e1', t', e2'⟩ := o'; subst e1'; subst e2'; rw [List.nil_append] at N'; clear l'; (try dsimp only); (try k_fold)))

theorem tup3 {D : Addr} {a b c a' b' c' : Str} {T1 T2 T3 : Tok} {R : Prop} (hr : R) (h1 : a = a') (h2 : b = b') (h3 : c = c') :
    ∃ q t1 t2 t3, Value.ref D = .ref q ∧ [(D, tup [.str a T1, .str b T2, .str c T3])] = [(q, tup [.str a' t1, .str b' t2, .str c' t3])] ∧ R :=
  ⟨D, T1, T2, T3, rfl, by rw [h1, h2, h3], hr⟩
theorem root_len (l : List Nat) : (S (rootOf l)).length ≤ 2 := by
  rw [len_S]; unfold rootOf; split
  · simp
  · split
    · simp
    · rw [List.length_take]; omega
theorem rest_len (x : Str) : (S (restOf (tl x))).length ≤ x.length := by
  rw [len_S, len_tl]; unfold restOf; split
  · simp
  · split <;> rw [List.length_drop] <;> omega
set_option maxRecDepth 100000 in
set_option maxHeartbeats 4000000 in
theorem splitroot (w : World) (x : Str) (t : Tok) (hx : x.length ≤ 1000) : Ct w 90 [.str x t] 3 40 (fun _ => True) (fun r nx => ∃ q t1 t2 t3, r = .ref q ∧ nx = [(q, tup [.str (S []) t1, .str (S (rootOf (tl x))) t2, .str (S (restOf (tl x))) t3])] ∧ (S (rootOf (tl x))).length ≤ 2 ∧ (S (restOf (tl x))).length ≤ x.length) := by
  w_top off
  unfold Ct
  k_fill
  intro p loose mean mg mb dp un gd cn cs a ccd cl outer A₀ base h₀ L m news s Q E B F X N T hk hd hu hpre hret
  obtain ⟨knd, nms, ig, ic, mo⟩ := cs
  dsimp only at hk
  subst hk
  refine wpAny_call ?_
  k_dflt k_enter
  k_steps
  all_goals
    refine ret_one hret (by k_asm) (by k_asm) (by assumption) ?_
    simp only [slice_n1, slice_n2, slice_1n, slice_2n, slice_12, slice_23, slash, beq_S, bne_S, tl_S, decide_eq_true_eq, decide_eq_false_iff_not, ne_eq, Decidable.not_not] at *
    refine tup3 ⟨root_len _, rest_len _⟩ (by first | rfl | exact emptyS) ?_ ?_ <;> simp only [rootOf, restOf, ne_eq, *, not_true_eq_false, not_false_eq_true, if_true, if_false, or_false, or_true, true_or, false_or, S_tl, emptyS]
end Mine
end C1Part
section LoopPart
open PySem PySem.W PySem.Spec PySem.Calls PyProof.Rows
namespace Mine

/-- the end of a turn, as the walk leaves it: the ledger may have changed, what is the loop's own stands -/
def TEnd (h₀ : Heap) (L : Addr) (J : (Str → Option Value) → List (Addr × Obj) → Prop) (own : List (Addr × Obj)) (s₁ : Shared) (Q : Flow → Shared → Prop) (f : Flow) (s₂ : Shared) : Prop :=
  match f with
  | .ret v => Q (.ret v) s₂
  | .brk => Q .next s₂
  | _ => ∃ h' tk m' news' nx, s₂ = { s₁ with heap := h', toks := tk } ∧ Fr h₀ L h' m' ∧ News h₀ L h' news' ∧ (∀ p ∈ nx, p ∈ news') ∧ (∀ p ∈ own, p ∈ news') ∧ OwnOff own (nx.map (·.1)) ∧ J m' nx

theorem TEnd.go {h₀ : Heap} {L : Addr} {J : (Str → Option Value) → List (Addr × Obj) → Prop} {own : List (Addr × Obj)} {s₁ : Shared} {Q : Flow → Shared → Prop} {f : Flow} {m' : Str → Option Value} {news' nx : List (Addr × Obj)} {h' : Heap} {tk : Nat}
    (hf : f = .next ∨ f = .cont) (F : Fr h₀ L h' m') (N : News h₀ L h' news') (hj : J m' nx) (ha : OwnOff own (nx.map (·.1))) (hn : ∀ p ∈ nx, p ∈ news') (ho : ∀ p ∈ own, p ∈ news') :
    TEnd h₀ L J own s₁ Q f { s₁ with heap := h', toks := tk } := by
  rcases hf with rfl | rfl <;> exact ⟨h', tk, m', news', nx, rfl, F, N, hn, ho, ha, hj⟩
theorem TEnd.ret {h₀ : Heap} {L : Addr} {J : (Str → Option Value) → List (Addr × Obj) → Prop} {own : List (Addr × Obj)} {s₁ s₂ : Shared} {Q : Flow → Shared → Prop} {v : Value} (h : Q (.ret v) s₂) :
    TEnd h₀ L J own s₁ Q (.ret v) s₂ := h

abbrev lstN (its : Array Value) (nn : Nat) : Obj := { cls := .type "list", data := .seq its nn }

section
variable {prog : Program} {w : World} {A : Around} {E : Value → Shared → Prop} {s : Shared} {env : Env} {h₀ : Heap} {x : Str} {body : List Stmt} {Q : Flow → Shared → Prop}

/-- a for over any iterator, its own objects apart from the ledger -/
theorem iter_any {I : Addr} {fp : List Addr} {n : Nat} {P : Nat → Value → Prop} {St : Nat → Heap → Prop} {m₀ : Str → Option Value} {news : List (Addr × Obj)} (J : Nat → (Str → Option Value) → List (Addr × Obj) → Prop)
    (W : Walks prog w A I fp [I] n P St) (hL : env.locals ∉ fp) (hI₀ : h₀.get? I = none) (hIn : ∀ p ∈ news, p.1 ≠ I) (hst : St 0 s.heap) (hIo : ∀ i h, St i h → ∃ o, h.get? I = some o)
    (hfp : ∀ i m₁ nx, J i m₁ nx → ∀ b ∈ fp, b ≠ I → ∃ o, (b, o) ∈ nx)
    (F : Fr h₀ env.locals s.heap m₀) (N : News h₀ env.locals s.heap news) (hj : J 0 m₀ news)
    (turn : ∀ i v m₁ news₁ h tk own, P i v → i < n → (∃ o, (I, o) ∈ own) → OwnOff own (news₁.map (·.1)) → J i m₁ news₁ →
      Fr h₀ env.locals h (fun y => if y = x then some v else m₁ y) → News h₀ env.locals h (news₁ ++ own) →
      wpAny (model prog w) A (execs body env) (TEnd h₀ env.locals (fun m' nx => (∀ b o, (b, o) ∈ news₁ → b ∈ fp → (b, o) ∈ nx) ∧ J (i + 1) m' nx) own { s with heap := h, toks := tk } Q) E { s with heap := h, toks := tk })
    (done : ∀ m₁ news₁ h tk, J n m₁ news₁ → Fr h₀ env.locals h m₁ → News h₀ env.locals h news₁ → Q .next { s with heap := h, toks := tk }) :
    LoopAtV prog w A h₀ env x body Q E (.ref I) s := by
  refine ⟨I, fp, [I], n, P, St, m₀, news, J, rfl, W, hL, ?_, ?_, hst, F, N, hj, ?_, ?_⟩
  · intro b hb; rw [List.mem_singleton.mp hb]; exact hI₀
  · intro p hp hI; exact hIn p hp (List.mem_singleton.mp hI)
  · rintro i v m₁ news₁ s₁ own ⟨hh', tk', rfl⟩ hin hP hJ hoff hown hget hfpo hSt1 F₁ N₁
    have hsep : OwnOff (own.filter fun p => decide (p.1 = I)) (news₁.map (·.1)) := by
      intro p hp b hb e
      obtain ⟨q, hq, rfl⟩ := List.mem_map.mp hb
      have h1 : p.1 = I := by simpa using (List.mem_filter.mp hp).2
      exact hoff q hq (List.mem_singleton.mpr (by rw [← e, h1]))
    have N₂ : News h₀ env.locals hh' (news₁ ++ own.filter fun p => decide (p.1 = I)) := fun p hp => N₁ p ((List.mem_append.mp hp).elim (fun h => List.mem_append.mpr (.inr h)) fun h => List.mem_append.mpr (.inl ((List.mem_filter.mp h).1)))
    obtain ⟨oI, hoI⟩ := hIo _ _ hSt1
    have hIown : (I, oI) ∈ own.filter fun p => decide (p.1 = I) := List.mem_filter.mpr ⟨hfpo I (W.sub I (List.mem_singleton.mpr rfl)) hI₀ oI hoI, by simp⟩
    refine wpAny_mono (turn i v m₁ news₁ hh' tk' _ hP hin ⟨_, hIown⟩ hsep hJ F₁ N₂) (fun f s₂ p => ?_) fun _ _ e => e
    have fin : (∃ h' tk m' news' nx, s₂ = { s with heap := h', toks := tk } ∧ Fr h₀ env.locals h' m' ∧ News h₀ env.locals h' news' ∧ (∀ p ∈ nx, p ∈ news') ∧ (∀ p ∈ own.filter fun p => decide (p.1 = I), p ∈ news') ∧ OwnOff (own.filter fun p => decide (p.1 = I)) (nx.map (·.1)) ∧
          ((∀ b o, (b, o) ∈ news₁ → b ∈ fp → (b, o) ∈ nx) ∧ J (i + 1) m' nx)) →
        LoopStepU h₀ env.locals [I] own (J (i + 1)) { s with heap := hh', toks := tk' } .next s₂ := by
      rintro ⟨h', tk, m', news', nx, e, F', N', hn, ho, ha, hm, hJ'⟩
      refine ⟨rfl, h', tk, m', nx, e, F', fun p hp => ?_, fun p hp hI => ?_, hJ'⟩
      · rcases List.mem_append.mp hp with h | h
        · by_cases hI : p.1 = I
          · exact N' p (ho p (List.mem_filter.mpr ⟨h, by simpa using hI⟩))
          · obtain ⟨o, hbo⟩ := hfp i m₁ news₁ hJ p.1 (hown p h) hI
            have h2 := hget p h
            have h3 := (N₁ _ (List.mem_append.mpr (.inr hbo))).1
            have h4 : p = (p.1, o) := Prod.ext rfl (Option.some.inj (h2.symm.trans h3))
            rw [h4]
            exact N' _ (hn _ (hm _ _ hbo (hown p h)))
        · exact N' p (hn p h)
      · -- the iterator stands apart from the new ledger
        have hI' : p.1 = I := List.mem_singleton.mp hI
        have h1 : p.1 ∈ nx.map (·.1) := List.mem_map.mpr ⟨p, hp, rfl⟩
        exact ha (I, oI) hIown p.1 h1 hI'.symm
    cases f with
    | ret v => exact .ret p
    | brk => exact .brk p
    | next => exact .next (fin p)
    | cont => exact .cont (fin p)
  · rintro h' tk m' news' F' N' _ hJ
    exact done m' news' h' tk hJ F' N'

/-- a for over a list that stands on the ledger -/
theorem iter_list {l : Addr} {its : Array Value} {nn : Nat} {m₀ : Str → Option Value} {news : List (Addr × Obj)} (J : Nat → (Str → Option Value) → List (Addr × Obj) → Prop)
    (hh : A.handled = none) (hl : ∀ i m nx, J i m nx → (l, lstN its nn) ∈ nx) (F : Fr h₀ env.locals s.heap m₀) (N : News h₀ env.locals s.heap news) (hj : J 0 m₀ news)
    (turn : ∀ i v m₁ news₁ h tk own, its[i]? = some v → OwnOff own (news₁.map (·.1)) → J i m₁ news₁ →
      Fr h₀ env.locals h (fun y => if y = x then some v else m₁ y) → News h₀ env.locals h (news₁ ++ own) →
      wpAny (model prog w) A (execs body env) (TEnd h₀ env.locals (fun m' nx => J (i + 1) m' nx) own { s with heap := h, toks := tk } Q) E { s with heap := h, toks := tk })
    (done : ∀ m₁ news₁ h tk, J its.size m₁ news₁ → Fr h₀ env.locals h m₁ → News h₀ env.locals h news₁ → Q .next { s with heap := h, toks := tk }) :
    wpAny (model prog w) A (pyIter (.ref l)) (fun it s₂ => LoopAtV prog w A h₀ env x body Q E it s₂) E s := by
  have hl₀ := hl _ _ _ hj
  have hol := (N _ hl₀).1
  have hls : s.heap.IsList l its := ⟨_, hol, rfl, nn, rfl⟩
  have hne : l ≠ s.heap.objs.size := Nat.ne_of_lt (Heap.lt_size hol)
  refine wpAny_pyIter_list hls ?_
  refine iter_any (s := { s with heap := s.heap.push { cls := .type "list_iterator", data := .fields #[.ref l, .int 0 0] } }) J (Walks.list (prog := prog) (w := w) hh s.heap.objs.size l hne its) ?_ (next_is_new F) ?_
    ⟨⟨_, Heap.get?_push_size _ rfl, rfl, rfl⟩, hls.at fun o e => Heap.get?_push_of_some _ e⟩ (fun i h st => by obtain ⟨o, e, _⟩ := st.1; exact ⟨o, e⟩) ?_ (F.push _) (fun p hp => ⟨Heap.get?_push_of_some _ (N p hp).1, (N p hp).2⟩) hj ?_ ?_
  · intro hm
    rcases List.mem_cons.mp hm with e | hm
    · exact absurd F.ns.lt (e ▸ Nat.lt_irrefl _)
    · exact (N _ hl₀).2.1 ((List.mem_singleton.mp hm).symm)
  · intro p hp hI
    exact absurd (Heap.lt_size (N p hp).1) (hI ▸ Nat.lt_irrefl _)
  · intro i m₁ nx hJ b hb hbI
    rcases List.mem_cons.mp hb with rfl | hb
    · exact absurd rfl hbI
    · rw [List.mem_singleton.mp hb]; exact ⟨_, hl _ _ _ hJ⟩
  · intro i v m₁ news₁ h tk own hP hi hoI hoff hJ F₁ N₁
    refine wpAny_mono (turn i v m₁ news₁ h tk own hP hoff hJ F₁ N₁) (fun f s₂ p => ?_) fun _ _ e => e
    have up : (∃ h' tk' m' news' nx, s₂ = { s with heap := h', toks := tk' } ∧ Fr h₀ env.locals h' m' ∧ News h₀ env.locals h' news' ∧ (∀ p ∈ nx, p ∈ news') ∧ (∀ p ∈ own, p ∈ news') ∧ OwnOff own (nx.map (·.1)) ∧ J (i + 1) m' nx) →
        ∃ h' tk' m' news' nx, s₂ = { s with heap := h', toks := tk' } ∧ Fr h₀ env.locals h' m' ∧ News h₀ env.locals h' news' ∧ (∀ p ∈ nx, p ∈ news') ∧ (∀ p ∈ own, p ∈ news') ∧ OwnOff own (nx.map (·.1)) ∧
          ((∀ b o, (b, o) ∈ news₁ → b ∈ [s.heap.objs.size, l] → (b, o) ∈ nx) ∧ J (i + 1) m' nx) := by
      rintro ⟨h', tk', m', news', nx, e, F', N', hn, ho, ha, hJ'⟩
      refine ⟨h', tk', m', news', nx, e, F', N', hn, ho, ha, fun b o hbo hb => ?_, hJ'⟩
      rcases List.mem_cons.mp hb with rfl | hb
      · -- the iterator is not of the ledger
        obtain ⟨o', ho'⟩ := hoI
        exact absurd rfl (hoff _ ho' _ (List.mem_map.mpr ⟨_, hbo, rfl⟩))
      · have hb := List.mem_singleton.mp hb
        subst hb
        have h1 := (N₁ _ (List.mem_append.mpr (.inl hbo))).1
        have h2 := (N₁ _ (List.mem_append.mpr (.inl (hl _ _ _ hJ)))).1
        have h3 : o = lstN its nn := Option.some.inj (h1.symm.trans h2)
        rw [h3]; exact hl _ _ _ hJ'
    cases f with
    | ret v => exact p
    | brk => exact p
    | next => exact up p
    | cont => exact up p
  · exact done
end

/-- the state between two turns: the ledger and the named locals by a letter c; other stored names are forgotten -/
def TS {σ : Type} (Led : σ → List (Addr × Obj)) (ps : σ → List (Str × Value)) (x : Str) (stored : List Str) (m₀ : Str → Option Value) (P : σ → Prop) (m : Str → Option Value) (nx : List (Addr × Obj)) : Prop :=
  ∃ c : σ, nx = Led c ∧ (∀ p ∈ ps c, m p.1 = some p.2) ∧ (∀ z, z ≠ x → (∀ p ∈ ps c, z ≠ p.1) → stored.contains z = false → m z = m₀ z) ∧ P c

section
variable {prog : Program} {w : World} {A : Around} {E : Value → Shared → Prop} {s : Shared} {env : Env} {h₀ : Heap} {x : Str} {body : List Stmt} {Q : Flow → Shared → Prop}
theorem iter_listS {σ : Type} {l : Addr} {its : Array Value} {nn : Nat} {m₀ : Str → Option Value} (Led : σ → List (Addr × Obj)) (ps : σ → List (Str × Value)) (stored : List Str) (P : Nat → σ → Prop) (c₀ : σ)
    (hh : A.handled = none) (hl : ∀ c, (l, lstN its nn) ∈ Led c) (F : Fr h₀ env.locals s.heap m₀) (N : News h₀ env.locals s.heap (Led c₀)) (hk : ∀ p ∈ ps c₀, m₀ p.1 = some p.2) (hp : P 0 c₀)
    (turn : ∀ i v c (u : Str → Option Value) h tk own, its[i]? = some v → OwnOff own ((Led c).map (·.1)) → P i c →
      Fr h₀ env.locals h (fun y => if y = x then some v else kstB (fun z => if stored.contains z then u z else m₀ z) (ps c) y) → News h₀ env.locals h (Led c ++ own) →
      wpAny (model prog w) A (execs body env) (TEnd h₀ env.locals (TS Led ps x stored m₀ (P (i + 1))) own { s with heap := h, toks := tk } Q) E { s with heap := h, toks := tk })
    (done : ∀ c (u : Str → Option Value) h tk, P its.size c → Fr h₀ env.locals h (fun y => if y = x then u y else kstB (fun z => if stored.contains z then u z else m₀ z) (ps c) y) → News h₀ env.locals h (Led c) → Q .next { s with heap := h, toks := tk }) :
    wpAny (model prog w) A (pyIter (.ref l)) (fun it s₂ => LoopAtV prog w A h₀ env x body Q E it s₂) E s := by
  refine iter_list (fun i m nx => TS Led ps x stored m₀ (P i) m nx) hh (fun i m nx h => by obtain ⟨c, rfl, _⟩ := h; exact hl c) F N ⟨c₀, rfl, hk, fun _ _ _ _ => rfl, hp⟩ ?_ ?_
  · rintro i v m₁ news₁ h tk own hv hoff ⟨c, rfl, h1, h2, hp'⟩ F₁ N₁
    exact turn i v c m₁ h tk own hv hoff hp' (kst_fr h1 h2 F₁) N₁
  · rintro m₁ news₁ h tk ⟨c, rfl, h1, h2, hp'⟩ F₁ N₁
    exact done c m₁ h tk hp' (kst_frOut h1 h2 F₁) N₁

theorem TEnd.goS {σ : Type} {Led : σ → List (Addr × Obj)} {ps : σ → List (Str × Value)} {stored : List Str} {m₀ : Str → Option Value} {P : σ → Prop} (c : σ) {L : Addr} {own : List (Addr × Obj)} {s₁ : Shared} {f : Flow} {m' : Str → Option Value} {news' : List (Addr × Obj)} {h' : Heap} {tk : Nat}
    (hf : f = .next ∨ f = .cont) (F : Fr h₀ L h' m') (N : News h₀ L h' news') (hn : ∀ p ∈ Led c, p ∈ news') (ho : ∀ p ∈ own, p ∈ news') (ha : OwnOff own ((Led c).map (·.1)))
    (hk : ∀ p ∈ ps c, m' p.1 = some p.2) (hr : ∀ z, z ≠ x → (∀ p ∈ ps c, z ≠ p.1) → stored.contains z = false → m' z = m₀ z) (hp : P c) :
    TEnd h₀ L (TS Led ps x stored m₀ P) own s₁ Q f { s₁ with heap := h', toks := tk } :=
  TEnd.go hf F N ⟨c, rfl, hk, hr, hp⟩ ha hn ho
end

section
variable {prog : Program} {w : World} {A : Around} {E : Value → Shared → Prop} {s : Shared} {env : Env} {h₀ : Heap} {x : Str} {body : List Stmt} {Q : Flow → Shared → Prop}
/-- a for over a list of texts that turns one other list of texts -/
theorem for_texts {l ca : Addr} {rest : List (Addr × Obj)} {vs : List Value} {xs : List Str} {nn : Nat} {m₀ : Str → Option Value} (P : List Str → List Str → Prop) (ws₀ : List Value) (ys₀ : List Str) (n₀ : Nat)
    (hh : A.handled = none) (hs : StrsAre vs xs) (F : Fr h₀ env.locals s.heap m₀) (N : News h₀ env.locals s.heap ((l, lstN ws₀.toArray n₀) :: (ca, lstN vs.toArray nn) :: rest)) (hw : StrsAre ws₀ ys₀) (hp : P [] ys₀)
    (turn : ∀ pre y t post ws ys n h tk own, xs = pre ++ y :: post → StrsAre ws ys → OwnOff own (l :: ca :: rest.map (·.1)) → P pre ys →
      Fr h₀ env.locals h (fun z => if z = x then some (.str y t) else m₀ z) → News h₀ env.locals h ((l, lstN ws.toArray n) :: (ca, lstN vs.toArray nn) :: (rest ++ own)) →
      wpAny (model prog w) A (execs body env) (TEnd h₀ env.locals (TS (fun c : List Value × List Str × Nat => (l, lstN c.1.toArray c.2.2) :: (ca, lstN vs.toArray nn) :: rest) (fun _ => []) x [] m₀ (fun c => StrsAre c.1 c.2.1 ∧ P (pre ++ [y]) c.2.1)) own { s with heap := h, toks := tk } Q) E { s with heap := h, toks := tk })
    (done : ∀ ws ys n (u : Str → Option Value) h tk, StrsAre ws ys → P xs ys → Fr h₀ env.locals h (fun z => if z = x then u z else m₀ z) → News h₀ env.locals h ((l, lstN ws.toArray n) :: (ca, lstN vs.toArray nn) :: rest) → Q .next { s with heap := h, toks := tk }) :
    wpAny (model prog w) A (pyIter (.ref ca)) (fun it s₂ => LoopAtV prog w A h₀ env x body Q E it s₂) E s := by
  refine iter_listS (σ := List Value × List Str × Nat) (fun c => (l, lstN c.1.toArray c.2.2) :: (ca, lstN vs.toArray nn) :: rest) (fun _ => []) [] (fun i c => StrsAre c.1 c.2.1 ∧ P (xs.take i) c.2.1) (ws₀, ys₀, n₀) hh
    (fun c => List.mem_cons_of_mem _ List.mem_cons_self) F N (fun _ h => nomatch h) ⟨hw, by simpa using hp⟩ ?_ ?_
  · rintro i v ⟨ws, ys, n⟩ u h tk own hv hoff ⟨hw', hp'⟩ F₁ N₁
    have hv' : vs[i]? = some v := by simpa using hv
    obtain ⟨y, t, rfl, hy⟩ := hs.item i v hv'
    have hsp : xs = xs.take i ++ y :: xs.drop (i + 1) := by
      have hlt : i < xs.length := (List.getElem?_eq_some_iff.mp hy).1
      have he : xs[i] = y := (List.getElem?_eq_some_iff.mp hy).2
      have h5 := List.take_append_drop i xs
      rw [List.drop_eq_getElem_cons hlt, he] at h5
      exact h5.symm
    have ht : xs.take (i + 1) = xs.take i ++ [y] := by rw [List.take_add_one, hy]; rfl
    rw [ht]
    exact turn _ y t _ ws ys n h tk own hsp hw' hoff hp' F₁ N₁
  · rintro ⟨ws, ys, n⟩ u h tk ⟨hw', hp'⟩ F₁ N₁
    have hlen : vs.toArray.size = xs.length := by simp [hs.length]
    rw [hlen, List.take_length] at hp'
    exact done ws ys n u h tk hw' hp' F₁ N₁
end

theorem end_texts {h₀ : Heap} {x : Str} {Q : Flow → Shared → Prop} {l ca : Addr} {rest own : List (Addr × Obj)} {vs ws : List Value} {ys : List Str} {n nn : Nat} {m₀ m' : Str → Option Value} {P' : List Str → Prop} {L : Addr} {s₁ : Shared} {f : Flow} {h' : Heap} {tk : Nat}
    (hf : f = .next ∨ f = .cont) (F : Fr h₀ L h' m') (N : News h₀ L h' ((l, lstN ws.toArray n) :: (ca, lstN vs.toArray nn) :: (rest ++ own))) (hi : StrsAre ws ys) (ha : OwnOff own (l :: ca :: rest.map (·.1))) (hr : ∀ z, z ≠ x → m' z = m₀ z) (hp : P' ys) :
    TEnd h₀ L (TS (fun c : List Value × List Str × Nat => (l, lstN c.1.toArray c.2.2) :: (ca, lstN vs.toArray nn) :: rest) (fun _ => []) x [] m₀ (fun c => StrsAre c.1 c.2.1 ∧ P' c.2.1)) own s₁ Q f { s₁ with heap := h', toks := tk } :=
  TEnd.goS (ws, ys, n) hf F N (fun p hp => by
    rcases List.mem_cons.mp hp with rfl | hp
    · exact List.mem_cons_self
    · rcases List.mem_cons.mp hp with rfl | hp
      · exact List.mem_cons_of_mem _ List.mem_cons_self
      · exact List.mem_cons_of_mem _ (List.mem_cons_of_mem _ (List.mem_append_left _ hp))) (fun p hp => List.mem_cons_of_mem _ (List.mem_cons_of_mem _ (List.mem_append_right _ hp))) ha (fun _ h => nomatch h) (fun z hz _ _ => hr z hz) ⟨hi, hp⟩

/-- apartness over a ledger whose tail is not written -/
theorem all_app {P : Addr × Obj → Prop} {a b : List (Addr × Obj)} (h1 : ∀ p ∈ a, P p) (h2 : ∀ p ∈ b, P p) : ∀ p ∈ a ++ b, P p :=
  fun p hp => (List.mem_append.mp hp).elim (h1 p) (h2 p)
theorem ne_lt {d : Addr} {l : List (Addr × Obj)} (h : ∀ p ∈ l, p.1 < d) : ∀ p ∈ l, p.1 ≠ d := fun p hp => Nat.ne_of_lt (h p hp)
theorem ne_allLt {d : Addr} : ∀ {l : List (Addr × Obj)}, AllLt d l → ∀ p ∈ l, p.1 ≠ d
  | [], _, _, h => nomatch h
  | q :: r, h, p, hp => by
    rcases List.mem_cons.mp hp with rfl | hp
    · exact Nat.ne_of_lt h.1
    · exact ne_allLt h.2 p hp
theorem allLt_app {d : Addr} : ∀ {a b : List (Addr × Obj)}, AllLt d (a ++ b) ↔ AllLt d a ∧ AllLt d b
  | [], b => by simp [AllLt]
  | q :: r, b => by simp only [List.cons_append, AllLt, allLt_app (a := r)]; exact and_assoc.symm
theorem own_ne {own : List (Addr × Obj)} {adr : List Addr} {b : Addr} (h : OwnOff own adr) (hb : b ∈ adr) : ∀ p ∈ own, p.1 ≠ b := fun p hp => h p hp b hb
end Mine
end LoopPart
section ListsPart
open PySem PySem.W PySem.Spec PySem.Calls PyProof.Rows
namespace Mine

theorem strs_snoc {ws : List Value} {ys : List Str} (h : StrsAre ws ys) (y : Str) (t : Tok) : StrsAre (ws ++ [Value.str y t]) (ys ++ [y]) := h.append' (.cons y t .nil)
theorem strs_dropLast {ws : List Value} {ys : List Str} (h : StrsAre ws ys) : StrsAre ws.dropLast ys.dropLast := by
  rw [List.dropLast_eq_take, List.dropLast_eq_take, h.length]
  exact h.take' _
theorem strs_last {ws : List Value} {ys : List Str} (h : StrsAre ws ys) (hne : ws ≠ []) : ∃ t, ws[ws.length - 1]? = some (.str (ys.getLastD ⟨#[]⟩) t) := by
  have hl := h.length
  have hy : ys ≠ [] := by rintro rfl; exact hne (List.length_eq_zero_iff.mp (by simpa using hl))
  have e : ys[ys.length - 1]? = some (ys.getLastD ⟨#[]⟩) := by
    rw [List.getLastD_eq_getLast?, ← List.getLast?_eq_getElem?, List.getLast?_eq_some_getLast hy]; rfl
  obtain ⟨t, ht⟩ := h.get _ _ e
  exact ⟨t, by rw [hl]; exact ht⟩

section
variable {prog : Program} {w : World} {A : Around} {E : Value → Shared → Prop} {s : Shared} {h₀ h : Heap} {L D : Addr} {m : Str → Option Value} {news news' : List (Addr × Obj)} {ws : List Value} {ys : List Str} {n : Nat}

theorem isList_of {its : Array Value} (N : News h₀ L s.heap news) (hm : (D, lstN its n) ∈ news) : s.heap.IsList D its := ⟨_, (N _ hm).1, rfl, n, rfl⟩

theorem ls_append {y : Str} {t : Tok} {Q : Value → Shared → Prop} (F : Fr h₀ L s.heap m) (N : News h₀ L s.heap news) (U : Upd D (lstN ws.toArray n) (lstN (ws ++ [Value.str y t]).toArray (n + 1)) news news') (hi : StrsAre ws ys) (hz : ys.length ≤ 16000)
    (h : ∀ h', Fr h₀ L h' m → News h₀ L h' news' → StrsAre (ws ++ [Value.str y t]) (ys ++ [y]) → Q .none { s with heap := h' }) : wpAny (model prog w) A (call (.builtin "list.append") [.ref D, .str y t]) Q E s := by
  have e : ws.toArray.push (.str y t) = (ws ++ [Value.str y t]).toArray := by simp
  refine append_K F N (its := ws.toArray) (by rw [e]; exact U) (fun h' F' N' => h h' F' N' (strs_snoc hi y t)) ?_
  rw [List.size_toArray, hi.length, sizeLine_eq]; omega

theorem ls_truthy {Q : Bool → Shared → Prop} (N : News h₀ L s.heap news) (hm : (D, lstN ws.toArray n) ∈ news) (hi : StrsAre ws ys) (hz : ys.length ≤ 16000) (h : Q (decide (ys ≠ [])) { s with toks := s.toks + 1 + 1 }) :
    wpAny (model prog w) A (truthy (.ref D)) Q E s := by
  refine wpAny_truthy_list (isList_of N hm) ?_ ?_
  · rw [List.size_toArray, hi.length]; omega
  · have e : (!ws.toArray.isEmpty) = decide (ys ≠ []) := by cases hi <;> simp
    rw [e]; exact h

theorem ls_last {value slice : Expr} {u : Tok} {Q : Value → Shared → Prop} (N : News h₀ L s.heap news) (hm : (D, lstN ws.toArray n) ∈ news) (hi : StrsAre ws ys) (hne : ys ≠ [])
    (h : ∀ t, Q (.str (ys.getLastD ⟨#[]⟩) t) s)
    (hs : subscripted slice false (.ref D) (.int (-1) u) = operate [.ref D, .int (-1) u] (getItem (.ref D) (.int (-1) u)) := by with_unfolding_all rfl) (hg : ∀ r, letTemporaryGo value (.ref D) r = pure () := by intro _; with_unfolding_all rfl) :
    wpAny (model prog w) A (subscriptTail value slice (.ref D) (.int (-1) u)) Q E s := by
  have hw : ws ≠ [] := by rintro rfl; exact hne (by cases hi; rfl)
  obtain ⟨t, ht⟩ := strs_last hi hw
  have hpos := List.length_pos_iff.mpr hw
  refine kim_back N hm rfl rfl (by decide) (by omega) (by decide) (x := .str (ys.getLastD ⟨#[]⟩) t) ?_ (h t) hs hg
  rw [show ((-1 : Int) + (ws.length : Int)).toNat = ws.length - 1 by omega]
  exact ht

theorem ls_pop {Q : Value → Shared → Prop} (F : Fr h₀ L s.heap m) (N : News h₀ L s.heap news) (U : Upd D (lstN ws.toArray n) (lstN ws.dropLast.toArray (n + 1)) news news') (hi : StrsAre ws ys) (hne : ys ≠ []) (hz : ys.length ≤ 16000)
    (h : ∀ h' t, Fr h₀ L h' m → News h₀ L h' news' → StrsAre ws.dropLast ys.dropLast → Q (.str (ys.getLastD ⟨#[]⟩) t) { s with heap := h' }) : wpAny (model prog w) A (call (.builtin "list.pop") [.ref D]) Q E s := by
  have hw : ws ≠ [] := by rintro rfl; exact hne (by cases hi; rfl)
  obtain ⟨t, ht⟩ := strs_last hi hw
  have e : ws.dropLast ++ [Value.str (ys.getLastD ⟨#[]⟩) t] = ws := by
    have h1 := List.dropLast_concat_getLast hw
    have h2 : ws.getLast hw = .str (ys.getLastD ⟨#[]⟩) t := by
      have := List.getLast?_eq_some_getLast hw
      rw [List.getLast?_eq_getElem?, ht] at this
      exact (Option.some.inj this).symm
    rw [← h2]; exact h1
  refine kl_pop F N (p := ws.dropLast) (y := .str (ys.getLastD ⟨#[]⟩) t) ?_ U ?_ fun h' F' N' => h h' t F' N' (strs_dropLast hi)
  · show kl_last ws.toArray.toList = _
    have k := kpa_last (.str (ys.getLastD ⟨#[]⟩) t) ws.dropLast
    rw [e] at k; exact k
  · rw [show ws.toArray.toList = ws from rfl, hi.length, sizeLine_eq]; omega

theorem ls_in {k : Str} {t : Tok} {Q : Value → Shared → Prop} (N : News h₀ L s.heap news) (hm : (D, lstN ws.toArray n) ∈ news) (hi : StrsAre ws ys)
    (h : Q (.bool (decide (k ∈ ys))) s) : wpAny (model prog w) A (compareOp .In (.str k t) (.ref D)) Q E s := by
  refine in_list_strs (isList_of N hm) hi ?_
  have e : ys.any (· == k) = decide (k ∈ ys) := by rw [Bool.eq_iff_iff]; simp
  rw [e]; exact h

theorem ls_join {x : Str} {t : Tok} {Q : Value → Shared → Prop} (N : News h₀ L s.heap news) (hm : (D, lstN ws.toArray n) ∈ news) (hi : StrsAre ws ys) (hx : x.length ≤ 1) (hok : (ys.map (·.length)).sum + ys.length ≤ 1000000)
    (h : ∀ t' k, Q (.str (Txt.join x ys) t') { s with toks := k }) : wpAny (model prog w) A (call (.builtin "str.join") [.str x t, .ref D]) Q E s := by
  refine join_list (isList_of N hm) (by simpa using hi) ?_ h
  have : ys.length * x.length ≤ ys.length * 1 := Nat.mul_le_mul_left _ hx
  omega
end

/-- joining -/
def joinT (sep : List Nat) : List (List Nat) → List Nat
  | [] => []
  | [x] => x
  | x :: y :: r => x ++ sep ++ joinT sep (y :: r)
theorem tl_join (sep : Str) : ∀ ys : List Str, tl (Str.join sep ys) = joinT (tl sep) (ys.map tl)
  | [] => rfl
  | [x] => rfl
  | x :: y :: r => by
    show tl (x ++ sep ++ Str.join sep (y :: r)) = _
    simp only [tl_append, tl_join sep (y :: r), List.map_cons, joinT]
theorem txt_join (sep : Str) (ys : List Str) : Txt.join sep ys = S (joinT (tl sep) (ys.map tl)) := by
  rw [eq_S, ← tl_join]
  congr 1
  exact StrLaws.glued_eq_join sep ys
end Mine
end ListsPart
section SpecPart
open PySem PySem.W PySem.Spec PySem.Calls PyProof.Rows
namespace Mine

/-- a text cut at a sign -/
def cut (c : Nat) : List Nat → List (List Nat)
  | [] => [[]]
  | x :: r => if x = c then [] :: cut c r else match cut c r with
    | [] => [[x]]
    | p :: ps => (x :: p) :: ps
theorem cut_ne (c : Nat) : ∀ l, cut c l ≠ []
  | [] => by simp [cut]
  | x :: r => by unfold cut; split; · simp
                 · split <;> simp
theorem cut_free (c : Nat) : ∀ l, ∀ p ∈ cut c l, c ∉ p
  | [], p, h => by simp [cut] at h; simp [h]
  | x :: r, p, h => by
    unfold cut at h
    split at h
    · rcases List.mem_cons.mp h with rfl | h
      · simp
      · exact cut_free c r p h
    · rename_i hx
      split at h
      · rename_i e; exact absurd e (cut_ne c r)
      · rename_i q qs e
        rcases List.mem_cons.mp h with rfl | h
        · have := cut_free c r q (by rw [e]; exact List.mem_cons_self)
          simp only [List.mem_cons, not_or]
          exact ⟨fun e => hx e.symm, this⟩
        · exact cut_free c r p (by rw [e]; exact List.mem_cons_of_mem _ h)
theorem joinT_cons (sep x : List Nat) {ps : List (List Nat)} (h : ps ≠ []) : joinT sep (x :: ps) = x ++ sep ++ joinT sep ps := by
  cases ps with
  | nil => exact absurd rfl h
  | cons y r => rfl
theorem joinT_head (sep : List Nat) (x : Nat) (p : List Nat) (ps : List (List Nat)) : joinT sep ((x :: p) :: ps) = x :: joinT sep (p :: ps) := by
  cases ps <;> rfl
theorem join_cut (c : Nat) : ∀ l, joinT [c] (cut c l) = l
  | [] => rfl
  | x :: r => by
    unfold cut
    split
    · rename_i h; rw [joinT_cons _ _ (cut_ne c r), join_cut c r, h]; rfl
    · split
      · rename_i e; exact absurd e (cut_ne c r)
      · rename_i q qs e; rw [joinT_head, ← e, join_cut c r]
theorem sep_inj (c : Nat) : ∀ (p q a b : List Nat), p ++ c :: a = q ++ c :: b → c ∉ p → c ∉ q → p = q ∧ a = b
  | [], [], a, b, e, _, _ => ⟨rfl, by simpa using e⟩
  | [], y :: q, a, b, e, _, h => by
    simp only [List.nil_append, List.cons_append, List.cons.injEq] at e
    exact absurd (by rw [e.1]; exact List.mem_cons_self) h
  | x :: p, [], a, b, e, h, _ => by
    simp only [List.nil_append, List.cons_append, List.cons.injEq] at e
    exact absurd (by rw [e.1]; exact List.mem_cons_self) h
  | x :: p, y :: q, a, b, e, h1, h2 => by
    simp only [List.cons_append, List.cons.injEq] at e
    have := sep_inj c p q a b e.2 (fun h => h1 (List.mem_cons_of_mem _ h)) (fun h => h2 (List.mem_cons_of_mem _ h))
    exact ⟨by rw [e.1, this.1], this.2⟩
theorem join_inj (c : Nat) : ∀ (ps qs : List (List Nat)), ps ≠ [] → qs ≠ [] → (∀ p ∈ ps, c ∉ p) → (∀ q ∈ qs, c ∉ q) → joinT [c] ps = joinT [c] qs → ps = qs
  | [], _, h, _, _, _, _ => absurd rfl h
  | _, [], _, h, _, _, _ => absurd rfl h
  | [p], [q], _, _, _, _, e => by simpa [joinT] using e
  | [p], q :: q' :: qs, _, _, hp, _, e => by
    exfalso
    have h1 : c ∈ joinT [c] (q :: q' :: qs) := by simp [joinT]
    rw [← e] at h1
    exact hp p List.mem_cons_self h1
  | p :: p' :: ps, [q], _, _, _, hq, e => by
    exfalso
    have h1 : c ∈ joinT [c] (p :: p' :: ps) := by simp [joinT]
    rw [e] at h1
    exact hq q List.mem_cons_self h1
  | p :: p' :: ps, q :: q' :: qs, _, _, hp, hq, e => by
    have e' : p ++ c :: joinT [c] (p' :: ps) = q ++ c :: joinT [c] (q' :: qs) := by simpa [joinT] using e
    have h1 := sep_inj c p q _ _ e' (hp p List.mem_cons_self) (hq q List.mem_cons_self)
    rw [h1.1, join_inj c (p' :: ps) (q' :: qs) (by simp) (by simp) (fun r hr => hp r (List.mem_cons_of_mem _ hr)) (fun r hr => hq r (List.mem_cons_of_mem _ hr)) h1.2]
theorem split_cut (x : Str) (c : Nat) (hne : Txt.split x (S [c]) ≠ []) : (Txt.split x (S [c])).map tl = cut c (tl x) := by
  refine join_inj c _ _ (by simpa using hne) (cut_ne _ _) (fun p hp => ?_) (cut_free c _) ?_
  · obtain ⟨q, hq, rfl⟩ := List.mem_map.mp hp
    exact StrLaws.split_free x c q hq
  · rw [join_cut, ← StrLaws.join_split x (S [c]), tl_join, tl_S, StrLaws.join_split]

/-- one part of os.path's normal form -/
def nstep (rooted : Bool) (st : List (List Nat)) (c : List Nat) : List (List Nat) :=
  if c = [] ∨ c = [46] then st
  else if c ≠ [46, 46] ∨ (rooted = false ∧ st = []) ∨ (st ≠ [] ∧ st.getLastD [] = [46, 46]) then st ++ [c]
  else st.dropLast
def npath (l : List Nat) : List Nat :=
  if l = [] then [46] else
    let p := rootOf l ++ joinT [47] ((cut 47 (restOf l)).foldl (nstep (rootOf l != [])) [])
    if p = [] then [46] else p
theorem int_len (l : List Nat) : ((l.length : Int) = 0) ↔ l = [] := by
  rw [show ((l.length : Int) = 0) ↔ l.length = 0 by omega, List.length_eq_zero_iff]
theorem getLastD_tl (ys : List Str) : (ys.map tl).getLastD [] = tl (ys.getLastD ⟨#[]⟩) := by
  rw [List.getLastD_eq_getLast?, List.getLastD_eq_getLast?, List.getLast?_map]
  cases ys.getLast? <;> rfl
theorem map_dropLast_tl (ys : List Str) : ys.dropLast.map tl = (ys.map tl).dropLast := by
  rw [List.map_dropLast]
def weight (ys : List Str) : Nat := (ys.map (·.length)).sum + ys.length
theorem weight_snoc (ys : List Str) (y : Str) : weight (ys ++ [y]) = weight ys + y.length + 1 := by simp [weight]; omega
theorem weight_dropLast : ∀ ys : List Str, weight ys.dropLast ≤ weight ys
  | [] => Nat.le_refl _
  | [y] => by simp [weight]
  | y :: z :: r => by
    have h := weight_dropLast (z :: r)
    simp only [weight, List.dropLast_cons_of_ne_nil (List.cons_ne_nil z r), List.map_cons, List.sum_cons, List.length_cons] at h ⊢
    omega
theorem weight_len (ys : List Str) : ys.length ≤ weight ys := by unfold weight; omega
theorem weight_mem {ys : List Str} {y : Str} (h : y ∈ ys) : y.length ≤ weight ys := by
  induction ys with
  | nil => cases h
  | cons z r ih =>
    simp only [weight, List.map_cons, List.sum_cons, List.length_cons] at ih ⊢
    rcases List.mem_cons.mp h with rfl | h
    · omega
    · have := ih h; omega
theorem joinT_len (c : Nat) : ∀ ps : List (List Nat), (joinT [c] ps).length + 1 ≤ (ps.map (·.length)).sum + ps.length + 1 ∧ (ps ≠ [] → (joinT [c] ps).length + 1 = (ps.map (·.length)).sum + ps.length)
  | [] => by simp [joinT]
  | [p] => by simp [joinT]
  | p :: q :: r => by
    have h := (joinT_len c (q :: r)).2 (by simp)
    simp only [joinT, List.length_append, List.map_cons, List.sum_cons, List.length_cons, List.length_nil] at h ⊢
    exact ⟨by omega, fun _ => by omega⟩
theorem weight_tl (ys : List Str) : weight ys = ((ys.map tl).map (·.length)).sum + (ys.map tl).length := by
  simp only [weight, List.map_map, List.length_map]; congr 2
theorem join_le_weight (c : Nat) (ys : List Str) : (joinT [c] (ys.map tl)).length ≤ weight ys := by
  have h := (joinT_len c (ys.map tl)).1; rw [weight_tl]; omega
theorem weight_split {ys : List Str} {x : List Nat} {c : Nat} (h : ys.map tl = cut c x) : weight ys = x.length + 1 := by
  have h1 := (joinT_len c (cut c x)).2 (cut_ne c x)
  rw [join_cut] at h1
  rw [weight_tl, h]; omega
/-- what the normal form's loop holds behind the parts pre -/
def NormP (rd : Bool) (pre ys : List Str) : Prop := ys.map tl = (pre.map tl).foldl (nstep rd) [] ∧ weight ys ≤ weight pre
theorem NormP.step {rd : Bool} {pre ys new : List Str} {y : Str} (h : NormP rd pre ys) (h1 : new.map tl = nstep rd (ys.map tl) (tl y)) (h2 : weight new ≤ weight ys + y.length + 1) : NormP rd (pre ++ [y]) new := by
  refine ⟨?_, ?_⟩
  · rw [List.map_append, List.foldl_append, ← h.1]; exact h1
  · have := h.2; rw [weight_snoc]; omega
theorem weight_pre {pre post : List Str} {y : Str} : weight pre + y.length + 1 ≤ weight (pre ++ y :: post) := by
  simp only [weight, List.map_append, List.sum_append, List.map_cons, List.sum_cons, List.length_append, List.length_cons]; omega
theorem list_of_map_nil {ys : List Str} : ys.map tl = [] ↔ ys = [] := by simp
section
variable {r : List Nat} {ys : List Str} {y : Str}
theorem ns_skip0 (h : tl y = []) : ys.map tl = nstep (r != []) (ys.map tl) (tl y) := by simp [nstep, h]
theorem ns_skip1 (h : tl y = [46]) : ys.map tl = nstep (r != []) (ys.map tl) (tl y) := by simp [nstep, h]
theorem ns_add (h1 : ¬ tl y = []) (h2 : ¬ tl y = [46]) (h3 : ¬ tl y = [46, 46]) : (ys ++ [y]).map tl = nstep (r != []) (ys.map tl) (tl y) := by simp [nstep, h1, h2, h3]
theorem ns_up0 (h1 : tl y = [46, 46]) (h2 : r = []) (h3 : ys = []) : (ys ++ [y]).map tl = nstep (r != []) (ys.map tl) (tl y) := by simp [nstep, h1, h2, h3]
theorem ns_up (h1 : tl y = [46, 46]) (h2 : ¬ ys = []) (h3 : tl (ys.getLastD ⟨#[]⟩) = [46, 46]) : (ys ++ [y]).map tl = nstep (r != []) (ys.map tl) (tl y) := by
  unfold nstep; rw [getLastD_tl]; simp [h1, h2]; intro h; rw [List.getLastD_eq_getLast?] at h3; exact absurd h3 h
theorem ns_pop (h1 : tl y = [46, 46]) (h2 : ¬ ys = []) (h3 : ¬ tl (ys.getLastD ⟨#[]⟩) = [46, 46]) : ys.dropLast.map tl = nstep (r != []) (ys.map tl) (tl y) := by
  unfold nstep; rw [getLastD_tl, map_dropLast_tl]; simp [h1, h2]; intro h; rw [List.getLastD_eq_getLast?] at h3; exact absurd h h3
theorem ns_none (h1 : tl y = [46, 46]) (h2 : ¬ r = []) (h3 : ys = []) : ys.map tl = nstep (r != []) (ys.map tl) (tl y) := by simp [nstep, h1, h2, h3]
end
theorem norm_cut {xs : List Str} {l : List Nat} (h : xs = Txt.split (S l) (Str.ofString "/")) : xs.map tl = cut 47 l := by
  rw [h, slash, split_cut _ _ (List.length_pos_iff.mp (split_pos _ _)), tl_S]
theorem npath_of {x : Str} {xs ys : List Str} (h : NormP (rootOf (tl x) != []) xs ys) (hs : xs.map tl = cut 47 (restOf (tl x))) (hx : ¬ tl x = []) :
    npath (tl x) = if rootOf (tl x) ++ joinT [47] (ys.map tl) = [] then [46] else rootOf (tl x) ++ joinT [47] (ys.map tl) := by
  unfold npath; rw [if_neg hx, h.1, hs]
theorem npath_nil {l : List Nat} (h : l = []) : npath l = [46] := by rw [h]; rfl
end Mine
end SpecPart
section C3Part
open PySem PySem.W PySem.Spec PySem.Calls PyProof.Rows
namespace Mine
local macro_rules | `(tactic| k_room) => `(tactic| ktr_room)
local macro_rules | `(tactic| walk_at "call ref") => `(tactic| (k_here; k_dflt (refine' Ct.use (shelf_fresh _ _ _ ?c0) ?k1 ?k2 ?k3 ?k4 ?k5 ?kK ?kd ?ku ?kp ?_; (case k1 => k_asm); (case k2 => k_asm); (case k3 => k_asm); (case k4 => k_asm); (case k5 => k_asm); (case kK => first | exact rfl | assumption); (case kd => ktr_room); (case ku => ktr_units); (case kp => exact trivial)); (case c0 => omega); intro r' x' h' tk' F' N' l' o'; obtain ⟨e1', t', e2'⟩ := o'; subst e1'; subst e2'; rw [List.nil_append] at N'; clear l'; (try dsimp only); (try k_fold)))
local macro_rules | `(tactic| walk_at "call ref") => `(tactic| (k_here; k_dflt (refine' Ct.use (splitroot _ _ _ ?c0) ?k1 ?k2 ?k3 ?k4 ?k5 ?kK ?kd ?ku ?kp ?_; (case k1 => k_asm); (case k2 => k_asm); (case k3 => k_asm); (case k4 => k_asm); (case k5 => k_asm); (case kK => first | exact rfl | assumption); (case kd => ktr_room); (case ku => ktr_units); (case kp => exact trivial)); (case c0 => omega); intro r' x' h' tk' F' N' l' o'; obtain ⟨q', t1', t2', t3', e1', e2', z1', z2'⟩ := o'; subst e1'; subst e2'; rw [List.cons_append, List.nil_append] at N'; replace l' := lt1' l'; (try k_lt l'); (try dsimp only); (try k_fold)))
local macro_rules | `(tactic| k_all) => `(tactic| (refine' all_app ?a ?b; (case a => k_all); (case b => k_all)))
local macro_rules | `(tactic| k_all) => `(tactic| first | exact ne_lt (by assumption) | exact ne_allLt (by assumption) | exact ne_allLt (And.right (by assumption)) | exact ne_allLt (And.right (And.right (by assumption))) | exact ne_allLt (And.right (And.right (And.right (by assumption)))) | exact ne_allLt (And.right (And.right (And.right (And.right (by assumption))))))
local macro_rules | `(tactic| k_all) => `(tactic| exact own_ne (by assumption) (by k_memK))
local macro_rules | `(tactic| walk_at "call builtin:str.join") => `(tactic| (k_here; (with_reducible show wpAny _ _ (call (Value.builtin _) [Value.str _ _, Value.ref _]) _ _ _); k_dflt (refine' ls_join ?k1 ?k2 ?k3 ?k4 ?k5 ?_; (case k1 => k_asm); (case k2 => k_mem); (case k3 => assumption); (case k4 => exact Nat.le_of_ble_eq_true rfl); (case k5 => assumption); k_whole); intro t' k'; (try simp only [txt_join, slash, emptyS, tl_S])))
local macro_rules | `(tactic| walk_at "call builtin:list.append") => `(tactic| (k_here; (with_reducible show wpAny _ _ (call (Value.builtin _) [Value.ref _, Value.str _ _]) _ _ _); k_dflt (refine' ls_append ?k1 ?k2 ?k3 ?k4 ?z ?_; (case k1 => k_asm); (case k2 => k_asm); (case k3 => k_upd); (case k4 => assumption); (case z => omega); k_whole); intro h' F' N' S'; (try k_sweep)))
local macro_rules | `(tactic| walk_at "call builtin:list.pop") => `(tactic| (k_here; (with_reducible show wpAny _ _ (call (Value.builtin _) [Value.ref _]) _ _ _); k_dflt (refine' ls_pop ?k1 ?k2 ?k3 ?k4 ?k5 ?z ?_; (case k1 => k_asm); (case k2 => k_asm); (case k3 => k_upd); (case k4 => assumption); (case k5 => walk_at "ls_ne"); (case z => omega); k_whole); intro h' t' F' N' S'; (try k_sweep)))
local macro_rules | `(tactic| walk_at "ls_ne") => `(tactic| first | assumption | exact of_decide_eq_true (by assumption))
local macro_rules | `(tactic| walk_at "truthy ref") => `(tactic| (k_here; (with_reducible show wpAny _ _ (truthy (Value.ref _)) _ _ _); k_dflt (refine' ls_truthy ?k1 ?k2 ?k3 ?z ?_; (case k1 => k_asm); (case k2 => k_mem); (case k3 => assumption); (case z => omega); k_whole)))
local macro_rules | `(tactic| walk_at "subscriptTail Name UnaryOp ref int") => `(tactic| (k_here; k_dflt (refine' ls_last ?k1 ?k2 ?k3 ?k4 ?_ ?s ?g; (case k1 => k_asm); (case k2 => k_mem); (case k3 => assumption); (case k4 => walk_at "ls_ne"); (case s => with_unfolding_all rfl); (case g => intro _; with_unfolding_all rfl); k_whole); intro t'))

set_option maxRecDepth 100000 in
set_option maxHeartbeats 4000000 in
theorem norm_ct (w : World) (x : Str) (t : Tok) (hx : x.length ≤ 900) : Ct w 97 [.str x t] 6 100 (fun _ => True) (fun r nx => nx = [] ∧ ∃ t', r = .str (S (npath (tl x))) t') := by
  w_top off
  unfold Ct
  k_fill
  intro p loose mean mg mb dp un gd cn cs a ccd cl outer A₀ base h₀ L m news s Q E B F X N T hk hd hu hpre hret
  obtain ⟨knd, nms, ig, ic, mo⟩ := cs
  dsimp only at hk
  subst hk
  refine wpAny_call ?_
  k_dflt k_enter
  k_steps
  · (rename Fr _ _ _ _ => F1)
    (rename News _ _ _ _ => N1)
    with_unfolding_all refine' For_invVF F1 ?k1 ?k2 ?_ ?k3
    case k1 => exact rfl
    case k2 => exact rfl
    case k3 => intro _; rfl
    refine ld F1 (by rfl) ?_
    have hsp := norm_cut (by assumption)
    have z2 := rest_len x
    have hwt := weight_split hsp
    refine for_texts (NormP (rootOf (tl x) != [])) [] [] 0 rfl (by assumption) F1 N1 .nil ⟨rfl, Nat.le_refl _⟩ ?_ ?_
    · intro pre y ty post ws ys n h tk own hxs hws hoff hP F2 N2
      clear F1 N1
      have hpre' := weight_pre (pre := pre) (post := post) (y := y)
      rw [← hxs] at hpre'
      have hy : y.length ≤ 900 := by have := hP.2; rw [len_S] at z2; omega
      have hz : ys.length ≤ 1000 := by have := hP.2; have := weight_len ys; rw [len_S] at z2; omega
      k_steps
      all_goals (try dsimp only)
      all_goals
        refine end_texts (by first | exact .inl rfl | exact .inr rfl) (by k_asm) (by k_asm) (by assumption) (by assumption) (fun z hz => if_neg hz) (hP.step ?_ ?_)
      all_goals (try simp only [len_tl, tl_S, beq_S, bne_S, dotS, dotdotS, slash, decide_eq_true_eq, decide_eq_false_iff_not, ne_eq, Decidable.not_not, int_len] at *)
      all_goals first | exact Nat.le_trans (Nat.le_add_right _ _) (Nat.le_succ _) | exact Nat.le_of_eq (weight_snoc _ _) | exact Nat.le_trans (weight_dropLast _) (Nat.le_trans (Nat.le_add_right _ _) (Nat.le_succ _)) | exact ns_skip0 (by assumption) | exact ns_skip1 (by assumption) | exact ns_add (by assumption) (by assumption) (by assumption) | exact ns_up0 (by assumption) (by assumption) (by assumption) | exact ns_up (by assumption) (by assumption) (by assumption) | exact ns_pop (by assumption) (by assumption) (by assumption) | exact ns_none (by assumption) (by assumption) (by assumption)
    · intro ws ys n u h tk hws hP F2 N2
      clear F1 N1
      dsimp only
      have hw9 : weight ys ≤ 901 := by have := hP.2; rw [len_S] at z2; rw [len_tl] at hx z2; omega
      have hok : (ys.map (·.length)).sum + ys.length ≤ 1000000 := by unfold weight at hw9; omega
      have hj : (S (joinT [47] (ys.map tl))).length ≤ 901 := by rw [len_S]; exact Nat.le_trans (join_le_weight _ _) hw9
      k_steps
      all_goals
        refine ret_drop hret (by k_asm) (by assumption) (by (intro p hp; (repeat (first | exact hp | refine List.mem_cons_of_mem _ ?_)))) ?_
        refine ⟨rfl, _, congrArg (fun y => Value.str y _) ?_⟩
      all_goals (try simp only [len_tl, tl_S, tl_append, int_len, ne_eq] at *)
      all_goals rw [npath_of hP hsp (by assumption)]
      · rw [if_neg (by assumption), S_append]
      · rw [if_pos (by assumption), dotS]
  · refine ret_none hret (by k_asm) (by k_asm) ?_
    refine ⟨rfl, _, congrArg (fun y => Value.str y _) ?_⟩
    simp only [len_tl, int_len, ne_eq] at *
    rw [npath_nil (by assumption), dotS]
end Mine
end C3Part
section C2Part
open PySem PySem.W PySem.Spec PySem.Calls PyProof.Rows
namespace Mine
local macro_rules | `(tactic| k_room) => `(tactic| ktr_room)
local macro_rules | `(tactic| walk_at "call ref") => `(tactic| (k_here; k_dflt (refine' Ct.use (norm_ct _ _ _ ?c0) ?k1 ?k2 ?k3 ?k4 ?k5 ?kK ?kd ?ku ?kp ?_; (case k1 => k_asm); (case k2 => k_asm); (case k3 => k_asm); (case k4 => k_asm); (case k5 => k_asm); (case kK => first | exact rfl | assumption); (case kd => ktr_room); (case ku => ktr_units); (case kp => exact trivial)); (case c0 => omega); intro r' x' h' tk' F' N' l' o'; obtain ⟨e1', t', e2'⟩ := o'; subst e1'; subst e2'; rw [List.nil_append] at N'; clear l'; (try dsimp only); (try k_fold)))

set_option maxRecDepth 100000 in
set_option maxHeartbeats 4000000 in
theorem kind_ct (w : World) (x y : Str) (t t' : Tok) (hx : x.length ≤ 1000) : Ct w 69 [.str y t', .str x t] 2 30 (fun _ => True) (fun r nx => nx = [] ∧ ∃ t', r = .str (S []) t') := by
  w_top off
  unfold Ct
  k_fill
  intro p loose mean mg mb dp un gd cn cs a ccd cl outer A₀ base h₀ L m news s Q E B F X N T hk hd hu hpre hret
  obtain ⟨knd, nms, ig, ic, mo⟩ := cs
  dsimp only at hk
  subst hk
  refine wpAny_call ?_
  k_dflt k_enter
  k_steps
  refine ret_none hret (by k_asm) (by k_asm) ?_
  exact ⟨rfl, _, congrArg (fun y => Value.str y _) emptyS⟩
local macro_rules | `(tactic| walk_at "call ref") => `(tactic| (k_here; k_dflt (refine' Ct.use (kind_ct _ _ _ _ _ ?c0) ?k1 ?k2 ?k3 ?k4 ?k5 ?kK ?kd ?ku ?kp ?_; (case k1 => k_asm); (case k2 => k_asm); (case k3 => k_asm); (case k4 => k_asm); (case k5 => k_asm); (case kK => first | exact rfl | assumption); (case kd => ktr_room); (case ku => ktr_units); (case kp => exact trivial)); (case c0 => omega); intro r' x' h' tk' F' N' l' o'; obtain ⟨e1', t', e2'⟩ := o'; subst e1'; subst e2'; rw [List.nil_append] at N'; clear l'; (try dsimp only); (try k_fold)))

set_option maxRecDepth 100000 in
set_option maxHeartbeats 4000000 in
theorem normpath_ct (w : World) (x : Str) (t : Tok) (hx : x.length ≤ 900) : Ct w 104 [.str x t] 8 200 (fun _ => True) (fun r nx => nx = [] ∧ ∃ t', r = .str (S (npath (tl x))) t') := by
  w_top off
  unfold Ct
  k_fill
  intro p loose mean mg mb dp un gd cn cs a ccd cl outer A₀ base h₀ L m news s Q E B F X N T hk hd hu hpre hret
  obtain ⟨knd, nms, ig, ic, mo⟩ := cs
  dsimp only at hk
  subst hk
  refine wpAny_call ?_
  k_dflt k_enter
  k_steps
  all_goals
    refine ret_drop hret (by k_asm) (by assumption) (by (intro p hp; (repeat (first | exact hp | refine List.mem_cons_of_mem _ ?_)))) ?_
    exact ⟨rfl, _, rfl⟩
end Mine
end C2Part
section TranslPart
open PySem PySem.W PySem.Spec PySem.Calls PyProof.Rows
namespace Mine
open Builtin Builtin.Str

theorem sub_KeyError_LookupError : isSubtype (.type "KeyError") (.type "LookupError") = pure true := by rw [isSubtype_type]; kernel_rfl

section
variable {prog : Program} {w : World} {A : Around} {E : Value → Shared → Prop} {s : Shared} {d : Addr} {f : Int → Option Value}

/-- one look into the table -/
theorem look_keep {c : Nat} {Q : Mapped → Shared → Prop} (hd : (d == sysModules) = false) (hh : A.handled = none) (hm : s.heap.MapOf (intKind prog w) d f) (hf : f c = none)
    (h : ∀ h' tk, (∀ b o, s.heap.get? b = some o → h'.get? b = some o) → Q .keep { s with heap := h', toks := tk }) :
    wpAny (model prog w) A (tableLookup (.ref d) c) Q E s := by
  unfold tableLookup
  refine wpAny_bind (wpAny_attempt (wpAny_bind (wpAny_mkInt ?_)))
  refine wpAny_getItem_missing_of (knd := intKind prog w) (k := (c : Int)) (s := { s with toks := s.toks + 1 }) (by simp [intKind, Value.isInt]) hd hh hm hf fun h' e ne => ?_
  obtain ⟨ob, t, ho, hc, _⟩ := ne.there
  show wpAny _ _ (isInstance (.ref e) (.type "LookupError") >>= _) _ _ _
  refine wpAny_bind (wpAny_isInstance (T := "KeyError") ⟨ob, ho, hc⟩ sub_KeyError_LookupError ?_)
  show wpAny _ _ (rule _ >>= fun _ => pure Mapped.keep) _ _ _
  exact wpAny_bind (wpAny_rule (wpAny_pure (h _ _ ne.keeps)))

theorem look_text {c : Nat} {y : Str} {u : Tok} {Q : Mapped → Shared → Prop} (hm : s.heap.MapOf (intKind prog w) d f) (hf : f c = some (.str y u))
    (h : ∀ tk, Q (.text y) { s with toks := tk }) :
    wpAny (model prog w) A (tableLookup (.ref d) c) Q E s := by
  unfold tableLookup
  refine wpAny_bind (wpAny_attempt (wpAny_bind (wpAny_mkInt ?_)))
  refine wpAny_getItem_of (knd := intKind prog w) (k := (c : Int)) (s := { s with toks := s.toks + 1 }) (by simp [intKind, Value.isInt]) hm hf ?_
  show wpAny _ _ (asInt? (.str y u) >>= _) _ _ _
  refine wpAny_bind (wpAny_of_eq (a := none) rfl ?_)
  show wpAny _ _ (asStr? (.str y u) >>= _) _ _ _
  refine wpAny_bind (wpAny_of_eq (a := some y) rfl ?_)
  exact wpAny_pure (h _)

theorem translate_one {c : Nat} {t : Tok} {Q : Value → Shared → Prop} (r : Str) (hd : (d == sysModules) = false) (hh : A.handled = none) (hm : s.heap.MapOf (intKind prog w) d f)
    (hr : (f c = none ∧ r = ⟨#[c]⟩) ∨ ∃ y u, f c = some (.str y u) ∧ y.length = 2 ∧ r = y)
    (h : ∀ h' t' tk, (∀ b o, s.heap.get? b = some o → h'.get? b = some o) → Q (.str r t') { s with heap := h', toks := tk }) :
    wpAny (model prog w) A (call (.builtin "str.translate") [.str ⟨#[c]⟩ t, .ref d]) Q E s := by
  refine wpAny_call_entry F.slot_str_translate (typeIs_str _ _ _) F.entry_str_translate ?_ (F.args_str_translate_2 _ _)
  unfold Builtin.«str.translate»
  refine wpAny_bind (m := strOneArg "translate" _) (wpAny_of_eq (a := (.str ⟨#[c]⟩ t, ⟨#[c]⟩, .ref d)) rfl ?_)
  dsimp only
  rw [← Array.forIn_toList, List.forIn_cons]
  rw [if_neg (by simp [Str.length])]
  simp only [List.forIn_nil]
  generalize (#[c].all fun x => decide (x < 128)) = b
  simp only [show tooLong 0 = false from by decide, if_false, Bool.false_eq_true, List.lookup_nil]
  have two : ∀ y : Str, y.length = 2 → ((y.length == 1 && y.cps.all fun x => decide (x < 128)) = false) := fun y hy => by rw [hy]; rfl
  rcases hr with ⟨hf, rfl⟩ | ⟨y, u, hf, hy, rfl⟩
  · have e : (⟨List.foldl (fun (acc : Array Nat) (p : Str) => acc ++ p.cps) #[] [({ cps := #[c] } : Str)].reverse⟩ : Str) = ⟨#[c]⟩ := by simp
    cases b
    · simp only [if_false, Bool.false_eq_true]
      refine wpAny_bind (wpAny_bind (wpAny_bind (look_keep hd hh hm hf fun h' tk hk => ?_)))
      refine wpAny_pure (wpAny_pure ?_)
      dsimp only
      rw [if_neg (by decide), e]
      exact wpAny_bind (wpAny_mkStr (wpAny_pure ⟨_, rfl, h _ _ _ hk⟩))
    · simp only [if_true]
      refine wpAny_bind (wpAny_bind (wpAny_bind (look_keep hd hh hm hf fun h' tk hk => ?_)))
      dsimp only
      refine wpAny_bind (wpAny_pure ?_)
      dsimp only
      refine wpAny_pure (wpAny_pure ?_)
      dsimp only
      rw [if_neg (by decide), e]
      exact wpAny_bind (wpAny_mkStr (wpAny_pure ⟨_, rfl, h _ _ _ hk⟩))
  · have e : (⟨List.foldl (fun (acc : Array Nat) (p : Str) => acc ++ p.cps) #[] [r].reverse⟩ : Str) = r := by cases r; simp
    have e2 : ¬ (tooLong (0 + r.length) = true) := by rw [hy]; decide
    cases b
    · simp only [if_false, Bool.false_eq_true]
      refine wpAny_bind (wpAny_bind (wpAny_bind (look_text hm hf fun tk => ?_)))
      refine wpAny_pure (wpAny_pure ?_)
      dsimp only
      rw [if_neg e2, e]
      exact wpAny_bind (wpAny_mkStr (wpAny_pure ⟨_, rfl, h _ _ _ fun _ _ h => h⟩))
    · simp only [if_true]
      refine wpAny_bind (wpAny_bind (wpAny_bind (look_text hm hf fun tk => ?_)))
      dsimp only
      rw [two r hy]
      simp only [Bool.false_eq_true, if_false]
      refine wpAny_bind (wpAny_pure ?_)
      dsimp only
      refine wpAny_bind (wpAny_rule ?_)
      refine wpAny_bind (look_text (s := { s with toks := tk }) hm hf fun tk => ?_)
      refine wpAny_pure (wpAny_pure ?_)
      dsimp only
      rw [if_neg e2, e]
      exact wpAny_bind (wpAny_mkStr (wpAny_pure ⟨_, rfl, h _ _ _ fun _ _ h => h⟩))
end
end Mine
end TranslPart
section DictPart
open PySem PySem.W PySem.Spec PySem.Calls PyProof.Rows
namespace Mine
/-- the signs that escape writes with a bar, of those above the star -/
def spec (c : Nat) : Bool := [43, 45, 46, 92, 93, 94, 123, 124, 125, 126].contains c
/-- a sign's code -/
def code1 (c : Nat) : List Nat := if c = 63 then [46] else if spec c then [92, c] else [c]
def wr (l : List Nat) : List Nat := l.flatMap code1
/-- the signs that a row may hold -/
def Free (c : Nat) : Prop := 42 < c ∧ c < 55296 ∧ c ≠ 91
def AllFree (l : List Nat) : Prop := ∀ c ∈ l, Free c

theorem kh {w : World} {k hs : Int} {t : Tok} (h : hs = hashInt k) : ∃ k', (intKind PP w).is k' (Value.int k t) = true ∧ hs = (intKind PP w).hash k' :=
  ⟨k, by simp [intKind, Value.isInt], h⟩
set_option maxRecDepth 100000 in
theorem d45 (w : World) : ∃ (o : Obj) (f : Int → Option Value), (KK w).lookup 45 = some o ∧ (∀ h : Heap, h.get? 45 = some o → h.MapOf (intKind PP w) 45 f) ∧
    (∀ c : Nat, spec c = true → ∃ u, f c = some (.str (S [92, c]) u)) ∧ (∀ c : Nat, 42 < c → c ≠ 91 → c ≠ 63 → spec c = false → f c = none) := by
  refine ⟨_, _, rfl, fun h e => ⟨_, _, _, e, ⟨rfl, rfl, rfl⟩, rfl, ?_, fun _ => rfl⟩, ?_, ?_⟩
  · intro e he
    replace he := List.mem_toArray.mp he
    revert he
    revert e
    repeat' (first | exact List.forall_mem_nil _ | refine List.forall_mem_cons.mpr ⟨kh (by decide +kernel), ?_⟩)
  · intro c hc
    simp only [spec, List.contains_eq_mem, List.mem_cons, List.not_mem_nil, or_false, decide_eq_true_eq] at hc
    rcases hc with rfl | rfl | rfl | rfl | rfl | rfl | rfl | rfl | rfl | rfl
    all_goals exact ⟨_, rfl⟩
  · intro c h1 h2 h3 h4
    simp only [spec, List.contains_eq_mem, List.mem_cons, List.not_mem_nil, or_false, decide_eq_false_iff_not, not_or] at h4
    unfold findBy
    rw [Option.map_eq_none_iff, List.find?_toArray, List.find?_eq_none]
    repeat' (first | exact List.forall_mem_nil _ | refine List.forall_mem_cons.mpr ⟨?_, ?_⟩)
    all_goals (simp only [intKind, Value.isInt, beq_iff_eq]; omega)

theorem trans_call {w : World} {A : Around} {E : Value → Shared → Prop} {s : Shared} {h₀ : Heap} {L : Addr} {m : Str → Option Value} {news : List (Addr × Obj)} {c : Nat} {t : Tok} {Q : Value → Shared → Prop}
    (F : Fr h₀ L s.heap m) (N : News h₀ L s.heap news) (X : (KK w).In h₀) (hh : A.handled = none) (hc : Free c) (h63 : c ≠ 63)
    (h : ∀ h' t' tk, Fr h₀ L h' m → News h₀ L h' news → Q (.str (S (code1 c)) t') { s with heap := h', toks := tk }) :
    wpAny (model PP w) A (call (.builtin "str.translate") [.str (S [c]) t, .ref 45]) Q E s := by
  obtain ⟨o, f, ho, hm, h1, h2⟩ := d45 w
  refine translate_one (t := t) (f := f) (S (code1 c)) (by decide) hh (hm _ (F.keep _ _ (X _ _ ho))) ?_ fun h' t' tk hk => h h' t' tk (F.kept hk) (N.keepsAll hk)
  unfold code1
  rw [if_neg h63]
  cases e : spec c with
  | false => exact .inl ⟨h2 c hc.1 hc.2.2 h63 e, rfl⟩
  | true =>
    obtain ⟨u, hu⟩ := h1 c e
    exact .inr ⟨_, u, hu, rfl, rfl⟩
end Mine
end DictPart
section C4Part
open PySem PySem.W PySem.Spec PySem.Calls PyProof.Rows
namespace Mine
local macro_rules | `(tactic| walk_at "none such") => `(tactic| skip)
local macro_rules | `(tactic| k_room) => `(tactic| ktr_room)

local macro_rules | `(tactic| walk_at "getMethod str") => `(tactic| (k_here; (with_reducible show wpAny _ _ (getMethod (Value.str _ _) (Str.ofString "translate") _) _ _ _); k_dflt (refine' getMethod_builtin (typeIs_str _ _ _) _root_.PySem.F.plainAttrs_str _root_.PySem.F.slot_str_translate _root_.PySem.F.type_str_translate (fun _ e => nomatch e) ?_)))
local macro_rules | `(tactic| walk_at "call builtin:str.translate") => `(tactic| (k_here; k_dflt (refine' trans_call ?k1 ?k2 ?k3 rfl ?k4 ?k5 ?_; (case k1 => k_asm); (case k2 => k_asm); (case k3 => k_asm); (case k4 => assumption); (case k5 => assumption); k_whole); intro h' t' k' F' N'))
set_option maxRecDepth 100000 in
set_option maxHeartbeats 4000000 in
theorem escape_ct (w : World) (c : Nat) (t : Tok) (hc : Free c) (h63 : c ≠ 63) : Ct w 55 [.str (S [c]) t] 6 100 (fun _ => True) (fun r nx => nx = [] ∧ ∃ t', r = .str (S (code1 c)) t') := by
  w_top off
  unfold Ct
  k_fill
  intro p loose mean mg mb dp un gd cn cs a ccd cl outer A₀ base h₀ L m news s Q E B F X N T hk hd hu hpre hret
  obtain ⟨knd, nms, ig, ic, mo⟩ := cs
  dsimp only at hk
  subst hk
  refine wpAny_call ?_
  k_dflt k_enter
  k_steps
  refine ret_none hret (by k_asm) (by k_asm) ?_
  exact ⟨rfl, _, rfl⟩
end Mine
end C4Part
section BoundPart
open PySem PySem.W PySem.Spec PySem.Calls PyProof.Rows
namespace Mine
open PySem Sem

/-- the walk stops here -/
def Halt (P : Prop) : Prop := P
theorem halt {P : Prop} (h : Halt P) : P := h

def bnd (l : Addr) : Obj := { cls := .type "builtin_function_or_method", data := .fields #[.builtin "list.append", .ref l] }
theorem md_slot_get : Slot "method_descriptor" "__get__" "method_descriptor.__get__" :=
  .of (owner := "method_descriptor") (n := "__get__") (by rw [typeLookup_type, builtinLookup_eq_fast]; kernel_rfl) (by decide +kernel) (by decide +kernel) (by decide +kernel)
    (by first | exact .inl (by decide +kernel) | exact .inr (by decide +kernel)) (by rw [isSubtype_type]; kernel_rfl)
theorem md_entry_get : entryFor table "method_descriptor.__get__" = some Builtin.«method_descriptor.__get__» := entryFor_of_tree (by kernel_rfl)
theorem md_args_get (a b c : Value) : argsOk "method_descriptor.__get__" ⟨[a, b, c], []⟩ := by unfold argsOk; kernel_rfl
section
variable {prog : Program} {w : World} {M : Model} {A : Around} {E : Value → Shared → Prop} {s : Shared}

theorem md_run {l : Addr} {o : Obj} {P : Fin → Shared → Prop} (ho : s.heap.get? l = some o) (hc : o.cls = .type "list") (h : P (.done (.ret (.ref s.heap.objs.size))) { s with heap := s.heap.push (bnd l) }) :
    wpAny M A (Builtin.«method_descriptor.__get__» ⟨[.builtin "list.append", .ref l, .type "list"], []⟩) P E s := by
  unfold Builtin.«method_descriptor.__get__»
  refine wpAny_bind (wpAny_of_eq (a := (.builtin "list.append", some (.ref l), some (.type "list"))) (by first | rfl | kernel_rfl) ?_)
  dsimp only
  refine KFB.if_not (by decide +kernel) ?_
  refine wpAny_bind (wpAny_bind (wpAny_of_eq (a := (PySem.Str.ofString "append", .type "list")) (by kernel_rfl) ?_))
  dsimp only
  refine wpAny_bind (wpAny_isInstance (T := "list") (b := true) ⟨o, ho, hc⟩ (by rw [isSubtype_type]; kernel_rfl) ?_)
  refine KFB.if_not rfl ?_
  refine wpAny_pure ?_
  exact wpAny_bind (wpAny_newObj_type (wpAny_pure h))

theorem append_slot_look : typeLookup (.type "list") "append" = (Pure.pure (some (Value.builtin "list.append")) : Sem (Option Value)) := by rw [typeLookup_type, builtinLookup_eq_fast]; kernel_rfl

theorem md_no_set : typeLookup (.type "method_descriptor") "__set__" = (Pure.pure none : Sem (Option Value)) := by rw [typeLookup_type, builtinLookup_eq_fast]; kernel_rfl
theorem md_no_delete : typeLookup (.type "method_descriptor") "__delete__" = (Pure.pure none : Sem (Option Value)) := by rw [typeLookup_type, builtinLookup_eq_fast]; kernel_rfl
open Builtin Builtin.ObjectAttr in
theorem run_getattribute {l : Addr} {its : Array Value} {n : Nat} {u : Tok} {P : Fin → Shared → Prop} (hx : s.heap.get? l = some (lstN its n))
    (h : P (.done (.ret (.ref s.heap.objs.size))) { s with heap := s.heap.push (bnd l) }) :
    wpAny (model prog w) A (Builtin.«object.__getattribute__» ⟨[.ref l, .str (PySem.Str.ofString "append") u], []⟩) P E s := by
  have hT : s.TypeIs (.ref l) "list" := ⟨_, hx, rfl⟩
  unfold Builtin.«object.__getattribute__»
  refine wpAny_bind (wpAny_of_eq (a := (.ref l, [.str (PySem.Str.ofString "append") u])) (by first | rfl | kernel_rfl) ?_)
  dsimp only
  refine wpAny_bind (wpAny_of_eq (a := PySem.Str.ofString "append") rfl ?_)
  refine wpAny_bind (wpAny_typeOf hT ?_)
  refine wpAny_bind ?_
  unfold Builtin.ObjectAttr.find
  refine wpAny_bind (wpAny_of_eq append_slot_look ?_)
  refine wpAny_bind (wpAny_of_eq (a := some (.builtin "method_descriptor.__get__")) ?_ ?_)
  · unfold getOf specialOf
    dsimp only
    rw [F.type_list_append]
    exact md_slot_get.lookup
  refine wpAny_bind (wpAny_of_eq (a := none) ?_ ?_)
  · unfold dataDescriptor? takesStores specialOf
    dsimp only
    simp only [F.type_list_append, pure_bind, md_no_set, md_no_delete]
    rfl
  dsimp only
  unfold ownThenClass
  refine wpAny_bind (m := inOwnDict _ _) ?_
  unfold inOwnDict Builtin.ObjectAttr.ownDict
  repeat (any_goals (first | assumption | ((with_reducible show wpAny _ _ (call (Value.builtin "method_descriptor.__get__") _ _) _ _ _); refine wpAny_call_entry md_slot_get F.type_list_append md_entry_get (md_run hx rfl ?_) (md_args_get _ _ _)) | wp_step))
  exact ⟨_, rfl, wpAny_pure h⟩

set_option maxHeartbeats 4000000 in
theorem bound_of {l : Addr} {its : Array Value} {n : Nat} {Q : Value → Shared → Prop} (hx : s.heap.get? l = some (lstN its n)) 
    (h : Q (.ref s.heap.objs.size) { s with heap := s.heap.push (bnd l), toks := s.toks + 1 }) :
    wpAny (model prog w) A (getAttr (.ref l) "append" true) Q E s := by
  obtain ⟨hp, g, d, tk, os⟩ := s
  have hT : ∀ tk', (⟨hp, g, d, tk', os⟩ : Shared).TypeIs (.ref l) "list" := fun _ => ⟨_, hx, rfl⟩
  have f3 := F.slot_list_getattribute.lookup
  have f4 := F.slot_list_getattribute.bind (.ref l)
  have f5 := am_list_getattr_none
  have f6 := append_slot_look
  unfold getAttr getAttrBy
  repeat (any_goals (first | assumption | exact hT _ | ((with_reducible show wpAny _ _ (call (Value.builtin "list.__getattribute__") _ _) _ _ _); refine wpAny_call_entry F.slot_list_getattribute (hT _) am_entry_list_getattribute (run_getattribute hx ?_) (F.args_list_getattribute_2 _ _)) | wp_step))
  exact ⟨_, rfl, wpAny_pure h⟩

def BndAt (b l : Addr) (h : Heap) : Prop := h.get? b = some (bnd l)
theorem callWith_fieldsB {pos : Pos} {u l : Addr} {first : List Value} {args : List (Bool × Sem Value)} {Q : Value → Shared → Prop} (hplain : args.any (·.1) = false)
    (h : wpAny M A (evalArgs (.ref u) true args []) (fun x s₁ => BndAt u l s₁.heap ∧ wpAny M A (call (.ref u) (first ++ x.pos) x.kw) Q E s₁) E s) : wpAny M A (callWith pos (.ref u) first args []) Q E s := by
  unfold callWith
  refine wpAny_bind (wpAny_holding (wpAny_mono h (fun x s₁ h₁ => wpAny_bind (wpAny_standAt ?_)) fun _ _ x => x))
  obtain ⟨ho, hcall⟩ := h₁
  simp only [hplain, List.any_nil, Bool.or_false]
  refine wpAny_bind (m := keeperOf (.ref u)) ?_
  unfold keeperOf
  refine wpAny_bind (wpAny_load ho ?_)
  simp only [bnd, show (Value.type "builtin_function_or_method" != Value.type "method") = true by decide, show (Value.type "builtin_function_or_method" == Value.type "builtin_function_or_method" || Value.type "builtin_function_or_method" == Value.type "method-wrapper") = true by decide, if_true]
  refine wpAny_pure ?_
  exact wpAny_bind (wpAny_mono hcall (fun r s₂ hr => wpAny_bind (wpAny_holding (wpAny_point (wpAny_pure hr)))) fun _ _ x => x)
theorem callWith_bnd {pos : Pos} {u l : Addr} {first : List Value} {env : Env} {e : Expr} {rest : List Expr} {Q : Value → Shared → Prop} {h₀ : Heap} {L : Addr} {news : List (Addr × Obj)} (_N : News h₀ L s.heap news) (_hm : (u, bnd l) ∈ news)
    (h : wpAny M A (spliced (backTo pos (starEach (e :: rest) env))) (fun vs s₁ => BndAt u l s₁.heap ∧ wpAny M A (call (.ref u) (first ++ vs)) Q E s₁) E s)
    (he : starEach (e :: rest) env = (false, eval e env) :: starEach rest env := by rfl) (hplain : (backTo pos (starEach rest env)).any (·.1) = false := by rfl) :
    wpAny M A (callWith pos (.ref u) first (backTo pos (starEach (e :: rest) env)) []) Q E s := by
  rw [he] at h ⊢
  refine callWith_fieldsB (l := l) (by show (false || (backTo pos (starEach rest env)).any (·.1)) = false; rw [hplain]; rfl) ?_
  exact evalArgs_plain h

theorem check_append {l : Addr} {its : Array Value} {n : Nat} {v : Value} {Q : Unit → Shared → Prop} (hx : s.heap.get? l = some (lstN its n)) (h : Q () s) :
    wpAny M A (checkBoundCall "list.append" ⟨[.ref l, v], []⟩) Q E s := by
  have hT : s.TypeIs (.ref l) "list" := ⟨_, hx, rfl⟩
  have hs : Manifest.signature? "list.append" = some ⟨.oneArg, "list.append", "append", .self, [⟨"object", .posOnly, true⟩]⟩ := by
    rw [signature?_of (id := "list.append") (n := ['d', 'n', 'e', 'p', 'p', 'a']) (o := ['t', 's', 'i', 'l']) (by kernel_rfl) F.owner_list]; kernel_rfl
  have hc : ∀ v, Bind.checkArgs "list.append" ⟨.oneArg, "list.append", "append", .self, [⟨"object", .posOnly, true⟩]⟩ ⟨[.ref l, v], []⟩ = (Pure.pure () : Sem Unit) := by
    intro v; kernel_rfl
  unfold checkBoundCall
  rw [hs, show builtinKind "list.append" = some .method by kernel_rfl]
  dsimp only
  refine KFB.if_not (by decide +kernel) ?_
  refine wpAny_bind (wpAny_isInstance (T := "list") (b := false) hT (by rw [isSubtype_type]; kernel_rfl) ?_)
  refine KFB.if_not (by decide +kernel) ?_
  refine wpAny_bind ?_
  unfold isType
  refine wpAny_bind (m := loadHead l) (wpAny_loadPart hx ?_)
  refine wpAny_pure ?_
  refine KFB.if_not rfl ?_
  refine wpAny_bind (wpAny_typeOf hT ?_)
  dsimp only
  refine wpAny_of_eq (a := ()) ?_ h
  exact hc v
theorem quiet_append {as : Args} : (Code.builtin "list.append" as).quiet = true := Code.quiet_builtin _ (by decide +kernel)
theorem append_bnd {b D : Addr} {its : Array Value} {n : Nat} {x : Value} {Q : Value → Shared → Prop} (hb : BndAt b D s.heap) (ho : s.heap.get? D = some (lstN its n))
    (h : ∀ h', Heap.SameBut D s.heap h' → h'.get? D = some (lstN (its.push x) (n + 1)) → Q .none { s with heap := h' })
    (hsz : its.size ≤ sizeLine := by size_fits) :
    wpAny (model prog w) A (call (.ref b) [x]) Q E s := by
  refine wpAny_call (codeAny_of_tree ?_)
  show wpAny _ A.in1 (callAny (.ref b) ⟨[x], []⟩) _ _ s
  simp only [callAny]
  refine wpAny_bind (wpAny_load hb ?_)
  simp only [bnd, show (Value.type "builtin_function_or_method" == Value.type "method" || Value.type "builtin_function_or_method" == Value.type "builtin_function_or_method" || Value.type "builtin_function_or_method" == Value.type "method-wrapper") = true by decide, if_true]
  refine KFB.if_so (by decide) ?_
  refine wpAny_bind (check_append ho ?_)
  refine wpAny_bind (wpAny_pure (wpAny_pure ?_))
  refine ⟨quiet_append, codeAny_builtin F.entry_list_append ?_⟩
  refine wpAny_bind (m := updateSeq D (·.push x)) ?_
  refine wpAny_updateSeq ho rfl (wpAny_pure ?_)
  refine h _ (Heap.SameBut.update ..) ?_
  rw [Heap.get?_update_self _ ho (by rw [mapSeq_push]; rfl), mapSeq_push]
end

section
variable {prog : Program} {w : World} {A : Around} {E : Value → Shared → Prop} {s : Shared} {h₀ h : Heap} {L D b : Addr} {m : PySem.Str → Option Value} {news news' : List (Addr × Obj)} {ws : List Value} {ys : List PySem.Str} {n : Nat}
theorem ls_bound {its : Array Value} {Q : Value → Shared → Prop} (F : Fr h₀ L s.heap m) (N : News h₀ L s.heap news) (hm : (D, lstN its n) ∈ news)
    (h : ∀ b h' k, Fr h₀ L h' m → News h₀ L h' ((b, bnd D) :: news) → (∀ p ∈ news, p.1 < b) → Q (.ref b) { s with heap := h', toks := k }) :
    wpAny (model prog w) A (getAttr (.ref D) "append" true) Q E s :=
  bound_of (N _ hm).1 (h _ _ _ (F.push _) (News.push F N _) fun p hp => Heap.lt_size (N p hp).1)
theorem ls_append_b {y : PySem.Str} {t : Tok} {Q : Value → Shared → Prop} (F : Fr h₀ L s.heap m) (N : News h₀ L s.heap news) (hb : (b, bnd D) ∈ news) (U : Upd D (lstN ws.toArray n) (lstN (ws ++ [Value.str y t]).toArray (n + 1)) news news') (hi : StrsAre ws ys) (hz : ys.length ≤ 16000)
    (h : ∀ h', Fr h₀ L h' m → News h₀ L h' news' → StrsAre (ws ++ [Value.str y t]) (ys ++ [y]) → Q .none { s with heap := h' }) : wpAny (model prog w) A (call (.ref b) [.str y t]) Q E s := by
  have e : ws.toArray.push (.str y t) = (ws ++ [Value.str y t]).toArray := by simp
  rw [← e] at U
  have hb' := (N _ hb).1
  obtain ⟨pre, post, rfl, rfl, h1, h2⟩ := U.split
  have z := N (D, lstN ws.toArray n) (List.mem_append.mpr (.inr (.head _)))
  refine append_bnd (hsz := ?_) hb' z.1 fun h' hs ho' => h h' (F.change hs z.2.1 z.2.2) (news_set N h1 h2 hs ho') (strs_snoc hi y t)
  rw [List.size_toArray, hi.length, sizeLine_eq]; omega
end
end Mine
end BoundPart
section ItemsPart
open PySem PySem.W PySem.Spec PySem.Calls PyProof.Rows
namespace Mine
theorem item_S (x : Str) (k : Int) (c : Nat) (h0 : 0 ≤ k) (h : (tl x)[k.toNat]? = some c) : Txt.item x k = S [c] := by
  rw [item_meets (x := x) (i := k) (n := c) h0 (by rw [← h, tl, Array.getElem?_toList])]; rfl
theorem same1 {i c : Str} {vi vi' vc : Value} {u m₀ : Str → Option Value} : ∀ z, (∀ p ∈ [(i, vi')], z ≠ p.1) → [c].contains z = false →
    (if z = i then some vi' else if z = c then some vc else kstB (fun z => if [c].contains z then u z else m₀ z) [(i, vi)] z) = m₀ z := by
  intro z h2 h3
  have e1 : ¬ z = i := h2 (i, vi') List.mem_cons_self
  have e2 : ¬ z = c := by simpa using h3
  rw [if_neg e1, if_neg e2]
  show (if z = i then some vi else if [c].contains z = true then u z else m₀ z) = m₀ z
  rw [if_neg e1, h3]; rfl
theorem keys1 {i : Str} {vi' : Value} {m' : Str → Option Value} : ∀ p ∈ [(i, vi')], (fun y => if y = i then some vi' else m' y) p.1 = some p.2 := by
  intro p hp
  rw [List.mem_singleton.mp hp]; exact if_pos rfl
theorem codes_snoc {l : List Nat} {i : Int} {c : Nat} (h0 : 0 ≤ i) (h : l[i.toNat]? = some c) (f : Nat → Str) : (l.take (i + 1).toNat).map f = (l.take i.toNat).map f ++ [f c] := by
  rw [show (i + 1).toNat = i.toNat + 1 by omega, List.take_add_one, h, List.map_append]; rfl
theorem not_star {c : Nat} (h : Free c) : (S [c] == Str.ofString "*") = false := by
  rw [show Str.ofString "*" = S [42] by decide +kernel, beq_S, tl_S, tl_S]
  simp; have := h.1; omega
theorem not_brk {c : Nat} (h : Free c) : (S [c] == Str.ofString "[") = false := by
  rw [show Str.ofString "[" = S [91] by decide +kernel, beq_S, tl_S, tl_S]
  simp; exact h.2.2
theorem ne63 {c : Nat} (h : ¬ (S [c] == Str.ofString "?") = true) : c ≠ 63 := by
  rintro rfl; exact h (by decide +kernel)
theorem ne63' {c : Nat} (h : (S [c] == Str.ofString "?") = false) : c ≠ 63 := by
  rintro rfl; exact absurd h (by decide +kernel)
theorem is63 {c : Nat} (h : (S [c] == Str.ofString "?") = true) : c = 63 := by
  rw [qmS, beq_S, tl_S, tl_S] at h; simpa using h
theorem dot_of {c : Nat} (h : (S [c] == Str.ofString "?") = true) : S (code1 c) = S [46] := by rw [is63 h]; rfl
theorem item_free {prog : Program} {w : World} {A : Around} {E : Value → Shared → Prop} {s : Shared} {value slice : Expr} {x : Str} {t : Tok} {k : Int} {u : Tok} {Q : Value → Shared → Prop} (hf : AllFree (tl x)) (hx : x.length ≤ 1000) (h0 : 0 ≤ k) (hk : k < x.length)
    (h : ∀ c t' k', (tl x)[k.toNat]? = some c → Free c → (S [c] == Str.ofString "*") = false → (S [c] == Str.ofString "[") = false → Q (.str (S [c]) t') { s with toks := k' })
    (hs : subscripted slice false (.str x t) (.int k u) = operate [.str x t, .int k u] (getItem (.str x t) (.int k u)) := by with_unfolding_all rfl) (hg : ∀ r, letTemporaryGo value (.str x t) r = pure () := by intro _; with_unfolding_all rfl) :
    wpAny (model prog w) A (subscriptTail value slice (.str x t) (.int k u)) Q E s := by
  have hlt : k.toNat < (tl x).length := by rw [← len_tl]; omega
  have hc : (tl x)[k.toNat]? = some (tl x)[k.toNat] := List.getElem?_eq_getElem hlt
  have hF := hf _ (List.getElem_mem hlt)
  refine item_str (fitsSsize_of (N := 9223372036854775808) (by omega) (by omega) (Int.le_refl _)) (by omega) (by omega) (fun _ => ?_) hs hg
  rw [item_S x k _ h0 hc]
  exact h _ _ _ hc hF (not_star hF) (not_brk hF)
end Mine
end ItemsPart
section C5Part
open PySem PySem.W PySem.Spec PySem.Calls PyProof.Rows
namespace Mine
local macro_rules | `(tactic| k_room) => `(tactic| ktr_room)
local macro_rules | `(tactic| walk_at "call ref") => `(tactic| (k_here; k_dflt (refine' Ct.use (escape_ct _ _ _ ?c0 ?c1) ?k1 ?k2 ?k3 ?k4 ?k5 ?kK ?kd ?ku ?kp ?_; (case k1 => k_asm); (case k2 => k_asm); (case k3 => k_asm); (case k4 => k_asm); (case k5 => k_asm); (case kK => first | exact rfl | assumption); (case kd => ktr_room); (case ku => ktr_units); (case kp => exact trivial)); (case c0 => assumption); (case c1 => exact ne63' (by assumption)); intro r' x' h' tk' F' N' l' o'; obtain ⟨e1', t', e2'⟩ := o'; subst e1'; subst e2'; rw [List.nil_append] at N'; clear l'; (try dsimp only); (try k_fold)))
local macro_rules | `(tactic| walk_at "getAttr ref") => `(tactic| (k_here; (with_reducible show wpAny _ _ (getAttr (Value.ref _) (Str.ofString "append") true) _ _ _); k_dflt (refine' ls_bound ?k1 ?k2 ?k3 ?_; (case k1 => k_asm); (case k2 => k_asm); (case k3 => k_mem); k_whole); intro b' h' k' F' N' l'; (try k_lt l'); (try k_sweep)))
local macro_rules | `(tactic| walk_at "callWith ref") => `(tactic| (k_here; (with_reducible show wpAny _ _ (callWith _ (Value.ref _) _ (backTo _ (starEach (_ :: _) _)) []) _ _ _); k_dflt (refine' callWith_bnd ?k1 ?k2 ?_; (case k1 => k_asm); (case k2 => k_mem); k_whole)))
local macro_rules | `(tactic| walk_at "And") => `(tactic| ((with_reducible show BndAt _ _ _ ∧ _); k_dflt (refine ⟨(News.get (by k_asm) (by k_mem)), ?_⟩); (try dsimp only [List.nil_append, List.cons_append])))
local macro_rules | `(tactic| walk_at "call ref") => `(tactic| (k_here; (with_reducible show wpAny _ _ (call (Value.ref _) [Value.str _ _]) _ _ _); k_dflt (refine' ls_append_b ?k1 ?k2 ?k3 ?k4 ?k5 ?z ?_; (case k1 => k_asm); (case k2 => k_asm); (case k3 => k_mem); (case k4 => k_upd); (case k5 => assumption); (case z => omega); k_whole); intro h' F' N' S'; (try k_sweep)))
local macro_rules | `(tactic| walk_at "last exec While") => `(tactic| (k_here; refine halt ?_))
local macro_rules | `(tactic| walk_at "KswEnd") => `(tactic| (k_here; refine halt ?_))
local macro_rules | `(tactic| walk_at "subscriptTail Name Name str int") => `(tactic| (k_here; k_dflt (refine' item_free ?k1 ?k2 ?k3 ?k4 ?_ ?s ?g; (case k1 => assumption); (case k2 => assumption); (case k3 => first | assumption | omega); (case k4 => first | assumption | exact of_decide_eq_true (by assumption) | omega); (case s => with_unfolding_all rfl); (case g => intro _; with_unfolding_all rfl); k_whole); intro c' t' k' hc' hf' hs' hb'))
set_option maxRecDepth 100000 in
set_option maxHeartbeats 4000000 in
theorem translate_ct (w : World) (x : Str) (t t' : Tok) (hx : x.length ≤ 1000) (hf : AllFree (tl x)) : Ct w 62 [.str x t, .none, .str (S [46]) t'] 8 200 (fun _ => True)
    (fun r nx => ∃ q ws n, r = .ref q ∧ nx = [(q, lstN ws.toArray n)] ∧ StrsAre ws ((tl x).map fun c => S (code1 c))) := by
  w_top off
  unfold Ct
  k_fill
  intro p loose mean mg mb dp un gd cn cs a ccd cl outer A₀ base h₀ L m news s Q E B F X N T hk hd hu hpre hret
  obtain ⟨knd, nms, ig, ic, mo⟩ := cs
  dsimp only at hk
  subst hk
  refine wpAny_call ?_
  k_dflt k_enter
  k_steps
  (rename Fr _ _ _ _ => F1)
  (rename News _ _ _ _ => N1)
  have N2 : News _ _ _ ((_, bnd _) :: (_, lstN [].toArray 0) :: news) := fun p hp => N1 p (List.mem_cons_of_mem _ hp)
  clear N1
  unfold Halt
  refine' ksw_while (σ := Int × Tok × List Value × Nat) (fun c => (_, bnd _) :: (_, lstN c.2.2.1.toArray c.2.2.2) :: news) (fun c => [(Str.ofString "i", .int c.1 c.2.1)]) (fun _ => True) [Str.ofString "c"]
    (fun c => 0 ≤ c.1 ∧ c.1 ≤ x.length ∧ StrsAre c.2.2.1 (((tl x).take c.1.toNat).map fun c => S (code1 c))) (fun c => x.length - c.1.toNat) (0, _, [], 0) F1 N2 trivial ?k1 ⟨Int.le_refl _, by omega, .nil⟩ ?k2
  case k1 =>
    intro p hp
    rw [List.mem_singleton.mp hp]; exact if_pos rfl
  case k2 =>
    rintro ⟨i, ti, ws, n⟩ u h tk - ⟨hi0, hi1, hws⟩ F3 N3
    clear F1 N2
    dsimp only at hi0 hi1 hws F3 N3
    have hz : (((tl x).take i.toNat).map fun c => S (code1 c)).length ≤ 1000 := by rw [List.length_map, List.length_take, ← len_tl]; omega
    k_steps
    all_goals first | (exfalso; omega) | skip
    · unfold Halt
      refine ksw_end (c' := (i + 1, _, _, _)) (by k_asm) (by k_asm) (fun p hp => hp) trivial (by intro p hp; rw [List.mem_singleton.mp hp]; exact if_pos rfl) same1 ⟨?_, ?_, ?_⟩ ?_
      all_goals (dsimp only)
      · omega
      · omega
      · rw [codes_snoc hi0 (by assumption), dot_of (by assumption)]
        assumption
      · omega
    · unfold Halt
      refine ksw_end (c' := (i + 1, _, _, _)) (by k_asm) (by k_asm) (fun p hp => hp) trivial (by intro p hp; rw [List.mem_singleton.mp hp]; exact if_pos rfl) same1 ⟨?_, ?_, ?_⟩ ?_
      all_goals (dsimp only)
      · omega
      · omega
      · rw [codes_snoc hi0 (by assumption)]
        assumption
      · omega
    · have hx' : ((tl x).take i.toNat) = tl x := List.take_of_length_le (by rw [← len_tl]; omega)
      rw [hx'] at hws
      (rename News _ _ _ _ => N1)
      exact ret_one hret (by k_asm) (fun p hp => N1 p (List.mem_cons_of_mem _ hp)) (by assumption) ⟨_, ws, n, rfl, rfl, hws⟩
end Mine
end C5Part
section WrPart
open PySem PySem.W PySem.Spec PySem.Calls PyProof.Rows
namespace Mine
theorem joinT_nil : ∀ ls : List (List Nat), joinT [] ls = ls.flatten
  | [] => rfl
  | [x] => by simp [joinT]
  | x :: y :: r => by rw [joinT, joinT_nil (y :: r)]; simp
theorem join_codes (f : Nat → List Nat) (l : List Nat) : joinT [] ((l.map fun c => S (f c)).map tl) = l.flatMap f := by
  rw [joinT_nil, List.map_map, List.flatMap]
  congr 1
theorem codes_ok (f : Nat → List Nat) (hf : ∀ c, (f c).length ≤ 2) (l : List Nat) (hl : l.length ≤ 1000) : (((l.map fun c => S (f c)).map (·.length)).sum + (l.map fun c => S (f c)).length) ≤ 1000000 := by
  have h : ∀ l : List Nat, ((l.map fun c => S (f c)).map (·.length)).sum ≤ 2 * l.length := by
    intro l
    induction l with
    | nil => simp
    | cons c r ih =>
      have := hf c
      simp only [List.map_cons, List.sum_cons, List.length_cons, len_S] at *
      omega
  have := h l
  rw [List.length_map]; omega
theorem code1_len (c : Nat) : (code1 c).length ≤ 2 := by unfold code1; split <;> (try split) <;> simp
/-- the second writing: dot and question mark change places -/
def sw1 (c : Nat) : Nat := if c = 63 then 46 else if c = 46 then 63 else c
def sw (l : List Nat) : List Nat := l.map sw1
theorem sw1_no {c : Nat} (h1 : c ≠ 63) (h2 : c ≠ 46) : S [c] = S [sw1 c] := by unfold sw1; rw [if_neg h1, if_neg h2]
theorem mk_S (c : Nat) : (⟨#[c]⟩ : Str) = S [c] := rfl
theorem is46 {c : Nat} (h : (S [c] == Str.ofString ".") = true) : c = 46 := by
  rw [dotS, beq_S, tl_S, tl_S] at h; simpa using h
theorem ne46' {c : Nat} (h : (S [c] == Str.ofString ".") = false) : c ≠ 46 := by
  rintro rfl; exact absurd h (by decide +kernel)
theorem sw_q {c : Nat} (h : (S [c] == Str.ofString "?") = true) : Str.ofString "." = S [sw1 c] := by rw [is63 h]; exact dotS
theorem sw_d {c : Nat} (h : (S [c] == Str.ofString ".") = true) : Str.ofString "?" = S [sw1 c] := by rw [is46 h]; exact qmS
theorem flat_sw : ∀ l : List Nat, l.flatMap (fun c => [sw1 c]) = sw l
  | [] => rfl
  | c :: r => by rw [List.flatMap_cons, flat_sw r]; rfl
theorem strs_step {f : Nat → Str} {x y : Str} {i c : Nat} {t : Tok} {ys : List Value} (hc : x.cps[i]? = some c) (hj : StrsAre ys (((tl x).take i).map f)) (hy : y = f c) : StrsAre (ys ++ [.str y t]) (((tl x).take (i + 1)).map f) := by
  have h : (tl x)[i]? = some c := by rw [← hc, tl, Array.getElem?_toList]
  rw [List.take_add_one, h, List.map_append]
  exact hj.append' (by rw [hy]; exact .cons _ _ .nil)
end Mine
end WrPart
section C6Part
open PySem PySem.W PySem.Spec PySem.Calls PyProof.Rows
namespace Mine
local macro_rules | `(tactic| k_room) => `(tactic| ktr_room)
local macro_rules | `(tactic| walk_at "call ref") => `(tactic| (k_here; k_dflt (refine' Ct.use (translate_ct _ _ _ _ ?c0 ?c1) ?k1 ?k2 ?k3 ?k4 ?k5 ?kK ?kd ?ku ?kp ?_; (case k1 => k_asm); (case k2 => k_asm); (case k3 => k_asm); (case k4 => k_asm); (case k5 => k_asm); (case kK => first | exact rfl | assumption); (case kd => ktr_room); (case ku => ktr_units); (case kp => exact trivial)); (case c0 => assumption); (case c1 => assumption); intro r' x' h' tk' F' N' l' o'; obtain ⟨q', ws', n', e1', e2', hw'⟩ := o'; subst e1'; subst e2'; rw [List.cons_append, List.nil_append] at N'; replace l' := lt1' l'; (try k_lt l'); (try dsimp only); (try k_fold)))
local macro_rules | `(tactic| walk_at "call builtin:str.join") => `(tactic| (k_here; (with_reducible show wpAny _ _ (call (Value.builtin _) [Value.str _ _, Value.ref _]) _ _ _); k_dflt (refine' ls_join ?k1 ?k2 ?k3 ?k4 ?k5 ?_; (case k1 => k_asm); (case k2 => k_mem); (case k3 => assumption); (case k4 => exact Nat.le_of_ble_eq_true rfl); (case k5 => assumption); k_whole); intro t' k'; (try simp only [txt_join, slash, emptyS, tl_S])))
theorem dot_call {t : Tok} : Value.str (Str.ofString ".") t = Value.str (S [46]) t := by rw [dotS]
set_option maxRecDepth 100000 in
set_option maxHeartbeats 4000000 in
theorem written_ct (w : World) (x : Str) (t : Tok) (hx : x.length ≤ 1000) (hf : AllFree (tl x)) : Ct w 145 [.str x t] 10 300 (fun _ => True)
    (fun r nx => nx = [] ∧ ∃ t', r = .str (S (wr (tl x))) t') := by
  w_top off
  have hok := codes_ok code1 code1_len (tl x) (by rw [← len_tl]; exact hx)
  unfold Ct
  k_fill
  intro p loose mean mg mb dp un gd cn cs a ccd cl outer A₀ base h₀ L m news s Q E B F X N T hk hd hu hpre hret
  obtain ⟨knd, nms, ig, ic, mo⟩ := cs
  dsimp only at hk
  subst hk
  refine wpAny_call ?_
  k_dflt k_enter
  k_steps
  all_goals
    refine ret_drop hret (by k_asm) (by assumption) (by (intro p hp; (repeat (first | exact hp | refine List.mem_cons_of_mem _ ?_)))) ?_
    exact ⟨rfl, _, congrArg (fun y => Value.str y _) (by rw [join_codes]; rfl)⟩
end Mine
end C6Part
section CompPart
open PySem PySem.W PySem.Spec PySem.Calls PyProof.Rows
set_option maxRecDepth 100000
namespace Mine
open LCg

/-- the end of one element -/
def CE (h₀ : Heap) (L : Addr) (m : Str → Option Value) (s₁ : Shared) (keep : List (Addr × Obj)) (J : Value → Prop) (y : Value) (s₂ : Shared) : Prop :=
  ∃ h' tk all, s₂ = { s₁ with heap := h', toks := tk } ∧ Fr h₀ L h' m ∧ News h₀ L h' all ∧ (∀ p ∈ keep, p ∈ all) ∧ J y
theorem CE.intro {h₀ : Heap} {L : Addr} {m : Str → Option Value} {s₁ : Shared} {keep all : List (Addr × Obj)} {J : Value → Prop} {y : Value} {h' : Heap} {tk : Nat}
    (F : Fr h₀ L h' m) (N : News h₀ L h' all) (hk : ∀ p ∈ keep, p ∈ all) (j : J y) : CE h₀ L m s₁ keep J y { s₁ with heap := h', toks := tk } := ⟨h', tk, all, rfl, F, N, hk, j⟩

section
variable {prog : Program} {w : World} {A : Around} {E : Value → Shared → Prop} {s : Shared} {h₀ : Heap} {L : Addr} {m : Str → Option Value} {env : Env}
  {elt ct iter : Expr} {x : Str} {px : Pos} {scope : Scope} {cl : List (Str × Addr)} {pos : Pos} {Fin : List Value → List (Addr × Obj) → Prop} {S : List (Addr × Obj) → Prop} {P : Nat → Value → Prop}

/-- what a turn is asked -/
abbrev Turn (prog : Program) (w : World) (A : Around) (h₀ : Heap) (L : Addr) (m : Str → Option Value) (env : Env) (elt : Expr) (x : Str) (scope : Scope) (cl : List (Str × Addr)) (s : Shared) (P : Nat → Value → Prop) (news : List (Addr × Obj)) (n : Nat) (J : Nat → List Value → Prop) : Prop :=
  ∀ i ys v I oI C oC D m₂ h tk (E' : Value → Shared → Prop), i < n → J i ys → P i v → NsObj oC m₂ → m₂ x = some v → Fr h₀ L h m → News h₀ L h ((I, oI) :: (C, oC) :: (D, lst ys) :: news) → Off3 I C D news → ((@Ne Nat I C) ∧ (@Ne Nat I D) ∧ (@Ne Nat C D)) →
      wpAny (model prog w) A (eval elt (compEnvC scope cl C env)) (CE h₀ L m { s with heap := h, toks := tk } ((I, oI) :: (C, oC) :: (D, lst ys) :: news) (fun y => J (i + 1) (ys ++ [y]))) E' { s with heap := h, toks := tk }
theorem rest_of {news : List (Addr × Obj)} {n : Nat} {J : Nat → List Value → Prop} (hS : S news) (turn : Turn prog w A h₀ L m env elt x scope cl s P news n J)
    (fin : ∀ ys, J n ys → Fin ys news) : ∀ k i ys, i + k = n → J i ys → CompRest prog w A h₀ L m env elt x scope cl s S P Fin k i ys news
  | 0, i, ys, e, j => fin ys (by rw [← e]; exact j)
  | k + 1, i, ys, e, j => fun v I oI C oC D m₂ h tk E' hP hC hx F N off ne => by
    refine wpAny_mono (turn i ys v I oI C oC D m₂ h tk E' (by omega) j hP hC hx F N off ne) (fun y s₂ q => ?_) fun _ _ e => e
    obtain ⟨h', tk', all, rfl, F', N', hk, j'⟩ := q
    exact CompEnd.intro F' N' news hk off hS (rest_of hS turn fin k (i + 1) _ (by omega) j')

/-- a source, any iterator -/
def SrcG (prog : Program) (w : World) (A : Around) (h₀ : Heap) (L : Addr) (m : Str → Option Value) (env : Env) (elt : Expr) (x : Str) (scope : Scope) (cl : List (Str × Addr)) (Fin : Shared → List Value → List (Addr × Obj) → Prop) (E : Value → Shared → Prop) (xv : Value) (s₁ : Shared) : Prop :=
  wpAny (model prog w) A (pyIter xv) (fun it s₂ => ∃ (I : Addr) (fp : List Addr) (n : Nat) (P : Nat → Value → Prop) (St : Nat → Heap → Prop) (S : List (Addr × Obj) → Prop) (news : List (Addr × Obj)), it = .ref I ∧ Walks prog w A I fp [I] n P St ∧ n ≤ sizeLine ∧
    (∀ i h, St i h → ∃ o, h.get? I = some o) ∧ (∀ i h h' o nw, St i h → h.get? I = some o → h'.get? I = some o → (∀ b o, h₀.get? b = some o → h'.get? b = some o) → News h₀ L h' nw → S nw → St i h') ∧ St 0 s₂.heap ∧ (∀ b ∈ fp, b < s₂.heap.objs.size) ∧
    Fr h₀ L s₂.heap m ∧ News h₀ L s₂.heap news ∧ L ≠ I ∧ h₀.get? I = none ∧ (∀ p ∈ news, p.1 ≠ I) ∧ S news ∧ (∃ h, s₂ = { s₁ with heap := h }) ∧ CompRest prog w A h₀ L m env elt x scope cl s₂ S P (Fin s₁) n 0 [] news) E s₁

theorem SrcG.text {Fin : Shared → List Value → List (Addr × Obj) → Prop} {y : Str} {t : Tok} {news : List (Addr × Obj)} {s₁ : Shared} (J : Nat → List Value → Prop) (hh : A.handled = none) (F : Fr h₀ L s₁.heap m) (N : News h₀ L s₁.heap news) (hsz : y.length ≤ 1000)
    (j : J 0 []) (turn : ∀ g, Turn prog w A h₀ L m env elt x scope cl { s₁ with heap := g } (SignAt y) news y.length J) (fin : ∀ ys, J y.length ys → Fin s₁ ys news) :
    SrcG prog w A h₀ L m env elt x scope cl Fin E (.str y t) s₁ := by
  have hz : y.cps.size ≤ sizeLine := by rw [sizeLine_eq]; have : y.cps.size = y.length := rfl; omega
  have go : ∀ (o : Obj) (St : Nat → Heap → Prop), (∀ i h, St i h → ∃ o, h.get? s₁.heap.objs.size = some o) → Walks prog w A s₁.heap.objs.size [s₁.heap.objs.size] [s₁.heap.objs.size] y.cps.size (SignAt y) St → St 0 (s₁.heap.push o) →
      ∃ (I : Addr) (fp : List Addr) (n : Nat) (P : Nat → Value → Prop) (St : Nat → Heap → Prop) (S : List (Addr × Obj) → Prop) (news : List (Addr × Obj)), Value.ref s₁.heap.objs.size = .ref I ∧ Walks prog w A I fp [I] n P St ∧ n ≤ sizeLine ∧
    (∀ i h, St i h → ∃ o, h.get? I = some o) ∧ (∀ i h h' o nw, St i h → h.get? I = some o → h'.get? I = some o → (∀ b o, h₀.get? b = some o → h'.get? b = some o) → News h₀ L h' nw → S nw → St i h') ∧ St 0 (s₁.heap.push o) ∧ (∀ b ∈ fp, b < (s₁.heap.push o).objs.size) ∧
    Fr h₀ L (s₁.heap.push o) m ∧ News h₀ L (s₁.heap.push o) news ∧ L ≠ I ∧ h₀.get? I = none ∧ (∀ p ∈ news, p.1 ≠ I) ∧ S news ∧ (∃ h, { s₁ with heap := s₁.heap.push o } = { s₁ with heap := h }) ∧ CompRest prog w A h₀ L m env elt x scope cl { s₁ with heap := s₁.heap.push o } S P (Fin s₁) n 0 [] news := by
    intro o St hIo W st
    refine ⟨_, _, _, _, St, fun _ => True, news, rfl, W, hz, hIo, fun i h h' o' nw st' e e' _ _ _ => W.frame i h h' st' fun b hb o₂ e₂ => ?_, st, fun b hb => ?_, F.push _, fun p hp => ⟨Heap.get?_push_of_some _ (N p hp).1, (N p hp).2⟩, Nat.ne_of_lt F.ns.lt, next_is_new F,
      fun p hp => Nat.ne_of_lt (Heap.lt_size (N p hp).1), trivial, ⟨_, rfl⟩, rest_of trivial (turn _) fin _ 0 [] (Nat.zero_add _) j⟩
    · rw [List.mem_singleton.mp hb] at e₂ ⊢
      rw [e', ← e]; exact e₂
    · rw [List.mem_singleton.mp hb, Heap.size_push]; exact Nat.lt_succ_self _
  unfold SrcG
  cases ha : y.cps.all (· < 128)
  · exact wpAny_pyIter_wide ha (go _ _ (fun i h st => let ⟨o, ho, _⟩ := st; ⟨o, ho⟩) (Walks.strWide hh _ y t) ⟨_, Heap.get?_push_size _ rfl, rfl, rfl⟩)
  · exact wpAny_pyIter_ascii ha (go _ _ (fun i h st => let ⟨o, ho, _⟩ := st; ⟨o, ho⟩) (Walks.strAscii hh _ y t) ⟨_, Heap.get?_push_size _ rfl, rfl, rfl⟩)

theorem SrcG.ledger {Fin : Shared → List Value → List (Addr × Obj) → Prop} {ax : Addr} {its : Array Value} {k : Nat} {news : List (Addr × Obj)} {s₁ : Shared} (J : Nat → List Value → Prop) (hh : A.handled = none) (F : Fr h₀ L s₁.heap m) (N : News h₀ L s₁.heap news)
    (hm : (ax, lstN its k) ∈ news) (hsz : its.size ≤ 16000)
    (j : J 0 []) (turn : ∀ g, Turn prog w A h₀ L m env elt x scope cl { s₁ with heap := g } (fun i v => its[i]? = some v) news its.size J) (fin : ∀ ys, J its.size ys → Fin s₁ ys news) :
    SrcG prog w A h₀ L m env elt x scope cl Fin E (.ref ax) s₁ := by
  have hl : s₁.heap.IsList ax its := ⟨_, (N _ hm).1, rfl, k, rfl⟩
  have hlt : ax < s₁.heap.objs.size := Heap.lt_size (N _ hm).1
  have up : ∀ b o, s₁.heap.get? b = some o → (s₁.heap.push { cls := .type "list_iterator", data := .fields #[.ref ax, .int 0 0] }).get? b = some o := fun b o e => Heap.get?_push_of_some _ e
  unfold SrcG
  refine wpAny_pyIter_list hl ?_
  refine ⟨_, _, _, _, _, SrcAt h₀ ax its, news, rfl, Walks.list hh s₁.heap.objs.size ax (Nat.ne_of_lt hlt) its, by rw [sizeLine_eq]; omega, fun i h st => by obtain ⟨o, e, _⟩ := st.1; exact ⟨o, e⟩, list_st, ⟨⟨_, Heap.get?_push_size _ rfl, rfl, rfl⟩, hl.push _⟩, fun b hb => ?_,
    F.keeps up, N.grown up, Nat.ne_of_lt F.ns.lt, next_is_new F, fun p hp => Nat.ne_of_lt (Heap.lt_size (N p hp).1), .inr ⟨_, hm, rfl, _, rfl⟩, ⟨_, rfl⟩, rest_of (.inr ⟨_, hm, rfl, _, rfl⟩) (turn _) fin _ 0 [] (Nat.zero_add _) j⟩
  show b < (s₁.heap.push _).objs.size
  rw [Heap.size_push]
  rcases List.mem_cons.mp hb with rfl | hb
  · exact Nat.lt_succ_self _
  · rw [List.mem_singleton.mp hb]; exact Nat.lt_succ_of_lt hlt

theorem comp_eval {Q : Value → Shared → Prop} (F₀ : Fr h₀ L s.heap m)
    (hclos : closureFor scope env = pure cl) (hcell : ∀ y ∈ scope.names, y.2 ≠ .cell) (hkind : scope.kind = .function)
    (hnames : ∀ y ∈ scope.names, y.2 = .local → scope.names.lookup y.1 = some .local) (hx : scope.names.lookup x = some .local)
    (h : wpAny (model prog w) A (eval iter env) (SrcG prog w A h₀ L m env elt x scope cl (fun s₂ => FinE h₀ L m s₂ Q) E) E s)
    (hs : ∀ x, foldedSetIterable iter env x = pure x := by intro _; rfl) :
    wpAny (model prog w) A (eval (.ListComp elt [⟨.Name x px, iter, [], 0⟩] scope pos) env) Q E s := by
  rw [eval_ListComp]
  refine wpAny_comprehension_free (use := none) rfl hs hclos hkind hnames (wpAny_mono h (fun xv s₁ h₁ => ?_) fun _ _ e => e)
  refine wpAny_mono h₁ (fun it s₂ q => ?_) fun _ _ e => e
  obtain ⟨I, fp, n, P, St, S, news, rfl, W, hsz, hIo, hSt, hst, hfp, F, N, hIL, hI₀, off, hS, ⟨g, rfl⟩, R⟩ := q
  refine block_U W hsz hIo hSt hcell hkind hx hst hfp F N hIL hI₀ off hS R ?_
  intro D C h tk m' ys news' F' N' o1 hn hC₀ hD₀ hCL hDL hCD offC fin
  refine ⟨m', hn, fun h'' hs'' => fin D h'' tk (F'.change hs'' hCL hC₀) (fun p hp => ?_) o1⟩
  refine ⟨hs''.extBut _ _ ?_ (N' p hp).1, (N' p hp).2⟩
  rcases List.mem_cons.mp hp with rfl | hp
  · exact Ne.symm hCD
  · exact offC p hp
end
end Mine
end CompPart
section C7Part
open PySem PySem.W PySem.Spec PySem.Calls PyProof.Rows
namespace Mine
local macro_rules | `(tactic| walk_at "none such") => `(tactic| skip)
local macro_rules | `(tactic| k_room) => `(tactic| ktr_room)
local macro_rules | `(tactic| walk_at "call builtin:str.join") => `(tactic| (k_here; (with_reducible show wpAny _ _ (call (Value.builtin _) [Value.str _ _, Value.ref _]) _ _ _); k_dflt (refine' ls_join ?k1 ?k2 ?k3 ?k4 ?k5 ?_; (case k1 => k_asm); (case k2 => k_mem); (case k3 => assumption); (case k4 => exact Nat.le_of_ble_eq_true rfl); (case k5 => assumption); k_whole); intro t' k'; (try simp only [txt_join, slash, emptyS, tl_S])))
local macro_rules | `(tactic| walk_at "eval ListComp") => `(tactic| (k_here; k_dflt (refine comp_eval (F₀ := by k_asm) (by with_unfolding_all rfl) (by decide) (by rfl) (by decide) (by rfl) ?_)))
set_option maxRecDepth 100000 in
set_option maxHeartbeats 4000000 in
theorem swapped_ct (w : World) (x : Str) (t : Tok) (hx : x.length ≤ 1000) : Ct w 150 [.str x t] 10 300 (fun _ => True)
    (fun r nx => nx = [] ∧ ∃ t', r = .str (S (sw (tl x))) t') := by
  w_top off
  have hok := codes_ok (fun c => [sw1 c]) (fun _ => by simp) (tl x) (by rw [← len_tl]; exact hx)
  unfold Ct
  k_fill
  intro p loose mean mg mb dp un gd cn cs a ccd cl outer A₀ base h₀ L m news s Q E B F X N T hk hd hu hpre hret
  obtain ⟨knd, nms, ig, ic, mo⟩ := cs
  dsimp only at hk
  subst hk
  refine wpAny_call ?_
  k_dflt k_enter
  k_steps
  (rename Fr _ _ _ _ => F1)
  (rename News _ _ _ _ => N1)
  refine SrcG.text (fun i ys => StrsAre ys (((tl x).take i).map fun c => S [sw1 c])) rfl F1 N1 hx .nil ?_ ?_
  · rintro g i ys v I oI C oC D m₂ h tk E' hi hj ⟨c, u, hc, rfl⟩ hC hx' F2 N2 off ne
    clear F1 N1
    rw [mk_S] at hx'
    k_steps
    all_goals refine CE.intro (by k_asm) (by k_asm) (fun p hp => hp) (strs_step hc hj ?_)
    · exact sw_q (by assumption)
    · exact sw_d (by assumption)
    · exact sw1_no (ne63' (by assumption)) (ne46' (by assumption))
  · intro ys hj
    rw [List.take_of_length_le (by rw [← len_tl]; exact Nat.le_refl _)] at hj
    intro D h tk F2 N2 off
    clear F1 N1
    k_steps
    refine ret_drop hret (by k_asm) (by assumption) (by (intro p hp; (repeat (first | exact hp | refine List.mem_cons_of_mem _ ?_)))) ?_
    exact ⟨rfl, _, congrArg (fun y => Value.str y _) (by rw [join_codes]; rw [flat_sw])⟩
end Mine
end C7Part
section CutPart
open PySem PySem.W PySem.Spec PySem.Calls PyProof.Rows
namespace Mine
/-- between two parts of a block: one name was set -/
def MidR (h₀ : Heap) (L : Addr) (m₀ : Str → Option Value) (s : Shared) (news : List (Addr × Obj)) (x : Str) (R : Value → Prop) (f : Flow) (s' : Shared) : Prop :=
  f = .next ∧ ∃ h tk v, s' = { s with heap := h, toks := tk } ∧ Fr h₀ L h (fun y => if y = x then some v else m₀ y) ∧ News h₀ L h news ∧ R v
theorem cut2 {prog : Program} {w : World} {A : Around} {E : Value → Shared → Prop} {s : Shared} {env : Env} {h₀ : Heap} {L : Addr} {m₀ : Str → Option Value} {news : List (Addr × Obj)} {s1 s2 : Stmt} {b : List Stmt} {Q : Flow → Shared → Prop} (x : Str) (R : Value → Prop)
    (F : Fr h₀ L s.heap m₀) (N : News h₀ L s.heap news) (h1 : wpAny (model prog w) A (execs [s1, s2] env) (MidR h₀ L m₀ s news x R) E s)
    (h2 : ∀ h tk v, R v → Fr h₀ L h (fun y => if y = x then some v else m₀ y) → News h₀ L h news → wpAny (model prog w) A (execs b env) Q E { s with heap := h, toks := tk }) :
    wpAny (model prog w) A (execs (s1 :: s2 :: b) env) Q E s := by
  have e : execs (s1 :: s2 :: b) env = (execs [s1, s2] env >>= fun f => match f with | .next => execs b env | f => pure f) := by
    rw [execs_cons, execs_cons, execs_cons, bind_assoc]
    congr 1; funext f
    cases f with
    | next =>
      simp only [execs_cons, bind_assoc]
      congr 1; funext f
      cases f <;> simp [execs_nil]
    | _ => simp
  rw [e]
  refine wpAny_bind (wpAny_mono h1 (fun f s' q => ?_) fun _ _ e => e)
  obtain ⟨rfl, h, tk, v, rfl, F', N', hv⟩ := q
  exact h2 h tk v hv F' N'
theorem MidR.intro {h₀ : Heap} {L : Addr} {m₀ m' : Str → Option Value} {s : Shared} {news all : List (Addr × Obj)} {x : Str} {R : Value → Prop} {h : Heap} {tk : Nat} (v : Value)
    (F : Fr h₀ L h m') (N : News h₀ L h all) (hn : ∀ p ∈ news, p ∈ all) (hm : m' = fun y => if y = x then some v else m₀ y) (r : R v) : MidR h₀ L m₀ s news x R .next { s with heap := h, toks := tk } :=
  ⟨rfl, h, tk, v, rfl, hm ▸ F, fun p hp => N p (hn p hp), r⟩
theorem twice {x : Str} {v v' : Value} {m₀ : Str → Option Value} : (fun y => if y = x then some v else if y = x then some v' else m₀ y) = fun y => if y = x then some v else m₀ y := by
  funext y; by_cases h : y = x <;> simp [h]
end Mine
end CutPart
section PlainPart
open PySem PySem.W PySem.Spec PySem.Calls PyProof.Rows
namespace Mine
/-- the law's plain path, from the last part to the first -/
def pstep (part : List Nat) (st : List (List Nat) × Nat) : List (List Nat) × Nat :=
  if part = [63, 63] then (st.1, st.2 + 1) else if part = [] ∨ part = [63] then st else if 0 < st.2 then (st.1, st.2 - 1) else (part :: st.1, st.2)
def pfold (ps : List (List Nat)) : List (List Nat) × Nat := ps.foldr pstep ([], 0)
def pparts (l : List Nat) : List (List Nat) := if rootOf l = [] then List.replicate (pfold (cut 47 l)).2 [63, 63] ++ (pfold (cut 47 l)).1 else (pfold (cut 47 l)).1
def plainT (l : List Nat) : List Nat := if rootOf l ++ joinT [47] (pparts l) = [] then [63] else rootOf l ++ joinT [47] (pparts l)

theorem strs_reverse {vs : List Value} {xs : List Str} (h : StrsAre vs xs) : StrsAre vs.reverse xs.reverse := by
  induction h with
  | nil => exact .nil
  | cons x t h ih => rw [List.reverse_cons, List.reverse_cons]; exact strs_snoc ih _ _

/-- behind the parts pre (read from the end) -/
def PlainP (pre ys : List Str) (d : Nat) : Prop := (pre.map tl).foldl (fun st p => pstep p st) ([], 0) = (ys.map tl, d) ∧ weight ys ≤ weight pre ∧ d ≤ pre.length
theorem PlainP.step {pre ys new : List Str} {d d' : Nat} {y : Str} (h : PlainP pre ys d) (h1 : pstep (tl y) (ys.map tl, d) = (new.map tl, d')) (h2 : weight new ≤ weight ys + y.length + 1) (h3 : d' ≤ d + 1) : PlainP (pre ++ [y]) new d' := by
  refine ⟨?_, ?_, ?_⟩
  · rw [List.map_append, List.foldl_append, h.1]; exact h1
  · have := h.2.1; rw [weight_snoc]; omega
  · have := h.2.2; rw [List.length_append, List.length_singleton]; omega
theorem PlainP.fold {xs ys : List Str} {d : Nat} (h : PlainP xs.reverse ys d) : pfold (xs.map tl) = (ys.map tl, d) := by
  have := h.1
  rw [List.map_reverse, List.foldl_reverse] at this
  exact this
section
variable {ys : List Str} {y : Str} {d : Nat}
theorem pp_up (h : tl y = [63, 63]) : pstep (tl y) (ys.map tl, d) = (ys.map tl, d + 1) := by simp [pstep, h]
theorem pp_skip (h : tl y = [] ∨ tl y = [63]) : pstep (tl y) (ys.map tl, d) = (ys.map tl, d) := by rcases h with h | h <;> simp [pstep, h]
theorem pp_pay (h1 : ¬ tl y = [63, 63]) (h2 : ¬ tl y = []) (h3 : ¬ tl y = [63]) (h4 : 0 < d) : pstep (tl y) (ys.map tl, d) = (ys.map tl, d - 1) := by simp [pstep, h1, h2, h3, h4]
theorem pp_add (h1 : ¬ tl y = [63, 63]) (h2 : ¬ tl y = []) (h3 : ¬ tl y = [63]) (h4 : ¬ 0 < d) : pstep (tl y) (ys.map tl, d) = ((y :: ys).map tl, d) := by simp [pstep, h1, h2, h3, h4]
end

abbrev PLed (ca : Addr) (vs : List Value) (nn : Nat) (rest : List (Addr × Obj)) (c : Addr × List Value × List Str × Nat × Nat × Tok) : List (Addr × Obj) := (c.1, lstN c.2.1.toArray c.2.2.2.1) :: (ca, lstN vs.toArray nn) :: rest
abbrev Pps (c : Addr × List Value × List Str × Nat × Nat × Tok) : List (Str × Value) := [(Str.ofString "parts", .ref c.1), (Str.ofString "debt", .int (c.2.2.2.2.1 : Int) c.2.2.2.2.2)]
section
variable {prog : Program} {w : World} {A : Around} {E : Value → Shared → Prop} {s : Shared} {env : Env} {h₀ : Heap} {x : Str} {body : List Stmt} {Q : Flow → Shared → Prop}
theorem for_plain {ca l₀ : Addr} {rest all : List (Addr × Obj)} {its : Array Value} {vs : List Value} {xs : List Str} {nn : Nat} {t₀ : Tok} {m₀ : Str → Option Value}
    (hh : A.handled = none) (F : Fr h₀ env.locals s.heap m₀) (N : News h₀ env.locals s.heap all) (h1 : (ca, lstN its nn) ∈ all) (h2 : (l₀, lstN #[] 0) ∈ all) (h3 : ∀ p ∈ rest, p ∈ all) (hv : its = vs.toArray) (hs : StrsAre vs xs)
    (k1 : m₀ (Str.ofString "parts") = some (.ref l₀)) (k2 : m₀ (Str.ofString "debt") = some (.int 0 t₀))
    (turn : ∀ ca pre y t post l ws ys n d td h tk own, xs = pre ++ y :: post → StrsAre ws ys → PlainP pre ys d → OwnOff own (l :: ca :: rest.map (·.1)) →
      Fr h₀ env.locals h (fun z => if z = x then some (.str y t) else kstB (fun z => m₀ z) [(Str.ofString "parts", .ref l), (Str.ofString "debt", .int (d : Int) td)] z) → News h₀ env.locals h ((l, lstN ws.toArray n) :: (ca, lstN vs.toArray nn) :: (rest ++ own)) →
      wpAny (model prog w) A (execs body env) (TEnd h₀ env.locals (TS (PLed ca vs nn rest) Pps x [] m₀ (fun c => StrsAre c.2.1 c.2.2.1 ∧ PlainP (pre ++ [y]) c.2.2.1 c.2.2.2.2.1)) own { s with heap := h, toks := tk } Q) E { s with heap := h, toks := tk })
    (done : ∀ l ws ys n d td (u : Str → Option Value) h tk, StrsAre ws ys → PlainP xs ys d → Fr h₀ env.locals h (fun z => if z = x then u z else kstB (fun z => m₀ z) [(Str.ofString "parts", .ref l), (Str.ofString "debt", .int (d : Int) td)] z) → News h₀ env.locals h ((l, lstN ws.toArray n) :: rest) → Q .next { s with heap := h, toks := tk }) :
    wpAny (model prog w) A (pyIter (.ref ca)) (fun it s₂ => LoopAtV prog w A h₀ env x body Q E it s₂) E s := by
  subst hv
  refine iter_listS (PLed ca vs nn rest) Pps [] (fun i c => StrsAre c.2.1 c.2.2.1 ∧ PlainP (xs.take i) c.2.2.1 c.2.2.2.2.1) (l₀, [], [], 0, 0, t₀) hh (fun c => List.mem_cons_of_mem _ List.mem_cons_self) F ?_ ?_ ⟨.nil, rfl, Nat.le_refl _, Nat.le_refl _⟩ ?_ ?_
  · intro p hp
    rcases List.mem_cons.mp hp with rfl | hp
    · exact N _ h2
    · rcases List.mem_cons.mp hp with rfl | hp
      · exact N _ h1
      · exact N _ (h3 _ hp)
  · intro p hp
    rcases List.mem_cons.mp hp with rfl | hp
    · exact k1
    · rw [List.mem_singleton.mp hp]; exact k2
  · rintro i v ⟨l, ws, ys, n, d, td⟩ u h tk own hv hoff ⟨hw', hp'⟩ F₁ N₁
    have hv' : vs[i]? = some v := by simpa using hv
    obtain ⟨y, t, rfl, hy⟩ := hs.item i v hv'
    have hsp : xs = xs.take i ++ y :: xs.drop (i + 1) := by
      have hlt : i < xs.length := (List.getElem?_eq_some_iff.mp hy).1
      have he : xs[i] = y := (List.getElem?_eq_some_iff.mp hy).2
      have h5 := List.take_append_drop i xs
      rw [List.drop_eq_getElem_cons hlt, he] at h5
      exact h5.symm
    have ht : xs.take (i + 1) = xs.take i ++ [y] := by rw [List.take_add_one, hy]; rfl
    rw [ht]
    exact turn ca _ y t _ l ws ys n d td h tk own hsp hw' hp' hoff F₁ N₁
  · rintro ⟨l, ws, ys, n, d, td⟩ u h tk ⟨hw', hp'⟩ F₁ N₁
    have hlen : vs.toArray.size = xs.length := by simp [hs.length]
    rw [hlen, List.take_length] at hp'
    exact done l ws ys n d td u h tk hw' hp' F₁ fun p hp => N₁ p (by
      rcases List.mem_cons.mp hp with rfl | hp
      · exact List.mem_cons_self
      · exact List.mem_cons_of_mem _ (List.mem_cons_of_mem _ hp))

theorem end_plain {l ca : Addr} {rest own all : List (Addr × Obj)} {vs ws : List Value} {ys : List Str} {n nn d : Nat} {td : Tok} {m₀ m' : Str → Option Value} {P' : List Str → Nat → Prop} {L : Addr} {s₁ : Shared} {f : Flow} {h' : Heap} {tk : Nat}
    (hf : f = .next ∨ f = .cont) (F : Fr h₀ L h' m') (N : News h₀ L h' all) (hi : StrsAre ws ys) (h1 : (l, lstN ws.toArray n) ∈ all) (h2 : (ca, lstN vs.toArray nn) ∈ all) (h3 : ∀ p ∈ rest, p ∈ all) (h4 : ∀ p ∈ own, p ∈ all) (ha : OwnOff own (l :: ca :: rest.map (·.1)))
    (k1 : m' (Str.ofString "parts") = some (.ref l)) (k2 : m' (Str.ofString "debt") = some (.int (d : Int) td))
    (hr : ∀ z, z ≠ x → z ≠ Str.ofString "parts" → z ≠ Str.ofString "debt" → m' z = m₀ z) (hp : P' ys d) :
    TEnd h₀ L (TS (PLed ca vs nn rest) Pps x [] m₀ (fun c => StrsAre c.2.1 c.2.2.1 ∧ P' c.2.2.1 c.2.2.2.2.1)) own s₁ Q f { s₁ with heap := h', toks := tk } :=
  TEnd.goS (l, ws, ys, n, d, td) hf F N (fun p hp => by
    rcases List.mem_cons.mp hp with rfl | hp
    · exact h1
    · rcases List.mem_cons.mp hp with rfl | hp
      · exact h2
      · exact h3 p hp) h4 ha (fun p hp => by
    rcases List.mem_cons.mp hp with rfl | hp
    · exact k1
    · rw [List.mem_singleton.mp hp]; exact k2) (fun z hz h _ => hr z hz (h _ List.mem_cons_self) (h _ (List.mem_cons_of_mem _ List.mem_cons_self))) ⟨hi, hp⟩
theorem own_new {own : List (Addr × Obj)} {l l' : Addr} {r : List Addr} (h : OwnOff own (l :: r)) (h2 : ∀ p ∈ own, p.1 ≠ l') : OwnOff own (l' :: r) := by
  intro p hp b hb
  rcases List.mem_cons.mp hb with rfl | hb
  · exact h2 p hp
  · exact h p hp b (List.mem_cons_of_mem _ hb)
end
section
variable {prog : Program} {w : World} {A : Around} {E : Value → Shared → Prop} {s : Shared} {h₀ h : Heap} {L D D' : Addr} {m : Str → Option Value} {news news' : List (Addr × Obj)} {ws vs : List Value} {ys xs : List Str} {n n' : Nat}
theorem ls_add {Q : Value → Shared → Prop} (F : Fr h₀ L s.heap m) (N : News h₀ L s.heap news) (h1 : (D, lstN vs.toArray n) ∈ news) (h2 : (D', lstN ws.toArray n') ∈ news) (hi : StrsAre vs xs) (hj : StrsAre ws ys) (hz : xs.length + ys.length ≤ 16000)
    (h : ∀ l' h', Fr h₀ L h' m → News h₀ L h' ((l', lstN (vs ++ ws).toArray 0) :: news) → (∀ p ∈ news, p.1 < l') → StrsAre (vs ++ ws) (xs ++ ys) → Q (.ref l') { s with heap := h' }) : wpAny (model prog w) A (binaryOp .Add (.ref D) (.ref D')) Q E s := by
  refine P.add_list (N _ h1).1 (N _ h2).1 ?_ (by rw [List.size_toArray, List.size_toArray, hi.length, hj.length, sizeLine_eq]; omega)
  have e : vs.toArray ++ ws.toArray = (vs ++ ws).toArray := by simp
  rw [e]
  exact h _ _ (F.push _) (News.push F N _) (fun p hp => Heap.lt_size (N p hp).1) (hi.append' hj)
theorem strs_rep {v : Value} {x : Str} (h : StrsAre [v] [x]) : ∀ d : Nat, StrsAre (List.replicate d [v]).flatten (List.replicate d x)
  | 0 => .nil
  | d + 1 => by
    rw [List.replicate_succ, List.flatten_cons, List.replicate_succ]
    exact h.append' (strs_rep h d)
theorem ls_mul {v : Value} {x : Str} {d : Nat} {u : Tok} {Q : Value → Shared → Prop} (F : Fr h₀ L s.heap m) (N : News h₀ L s.heap news) (h1 : (D, lstN [v].toArray n) ∈ news) (hi : StrsAre [v] [x]) (hz : d ≤ 256)
    (h : ∀ l' ws h', Fr h₀ L h' m → News h₀ L h' ((l', lstN ws.toArray 0) :: news) → (∀ p ∈ news, p.1 < l') → StrsAre ws (List.replicate d x) → Q (.ref l') { s with heap := h' }) : wpAny (model prog w) A (binaryOp .Mult (.ref D) (.int (d : Int) u)) Q E s := by
  refine KMa.mul F N (isList_of N h1) (by omega) (by omega) (by simp; omega) rfl fun l' h' F' N' hl => ?_
  exact h l' _ h' F' N' hl (by rw [Int.toNat_natCast]; exact strs_rep hi d)
end
theorem dbt {a b : Int} {t : Tok} (h : a = b) : some (Value.int a t) = some (Value.int b t) := by rw [h]
theorem map_rep (d : Nat) (x : Str) : (List.replicate d x).map tl = List.replicate d (tl x) := by simp
theorem weight_app (a b : List Str) : weight (a ++ b) = weight a + weight b := by simp [weight]; omega
theorem weight_rep (x : Str) : ∀ d : Nat, weight (List.replicate d x) = d * (x.length + 1)
  | 0 => by simp [weight]
  | d + 1 => by
    rw [List.replicate_succ, show x :: List.replicate d x = [x] ++ List.replicate d x from rfl, weight_app, weight_rep x d, Nat.succ_mul]
    simp [weight]; omega
theorem weight_rep2 (d : Nat) (ys : List Str) : weight (List.replicate d (Str.ofString "??") ++ ys) = d * 3 + weight ys := by
  rw [weight_app, weight_rep, qmqmS, len_S]; rfl
theorem plain_end {x : Str} {xs ys : List Str} {d : Nat} (h : PlainP xs.reverse ys d) (hs : xs.map tl = cut 47 (tl x)) : pfold (cut 47 (tl x)) = (ys.map tl, d) := by rw [← hs]; exact h.fold
theorem pparts_free {x : Str} {ys : List Str} {d : Nat} (h : pfold (cut 47 (tl x)) = (ys.map tl, d)) (hr : rootOf (tl x) = []) : (List.replicate d (Str.ofString "??") ++ ys).map tl = pparts (tl x) := by
  unfold pparts; rw [if_pos hr, h, List.map_append, map_rep, qmqmS, tl_S]
theorem pparts_root {x : Str} {ys : List Str} {d : Nat} (h : pfold (cut 47 (tl x)) = (ys.map tl, d)) (hr : ¬ rootOf (tl x) = []) : ys.map tl = pparts (tl x) := by
  unfold pparts; rw [if_neg hr, h]
theorem root_eq (l : List Nat) : (if l.take 2 = [47, 47] ∧ ¬ (l.drop 2).take 1 = [47] then [47, 47] else if l.take 1 = [47] then [47] else []) = rootOf l := by
  unfold rootOf
  match l with
  | [] => simp
  | [a] => by_cases h : a = 47 <;> simp [h]
  | [a, b] => by_cases h : a = 47 <;> by_cases h' : b = 47 <;> simp [h, h']
  | a :: b :: c :: r => by_cases h : a = 47 <;> by_cases h' : b = 47 <;> by_cases h'' : c = 47 <;> simp [h, h', h'']
theorem plainT_of {x : Str} {l : List (List Nat)} (h : l = pparts (tl x)) (hne : (((S (rootOf (tl x)) ++ S (joinT [47] l)).length : Nat) : Int) ≠ 0) : S (rootOf (tl x)) ++ S (joinT [47] l) = S (plainT (tl x)) := by
  subst h
  rw [S_append, len_S] at hne
  rw [S_append]; unfold plainT
  rw [if_neg]
  intro e; rw [e] at hne; exact hne rfl
theorem plainT_nil {x : Str} {l : List (List Nat)} (h : l = pparts (tl x)) (hne : (((S (rootOf (tl x)) ++ S (joinT [47] l)).length : Nat) : Int) = 0) : Str.ofString "?" = S (plainT (tl x)) := by
  subst h
  rw [S_append, len_S] at hne
  rw [qmS]; unfold plainT
  rw [if_pos]
  exact List.length_eq_zero_iff.mp (by omega)
theorem root_nil {l : List Nat} (h : (S l == Str.ofString "") = true) : l = [] := by rw [emptyS, beq_S, tl_S, tl_S] at h; simpa using h
theorem root_some {l : List Nat} (h : (S l == Str.ofString "") = false) : ¬ l = [] := by rw [emptyS, beq_S, tl_S, tl_S] at h; simpa using h
theorem slashslash : Str.ofString "//" = S [47, 47] := by decide +kernel
theorem weight_cons (y : Str) (ys : List Str) : weight (y :: ys) ≤ weight ys + y.length + 1 := by simp [weight]; omega
end Mine
end PlainPart
section C8Part
open PySem PySem.W PySem.Spec PySem.Calls PyProof.Rows
namespace Mine
local macro_rules | `(tactic| k_room) => `(tactic| ktr_room)
local macro_rules | `(tactic| walk_at "call builtin:str.join") => `(tactic| (k_here; (with_reducible show wpAny _ _ (call (Value.builtin _) [Value.str _ _, Value.ref _]) _ _ _); k_dflt (refine' ls_join ?k1 ?k2 ?k3 ?k4 ?k5 ?_; (case k1 => k_asm); (case k2 => k_mem); (case k3 => assumption); (case k4 => exact Nat.le_of_ble_eq_true rfl); (case k5 => assumption); k_whole); intro t' k'; (try simp only [txt_join, slash, emptyS, tl_S])))
local macro_rules | `(tactic| walk_at "binaryOp Add ref ref") => `(tactic| (k_here; k_dflt (refine' ls_add ?k1 ?k2 ?k3 ?k4 ?k5 ?k6 ?z ?_; (case k1 => k_asm); (case k2 => k_asm); (case k3 => walk_at "mem_list"); (case k4 => walk_at "mem_list"); (case k5 => first | assumption | exact .cons _ _ .nil); (case k6 => assumption); (case z => first | omega | (simp only [List.length_cons, List.length_nil]; omega)); k_whole); intro l' h' F' N' lt' S'; (try k_lt lt'); (try k_sweep)))
local macro_rules | `(tactic| walk_at "binaryOp Mult ref int") => `(tactic| (k_here; k_dflt (refine' ls_mul ?k1 ?k2 ?k3 ?k5 ?z ?_; (case k1 => k_asm); (case k2 => k_asm); (case k3 => walk_at "mem_list"); (case k5 => exact .cons _ _ .nil); (case z => omega); k_whole); intro l' w' h' F' N' lt' S'; (try k_lt lt'); (try k_sweep)))
local macro_rules | `(tactic| walk_at "mem_list") => `(tactic| (repeat (first | exact List.mem_cons_self | refine List.mem_cons_of_mem _ ?_)))
local macro_rules | `(tactic| walk_at "exec For") => `(tactic| (k_here; refine halt ?_))
set_option maxRecDepth 100000 in
set_option maxHeartbeats 4000000 in
theorem plain_ct (w : World) (x : Str) (t : Tok) (hx : x.length ≤ 200) : Ct w 157 [.str x t] 10 300 (fun _ => True)
    (fun r nx => nx = [] ∧ ∃ t', r = .str (S (plainT (tl x))) t') := by
  w_top off
  unfold Ct
  k_fill
  intro p loose mean mg mb dp un gd cn cs a ccd cl outer A₀ base h₀ L m news s Q E B F X N T hk hd hu hpre hret
  obtain ⟨knd, nms, ig, ic, mo⟩ := cs
  dsimp only at hk
  subst hk
  refine wpAny_call ?_
  k_dflt k_enter
  (rename Fr _ _ _ _ => F1)
  (rename News _ _ _ _ => N1)
  refine cut2 (Str.ofString "root") (fun v => ∃ t, v = .str (S (rootOf (tl x))) t) F1 N1 ?_ ?_
  · k_steps
    all_goals try dsimp only
    all_goals refine MidR.intro _ (by k_asm) (by k_asm) (fun p hp => hp) (by first | rfl | exact twice) ⟨_, congrArg (fun y => Value.str y _) ?_⟩
    all_goals simp only [slice_n1, slice_n2, slice_23, slash, slashslash, beq_S, bne_S, tl_S, decide_eq_true_eq, decide_eq_false_iff_not, ne_eq, Decidable.not_not, emptyS] at *
    all_goals rw [← root_eq]
    all_goals simp only [*, not_true_eq_false, not_false_eq_true, and_true, and_false, true_and, false_and, if_true, if_false]


  · rintro h tk v ⟨tr, rfl⟩ F2 N2
    clear F1 N1
    k_steps
    (rename Fr _ _ _ _ => F3)
    unfold Halt
    with_unfolding_all refine' For_invVF F3 ?k1 ?k2 ?_ ?k3
    case k1 => exact rfl
    case k2 => exact rfl
    case k3 => intro _; rfl
    k_steps
    (rename Fr _ _ _ _ => F4)
    (rename News _ _ _ _ => N4)
    (rename StrsAre _ _ => S4)
    (rename (List.map _ _ = Txt.split x _) => E4)
    rw [E4] at S4
    have hsp := norm_cut (l := tl x) (by rw [S_tl])
    have hwt := weight_split hsp
    refine for_plain (rest := news) (its := slicePick _ none none (some (-1))) rfl F4 N4 (by k_mem) (by k_mem) (by intro p hp; (repeat (first | exact hp | refine List.mem_cons_of_mem _ ?_))) (by rw [krv_pick]) (strs_reverse S4) rfl rfl ?_ ?_
    · clear F4 N4
      intro ca pre y ty post l ws ys n d td h tk own hxs hws hP hoff F5 N5
      have hpl : pre.length + 1 ≤ 201 := by
        have := congrArg List.length hxs
        have h2 := weight_len (Txt.split x (Str.ofString "/"))
        simp only [List.length_reverse, List.length_append, List.length_cons] at this
        rw [len_tl] at hx; omega
      have hyl : ys.length ≤ 1000 := by
        have h1 := weight_len ys
        have h2 := hP.2.1
        have h3 : weight pre ≤ weight (Txt.split x (Str.ofString "/")).reverse := by rw [hxs]; exact Nat.le_trans (Nat.le_trans (Nat.le_add_right _ _) (Nat.le_succ _)) weight_pre
        have h4 : weight (Txt.split x (Str.ofString "/")).reverse = weight (Txt.split x (Str.ofString "/")) := by simp [weight, List.sum_reverse]
        rw [len_tl] at hx; omega
      k_steps
      all_goals try dsimp only
      · refine end_plain (d := d + 1) (.inl rfl) (by k_asm) (by k_asm) hws (by (repeat (first | exact List.mem_cons_self | refine List.mem_cons_of_mem _ ?_))) (by (repeat (first | exact List.mem_cons_self | refine List.mem_cons_of_mem _ ?_))) (by intro p hp; (repeat (first | exact hp | exact List.mem_append_left _ hp | exact List.mem_append_right _ hp | refine List.mem_cons_of_mem _ ?_))) (by intro p hp; (repeat (first | exact hp | exact List.mem_append_left _ hp | exact List.mem_append_right _ hp | refine List.mem_cons_of_mem _ ?_))) hoff rfl (dbt (by omega)) (fun z h1 h2 h3 => (if_neg h3).trans ((if_neg h1).trans ((if_neg h2).trans (if_neg h3)))) (hP.step (pp_up ?_) (by omega) (by omega))
        simp only [beq_S, bne_S, qmqmS, emptyS, qmS, tl_S, decide_eq_true_eq] at *
        assumption
      · refine end_plain (d := d - 1) (.inl rfl) (by k_asm) (by k_asm) hws (by (repeat (first | exact List.mem_cons_self | refine List.mem_cons_of_mem _ ?_))) (by (repeat (first | exact List.mem_cons_self | refine List.mem_cons_of_mem _ ?_))) (by intro p hp; (repeat (first | exact hp | exact List.mem_append_left _ hp | exact List.mem_append_right _ hp | refine List.mem_cons_of_mem _ ?_))) (by intro p hp; (repeat (first | exact hp | exact List.mem_append_left _ hp | exact List.mem_append_right _ hp | refine List.mem_cons_of_mem _ ?_))) hoff rfl (dbt (by omega)) (fun z h1 h2 h3 => (if_neg h3).trans ((if_neg h1).trans ((if_neg h2).trans (if_neg h3)))) (hP.step (pp_pay ?_ ?_ ?_ (by omega)) (by omega) (by omega))
        all_goals simp only [beq_S, bne_S, qmqmS, emptyS, qmS, tl_S, decide_eq_true_eq, decide_eq_false_iff_not, ne_eq] at *
        all_goals assumption
      · (rename _ ∧ _ ∧ _ ∧ AllLt _ _ => lt9)
        refine end_plain (d := d) (.inl rfl) (by k_asm) (by k_asm) (by assumption) (by (repeat (first | exact List.mem_cons_self | refine List.mem_cons_of_mem _ ?_))) (by (repeat (first | exact List.mem_cons_self | refine List.mem_cons_of_mem _ ?_))) (by intro p hp; (repeat (first | exact hp | exact List.mem_append_left _ hp | exact List.mem_append_right _ hp | refine List.mem_cons_of_mem _ ?_))) (by intro p hp; (repeat (first | exact hp | exact List.mem_append_left _ hp | exact List.mem_append_right _ hp | refine List.mem_cons_of_mem _ ?_))) (own_new hoff fun p hp => ne_allLt lt9.2.2.2 p (List.mem_append_right _ hp)) rfl rfl (fun z h1 h2 h3 => (if_neg h2).trans ((if_neg h1).trans ((if_neg h2).trans (if_neg h3)))) (hP.step (pp_add ?_ ?_ ?_ (by omega)) (weight_cons _ _) (by omega))
        all_goals simp only [beq_S, bne_S, qmqmS, emptyS, qmS, tl_S, decide_eq_true_eq, decide_eq_false_iff_not, ne_eq] at *
        all_goals assumption
      · refine end_plain (d := d) (.inl rfl) (by k_asm) (by k_asm) hws (by (repeat (first | exact List.mem_cons_self | refine List.mem_cons_of_mem _ ?_))) (by (repeat (first | exact List.mem_cons_self | refine List.mem_cons_of_mem _ ?_))) (by intro p hp; (repeat (first | exact hp | exact List.mem_append_left _ hp | exact List.mem_append_right _ hp | refine List.mem_cons_of_mem _ ?_))) (by intro p hp; (repeat (first | exact hp | exact List.mem_append_left _ hp | exact List.mem_append_right _ hp | refine List.mem_cons_of_mem _ ?_))) hoff rfl rfl (fun z h1 h2 h3 => (if_neg h1).trans ((if_neg h2).trans (if_neg h3))) (hP.step (pp_skip (.inr ?_)) (by omega) (by omega))
        simp only [beq_S, bne_S, qmqmS, emptyS, qmS, tl_S, decide_eq_true_eq, decide_eq_false_iff_not, ne_eq, Decidable.not_not] at *
        assumption
      · refine end_plain (d := d) (.inl rfl) (by k_asm) (by k_asm) hws (by (repeat (first | exact List.mem_cons_self | refine List.mem_cons_of_mem _ ?_))) (by (repeat (first | exact List.mem_cons_self | refine List.mem_cons_of_mem _ ?_))) (by intro p hp; (repeat (first | exact hp | exact List.mem_append_left _ hp | exact List.mem_append_right _ hp | refine List.mem_cons_of_mem _ ?_))) (by intro p hp; (repeat (first | exact hp | exact List.mem_append_left _ hp | exact List.mem_append_right _ hp | refine List.mem_cons_of_mem _ ?_))) hoff rfl rfl (fun z h1 h2 h3 => (if_neg h1).trans ((if_neg h2).trans (if_neg h3))) (hP.step (pp_skip (.inl ?_)) (by omega) (by omega))
        simp only [beq_S, bne_S, qmqmS, emptyS, qmS, tl_S, decide_eq_true_eq, decide_eq_false_iff_not, ne_eq, Decidable.not_not] at *
        assumption
    · intro l ws ys n d td u h tk hws hP F5 N5
      have hyl : weight ys ≤ 201 := by
        have h2 := hP.2.1
        have h4 : weight (Txt.split x (Str.ofString "/")).reverse = weight (Txt.split x (Str.ofString "/")) := by simp [weight, List.sum_reverse]
        rw [len_tl] at hx; omega
      have hd2 : d ≤ 201 := by
        have h1 := hP.2.2
        rw [List.length_reverse] at h1
        have h2 := weight_len (Txt.split x (Str.ofString "/"))
        rw [len_tl] at hx; omega
      have hy2 : ys.length ≤ 201 := Nat.le_trans (weight_len ys) hyl
      have hr2 : (List.replicate d (Str.ofString "??")).length ≤ 201 := by simpa using hd2
      have hok1 : (ys.map (·.length)).sum + ys.length ≤ 1000000 := by unfold weight at hyl; omega
      have hw2 := weight_rep2 d ys
      have hok2 : ((List.replicate d (Str.ofString "??") ++ ys).map (·.length)).sum + (List.replicate d (Str.ofString "??") ++ ys).length ≤ 1000000 := by unfold weight at hw2 hyl; omega
      have hj1 : (S (joinT [47] (ys.map tl))).length ≤ 1000 := by rw [len_S]; exact Nat.le_trans (join_le_weight _ _) (by omega)
      have hj2 : (S (joinT [47] ((List.replicate d (Str.ofString "??") ++ ys).map tl))).length ≤ 1000 := by rw [len_S]; exact Nat.le_trans (join_le_weight _ _) (by omega)
      have hr1 := root_len (tl x)
      have hpf := plain_end hP hsp
      dsimp only
      k_steps
      all_goals
        refine ret_drop hret (by k_asm) (by assumption) (by (intro p hp; (repeat (first | exact hp | refine List.mem_cons_of_mem _ ?_)))) ?_
        refine ⟨rfl, _, congrArg (fun y => Value.str y _) ?_⟩
      · exact plainT_of (pparts_free hpf (root_nil (by assumption))) (by assumption)
      · exact plainT_nil (pparts_free hpf (root_nil (by assumption))) (by assumption)
      · exact plainT_of (pparts_root hpf (root_some (by assumption))) (by assumption)
      · exact plainT_nil (pparts_root hpf (root_some (by assumption))) (by assumption)
end Mine
end C8Part
section DrawnPart
open PySem PySem.W PySem.Spec PySem.Calls PyProof.Rows
namespace Mine
/-- as Ct, asked of the base too -/
def CtH (w : World) (f : Addr) (vs : List Value) (d u : Nat) (PreH : Heap → Prop) (Out : Value → List (Addr × Obj) → Prop) : Prop :=
  ∀ (p : Program) (loose : List Str) (mean : ExcName → Option Value) (mg mb : Str → Option Value)
    (dp un : Nat) (gd : Option (List Code)) (cn : Str) (cs : Scope) (a : Addr) (ccd : Value) (cl : List (Str × Addr)) (outer : List Env) (A₀ : Around)
    (base h₀ : Heap) (L : Addr) (m : Str → Option Value) (news : List (Addr × Obj)) (s : Shared) (Q E : Value → Shared → Prop),
    Below A₀ base outer h₀ → Fr h₀ L s.heap m → (Mine.hd.heap_39 w.params).In h₀ → News h₀ L s.heap news → Top p loose mean mg mb h₀ → cs.kind = .function →
    dp + d < recursionLimit → un + u < cLine → PreH h₀ →
    (∀ r nx h' tk', Fr h₀ L h' m → News h₀ L h' (nx ++ news) → (∀ q ∈ news, ∀ p ∈ nx, q.1 < p.1) → Out r nx → Q r { s with heap := h', toks := tk' }) →
    wpAny (model PySem.Challenge.rw_ik0027_01.row.prog w) (ktrTop dp un gd cn cs L a ccd cl outer) (call (.ref f) vs) Q E s
theorem CtH.use {w : World} {f : Addr} {vs : List Value} {d u : Nat} {PreH : Heap → Prop} {Out : Value → List (Addr × Obj) → Prop} (c : CtH w f vs d u PreH Out)
    {p : Program} {loose : List Str} {mean : ExcName → Option Value} {mg mb : Str → Option Value}
    {dp un : Nat} {gd : Option (List Code)} {cn : Str} {cs : Scope} {a : Addr} {ccd : Value} {cl : List (Str × Addr)} {outer : List Env} {A₀ : Around}
    {base h₀ : Heap} {L : Addr} {m : Str → Option Value} {news : List (Addr × Obj)} {s : Shared} {Q E : Value → Shared → Prop}
    (B : Below A₀ base outer h₀) (F : Fr h₀ L s.heap m) (X : (Mine.hd.heap_39 w.params).In h₀) (N : News h₀ L s.heap news) (T : Top p loose mean mg mb h₀) (hk : cs.kind = .function)
    (hd : dp + d < recursionLimit) (hu : un + u < cLine) (hp : PreH h₀)
    (ret : ∀ r nx h' tk', Fr h₀ L h' m → News h₀ L h' (nx ++ news) → (∀ q ∈ news, ∀ p ∈ nx, q.1 < p.1) → Out r nx → Q r { s with heap := h', toks := tk' }) :
    wpAny (model PySem.Challenge.rw_ik0027_01.row.prog w) (ktrTop dp un gd cn cs L a ccd cl outer) (call (.ref f) vs) Q E s :=
  c p loose mean mg mb dp un gd cn cs a ccd cl outer A₀ base h₀ L m news s Q E B F X N T hk hd hu hp ret

/-- texts of free signs, not too long -/
def Good (b : Nat) (ys : List Str) : Prop := ∀ y ∈ ys, AllFree (tl y) ∧ y.length ≤ b
/-- a list of texts that stands on the ledger -/
structure Tx where
  ws : List Value
  ys : List Str
  n : Nat
abbrev Tx.o (c : Tx) : Obj := lstN c.ws.toArray c.n
def Tx.ok (c : Tx) (b k : Nat) : Prop := StrsAre c.ws c.ys ∧ Good b c.ys ∧ c.ys ≠ [] ∧ c.ys.length ≤ k
abbrev DSt : List Str := [Str.ofString "rest", Str.ofString "kind", Str.ofString "free"]
abbrev DLed (R M D ca : Addr) (is : List Value) (nn : Nat) (rest : List (Addr × Obj)) (c : Tx × Tx × Tx) : List (Addr × Obj) := (D, c.2.2.o) :: (M, c.2.1.o) :: (R, c.1.o) :: (ca, lstN is.toArray nn) :: rest
def DP (i : Nat) (c : Tx × Tx × Tx) : Prop := c.1.ok (3 + 3 * i) (2 + i) ∧ c.2.1.ok (3 + 3 * i) (1 + i) ∧ c.2.2.ok (11 + 3 * i) (1 + i)
section
variable {prog : Program} {w : World} {A : Around} {E : Value → Shared → Prop} {s : Shared} {env : Env} {h₀ : Heap} {x : Str} {body : List Stmt} {Q : Flow → Shared → Prop}
theorem for_drawn {ca R M D : Addr} {rest all : List (Addr × Obj)} {its : Array Value} {is : List Value} {ks : List Int} {nn : Nat} {m₀ : Str → Option Value} {r0 m0 d0 : Array Value}
    (cr cm cd : Tx) (hh : A.handled = none) (F : Fr h₀ env.locals s.heap m₀) (N : News h₀ env.locals s.heap all) (h1 : (ca, lstN its nn) ∈ all) (h2 : (R, lstN r0 0) ∈ all) (h3 : (M, lstN m0 0) ∈ all) (h4 : (D, lstN d0 0) ∈ all) (h5 : ∀ p ∈ rest, p ∈ all) (hv : its = is.toArray) (hs : IntsAre is ks) (hk : ks.length ≤ 10) (hca : R < ca ∧ M < ca ∧ D < ca)
    (e2 : lstN r0 0 = cr.o) (e3 : lstN m0 0 = cm.o) (e4 : lstN d0 0 = cd.o) (hp : DP 0 (cr, cm, cd))
    (turn : ∀ (ca : Addr) i k t (wr wm wd : List Value) (yr ym yd : List Str) (nr nm nd : Nat) (u : Str → Option Value) h tk own, R < ca ∧ M < ca ∧ D < ca → i < 10 → Tx.ok ⟨wr, yr, nr⟩ (3 + 3 * i) (2 + i) → Tx.ok ⟨wm, ym, nm⟩ (3 + 3 * i) (1 + i) → Tx.ok ⟨wd, yd, nd⟩ (11 + 3 * i) (1 + i) → OwnOff own (D :: M :: R :: ca :: rest.map (·.1)) →
      Fr h₀ env.locals h (fun z => if z = x then some (.int k t) else kstB (fun z => if DSt.contains z then u z else m₀ z) [] z) → News h₀ env.locals h ((D, lstN wd.toArray nd) :: (M, lstN wm.toArray nm) :: (R, lstN wr.toArray nr) :: (ca, lstN is.toArray nn) :: (rest ++ own)) →
      wpAny (model prog w) A (execs body env) (TEnd h₀ env.locals (TS (DLed R M D ca is nn rest) (fun _ => []) x DSt m₀ (DP (i + 1))) own { s with heap := h, toks := tk } Q) E { s with heap := h, toks := tk })
    (done : ∀ (wr wm wd : List Value) (yr ym yd : List Str) (nr nm nd : Nat) (u u' : Str → Option Value) h tk, Tx.ok ⟨wr, yr, nr⟩ 33 12 → Tx.ok ⟨wm, ym, nm⟩ 33 11 → Tx.ok ⟨wd, yd, nd⟩ 41 11 →
      Fr h₀ env.locals h (fun z => if z = x then u' z else kstB (fun z => if DSt.contains z then u z else m₀ z) [] z) → News h₀ env.locals h ((D, lstN wd.toArray nd) :: (M, lstN wm.toArray nm) :: (R, lstN wr.toArray nr) :: rest) → Q .next { s with heap := h, toks := tk }) :
    wpAny (model prog w) A (pyIter (.ref ca)) (fun it s₂ => LoopAtV prog w A h₀ env x body Q E it s₂) E s := by
  subst hv
  have hlen : is.toArray.size = ks.length := by simp [hs.length]
  refine iter_listS (DLed R M D ca is nn rest) (fun _ => []) DSt DP (cr, cm, cd) hh (fun c => (by (repeat (first | exact List.mem_cons_self | refine List.mem_cons_of_mem _ ?_)))) F ?_ (fun _ h => nomatch h) hp ?_ ?_
  · intro p hp
    rcases List.mem_cons.mp hp with rfl | hp
    · exact e4 ▸ N _ h4
    · rcases List.mem_cons.mp hp with rfl | hp
      · exact e3 ▸ N _ h3
      · rcases List.mem_cons.mp hp with rfl | hp
        · exact e2 ▸ N _ h2
        · rcases List.mem_cons.mp hp with rfl | hp
          · exact N _ h1
          · exact N _ (h5 _ hp)
  · rintro i v ⟨⟨wr, yr, nr⟩, ⟨wm, ym, nm⟩, ⟨wd, yd, nd⟩⟩ u h tk own hv hoff ⟨p1, p2, p3⟩ F₁ N₁
    have hv' : is[i]? = some v := by simpa using hv
    have hi : i < ks.length := by rw [← hs.length]; exact (List.getElem?_eq_some_iff.mp hv').1
    obtain ⟨t, ht⟩ := hs.get i ks[i] (List.getElem?_eq_getElem hi)
    rw [ht] at hv'; cases hv'
    exact turn ca i _ t wr wm wd yr ym yd nr nm nd u h tk own hca (by omega) p1 p2 p3 hoff F₁ N₁
  · rintro ⟨⟨wr, yr, nr⟩, ⟨wm, ym, nm⟩, ⟨wd, yd, nd⟩⟩ u h tk ⟨p1, p2, p3⟩ F₁ N₁
    have up : ∀ {c : Tx} {b b' k k' : Nat}, b ≤ b' → k ≤ k' → c.ok b k → c.ok b' k' := fun hb hk h => ⟨h.1, fun y hy => ⟨(h.2.1 y hy).1, Nat.le_trans (h.2.1 y hy).2 hb⟩, h.2.2.1, Nat.le_trans h.2.2.2 hk⟩
    exact done wr wm wd yr ym yd nr nm nd _ _ h tk (up (by omega) (by omega) p1) (up (by omega) (by omega) p2) (up (by omega) (by omega) p3) F₁ fun p hp => N₁ p (by
      rcases List.mem_cons.mp hp with rfl | hp
      · exact (by (repeat (first | exact List.mem_cons_self | refine List.mem_cons_of_mem _ ?_)))
      · rcases List.mem_cons.mp hp with rfl | hp
        · exact (by (repeat (first | exact List.mem_cons_self | refine List.mem_cons_of_mem _ ?_)))
        · rcases List.mem_cons.mp hp with rfl | hp
          · exact (by (repeat (first | exact List.mem_cons_self | refine List.mem_cons_of_mem _ ?_)))
          · exact List.mem_cons_of_mem _ (List.mem_cons_of_mem _ (List.mem_cons_of_mem _ (List.mem_cons_of_mem _ hp))))
end
end Mine
end DrawnPart
section RepPart
open PySem PySem.W PySem.Spec PySem.Calls PyProof.Rows
namespace Mine
theorem rep_S (n d e : Nat) : Txt.replace (S [n]) (S [d]) (S [e]) = S [if n = d then e else n] := by
  apply tl_inj
  have h := StrLaws.replace_one (S [n]) (S [e]) d
  rw [show (⟨#[d]⟩ : Str) = S [d] from rfl] at h
  rw [h, tl_join, tl_S, split_cut _ _ (List.length_pos_iff.mp (split_pos _ _)), tl_S, tl_S]
  by_cases hn : n = d
  · subst hn; simp [cut, joinT]
  · simp [cut, hn, joinT]
section
variable {prog : Program} {w : World} {A : Around} {E : Value → Shared → Prop} {s : Shared} {t u v : Tok} {Q : Value → Shared → Prop}
theorem starS : Str.ofString "*" = S [42] := by decide +kernel
theorem brkS : Str.ofString "[" = S [91] := by decide +kernel
theorem aS : Str.ofString "a" = S [97] := by decide +kernel
open Builtin Builtin.Str in
theorem replaceK {x y z : Str} (hu : u ≠ 0) (hv : v ≠ 0) (huv : u ≠ v) (hyz : (y == z) = false) (hb : x.length + (x.length + 1) * z.length ≤ 16777216)
    (hq : ∀ t' k, s.toks ≤ k → Q (.str (Txt.replace x y z) t') { s with toks := k }) : wpAny (model prog w) A (call (.builtin "str.replace") [.str x t, .str y u, .str z v]) Q E s := by
  have e : (2 : Nat) ^ 24 = 16777216 := by decide
  have hl : tooLong (x.length + (occurrences x y 0 x.length (x.length + 1)).length * z.length) = false := by
    have h1 := StrLaws.occ_length_le x y 0 x.length (x.length + 1)
    have h2 : (occurrences x y 0 x.length (x.length + 1)).length * z.length ≤ (x.length + 1) * z.length := Nat.mul_le_mul_right _ h1
    unfold tooLong sizeLine
    exact decide_eq_false (by omega)
  refine call_gives F.slot_str_replace (typeIs_str _ _ _) F.entry_str_replace (F.args_str_replace_3 _ _ _)
    (gives_str_replace x y z t u v fun _ => ⟨by simp [hu, hv], by simp [huv], hyz, hl⟩) ?_
  have hq' := hq
  unfold Txt.replace at hq'
  cases hc : ((occurrences x y 0 x.length (x.length + 1)).isEmpty || (y.length == 0 && z.length == 0))
  · rw [hc] at hq'
    simp only [Bool.false_eq_true, if_false] at hq' ⊢
    exact ⟨fits_replaced y hb, hq' _ _ (Nat.le_succ _)⟩
  · rw [hc] at hq'
    simp only [if_true] at hq' ⊢
    exact hq' t s.toks (Nat.le_refl _)
theorem rep_star {a : Int} (hs : s.toks ≠ 0) (hu : u ≠ 0) (hv : v ≠ 0) (huv : u ≠ v) (h : ∀ c t' k, 42 < c → c < 55296 → k ≠ 0 → Q (.str (S [c]) t') { s with toks := k }) :
    wpAny (model prog w) A (call (.builtin "str.replace") [.str ⟨#[(42 + Int.fmod a 55254).toNat]⟩ t, .str (Str.ofString "*") u, .str (Str.ofString "a") v]) Q E s := by
  have h1 : 0 ≤ Int.fmod a 55254 := Int.fmod_nonneg_of_pos a (by decide)
  have h2 : Int.fmod a 55254 < 55254 := Int.fmod_lt_of_pos a (by decide)
  generalize Int.fmod a 55254 = r at *
  rw [starS, aS]
  refine replaceK hu hv huv (by decide +kernel) (by rw [len_S]; simp [Str.length]) fun t' k hk => ?_
  rw [show (⟨#[(42 + r).toNat]⟩ : Str) = S [(42 + r).toNat] from rfl, rep_S]
  refine h _ _ _ ?_ ?_ (Nat.ne_of_gt (Nat.lt_of_lt_of_le (Nat.pos_of_ne_zero hs) hk)) <;> split <;> omega
theorem rep_brk {c : Nat} (h1 : 42 < c) (h2 : c < 55296) (hu : u ≠ 0) (hv : v ≠ 0) (huv : u ≠ v) (h : ∀ c t' k, Free c → Q (.str (S [c]) t') { s with toks := k }) :
    wpAny (model prog w) A (call (.builtin "str.replace") [.str (S [c]) t, .str (Str.ofString "[") u, .str (Str.ofString "a") v]) Q E s := by
  rw [brkS, aS]
  refine SC.replaceW hu hv huv (by decide +kernel) (by simp) (by simp) fun t' k => ?_
  rw [rep_S]
  refine h _ _ _ ⟨?_, ?_, ?_⟩ <;> split <;> omega
end
end Mine
end RepPart
section DrawnCutPart
open PySem PySem.W PySem.Spec PySem.Calls PyProof.Rows
namespace Mine
def MidN (Mid : Shared → Prop) (f : Flow) (s' : Shared) : Prop := f = .next ∧ Mid s'
section
variable {prog : Program} {w : World} {A : Around} {E : Value → Shared → Prop} {s : Shared} {env : Env} {h₀ : Heap} {L : Addr} {m₀ : Str → Option Value} {led : List (Addr × Obj)} {s1 s2 : Stmt} {b : List Stmt} {Q : Flow → Shared → Prop}
theorem cutP2 {Mid : Shared → Prop} (h1 : wpAny (model prog w) A (execs [s1, s2] env) (MidN Mid) E s) (h2 : ∀ s', Mid s' → wpAny (model prog w) A (execs b env) Q E s') :
    wpAny (model prog w) A (execs (s1 :: s2 :: b) env) Q E s := by
  have e : execs (s1 :: s2 :: b) env = (execs [s1, s2] env >>= fun f => match f with | .next => execs b env | f => pure f) := by
    rw [execs_cons, execs_cons, execs_cons, bind_assoc]
    congr 1; funext f
    cases f with
    | next =>
      simp only [execs_cons, bind_assoc]
      congr 1; funext f
      cases f <;> simp [execs_nil]
    | _ => simp
  rw [e]
  refine wpAny_bind (wpAny_mono h1 (fun f s' q => ?_) fun _ _ e => e)
  obtain ⟨rfl, q⟩ := q
  exact h2 s' q
theorem cutP1 {Mid : Shared → Prop} (h1 : wpAny (model prog w) A (execs [s1] env) (MidN Mid) E s) (h2 : ∀ s', Mid s' → wpAny (model prog w) A (execs b env) Q E s') :
    wpAny (model prog w) A (execs (s1 :: b) env) Q E s := by
  have e : execs (s1 :: b) env = (execs [s1] env >>= fun f => match f with | .next => execs b env | f => pure f) := by
    rw [execs_cons, execs_cons, bind_assoc]
    congr 1; funext f
    cases f <;> simp [execs_nil]
  rw [e]
  refine wpAny_bind (wpAny_mono h1 (fun f s' q => ?_) fun _ _ e => e)
  obtain ⟨rfl, q⟩ := q
  exact h2 s' q

def MK (h₀ : Heap) (L : Addr) (m₀ : Str → Option Value) (led : List (Addr × Obj)) (s : Shared) (s' : Shared) : Prop :=
  ∃ h tk c t1 k t2 v3, s' = { s with heap := h, toks := tk } ∧ Free c ∧ 0 ≤ k ∧ k < 16 ∧ News h₀ L h led ∧
    Fr h₀ L h (fun y => if y = Str.ofString "free" then some (.str (S [c]) t1) else if y = Str.ofString "kind" then some (.int k t2) else if y = Str.ofString "rest" then some v3 else m₀ y)
theorem MK.intro {all : List (Addr × Obj)} {h : Heap} {tk c : Nat} {t1 t2 : Tok} {k : Int} {v3 : Value} (hc : Free c) (h1 : 0 ≤ k) (h2 : k < 16)
    (F : Fr h₀ L h (fun y => if y = Str.ofString "free" then some (.str (S [c]) t1) else if y = Str.ofString "kind" then some (.int k t2) else if y = Str.ofString "rest" then some v3 else m₀ y))
    (N : News h₀ L h all) (hs : ∀ p ∈ led, p ∈ all) : MidN (MK h₀ L m₀ led s) .next { s with heap := h, toks := tk } :=
  ⟨rfl, h, tk, c, t1, k, t2, v3, rfl, hc, h1, h2, fun p hp => N p (hs p hp), F⟩
theorem cut_kind (F : Fr h₀ L s.heap m₀) (N : News h₀ L s.heap led) (h1 : wpAny (model prog w) A (execs [s1, s2] env) (MidN (MK h₀ L m₀ led s)) E s)
    (h2 : ∀ h tk c t1 k t2 v3, Free c → 0 ≤ k → k < 16 → News h₀ L h led →
      Fr h₀ L h (fun y => if y = Str.ofString "free" then some (.str (S [c]) t1) else if y = Str.ofString "kind" then some (.int k t2) else if y = Str.ofString "rest" then some v3 else m₀ y) → wpAny (model prog w) A (execs b env) Q E { s with heap := h, toks := tk }) :
    wpAny (model prog w) A (execs (s1 :: s2 :: b) env) Q E s :=
  cutP2 h1 fun s' q => by
    obtain ⟨h, tk, c, t1, k, t2, v3, rfl, hc, h3, h4, N', F'⟩ := q
    exact h2 h tk c t1 k t2 v3 hc h3 h4 N' F'

/-- after the branch: the three lists are still good -/
def MI (h₀ : Heap) (L : Addr) (m₀ : Str → Option Value) (R M D : Addr) (tail : List (Addr × Obj)) (i : Nat) (s : Shared) (s' : Shared) : Prop :=
  ∃ h tk, s' = { s with heap := h, toks := tk } ∧ ∃ (wr wm wd : List Value) (yr ym yd : List Str) (nr nm nd : Nat), Tx.ok ⟨wr, yr, nr⟩ (3 + 3 * i) (3 + i) ∧ Tx.ok ⟨wm, ym, nm⟩ (3 + 3 * i) (2 + i) ∧ Tx.ok ⟨wd, yd, nd⟩ (11 + 3 * i) (2 + i) ∧
    Fr h₀ L h m₀ ∧ News h₀ L h ((D, lstN wd.toArray nd) :: (M, lstN wm.toArray nm) :: (R, lstN wr.toArray nr) :: tail)
theorem MI.intro {R M D : Addr} {tail all : List (Addr × Obj)} {i : Nat} {h : Heap} {tk : Nat} {wr wm wd : List Value} {yr ym yd : List Str} {nr nm nd : Nat}
    (F : Fr h₀ L h m₀) (N : News h₀ L h all) (h1 : (D, lstN wd.toArray nd) ∈ all) (h2 : (M, lstN wm.toArray nm) ∈ all) (h3 : (R, lstN wr.toArray nr) ∈ all) (h4 : ∀ p ∈ tail, p ∈ all)
    (o1 : Tx.ok ⟨wr, yr, nr⟩ (3 + 3 * i) (3 + i)) (o2 : Tx.ok ⟨wm, ym, nm⟩ (3 + 3 * i) (2 + i)) (o3 : Tx.ok ⟨wd, yd, nd⟩ (11 + 3 * i) (2 + i)) : MidN (MI h₀ L m₀ R M D tail i s) .next { s with heap := h, toks := tk } :=
  ⟨rfl, h, tk, rfl, wr, wm, wd, yr, ym, yd, nr, nm, nd, o1, o2, o3, F, fun p hp => by
    rcases List.mem_cons.mp hp with rfl | hp
    · exact N _ h1
    · rcases List.mem_cons.mp hp with rfl | hp
      · exact N _ h2
      · rcases List.mem_cons.mp hp with rfl | hp
        · exact N _ h3
        · exact N _ (h4 p hp)⟩
theorem cut_if {R M D : Addr} {tail : List (Addr × Obj)} {wr wm wd : List Value} {nr nm nd : Nat} (i : Nat) (F : Fr h₀ L s.heap m₀) (N : News h₀ L s.heap ((D, lstN wd.toArray nd) :: (M, lstN wm.toArray nm) :: (R, lstN wr.toArray nr) :: tail)) (h1 : wpAny (model prog w) A (execs [s1] env) (MidN (MI h₀ L m₀ R M D tail i s)) E s)
    (h2 : ∀ h tk (wr wm wd : List Value) (yr ym yd : List Str) (nr nm nd : Nat), Tx.ok ⟨wr, yr, nr⟩ (3 + 3 * i) (3 + i) → Tx.ok ⟨wm, ym, nm⟩ (3 + 3 * i) (2 + i) → Tx.ok ⟨wd, yd, nd⟩ (11 + 3 * i) (2 + i) → Fr h₀ L h m₀ → News h₀ L h ((D, lstN wd.toArray nd) :: (M, lstN wm.toArray nm) :: (R, lstN wr.toArray nr) :: tail) →
      wpAny (model prog w) A (execs b env) Q E { s with heap := h, toks := tk }) :
    wpAny (model prog w) A (execs (s1 :: b) env) Q E s :=
  cutP1 h1 fun s' q => by
    obtain ⟨h, tk, rfl, wr, wm, wd, yr, ym, yd, nr, nm, nd, o1, o2, o3, F', N'⟩ := q
    exact h2 h tk wr wm wd yr ym yd nr nm nd o1 o2 o3 F' N'
end
theorem fmod16 (k : Int) : 0 ≤ k.fmod 16 ∧ k.fmod 16 < 16 := ⟨Int.fmod_nonneg_of_pos k (by decide), Int.fmod_lt_of_pos k (by decide)⟩
theorem Tx.ok.up {c : Tx} {b b' k k' : Nat} (h : c.ok b k) (hb : b ≤ b') (hk : k ≤ k') : c.ok b' k' := ⟨h.1, fun y hy => ⟨(h.2.1 y hy).1, Nat.le_trans (h.2.1 y hy).2 hb⟩, h.2.2.1, Nat.le_trans h.2.2.2 hk⟩
theorem Tx.ok.snoc {ws : List Value} {ys : List Str} {n n' b k : Nat} {y : Str} {v : Value} (h : Tx.ok ⟨ws, ys, n⟩ b k) (hS : StrsAre (ws ++ [v]) (ys ++ [y])) (h1 : AllFree (tl y)) (h2 : y.length ≤ b) : Tx.ok ⟨ws ++ [v], ys ++ [y], n'⟩ b (k + 1) := by
  refine ⟨hS, fun z hz => ?_, by simp, ?_⟩
  · rcases List.mem_append.mp hz with hz | hz
    · exact h.2.1 z hz
    · rw [List.mem_singleton.mp hz]; exact ⟨h1, h2⟩
  · have := h.2.2.2
    show (ys ++ [y]).length ≤ _
    rw [List.length_append]; exact Nat.succ_le_succ this
theorem last_mem {ys : List Str} (h : ys ≠ []) : ys.getLastD ⟨#[]⟩ ∈ ys := by
  rw [List.getLastD_eq_getLast?, List.getLast?_eq_some_getLast h]; exact List.getLast_mem h
theorem free_lit {l : List Nat} (h : l.all (fun c => decide (42 < c ∧ c < 55296 ∧ c ≠ 91)) = true) : AllFree l := fun c hc => (of_decide_eq_true (p := 42 < c ∧ c < 55296 ∧ c ≠ 91) (List.all_eq_true.mp h c hc))
theorem free_app {a b : List Nat} (h1 : AllFree a) (h2 : AllFree b) : AllFree (a ++ b) := fun c hc => (List.mem_append.mp hc).elim (h1 c) (h2 c)
theorem free_sub {a b : List Nat} (h1 : AllFree a) (h : ∀ c ∈ b, c ∈ a) : AllFree b := fun c hc => h1 c (h c hc)
theorem longS : Str.ofString "/?/a//??" = S [47, 63, 47, 97, 47, 47, 63, 63] := by decide +kernel
theorem far_free {x : Str} (h : AllFree (tl x)) : AllFree (tl (x ++ Str.ofString "/?/a//??")) := by
  rw [tl_append, longS, tl_S]; exact free_app h (free_lit (by decide))
theorem far_len {x : Str} {i : Nat} (h : x.length ≤ 3 + 3 * i) : (x ++ Str.ofString "/?/a//??").length ≤ 11 + 3 * i := by
  rw [len_tl, tl_append, longS, tl_S, List.length_append, ← len_tl]; simp; omega
theorem but_free {x : Str} (h : AllFree (tl x)) : AllFree (tl (Txt.slice x none (some (-1)))) := by
  rw [slice_butlast, tl_S]; exact free_sub h fun c hc => List.dropLast_subset _ hc
theorem but_len {x : Str} {b : Nat} (h : x.length ≤ b) : (Txt.slice x none (some (-1))).length ≤ b := by
  rw [slice_butlast, len_S, List.length_dropLast, ← len_tl]; omega
theorem nil_free : AllFree (tl (Str.ofString "")) := by rw [emptyS, tl_S]; exact fun c hc => nomatch hc
theorem good_one {b : Nat} {x : Str} (h : AllFree (tl x)) (h2 : x.length ≤ b) : Good b [x] := fun y hy => by rw [List.mem_singleton.mp hy]; exact ⟨h, h2⟩
theorem good_two {b : Nat} {x z : Str} (h : AllFree (tl x)) (h2 : x.length ≤ b) (h3 : AllFree (tl z)) (h4 : z.length ≤ b) : Good b [x, z] := fun y hy => by
  rcases List.mem_cons.mp hy with rfl | hy
  · exact ⟨h, h2⟩
  · rw [List.mem_singleton.mp hy]; exact ⟨h3, h4⟩
theorem lit_free {x : Str} {l : List Nat} (e : x = S l) (h : l.all (fun c => decide (42 < c ∧ c < 55296 ∧ c ≠ 91)) = true) : AllFree (tl x) := by rw [e, tl_S]; exact free_lit h
theorem lit_len {x : Str} {l : List Nat} {b : Nat} (e : x = S l) (h : l.length ≤ b) : x.length ≤ b := by rw [e, len_S]; exact h
theorem q1S : Str.ofString "??/" = S [63, 63, 47] := by decide +kernel
theorem q2S : Str.ofString "??/?" = S [63, 63, 47, 63] := by decide +kernel
def Small (xs : List Str) : Prop := ∀ y ∈ xs, AllFree (tl y) ∧ y.length ≤ 3
theorem Small.nil : Small [] := fun _ h => nomatch h
theorem Small.cons {x : Str} {xs : List Str} (h1 : AllFree (tl x)) (h2 : x.length ≤ 3) (h : Small xs) : Small (x :: xs) := fun y hy => by
  rcases List.mem_cons.mp hy with rfl | hy
  · exact ⟨h1, h2⟩
  · exact h y hy
theorem Small.lit {x : Str} {xs : List Str} (l : List Nat) (e : x = S l) (h1 : l.all (fun c => decide (42 < c ∧ c < 55296 ∧ c ≠ 91)) = true) (h2 : l.length ≤ 3) (h : Small xs) : Small (x :: xs) :=
  h.cons (lit_free e h1) (lit_len e h2)
theorem small16 {c : Nat} (hc : Free c) : Small [Str.ofString "?", Str.ofString "/", Str.ofString ".", Str.ofString "a", Str.ofString "b", S [c], Str.ofString "??", Str.ofString "/?/", Str.ofString "?a", Str.ofString "", Str.ofString "?", Str.ofString "", Str.ofString "/", Str.ofString "/", Str.ofString "", Str.ofString ""] := by
  refine .lit [63] (by decide +kernel) (by decide) (by decide) (.lit [47] (by decide +kernel) (by decide) (by decide) (.lit [46] (by decide +kernel) (by decide) (by decide) (.lit [97] (by decide +kernel) (by decide) (by decide) (.lit [98] (by decide +kernel) (by decide) (by decide) ?_))))
  refine .cons (fun d hd => ?_) (by simp) (.lit [63, 63] (by decide +kernel) (by decide) (by decide) (.lit [47, 63, 47] (by decide +kernel) (by decide) (by decide) (.lit [63, 97] (by decide +kernel) (by decide) (by decide) (.lit [] (by decide +kernel) (by decide) (by decide) ?_))))
  · rw [tl_S, List.mem_singleton] at hd; rw [hd]; exact hc
  exact .lit [63] (by decide +kernel) (by decide) (by decide) (.lit [] (by decide +kernel) (by decide) (by decide) (.lit [47] (by decide +kernel) (by decide) (by decide) (.lit [47] (by decide +kernel) (by decide) (by decide) (.lit [] (by decide +kernel) (by decide) (by decide) (.lit [] (by decide +kernel) (by decide) (by decide) .nil)))))
section
variable {prog : Program} {w : World} {A : Around} {E : Value → Shared → Prop} {s : Shared} {h₀ : Heap} {L D : Addr} {m : Str → Option Value} {news : List (Addr × Obj)} {vs : List Value} {xs : List Str} {n : Nat}
theorem item_small {value slice : Expr} {k : Int} {u : Tok} {Q : Value → Shared → Prop} (N : News h₀ L s.heap news) (hm : (D, lstN vs.toArray n) ∈ news) (hi : StrsAre vs xs) (hx : Small xs) (h0 : 0 ≤ k) (hk : k < 16) (h16 : xs.length = 16)
    (h : ∀ y t, AllFree (tl y) → y.length ≤ 3 → Q (.str y t) s)
    (hs : subscripted slice false (.ref D) (.int k u) = operate [.ref D, .int k u] (getItem (.ref D) (.int k u)) := by with_unfolding_all rfl) (hg : ∀ r, letTemporaryGo value (.ref D) r = pure () := by intro _; with_unfolding_all rfl) :
    wpAny (model prog w) A (subscriptTail value slice (.ref D) (.int k u)) Q E s := by
  refine item_strsA (isList_of N hm) hi h0 (by omega) (by omega) (fun t => ?_) hs hg
  have hlt : k.toNat < xs.length := by omega
  have hmem : xs.getD k.toNat Str.empty ∈ xs := by
    rw [List.getD_eq_getElem?_getD, List.getElem?_eq_getElem hlt]; exact List.getElem_mem hlt
  exact h _ t (hx _ hmem).1 (hx _ hmem).2
end
end Mine
end DrawnCutPart
section SetLastPart
open PySem PySem.W PySem.Spec PySem.Calls PyProof.Rows
namespace Mine
section
variable {prog : Program} {w : World} {A : Around} {E : Value → Shared → Prop} {s : Shared} {h₀ : Heap} {L D : Addr} {m : Str → Option Value} {news news' : List (Addr × Obj)} {ws : List Value} {ys : List Str} {n : Nat}
theorem set_last_list (ws : List Value) (v : Value) (h : ws ≠ []) : ws.toArray.setIfInBounds (ws.length - 1) v = (ws.dropLast ++ [v]).toArray := by
  have e := List.dropLast_concat_getLast h
  apply Array.ext'
  rw [Array.toList_setIfInBounds]
  simp only []
  conv => lhs; rw [← e]
  have hl : (ws.dropLast ++ [ws.getLast h]).length - 1 = ws.dropLast.length := by simp
  have hl2 : ws.length - 1 = ws.dropLast.length := by simp
  rw [hl]
  simp [List.set_append]
theorem setItem_last {t : Tok} {v : Value} {Q : Unit → Shared → Prop} (F : Fr h₀ L s.heap m) (N : News h₀ L s.heap news) (U : Upd D (lstN ws.toArray n) (lstN (ws.dropLast ++ [v]).toArray n) news news') (hne : ws ≠ [])
    (h : ∀ h', Fr h₀ L h' m → News h₀ L h' news' → Q () { s with heap := h' }) : wpAny (model prog w) A (setItem (.ref D) (.int (-1) t) v) Q E s := by
  obtain ⟨pre, post, rfl, rfl, h1, h2⟩ := U.split
  have z := N (D, lstN ws.toArray n) (List.mem_append.mpr (.inr (.head _)))
  have hl : s.heap.IsList D ws.toArray := ⟨_, z.1, rfl, n, rfl⟩
  have hpos := List.length_pos_iff.mpr hne
  have ho := z.1
  have hd : (lstN ws.toArray n).data = .seq ws.toArray n := rfl
  unfold setItem
  try with_reducible refine wpAny_holding ?_
  first | refine wpAny_bind (wpAny_pure ?_) | skip
  refine wpAny_bind (wpAny_sequenceKey hl.typeIs (by decide) ?_)
  refine wpAny_bind (wpAny_callSpecial?_slot (name := Str.ofString "__setitem__") hl.typeIs slot_list_setitem
    (wpAny_call_entry slot_list_setitem hl.typeIs entry_list_setitem ?_ (args_list_setitem _ _ _)))
  show wpAny _ _ (Builtin.List.listSubscript? (.int (-1) t) >>= _) _ _ s
  refine wpAny_bind (wpAny_listSubscript_int (fitsIndex_neg (by decide) (by decide)) ?_)
  have hidx : seqIndex? (-1) ws.toArray.size = some (ws.length - 1) := by
    rw [seqIndex_neg (by decide) (by simp; omega)]; congr 1; simp; omega
  show wpAny _ _ ((Builtin.List.listItems (.ref D) >>= fun xs => pure ((seqIndex? (Int.negSucc 0) xs.size).bind fun i => xs[i]?.map (i, ·))) >>= _) _ _ s
  refine wpAny_bind (wpAny_bind ?_)
  show wpAny _ _ (seqItems? (.ref D) >>= _) _ _ s
  refine wpAny_bind (wpAny_seqItems ho hd (wpAny_pure (wpAny_pure ?_)))
  have hj : ws.length - 1 < ws.toArray.size := by simp; omega
  have hx' : ws.toArray[ws.length - 1]? = some ws.toArray[ws.length - 1] := Array.getElem?_eq_getElem hj
  rw [show (Int.negSucc 0) = (-1 : Int) from rfl, hidx]
  simp only [Option.bind_some, hx', Option.map_some]
  show wpAny _ _ (setSeqItemAt D (ws.length - 1) v >>= _) _ _ s
  have hz : (ws.toArray.setIfInBounds (ws.length - 1) v).size = ws.toArray.size := Array.size_setIfInBounds ..
  have hfin := IsL.update (h := s.heap) (l := D) ho (·.setIfInBounds (ws.length - 1) v)
  rw [hz, beq_self_eq_true, if_pos rfl, set_last_list ws v hne] at hfin
  refine wpAny_bind (wpAny_setSeqItemAt ho hd ?_)
  have hs := Heap.SameBut.update s.heap D (Obj.mapSeq (·.setIfInBounds (ws.length - 1) v))
  have hq := h _ (F.change hs z.2.1 z.2.2) (news_set N h1 h2 hs hfin)
  first
    | exact wpAny_bind (wpAny_pure (wpAny_pure ⟨.none, rfl, wpAny_pure hq⟩))
    | exact wpAny_pure ⟨.none, rfl, wpAny_pure hq⟩
theorem ls_set_last {t u : Tok} {y : Str} {Q : Unit → Shared → Prop} (F : Fr h₀ L s.heap m) (N : News h₀ L s.heap news) (U : Upd D (lstN ws.toArray n) (lstN (ws.dropLast ++ [Value.str y u]).toArray n) news news') (hi : StrsAre ws ys) (hne : ys ≠ [])
    (h : ∀ h', Fr h₀ L h' m → News h₀ L h' news' → StrsAre (ws.dropLast ++ [Value.str y u]) (ys.dropLast ++ [y]) → Q () { s with heap := h' }) : wpAny (model prog w) A (setItem (.ref D) (.int (-1) t) (.str y u)) Q E s :=
  setItem_last F N U (by rintro rfl; exact hne (by cases hi; rfl)) fun h' F' N' => h h' F' N' (strs_snoc (strs_dropLast hi) y u)
end
theorem Tx.ok.set_last {ws : List Value} {ys : List Str} {n n' b b' k : Nat} {y : Str} {v : Value} (h : Tx.ok ⟨ws, ys, n⟩ b k) (hS : StrsAre (ws.dropLast ++ [v]) (ys.dropLast ++ [y])) (hb : b ≤ b') (h1 : AllFree (tl y)) (h2 : y.length ≤ b') : Tx.ok ⟨ws.dropLast ++ [v], ys.dropLast ++ [y], n'⟩ b' k := by
  refine ⟨hS, fun z hz => ?_, by simp, ?_⟩
  · rcases List.mem_append.mp hz with hz | hz
    · have := h.2.1 z (List.dropLast_subset _ hz)
      exact ⟨this.1, Nat.le_trans this.2 hb⟩
    · rw [List.mem_singleton.mp hz]; exact ⟨h1, h2⟩
  · have h3 := h.2.2.2
    have h4 : ys ≠ [] := h.2.2.1
    have h5 := List.length_pos_iff.mpr h4
    show (ys.dropLast ++ [y]).length ≤ _
    dsimp only at h3
    rw [List.length_append, List.length_dropLast, List.length_singleton]; omega
def DrawnOut (r : Value) (nx : List (Addr × Obj)) : Prop :=
  ∃ (q R M D : Addr) (wr wm wd : List Value) (yr ym yd : List Str) (nr nm nd : Nat), r = .ref q ∧ nx = [(q, tup [.ref R, .ref M, .ref D]), (D, lstN wd.toArray nd), (M, lstN wm.toArray nm), (R, lstN wr.toArray nr)] ∧
    Tx.ok ⟨wr, yr, nr⟩ 33 12 ∧ Tx.ok ⟨wm, ym, nm⟩ 33 11 ∧ Tx.ok ⟨wd, yd, nd⟩ 41 11 ∧ (@LT.lt Nat instLTNat R M ∧ @LT.lt Nat instLTNat M D ∧ @LT.lt Nat instLTNat D q)
theorem AllLt.mem {d : Addr} : ∀ {l : List (Addr × Obj)}, AllLt d l → ∀ p ∈ l, p.1 < d
  | [], _, _, h => nomatch h
  | q :: r, h, p, hp => by
    rcases List.mem_cons.mp hp with rfl | hp
    · exact h.1
    · exact AllLt.mem h.2 p hp
theorem lt4 {news : List (Addr × Obj)} {a b c d : Addr} {oa ob oc od : Obj} (ha : ∀ p ∈ news, p.1 < a) (hb : ∀ p ∈ news, p.1 < b) (hc : ∀ p ∈ news, p.1 < c) (hd : ∀ p ∈ news, p.1 < d) :
    ∀ q ∈ news, ∀ p ∈ [(a, oa), (b, ob), (c, oc), (d, od)], q.1 < p.1 := by
  intro q hq p hp
  simp only [List.mem_cons, List.not_mem_nil, or_false] at hp
  rcases hp with rfl | rfl | rfl | rfl
  · exact ha q hq
  · exact hb q hq
  · exact hc q hq
  · exact hd q hq
end Mine
end SetLastPart
section C9Part
open PySem PySem.W PySem.Spec PySem.Calls PyProof.Rows
namespace Mine
local macro_rules | `(tactic| k_room) => `(tactic| ktr_room)
local macro_rules | `(tactic| k_all) => `(tactic| (refine' all_app ?a ?b; (case a => k_all); (case b => k_all)))
local macro_rules | `(tactic| k_all) => `(tactic| first | exact ne_lt (by assumption) | exact ne_allLt (by assumption) | exact ne_allLt (And.right (by assumption)) | exact ne_allLt (And.right (And.right (by assumption))) | exact ne_allLt (And.right (And.right (And.right (by assumption)))) | exact ne_allLt (And.right (And.right (And.right (And.right (by assumption))))))
local macro_rules | `(tactic| k_all) => `(tactic| exact own_ne (by assumption) (by k_memK))
local macro_rules | `(tactic| walk_at "call builtin:list.append") => `(tactic| (k_here; (with_reducible show wpAny _ _ (call (Value.builtin _) [Value.ref _, Value.str _ _]) _ _ _); k_dflt (refine' ls_append ?k1 ?k2 ?k3 ?k4 ?z ?_; (case k1 => k_asm); (case k2 => k_asm); (case k3 => k_upd); (case k4 => assumption); (case z => omega); k_whole); intro h' F' N' S'; (try k_sweep)))
local macro_rules | `(tactic| walk_at "ls_ne") => `(tactic| first | assumption | exact of_decide_eq_true (by assumption))
local macro_rules | `(tactic| walk_at "subscriptTail Name UnaryOp ref int") => `(tactic| (k_here; k_dflt (refine' ls_last ?k1 ?k2 ?k3 ?k4 ?_ ?s ?g; (case k1 => k_asm); (case k2 => k_mem); (case k3 => assumption); (case k4 => walk_at "ls_ne"); (case s => with_unfolding_all rfl); (case g => intro _; with_unfolding_all rfl); k_whole); intro t'))
local macro_rules | `(tactic| walk_at "mem_list") => `(tactic| (repeat (first | exact List.mem_cons_self | refine List.mem_cons_of_mem _ ?_)))
local macro_rules | `(tactic| walk_at "exec For") => `(tactic| (k_here; refine halt ?_))
local macro_rules | `(tactic| walk_at "pyIter ref") => `(tactic| (k_here; refine halt ?_))
local macro_rules | `(tactic| walk_at "call builtin:str.replace") => `(tactic| (k_here; k_dflt (refine' rep_star ?k0 ?k1 ?k2 ?k3 ?_; (case k0 => exact Nat.succ_ne_zero _); (case k1 => exact Nat.succ_ne_zero _); (case k2 => exact Nat.succ_ne_zero _); (case k3 => exact Nat.ne_of_lt (Nat.lt_succ_self _)); k_whole); intro c' t' k' hlo' hhi' hnz'))
local macro_rules | `(tactic| walk_at "call builtin:str.replace") => `(tactic| (k_here; k_dflt (refine' rep_brk ?k4 ?k5 ?k1 ?k2 ?k3 ?_; (case k4 => assumption); (case k5 => assumption); (case k1 => assumption); (case k2 => exact Nat.succ_ne_zero _); (case k3 => exact Nat.ne_of_lt (Nat.lt_succ_self _)); k_whole); intro c' t' k' hfr'))
local macro_rules | `(tactic| walk_at "subscriptTail Name Name ref int") => `(tactic| (k_here; k_dflt (refine' item_small ?k1 ?k2 ?k3 ?k4 ?k5 ?k6 ?k7 ?_ ?s ?g; (case k1 => k_asm); (case k2 => walk_at "mem_list"); (case k3 => repeat constructor); (case k4 => exact small16 (by assumption)); (case k5 => assumption); (case k6 => assumption); (case k7 => rfl); (case s => with_unfolding_all rfl); (case g => intro _; with_unfolding_all rfl); k_whole); intro y' t' hyf' hyl'))
local macro_rules | `(tactic| walk_at "setItem ref int") => `(tactic| (k_here; k_dflt (refine' ls_set_last ?k1 ?k2 ?k3 ?k4 ?k5 ?_; (case k1 => k_asm); (case k2 => k_asm); (case k3 => k_upd); (case k4 => assumption); (case k5 => assumption); k_whole); intro h' F' N' S'; (try k_sweep)))
set_option maxRecDepth 100000 in
set_option maxHeartbeats 4000000 in
theorem drawn_ct (w : World) (a : Addr) (vs : List Value) (ns : List Int) (hi : IntsAre vs ns) (hn : ns.length ≤ 63) : CtH w 138 [.ref a] 10 300 (fun h₀ => h₀.IsList a vs.toArray)
    DrawnOut := by
  w_top off
  unfold CtH
  k_fill
  intro p loose mean mg mb dp un gd cn cs a ccd cl outer A₀ base h₀ L m news s Q E B F X N T hk hd hu hpre hret
  obtain ⟨knd, nms, ig, ic, mo⟩ := cs
  dsimp only at hk
  subst hk
  refine wpAny_call ?_
  k_dflt k_enter
  (rename Fr h₀ L _ m => FG)
  have hpre' := FG.lst hpre
  k_steps
  (rename Fr _ _ _ _ => F3)
  unfold Halt
  with_unfolding_all refine' For_invVF F3 ?k1 ?k2 ?_ ?k3
  case k1 => exact rfl
  case k2 => exact rfl
  case k3 => intro _; rfl
  k_steps
  (rename Fr _ _ _ _ => F4)
  (rename News _ _ _ _ => N4)
  unfold Halt
  (rename _ ∧ _ ∧ _ ∧ _ ∧ AllLt _ news => lca)
  refine for_drawn (rest := news) (cr := ⟨_, [Str.ofString "??/", Str.ofString "a"], 0⟩) (cm := ⟨_, [Str.ofString "a"], 0⟩) (cd := ⟨_, [Str.ofString "??/?"], 0⟩) rfl F4 N4 (by (repeat (first | exact List.mem_cons_self | refine List.mem_cons_of_mem _ ?_))) (by (repeat (first | exact List.mem_cons_self | refine List.mem_cons_of_mem _ ?_))) (by (repeat (first | exact List.mem_cons_self | refine List.mem_cons_of_mem _ ?_))) (by (repeat (first | exact List.mem_cons_self | refine List.mem_cons_of_mem _ ?_))) (by intro p hp; (repeat (first | exact hp | exact List.mem_append_left _ hp | exact List.mem_append_right _ hp | refine List.mem_cons_of_mem _ ?_))) rfl (by assumption) (by rw [List.length_take]; omega) ⟨lca.2.2.2.1, lca.2.2.1, lca.2.1⟩ rfl rfl rfl ⟨⟨.cons _ _ (.cons _ _ .nil), ?_, by simp, by simp⟩, ⟨.cons _ _ .nil, ?_, by simp, by simp⟩, ⟨.cons _ _ .nil, ?_, by simp, by simp⟩⟩ ?_ ?_
  · exact good_two (lit_free q1S (by decide)) (lit_len q1S (by decide)) (lit_free aS (by decide)) (lit_len aS (by decide))
  · exact good_one (lit_free aS (by decide)) (lit_len aS (by decide))
  · exact good_one (lit_free q2S (by decide)) (lit_len q2S (by decide))
  · intro ca i k t wr wm wd yr ym yd nr nm nd u h tk own hca hi10 hr hm hdd hoff F5 N5
    have hca1 : @LT.lt Nat instLTNat _ ca := hca.1
    have hca2 : @LT.lt Nat instLTNat _ ca := hca.2.1
    have hca3 : @LT.lt Nat instLTNat _ ca := hca.2.2
    have hr1 := hr.1
    have hm1 := hm.1
    have hd1 := hdd.1
    have hr2 : yr ≠ [] := hr.2.2.1
    have hr3 : yr.length ≤ 100 := Nat.le_trans hr.2.2.2 (by omega)
    have hm3 : ym.length ≤ 100 := Nat.le_trans hm.2.2.2 (by omega)
    have hd3 : yd.length ≤ 100 := Nat.le_trans hdd.2.2.2 (by omega)
    dsimp only at hr1 hm1 hd1
    refine cut_kind F5 N5 ?_ ?_
    · k_steps
      (rename Free _ => hfr9)
      exact MK.intro hfr9 (fmod16 _).1 (fmod16 _).2 (by k_asm) (by k_asm) (by intro p hp; (repeat (first | exact hp | exact List.mem_append_left _ hp | exact List.mem_append_right _ hp | refine List.mem_cons_of_mem _ ?_)))
    · clear F5 N5
      intro h tk c t1 kd t2 v3 hc hk0 hk16 N5 F5
      have hlast : AllFree (tl (yr.getLastD ⟨#[]⟩)) ∧ (yr.getLastD ⟨#[]⟩).length ≤ 3 + 3 * i := hr.2.1 _ (last_mem hr2)
      have hll : (yr.getLastD ⟨#[]⟩).length ≤ 33 := by have := hlast.2; omega
      refine cut_if i F5 N5 ?_ ?_
      · k_steps
        all_goals try dsimp only
        · exact MI.intro (by k_asm) (by k_asm) (by (repeat (first | exact List.mem_cons_self | refine List.mem_cons_of_mem _ ?_))) (by (repeat (first | exact List.mem_cons_self | refine List.mem_cons_of_mem _ ?_))) (by (repeat (first | exact List.mem_cons_self | refine List.mem_cons_of_mem _ ?_))) (by intro p hp; (repeat (first | exact hp | exact List.mem_append_left _ hp | exact List.mem_append_right _ hp | refine List.mem_cons_of_mem _ ?_))) (hr.up (by omega) (by omega)) ((hm.snoc (by assumption) hlast.1 hlast.2).up (by omega) (by omega)) (hdd.up (by omega) (by omega))
        · exact MI.intro (by k_asm) (by k_asm) (by (repeat (first | exact List.mem_cons_self | refine List.mem_cons_of_mem _ ?_))) (by (repeat (first | exact List.mem_cons_self | refine List.mem_cons_of_mem _ ?_))) (by (repeat (first | exact List.mem_cons_self | refine List.mem_cons_of_mem _ ?_))) (by intro p hp; (repeat (first | exact hp | exact List.mem_append_left _ hp | exact List.mem_append_right _ hp | refine List.mem_cons_of_mem _ ?_))) (hr.up (by omega) (by omega)) ((hm.snoc (by assumption) hlast.1 hlast.2).up (by omega) (by omega)) (hdd.up (by omega) (by omega))
        · exact MI.intro (by k_asm) (by k_asm) (by (repeat (first | exact List.mem_cons_self | refine List.mem_cons_of_mem _ ?_))) (by (repeat (first | exact List.mem_cons_self | refine List.mem_cons_of_mem _ ?_))) (by (repeat (first | exact List.mem_cons_self | refine List.mem_cons_of_mem _ ?_))) (by intro p hp; (repeat (first | exact hp | exact List.mem_append_left _ hp | exact List.mem_append_right _ hp | refine List.mem_cons_of_mem _ ?_))) (hr.up (by omega) (by omega)) (hm.up (by omega) (by omega)) ((hdd.snoc (by assumption) hlast.1 (by have := hlast.2; omega)).up (by omega) (by omega))
        · exact MI.intro (by k_asm) (by k_asm) (by (repeat (first | exact List.mem_cons_self | refine List.mem_cons_of_mem _ ?_))) (by (repeat (first | exact List.mem_cons_self | refine List.mem_cons_of_mem _ ?_))) (by (repeat (first | exact List.mem_cons_self | refine List.mem_cons_of_mem _ ?_))) (by intro p hp; (repeat (first | exact hp | exact List.mem_append_left _ hp | exact List.mem_append_right _ hp | refine List.mem_cons_of_mem _ ?_))) (hr.up (by omega) (by omega)) (hm.up (by omega) (by omega)) ((hdd.snoc (by assumption) hlast.1 (by have := hlast.2; omega)).up (by omega) (by omega))
        · exact MI.intro (by k_asm) (by k_asm) (by (repeat (first | exact List.mem_cons_self | refine List.mem_cons_of_mem _ ?_))) (by (repeat (first | exact List.mem_cons_self | refine List.mem_cons_of_mem _ ?_))) (by (repeat (first | exact List.mem_cons_self | refine List.mem_cons_of_mem _ ?_))) (by intro p hp; (repeat (first | exact hp | exact List.mem_append_left _ hp | exact List.mem_append_right _ hp | refine List.mem_cons_of_mem _ ?_))) (hr.up (by omega) (by omega)) (hm.up (by omega) (by omega)) ((hdd.snoc (by assumption) (far_free hlast.1) (far_len hlast.2)).up (by omega) (by omega))
        · exact MI.intro (by k_asm) (by k_asm) (by (repeat (first | exact List.mem_cons_self | refine List.mem_cons_of_mem _ ?_))) (by (repeat (first | exact List.mem_cons_self | refine List.mem_cons_of_mem _ ?_))) (by (repeat (first | exact List.mem_cons_self | refine List.mem_cons_of_mem _ ?_))) (by intro p hp; (repeat (first | exact hp | exact List.mem_append_left _ hp | exact List.mem_append_right _ hp | refine List.mem_cons_of_mem _ ?_))) ((hr.snoc (by assumption) (but_free hlast.1) (but_len hlast.2)).up (by omega) (by omega)) (hm.up (by omega) (by omega)) (hdd.up (by omega) (by omega))
        · exact MI.intro (by k_asm) (by k_asm) (by (repeat (first | exact List.mem_cons_self | refine List.mem_cons_of_mem _ ?_))) (by (repeat (first | exact List.mem_cons_self | refine List.mem_cons_of_mem _ ?_))) (by (repeat (first | exact List.mem_cons_self | refine List.mem_cons_of_mem _ ?_))) (by intro p hp; (repeat (first | exact hp | exact List.mem_append_left _ hp | exact List.mem_append_right _ hp | refine List.mem_cons_of_mem _ ?_))) ((hr.snoc (by assumption) nil_free (by rw [emptyS, len_S]; simp)).up (by omega) (by omega)) (hm.up (by omega) (by omega)) (hdd.up (by omega) (by omega))
        · exact MI.intro (by k_asm) (by k_asm) (by (repeat (first | exact List.mem_cons_self | refine List.mem_cons_of_mem _ ?_))) (by (repeat (first | exact List.mem_cons_self | refine List.mem_cons_of_mem _ ?_))) (by (repeat (first | exact List.mem_cons_self | refine List.mem_cons_of_mem _ ?_))) (by intro p hp; (repeat (first | exact hp | exact List.mem_append_left _ hp | exact List.mem_append_right _ hp | refine List.mem_cons_of_mem _ ?_))) (hr.up (by omega) (by omega)) (hm.up (by omega) (by omega)) (hdd.up (by omega) (by omega))
      · clear F5 N5
        intro h tk wr wm wd yr ym yd nr nm nd hr hm hdd F5 N5
        have hr1 := hr.1
        have hr2 : yr ≠ [] := hr.2.2.1
        have hr3 : yr.length ≤ 100 := Nat.le_trans hr.2.2.2 (by omega)
        have hlast : AllFree (tl (yr.getLastD ⟨#[]⟩)) ∧ (yr.getLastD ⟨#[]⟩).length ≤ 3 + 3 * i := hr.2.1 _ (last_mem hr2)
        have hll : (yr.getLastD ⟨#[]⟩).length ≤ 33 := by have := hlast.2; omega
        dsimp only at hr1
        k_steps
        all_goals try dsimp only
        refine TEnd.goS (⟨_, _, _⟩, ⟨_, _, _⟩, ⟨_, _, _⟩) (.inl rfl) (by k_asm) (by k_asm) (by intro p hp; (repeat (first | exact hp | exact List.mem_append_left _ hp | exact List.mem_append_right _ hp | refine List.mem_cons_of_mem _ ?_))) (by intro p hp; (repeat (first | exact hp | exact List.mem_append_left _ hp | exact List.mem_append_right _ hp | refine List.mem_cons_of_mem _ ?_))) hoff (fun _ h => nomatch h) ?_ ⟨(hr.set_last (b' := 3 + 3 * (i + 1)) (by assumption) (by omega) ?_ ?_).up (by omega) (by omega), hm.up (by omega) (by omega), hdd.up (by omega) (by omega)⟩
        · intro z hz _ hst
          simp only [List.contains_cons, List.contains_nil, Bool.or_false, Bool.or_eq_false_iff, beq_eq_false_iff_ne, ne_eq] at hst
          refine (if_neg hst.2.2).trans ((if_neg hst.2.1).trans ((if_neg hst.1).trans ((if_neg hz).trans ?_)))
          show (if DSt.contains z = true then u z else _) = _
          rw [if_neg]
          simp [hst]
        · rw [tl_append]; exact free_app hlast.1 (by assumption)
        · have h1 := hlast.2
          rw [Str.length_append]; omega
  · intro wr wm wd yr ym yd nr nm nd u u' h tk hr hm hdd F5 N5
    dsimp only
    k_steps
    (rename News _ _ _ _ => N6)
    (rename _ ∧ _ ∧ _ ∧ AllLt _ news => lq)
    (rename _ ∧ _ ∧ AllLt _ news => lD)
    (rename _ ∧ AllLt _ news => lM)
    exact hret _ [_, _, _, _] _ _ (by k_asm) N6 (lt4 (AllLt.mem lq.2.2.2) (AllLt.mem lD.2.2) (AllLt.mem lM.2) (by assumption)) ⟨_, _, _, _, wr, wm, wd, yr, ym, yd, nr, nm, nd, rfl, rfl, hr, hm, hdd, lM.1, lD.1, lq.1⟩
end Mine
end C9Part
section D1auxPart
open PySem PySem.W PySem.Spec PySem.Calls PyProof.Rows
namespace Mine
theorem strs_stepL {f : Str → Str} {xs : List Str} {x y : Str} {i : Nat} {t : Tok} {ys : List Value} (hc : xs[i]? = some x) (hj : StrsAre ys ((xs.take i).map f)) (hy : y = f x) : StrsAre (ys ++ [.str y t]) ((xs.take (i + 1)).map f) := by
  rw [List.take_add_one, hc, List.map_append]
  exact hj.append' (by rw [hy]; exact .cons _ _ .nil)
end Mine
end D1auxPart
section SetLPart
open PySem PySem.W PySem.Spec PySem.Calls PyProof.Rows
set_option maxRecDepth 100000
namespace Mine
open PySem
section
variable {prog : Program} {w : World} {A : Around} {E : Value → Shared → Prop} {s : Shared}
/-- a set of texts, its table's marks kept -/
def SetObj (prog : Program) (w : World) (o : Obj) (S : PySem.Str → Bool) (n : Nat) (L : Bool) : Prop :=
  ∃ es ep t, o.ExactSet ∧ o.data = .set es ep t ∧ ElemsOf (strKind prog w) es.toList ∧ (∀ k, S k = true ↔ ∃ e ∈ es.toList, (strKind prog w).is k e.2 = true)
    ∧ es.size < scanBound ∧ t.fits es.size = true ∧ es.size = n ∧ t.led = L ∧ (es.size = 0 ∨ t.plain = false)
def SetL (prog : Program) (w : World) (h : Heap) (a : Addr) (S : PySem.Str → Bool) (n : Nat) (L : Bool) : Prop := ∃ o, h.get? a = some o ∧ SetObj prog w o S n L
theorem SetObj.of {h : Heap} {a : Addr} {o : Obj} {S : PySem.Str → Bool} {n : Nat} {L : Bool} (ho : h.get? a = some o) (x : SetObj prog w o S n L) : h.SetOf (strKind prog w) a S n :=
  let ⟨es, ep, t, h1, h2, h3, h4, h5, h6, h7, _⟩ := x; ⟨o, es, ep, t, ho, h1, h2, h3, h4, h5, h6, h7⟩
theorem SetL.congr {h : Heap} {a : Addr} {S S' : PySem.Str → Bool} {n n' : Nat} {L : Bool} (hS : SetL prog w h a S n L) (e : ∀ k, S k = S' k) (en : n = n') : SetL prog w h a S' n' L := by
  have : S = S' := funext e
  subst this; subst en; exact hS
theorem SetL_store {h : Heap} {a : Addr} {o : Obj} {es : Array (Int × Value)} {ep : Nat} {t : SetTable} (ho : h.get? a = some o) (hex : o.ExactSet) (hd : o.data = .set es ep t)
    {es' : Array (Int × Value)} {t' : SetTable} {S' : PySem.Str → Bool} {L : Bool} (hel : ElemsOf (strKind prog w) es'.toList) (hmem : ∀ k, S' k = true ↔ ∃ e ∈ es'.toList, (strKind prog w).is k e.2 = true) (hb : es'.size < scanBound) (hf : t'.fits es'.size = true) (hl : t'.led = L) (hp : t'.plain = false) :
    (h.update a (Obj.putSet es' t')).get? a = some { o with data := .set es' (ep + 1) t' } ∧ SetL prog w (h.update a (Obj.putSet es' t')) a S' es'.size L := by
  have hg := (SetOf_store (knd := strKind prog w) ho hex hd hel hmem hb hf).1
  exact ⟨hg, _, hg, es', ep + 1, t', hex, rfl, hel, hmem, hb, hf, rfl, hl, .inr hp⟩
theorem relay_marks (t : SetTable) (es : Array (Int × Value)) (n : Nat) (hp : t.plain = false) : (relayAll t es n).2.1.led = t.led ∧ (relayAll t es n).2.1.plain = false := by
  unfold relayAll
  split
  · rename_i t' order hr
    have : t'.led = t.led ∧ t'.plain = t.plain := by
      unfold SetTable.relaid SetTable.laid at hr
      simp only [Option.bind_eq_bind, Option.bind_eq_some_iff, Option.pure_def, Option.some.injEq, Prod.mk.injEq] at hr
      obtain ⟨_, _, rfl, _⟩ := hr
      exact ⟨rfl, rfl⟩
    dsimp only
    split
    · exact ⟨this.1, this.2.trans hp⟩
    · exact ⟨rfl, rfl⟩
  · exact ⟨rfl, rfl⟩
theorem orStandIn_led (t : SetTable) (n : Nat) : (t.orStandIn n).led = t.led := by unfold SetTable.orStandIn; split <;> rfl
theorem layNew_led (t : SetTable) (es : Array (Int × Value)) (h : Int) (x : Value) : (layNew t es h x).2.1.led = t.led := by
  unfold layNew
  split
  · exact (orStandIn_led _ _).trans rfl
  · rfl
theorem addTail_L {g : Bool → Sem Unit} (hg : ∀ (b : Bool) (s₁ : Shared) (Q' : Unit → Shared → Prop), Q' () s₁ → wpAny (model prog w) A (g b) Q' E s₁)
    {a : Addr} {o : Obj} {es : Array (Int × Value)} {ep : Nat} {t : SetTable} (ho : s.heap.get? a = some o) (hex : o.ExactSet) (hd : o.data = .set es ep t)
    {es1 : Array (Int × Value)} {t2 : SetTable} {S' : PySem.Str → Bool} {L : Bool} (hel1 : ElemsOf (strKind prog w) es1.toList) (hmem1 : ∀ k', S' k' = true ↔ ∃ e ∈ es1.toList, (strKind prog w).is k' e.2 = true)
    (hb1 : es1.size < scanBound) (hf2 : t2.fits es1.size = true) (hl2 : t2.led = L) (hp2 : t2.plain = false) {wasDummy : Bool} {R : Option Bool → Shared → Prop}
    (h : ∀ h', Heap.SameBut a s.heap h' → SetL prog w h' a S' es1.size L → R (some true) { s with heap := h' }) :
    wpAny (model prog w) A (do
        storeSet a es1 t2
        if (!wasDummy && t2.tooFull) = true then do
            g (relayAll t2 es1 (SetTable.grown es1.size)).2.2
            storeSet a (relayAll t2 es1 (SetTable.grown es1.size)).1 (relayAll t2 es1 (SetTable.grown es1.size)).2.1
            pure (some true)
          else pure (some true)) R E s := by
  refine wpAny_bind (wpAny_storeSet_of ho hd ?_ (fits_of_scanBound hb1))
  obtain ⟨ho1, hS1⟩ := SetL_store (prog := prog) (w := w) (L := L) ho hex hd hel1 hmem1 hb1 hf2 hl2 hp2
  have hsb1 := Heap.SameBut.update s.heap a (Obj.putSet es1 t2)
  split
  · have hp := relayAll_perm t2 es1 (SetTable.grown es1.size)
    have hfr := relayAll_fits t2 es1 (SetTable.grown es1.size)
    have hmk := relay_marks t2 es1 (SetTable.grown es1.size) hp2
    generalize hRl : relayAll t2 es1 (SetTable.grown es1.size) = Rl at hp hfr hmk ⊢
    obtain ⟨es2, t3, gave2⟩ := Rl
    dsimp only at hp hfr hmk ⊢
    have hel2 : ElemsOf (strKind prog w) es2.toList := hel1.perm hp
    have hmem2 : ∀ k', S' k' = true ↔ ∃ e ∈ es2.toList, (strKind prog w).is k' e.2 = true := fun k' => (hmem1 k').trans ⟨fun ⟨e, he, q⟩ => ⟨e, hp.mem_iff.mpr he, q⟩, fun ⟨e, he, q⟩ => ⟨e, hp.mem_iff.mp he, q⟩⟩
    have hsz : es2.size = es1.size := by rw [← Array.length_toList, hp.length_eq, Array.length_toList]
    have hb2 : es2.size < scanBound := by rw [hsz]; exact hb1
    refine wpAny_bind (hg _ _ _ ?_)
    refine wpAny_bind (wpAny_storeSet_of ho1 rfl ?_ (fits_of_scanBound hb2))
    obtain ⟨_, hS2⟩ := SetL_store (prog := prog) (w := w) (L := L) ho1 hex rfl hel2 hmem2 hb2 hfr (hmk.1.trans hl2) hmk.2
    rw [hsz] at hS2
    exact wpAny_pure (h _ (hsb1.trans (Heap.SameBut.update _ a _)) hS2)
  · exact wpAny_pure (h _ hsb1 hS1)
theorem setAddHashed_L {a : Addr} {S : PySem.Str → Bool} {n : Nat} {L : Bool} {k : PySem.Str} {tk : Tok} {Q : Bool → Shared → Prop} (hS : SetL prog w s.heap a S n L) (hroom : n + 1 < scanBound)
    (h : ∀ h', Heap.SameBut a s.heap h' → SetL prog w h' a (fun k' => S k' || decide (k' = k)) (if S k then n else n + 1) L → Q (!S k) { s with heap := h' }) :
    wpAny (model prog w) A (setAddHashed a (.str k tk) ((strKind prog w).hash k)) Q E s := by
  obtain ⟨o, ho, es, ep, t, hex, hd, hel, hmem, hb, hf, hn, hl, hpl⟩ := hS
  have hkey : (strKind prog w).is k (.str k tk) = true := strKind_is prog w k tk
  have hsc : (Value.str k tk).scannable = true := rfl
  have hb1 : es.size + 1 < scanBound := by rw [hn]; exact hroom
  unfold setAddHashed setAddHashedIn
  refine wpAny_holding (wpAny_bind (wpAny_setState_of ho hd hf ?_))
  dsimp only
  rw [byScan_of hsc hb hel]
  simp only [↓reduceIte]
  unfold setAddByScan
  refine wpAny_bind ?_
  refine wpAny_bind (wpAny_rule ?_)
  refine wpAny_bind (wpAny_setScan_of hkey ho hd hf hel ?_)
  cases hr : List.findIdx? (fun e => (strKind prog w).is k e.2) es.toList with
  | some j =>
    dsimp only
    obtain ⟨hj, hpj, _⟩ := List.findIdx?_eq_some_iff_getElem.mp hr
    have hSk : S k = true := (hmem k).mpr ⟨es.toList[j], List.getElem_mem hj, hpj⟩
    refine wpAny_pure (wpAny_pure ?_)
    have e : s = { s with heap := s.heap } := by cases s; rfl
    have := h s.heap (Heap.SameBut.refl a s.heap) ⟨o, ho, es, ep, t, hex, hd, hel, fun k' => by
      rw [Bool.or_eq_true, decide_eq_true_eq, ← hmem k']
      exact ⟨fun hk => hk.elim id (fun e => e ▸ hSk), .inl⟩, hb, hf, by rw [hSk]; exact hn, hl, hpl⟩
    rw [hSk] at this; rw [e]; exact this
  | none =>
    dsimp only
    have hSk : S k = false := by
      cases hk : S k with
      | false => rfl
      | true => obtain ⟨e, he, hp⟩ := (hmem k).mp hk; have := List.findIdx?_eq_none_iff.mp hr e he; rw [hp] at this; exact Bool.noConfusion this
    have hgw : ∀ (b : Bool) {s₁ : Shared} {Q' : Unit → Shared → Prop}, Q' () s₁ → wpAny (model prog w) A (match b with | true => rule "set.scan.the-table-gave-way" | false => pure ()) Q' E s₁ :=
      fun b s₁ Q' hq => by cases b <;> first | exact wpAny_pure hq | exact wpAny_rule hq
    have hperm := layNew_perm t es ((strKind prog w).hash k) (.str k tk)
    have hfits := layNew_fits t es ((strKind prog w).hash k) (.str k tk)
    have hled := layNew_led t es ((strKind prog w).hash k) (.str k tk)
    generalize hL : layNew t es ((strKind prog w).hash k) (.str k tk) = L' at hperm hfits hled ⊢
    obtain ⟨es1, t1, wasDummy, gave⟩ := L'
    dsimp only at hperm hfits hled ⊢
    rw [Array.toList_push] at hperm
    have hel1 : ElemsOf (strKind prog w) es1.toList := (hel.push hkey hsc).perm hperm
    have hmem1 : ∀ k', (S k' || decide (k' = k)) = true ↔ ∃ e ∈ es1.toList, (strKind prog w).is k' e.2 = true := mem_push_iff hkey hmem hperm
    have hb1' : es1.size < scanBound := by rw [← Array.length_toList, hperm.length_eq, List.length_append, Array.length_toList]; simpa using hb1
    refine wpAny_bind (hgw _ ?_)
    have hsz1 : es1.size = n + 1 := by rw [← Array.length_toList, hperm.length_eq, List.length_append, Array.length_toList, hn]; rfl
    have hend : ∀ h', Heap.SameBut a s.heap h' → SetL prog w h' a (fun k' => S k' || decide (k' = k)) es1.size L → Q true { s with heap := h' } := by
      intro h' hsb hS'; have := h h' hsb; rw [hSk] at this; rw [hsz1] at hS'; exact this hS'
    split
    · refine wpAny_bind ?_
      rw [hashByValue_scannable 8 hsc]
      refine wpAny_pure ?_
      simp only [plainKind, Bool.false_eq_true, ↓reduceIte]
      refine addTail_L ?_ ho hex hd hel1 hmem1 hb1' (SetTable.fits_plain_off hfits) (hled.trans hl) rfl ?_
      · intro b s₁ Q' hq; cases b <;> first | exact wpAny_pure hq | exact wpAny_rule hq
      · intro h' hsb hS'; dsimp only; exact wpAny_pure (hend h' hsb hS')
    · rename_i hnp
      refine wpAny_bind (wpAny_pure ?_)
      simp only [↓reduceIte]
      refine addTail_L ?_ ho hex hd hel1 hmem1 hb1' hfits (hled.trans hl) (by simpa using hnp) ?_
      · intro b s₁ Q' hq; cases b <;> first | exact wpAny_pure hq | exact wpAny_rule hq
      · intro h' hsb hS'; dsimp only; exact wpAny_pure (hend h' hsb hS')
end
end Mine
end SetLPart
section SetFromTPart
open PySem PySem.W PySem.Spec PySem.Calls PyProof.Rows
set_option maxRecDepth 100000
namespace Mine
open PySem
/-- the worlds' say: are sets walked by their text? -/
abbrev led (w : World) : Bool := !(w.params.followText "set-order")
def seen (val : Nat → PySem.Str) (i : Nat) (k : PySem.Str) : Bool := decide (k ∈ (List.range i).map val)
theorem seen_succ (val : Nat → PySem.Str) (i : Nat) (k : PySem.Str) : (seen val i k || decide (k = val i)) = seen val (i + 1) k := by
  unfold seen
  rw [List.range_succ, List.map_append, Bool.eq_iff_iff]
  simp
section
variable {prog : Program} {w : World} {A : Around} {R : Result → Shared → Prop} {I : Addr} {fp wr : List Addr} {G : Array GenState → Array GenState → Prop} {n : Nat} {P : Nat → Value → Prop} {St : Nat → Shared → Prop} {L : Bool}
theorem update_loop (W : WalksS prog w A.in1 I fp wr G n P St) (S : Addr) (hSf : S ∉ fp)
    (val : Nat → PySem.Str) (hval : ∀ i v, P i v → ∃ t, v = .str (val i) t) (hb : n + 1 < scanBound) :
    ∀ (k i : Nat) (s : Shared), n - i = k → i ≤ n → St i s →
      (∃ c, c ≤ i ∧ SetL prog w s.heap S (seen val i) c L) →
      (∀ s', Moved (S :: wr) G s s' → (∃ c, c ≤ n ∧ SetL prog w s'.heap S (seen val n) c L) → R (.ok (.ret .none)) s') →
      codeAny (model prog w) A (.builtin "set.update.loop" ⟨[.ref S, .ref I], []⟩) R s := by
  have hSw : S ∉ wr := fun h => hSf (W.sub _ h)
  have hsub : ∀ b ∈ wr, b ∈ S :: wr := fun b hb => List.mem_cons_of_mem _ hb
  intro k
  induction k with
  | zero =>
    intro i s hk hi hst hS hR
    have hin : i = n := by omega
    subst hin
    refine codeAny_builtin PyProof.Rows.F.entry_set_update_loop ?_
    rw [Around.under_plainId PyProof.Rows.F.plain_set_update_loop _]
    show wpAny _ A.in1 (pyNext (.ref I) >>= _) _ _ s
    refine wpAny_bind (W.done s _ _ hst fun s' hm => ?_)
    show wpAny _ A.in1 (ret Value.none) _ _ s'
    exact wpAny_pure (hR s' (hm.mono hsub) (by
      obtain ⟨c, hc, o, ho, rest⟩ := hS
      exact ⟨c, hc, o, hm.heap S _ hSw ho, rest⟩))
  | succ k ih =>
    intro i s hk hi hst hS hR
    have hlt : i < n := by omega
    refine codeAny_builtin PyProof.Rows.F.entry_set_update_loop ?_
    rw [Around.under_plainId PyProof.Rows.F.plain_set_update_loop _]
    show wpAny _ A.in1 (pyNext (.ref I) >>= _) _ _ s
    refine wpAny_bind (W.item i s _ _ hlt hst fun v s' hP hst' hm => ?_)
    obtain ⟨t, rfl⟩ := hval i v hP
    obtain ⟨c, hc, o, ho, rest⟩ := hS
    have hS' : SetL prog w s'.heap S (seen val i) c L := ⟨o, hm.heap S _ hSw ho, rest⟩
    show wpAny _ A.in1 (holding [Value.str (val i) t] (setAdd S (.str (val i) t)) >>= _) _ _ s'
    refine wpAny_bind (wpAny_holding ?_)
    unfold setAdd
    refine wpAny_holding ?_
    refine wpAny_bind ((strKind prog w).pyHash (k := val i) (strKind_is prog w _ _) ?_)
    have hroom : c + 1 < scanBound := by omega
    refine setAddHashed_L (s := { s' with toks := s'.toks + 1 }) hS' hroom fun h' hsb hS2 => ?_
    have hSi : ∃ c', c' ≤ i + 1 ∧ SetL prog w h' S (seen val (i + 1)) c' L :=
      ⟨_, by split <;> omega, hS2.congr (fun k' => seen_succ val i k') rfl⟩
    refine wpAny_pure ⟨plainId_quiet PyProof.Rows.F.plain_set_update_loop _, ih (i + 1) _ (by omega) hlt (W.frame _ s' _ _ hst' (Nat.le_succ _) fun b hb o e => ?_) hSi fun s'' hm'' hS'' => ?_⟩
    · rw [hsb.2 b (fun h : b = S => hSf (by rw [← h]; exact hb))]; exact e
    · refine hR s'' (Moved.trans W.gtrans ((hm.mono hsub).then_heap (Nat.le_succ _) fun b o hb e => ?_) hm'') hS''
      rw [hsb.2 b (fun h : b = S => hb (by rw [h]; exact List.mem_cons_self))]; exact e
end
section
variable {prog : Program} {w : World} {A : Around} {E : Value → Shared → Prop} {s : Shared}
theorem set_new_led (a : Value) {Q₁ : Value → Shared → Prop}
    (h : Q₁ (.ref s.heap.objs.size) { s with heap := s.heap.push { cls := .type "set", dict := none, data := .set #[] 0 (.fresh 0 0 (led w)) } }) :
    codeAny (model prog w) A (.call (.builtin "set.__new__") ⟨[.type "set", a], []⟩) (wants Q₁ E) s := by
  refine codeAny_of_tree ?_
  show wpAny _ A.in1 (do checkBuiltinCall "set.__new__" ⟨[.type "set", a], []⟩; again (.builtin "set.__new__" ⟨[.type "set", a], []⟩)) _ _ s
  refine wpAny_bind (wpAny_of_eq (F.newCall_set_1 a) (wpAny_pure ⟨plainId_quiet F.plain_set_new _, codeAny_builtin F.entry_set_new ?_⟩))
  rw [Around.under_plainId F.plain_set_new _]
  unfold Builtin.«set.__new__» Builtin.Frozenset.newClass
  have hsub := sub_set_self
  obtain ⟨hp, g, d, tk, os⟩ := s
  dsimp only
  wp_walk
  refine wpAny_askSetting (wpAny_pure ?_)
  dsimp only
  simp only [newObj]
  refine wpAny_bind (wpAny_alloc (wpAny_pure ?_))
  exact wpAny_pure h
set_option maxHeartbeats 3200000 in
theorem call_set_texts {l : Addr} {items : Array Value} {ys : List PySem.Str} {Q : Value → Shared → Prop}
    (hh : A.handled = none) (hl : s.heap.IsList l items) (hi : StrsAre items.toList ys) (hb : items.size + 1 < scanBound)
    (h : ∀ (h' : Heap) (tk : Nat) (c : Nat), c ≤ items.size → SetL prog w h' s.heap.objs.size (seen (fun i => ys.getD i ⟨#[]⟩) items.size) c (led w) →
      (∀ b o, b < s.heap.objs.size → s.heap.get? b = some o → h'.get? b = some o) → Q (.ref s.heap.objs.size) { s with heap := h', toks := tk }) :
    wpAny (model prog w) A (call (.type "set") [.ref l]) Q E s := by
  obtain ⟨c, tl, hmro⟩ := F.called_set.mro
  have hmade := F.called_set.made
  have hsub := F.called_set.sub
  refine wpAny_call (codeAny_of_tree ?_)
  show wpAny _ _ (callAny (.type "set") _) _ _ _
  refine wpAny_pure ⟨Code.quiet_builtin _ (by decide +kernel), codeAny_builtin F.entry_type_call ?_⟩
  rw [Around.under_plain (weight_type_call_type "set" [.ref l] []) rfl]
  have h1 := F.called_set.notType
  have h2 := F.called_set.canCreate
  have hct := F.typeCall_set_1 (.ref l)
  repeat (any_goals (first | assumption | wp_step))
  refine codeAny_mono (set_new_led (.ref l) (E := E) (Q₁ := fun obj s₁ => obj = .ref s.heap.objs.size ∧ s₁ = { s with heap := s.heap.push { cls := .type "set", dict := none, data := .set #[] 0 (.fresh 0 0 (led w)) } }) ⟨rfl, rfl⟩) fun r s₁ hr => ?_
  cases r with
  | error e => exact hr
  | ok fl =>
    cases fl with
    | ret obj =>
      obtain ⟨rfl, rfl⟩ := hr
      have hS : (s.heap.push { cls := .type "set", dict := none, data := .set #[] 0 (.fresh 0 0 (led w)) }).get? s.heap.objs.size = some { cls := .type "set", dict := none, data := .set #[] 0 (.fresh 0 0 (led w)) } := Heap.get?_push_size _ rfl
      have hT : Shared.TypeIs { s with heap := s.heap.push { cls := .type "set", dict := none, data := .set #[] 0 (.fresh 0 0 (led w)) } } (.ref s.heap.objs.size) "set" := ⟨_, hS, rfl⟩
      have hli := F.called_set.init.lookup
      have hbi := F.called_set.init.bind (.ref s.heap.objs.size)
      repeat (any_goals (first | assumption | wp_step))
      refine codeAny_mono (codeAny_call_builtin (R := wants (fun r s₂ => r = .none ∧ ∃ h' tk, s₂ = { s with heap := h', toks := tk } ∧
          (∃ c, c ≤ items.size ∧ SetL prog w h' s.heap.objs.size (seen (fun i => ys.getD i ⟨#[]⟩) items.size) c (led w)) ∧
          (∀ b o, b < s.heap.objs.size → s.heap.get? b = some o → h'.get? b = some o)) E) F.called_set.init.plain F.entry_set_init (check_set_init_1 hT ?_)) fun r₂ s₂ hr₂ => ?_
      · obtain ⟨ol, hol, hcl, nl, hdl⟩ := hl
        obtain ⟨ocls, odict, odata, oslots⟩ := ol
        simp only at hcl hdl
        subst hcl; subst hdl
        have hol' : (s.heap.push { cls := .type "set", dict := none, data := .set #[] 0 (.fresh 0 0 (led w)) }).get? l = some { cls := .type "list", dict := odict, data := .seq items nl, slots := oslots } := Heap.get?_push_of_some _ hol
        have hsls := F.sub_list_set
        have hslf := F.sub_list_frozenset
        have hne : (Value.type "list" == Value.type "dict") = false := by decide
        have hl1 : (s.heap.push { cls := .type "set", dict := none, data := .set #[] 0 (.fresh 0 0 (led w)) }).IsList l items := ⟨_, hol', rfl, nl, rfl⟩
        unfold Builtin.«set.__init__» noKeywords Builtin.Frozenset.updateFrom
        generalize hPI : pyIter = PI
        wp_walk
        subst hPI
        refine wpAny_pyIter_list hl1 ?_
        refine wpAny_bind (wpAny_runValue ?_)
        have hlS : l < s.heap.objs.size := Heap.lt_size hol
        have hh3 : A.in1.in1.in1.handled = none := by simp [hh]
        have hneI : l ≠ (s.heap.push { cls := .type "set", dict := none, data := .set #[] 0 (.fresh 0 0 (led w)) }).objs.size := by
          rw [Heap.size_push]; exact Nat.ne_of_lt (Nat.lt_succ_of_lt hlS)
        have hSf : s.heap.objs.size ∉ [(s.heap.push { cls := .type "set", dict := none, data := .set #[] 0 (.fresh 0 0 (led w)) }).objs.size, l] := by
          rw [Heap.size_push]; simp only [List.mem_cons, List.mem_singleton, List.not_mem_nil, or_false, not_or]
          exact ⟨Nat.ne_of_lt (Nat.lt_succ_self _), Nat.ne_of_gt hlS⟩
        have hval : ∀ (i : Nat) (v : Value), items[i]? = some v → ∃ t, v = .str ((fun i => ys.getD i ⟨#[]⟩) i) t := fun i v hv => by
          obtain ⟨y, t, rfl, hy⟩ := hi.item i v (by rw [Array.getElem?_toList]; exact hv)
          exact ⟨t, by simp [List.getD, hy]⟩
        refine update_loop (L := led w) ((Walks.list hh3 _ l hneI items).toS) s.heap.objs.size
          hSf (fun i => ys.getD i ⟨#[]⟩) hval hb (items.size - 0) 0 _ (by omega) (Nat.zero_le _)
          ⟨⟨_, Heap.get?_push_size _ rfl, rfl, rfl⟩, (hl1.push _)⟩ ?hS0 ?hR
        case hS0 =>
          have hget : ((s.heap.push { cls := .type "set", dict := none, data := .set #[] 0 (.fresh 0 0 (led w)) }).push { cls := .type "list_iterator", data := .fields #[.ref l, .int 0 0] }).get? s.heap.objs.size
              = some { cls := .type "set", dict := none, data := .set #[] 0 (.fresh 0 0 (led w)) } := Heap.get?_push_of_some _ hS
          exact ⟨0, Nat.le_refl _, _, hget, #[], 0, _, ⟨rfl, rfl, rfl⟩, rfl, fun e he => by simp at he, fun k => by simp [seen], by decide, rfl, rfl, rfl, .inl rfl⟩
        case hR =>
          intro s' hm hS'
          obtain ⟨h', g', d', tk', os'⟩ := s'
          have eg : g' = s.gens := hm.gens
          have ed : d' = s.drawn := hm.drawn
          have eo : os' = s.os := hm.os
          subst eg; subst ed; subst eo
          show wpAny _ _ _ _ _ _
          refine wpAny_pure ?_
          show wpAny _ _ (ret Value.none) _ _ _
          refine wpAny_pure ⟨rfl, h', tk', rfl, hS', fun b o hb e => ?_⟩
          have hb1 : b ≠ s.heap.objs.size := Nat.ne_of_lt hb
          have hb2 : b ≠ (s.heap.push { cls := .type "set", dict := none, data := .set #[] 0 (.fresh 0 0 (led w)) }).objs.size := by
            rw [Heap.size_push]; exact Nat.ne_of_lt (Nat.lt_succ_of_lt hb)
          exact hm.heap b o (by simp only [List.mem_cons, List.mem_singleton, List.not_mem_nil, or_false, not_or]; exact ⟨hb1, hb2⟩) (Heap.get?_push_of_some _ (Heap.get?_push_of_some _ e))
      · cases r₂ with
        | error e => exact hr₂
        | ok fl₂ =>
          cases fl₂ with
          | ret r =>
            obtain ⟨rfl, h', tk, rfl, ⟨c, hc, hS'⟩, hk'⟩ := hr₂
            repeat (any_goals (first | assumption | wp_step))
            exact h _ _ c hc hS' hk'
          | _ => exact hr₂.elim
    | _ => exact hr.elim
end
section
variable {prog : Program} {w : World} {A : Around} {E : Value → Shared → Prop} {s : Shared} {h₀ : Heap} {L : Addr} {m : PySem.Str → Option Value} {news : List (Addr × Obj)}
theorem ls_set {l : Addr} {vs : List Value} {ys : List PySem.Str} {nn : Nat} {Q : Value → Shared → Prop} (hh : A.handled = none) (F : Fr h₀ L s.heap m) (N : News h₀ L s.heap news)
    (hm : (l, lstN vs.toArray nn) ∈ news) (hi : StrsAre vs ys) (hz : ys.length ≤ 100)
    (h : ∀ D h' (tk : Nat) o c, Fr h₀ L h' m → News h₀ L h' ((D, o) :: news) → (∀ p ∈ news, p.1 < D) → SetObj prog w o (fun k => decide (k ∈ ys)) c (led w) → c ≤ 100 → Q (.ref D) { s with heap := h', toks := tk }) :
    wpAny (model prog w) A (call (.type "set") [.ref l]) Q E s := by
  have hsz : vs.toArray.size = ys.length := by rw [List.size_toArray, hi.length]
  refine call_set_texts (items := vs.toArray) (ys := ys) hh (isList_of N hm) (by simpa using hi) (by rw [hsz]; unfold scanBound; omega) fun h' tk c hc hS hk => ?_
  obtain ⟨o, ho, hso⟩ := hS
  obtain ⟨oL, _, _, hL, _⟩ := F.ns
  have hLlt : L < s.heap.objs.size := Heap.lt_size hL
  have hval : ∀ k, seen (fun i => ys.getD i ⟨#[]⟩) vs.toArray.size k = decide (k ∈ ys) := by
    intro k
    unfold seen
    rw [Bool.eq_iff_iff, decide_eq_true_eq, decide_eq_true_eq, hsz]
    constructor
    · intro hk
      obtain ⟨i, hi', rfl⟩ := List.mem_map.mp hk
      have hlt := List.mem_range.mp hi'
      rw [List.getD_eq_getElem?_getD, List.getElem?_eq_getElem hlt]; exact List.getElem_mem hlt
    · intro hk
      obtain ⟨i, hlt, rfl⟩ := List.mem_iff_getElem.mp hk
      exact List.mem_map.mpr ⟨i, List.mem_range.mpr hlt, by rw [List.getD_eq_getElem?_getD, List.getElem?_eq_getElem hlt]; rfl⟩
  refine h _ h' tk o c ⟨F.ns.at' fun o' e => hk L o' hLlt e, fun b o' e => hk b o' (Heap.lt_size (F.keep b o' e)) (F.keep b o' e), F.above⟩ (fun p hp => ?_) (fun p hp => Heap.lt_size (N p hp).1) ?_ (by omega)
  · rcases List.mem_cons.mp hp with rfl | hp
    · refine ⟨ho, Nat.ne_of_gt hLlt, ?_⟩
      cases hq : h₀.get? s.heap.objs.size with
      | none => rfl
      | some o' => exact absurd (Heap.lt_size (F.keep _ _ hq)) (Nat.lt_irrefl _)
    · exact ⟨hk _ _ (Heap.lt_size (N p hp).1) (N p hp).1, (N p hp).2.1, (N p hp).2.2⟩
  · have := funext hval
    rw [this] at hso; exact hso
end
end Mine
end SetFromTPart
section IgnPart
open PySem PySem.W PySem.Spec PySem.Calls PyProof.Rows
namespace Mine
/-- as Ct; the new objects are only known to be others -/
def CtN (w : World) (f : Addr) (vs : List Value) (d u : Nat) (Pre : List (Addr × Obj) → Prop) (Out : Value → List (Addr × Obj) → Prop) : Prop :=
  ∀ (p : Program) (loose : List Str) (mean : ExcName → Option Value) (mg mb : Str → Option Value)
    (dp un : Nat) (gd : Option (List Code)) (cn : Str) (cs : Scope) (a : Addr) (ccd : Value) (cl : List (Str × Addr)) (outer : List Env) (A₀ : Around)
    (base h₀ : Heap) (L : Addr) (m : Str → Option Value) (news : List (Addr × Obj)) (s : Shared) (Q E : Value → Shared → Prop),
    Below A₀ base outer h₀ → Fr h₀ L s.heap m → (Mine.hd.heap_39 w.params).In h₀ → News h₀ L s.heap news → Top p loose mean mg mb h₀ → cs.kind = .function →
    dp + d < recursionLimit → un + u < cLine → Pre news →
    (∀ r nx h' tk', Fr h₀ L h' m → News h₀ L h' (nx ++ news) → (∀ q ∈ news, ∀ p ∈ nx, @Ne Nat q.1 p.1) → Out r nx → Q r { s with heap := h', toks := tk' }) →
    wpAny (model PySem.Challenge.rw_ik0027_01.row.prog w) (ktrTop dp un gd cn cs L a ccd cl outer) (call (.ref f) vs) Q E s
theorem CtN.use {w : World} {f : Addr} {vs : List Value} {d u : Nat} {Pre : List (Addr × Obj) → Prop} {Out : Value → List (Addr × Obj) → Prop} (c : CtN w f vs d u Pre Out)
    {p : Program} {loose : List Str} {mean : ExcName → Option Value} {mg mb : Str → Option Value}
    {dp un : Nat} {gd : Option (List Code)} {cn : Str} {cs : Scope} {a : Addr} {ccd : Value} {cl : List (Str × Addr)} {outer : List Env} {A₀ : Around}
    {base h₀ : Heap} {L : Addr} {m : Str → Option Value} {news : List (Addr × Obj)} {s : Shared} {Q E : Value → Shared → Prop}
    (B : Below A₀ base outer h₀) (F : Fr h₀ L s.heap m) (X : (Mine.hd.heap_39 w.params).In h₀) (N : News h₀ L s.heap news) (T : Top p loose mean mg mb h₀) (hk : cs.kind = .function)
    (hd : dp + d < recursionLimit) (hu : un + u < cLine) (hp : Pre news)
    (ret : ∀ r nx h' tk', Fr h₀ L h' m → News h₀ L h' (nx ++ news) → (∀ q ∈ news, ∀ p ∈ nx, @Ne Nat q.1 p.1) → Out r nx → Q r { s with heap := h', toks := tk' }) :
    wpAny (model PySem.Challenge.rw_ik0027_01.row.prog w) (ktrTop dp un gd cn cs L a ccd cl outer) (call (.ref f) vs) Q E s :=
  c p loose mean mg mb dp un gd cn cs a ccd cl outer A₀ base h₀ L m news s Q E B F X N T hk hd hu hp ret
/-- the three attributes of an _Ignore -/
abbrev attrs (w : World) (t1 t2 t3 : Tok) (Ds Dl Dc : Addr) : List DictEntry :=
  [{ hash := PyData.keyHash w.params (Str.ofString "_mods"), key := .str (Str.ofString "_mods") t1, val := .ref Ds },
   { hash := PyData.keyHash w.params (Str.ofString "_dirs"), key := .str (Str.ofString "_dirs") t2, val := .ref Dl },
   { hash := PyData.keyHash w.params (Str.ofString "_ignore"), key := .str (Str.ofString "_ignore") t3, val := .ref Dc }]
def IgnOut (w : World) (ys1 ys2 : List Str) (r : Value) (nx : List (Addr × Obj)) : Prop :=
  ∃ (x d Ds Dl Dc : Addr) (t1 t2 t3 t4 : Tok) (os oc : Obj) (wsd : List Value) (nd k c : Nat), r = .ref x ∧
    nx = [(Dc, oc), (Dl, lstN wsd.toArray nd), (Ds, os), (x, instObj 127 d), (d, dictOf (attrs w t1 t2 t3 Ds Dl Dc) k)] ∧
    SetObj PP w os (fun z => decide (z ∈ ys1)) c (led w) ∧ c ≤ 100 ∧ StrsAre wsd (ys2.map fun y => S (npath (tl y))) ∧ oc.IsDictOf (strKind PP w) [(Str.ofString "<string>", .int 1 t4)] ∧ (Dc == sysModules) = false ∧
    (@LT.lt Nat instLTNat Dl Dc ∧ @LT.lt Nat instLTNat Ds Dc ∧ @LT.lt Nat instLTNat x Dc ∧ @LT.lt Nat instLTNat d Dc ∧ @LT.lt Nat instLTNat d x ∧ @LT.lt Nat instLTNat x Ds ∧ @Ne Nat Ds Dl ∧ @Ne Nat x Dl ∧ @Ne Nat d Dl)
theorem ne5 {news : List (Addr × Obj)} {a b c d e : Addr} {oa ob oc od oe : Obj} (ha : ∀ p ∈ news, @Ne Nat p.1 a) (hb : ∀ p ∈ news, @Ne Nat p.1 b) (hc : ∀ p ∈ news, @Ne Nat p.1 c) (hd : ∀ p ∈ news, @Ne Nat p.1 d) (he : ∀ p ∈ news, @Ne Nat p.1 e) :
    ∀ q ∈ news, ∀ p ∈ [(a, oa), (b, ob), (c, oc), (d, od), (e, oe)], @Ne Nat q.1 p.1 := by
  intro q hq p hp
  simp only [List.mem_cons, List.not_mem_nil, or_false] at hp
  rcases hp with rfl | rfl | rfl | rfl | rfl
  · exact ha q hq
  · exact hb q hq
  · exact hc q hq
  · exact hd q hq
  · exact he q hq
theorem Off1.mem {D : Addr} : ∀ {l : List (Addr × Obj)}, LCg.Off1 D l → ∀ p ∈ l, @Ne Nat p.1 D
  | [], _, _, h => nomatch h
  | q :: r, h, p, hp => by
    rcases List.mem_cons.mp hp with rfl | hp
    · exact h.1
    · exact Off1.mem h.2 p hp
theorem allLt_ne {d : Addr} {l : List (Addr × Obj)} (h : AllLt d l) : ∀ p ∈ l, @Ne Nat p.1 d := fun p hp => Nat.ne_of_lt (AllLt.mem h p hp)
theorem lt_ne2 {d a b : Addr} {oa ob : Obj} {rest : List (Addr × Obj)} (h1 : @LT.lt Nat instLTNat a d) (h2 : @LT.lt Nat instLTNat b d) (h3 : AllLt d rest) : ∀ p ∈ (a, oa) :: (b, ob) :: rest, @Ne Nat p.1 d :=
  allLt_ne (l := (a, oa) :: (b, ob) :: rest) ⟨h1, h2, h3⟩
theorem lt_ne2' {d x a b : Addr} {oa ob : Obj} {rest : List (Addr × Obj)} (h1 : @LT.lt Nat instLTNat a d) (h2 : @LT.lt Nat instLTNat b d) (h3 : AllLt d rest) (h4 : @LT.lt Nat instLTNat d x) : ∀ p ∈ (a, oa) :: (b, ob) :: rest, @Ne Nat p.1 x :=
  fun p hp => Nat.ne_of_lt (Nat.lt_trans (AllLt.mem (l := (a, oa) :: (b, ob) :: rest) ⟨h1, h2, h3⟩ p hp) h4)
theorem off_ne2 {d a b : Addr} {oa ob : Obj} {rest : List (Addr × Obj)} (h1 : @Ne Nat a d) (h2 : @Ne Nat b d) (h3 : LCg.Off1 d rest) : ∀ p ∈ (a, oa) :: (b, ob) :: rest, @Ne Nat p.1 d :=
  Off1.mem (l := (a, oa) :: (b, ob) :: rest) ⟨h1, h2, h3⟩
end Mine
end IgnPart
section D1Part
open PySem PySem.W PySem.Spec PySem.Calls PyProof.Rows
namespace Mine
local macro_rules | `(tactic| k_room) => `(tactic| ktr_room)
local macro_rules | `(tactic| ktr_units) => `(tactic| (have hcL9 := cLine_is; (try simp only [units_under_make, units_in1, units_deeper, Around.mark_units, units_caller] at *); (try dsimp only [ktrTop] at *); omega))
local macro_rules | `(tactic| walk_at "call ref") => `(tactic| (k_here; k_dflt (refine' Ct.use (normpath_ct _ _ _ ?c0) ?k1 ?k2 ?k3 ?k4 ?k5 ?kK ?kd ?ku ?kp ?_; (case k1 => k_asm); (case k2 => k_asm); (case k3 => k_asm); (case k4 => k_asm); (case k5 => k_asm); (case kK => first | exact rfl | assumption); (case kd => ktr_room); (case ku => ktr_units); (case kp => exact trivial)); (case c0 => omega); intro r' x' h' tk' F' N' l' o'; obtain ⟨e1', t', e2'⟩ := o'; subst e1'; subst e2'; rw [List.nil_append] at N'; clear l'; (try dsimp only); (try k_fold)))
local macro_rules | `(tactic| walk_at "truthy ref") => `(tactic| (k_here; (with_reducible show wpAny _ _ (truthy (Value.ref _)) _ _ _); k_dflt (refine' ls_truthy ?k1 ?k2 ?k3 ?z ?_; (case k1 => k_asm); (case k2 => k_mem); (case k3 => assumption); (case z => omega); k_whole)))
local macro_rules | `(tactic| walk_at "mem_list") => `(tactic| (repeat (first | exact List.mem_cons_self | refine List.mem_cons_of_mem _ ?_)))
local macro_rules | `(tactic| walk_at "eval ListComp") => `(tactic| (k_here; k_dflt (refine comp_eval (F₀ := by k_asm) (by with_unfolding_all rfl) (by decide) (by rfl) (by decide) (by rfl) ?_)))
local macro_rules | `(tactic| walk_at "call type:set") => `(tactic| (k_here; k_dflt (refine' ls_set ?k0 ?k1 ?k2 ?k3 ?k4 ?z ?_; (case k0 => rfl); (case k1 => k_asm); (case k2 => k_asm); (case k3 => walk_at "mem_list"); (case k4 => assumption); (case z => omega); k_whole); intro D' h' k' o' c' F' N' lt' hSo' hSc'; (try k_lt lt'); (try k_sweep)))
set_option maxRecDepth 100000 in
set_option maxHeartbeats 4000000 in
theorem ignore_ct (w : World) (a1 a2 : Addr) (ws1 ws2 : List Value) (ys1 ys2 : List Str) (n1 n2 : Nat) (h1 : StrsAre ws1 ys1) (h2 : StrsAre ws2 ys2) (e1 : ys1 ≠ []) (e2 : ys2 ≠ []) (l1 : ys1.length ≤ 11) (l2 : ys2.length ≤ 11) (g2 : ∀ y ∈ ys2, y.length ≤ 900) : CtN w 127 [.ref a1, .ref a2] 20 2000 (fun news => ∃ rest, news = (a2, lstN ws2.toArray n2) :: (a1, lstN ws1.toArray n1) :: rest)
    (IgnOut w ys1 ys2) := by
  w_top off
  unfold CtN
  k_fill
  intro p loose mean mg mb dp un gd cn cs a ccd cl outer A₀ base h₀ L m news s Q E B F X N T hk hd hu hpre hret
  obtain ⟨knd, nms, ig, ic, mo⟩ := cs
  dsimp only at hk
  subst hk
  obtain ⟨rest, rfl⟩ := hpre
  k_steps
  (rename Fr _ _ _ _ => F1)
  (rename News _ _ _ _ => N1)
  refine SrcG.ledger (its := ws2.toArray) (fun i ys => StrsAre ys ((ys2.take i).map fun y => S (npath (tl y)))) rfl F1 N1 (by (repeat (first | exact List.mem_cons_self | refine List.mem_cons_of_mem _ ?_))) (by rw [List.size_toArray, h2.length]; omega) .nil ?_ ?_
  · rintro g i ys v I oI C oC D m₂ h tk E' hi hj hv hC hx' F2 N2 off ne
    clear F1 N1
    obtain ⟨y, ty, rfl, hy⟩ := h2.item i v (by simpa using hv)
    have hyl := g2 y (List.mem_of_getElem? hy)
    k_steps
    show CE _ _ _ _ _ _ _ _
    refine CE.intro (by k_asm) (by k_asm) (fun p hp => hp) ?_
    exact strs_stepL (f := fun y => S (npath (tl y))) hy hj rfl
  · intro ys hj
    rw [show ws2.toArray.size = ys2.length by rw [List.size_toArray, h2.length], List.take_length] at hj
    intro D h tk F2 N2 off
    clear F1 N1
    have off' := off
    obtain ⟨of1, of2, of3, of4, of5, of6⟩ := off
    k_steps
    (rename News _ _ _ _ => N3)
    (rename _ ∧ _ ∧ _ ∧ _ ∧ _ ∧ _ ∧ AllLt _ rest => lc)
    (rename _ ∧ _ ∧ _ ∧ _ ∧ AllLt _ rest => ls)
    (rename _ ∧ _ ∧ AllLt _ rest => ld)
    (rename (_ == sysModules) = false => lm)
    (rename Obj.IsDictOf _ _ _ => hdict)
    (rename SetObj _ _ _ _ _ _ => hset)
    exact hret _ [_, _, _, _, _] _ _ (by k_asm) N3 (ne5 (lt_ne2 lc.2.2.2.2.1 lc.2.2.2.2.2.1 lc.2.2.2.2.2.2) (off_ne2 of4 of5 of6) (lt_ne2 ls.2.2.1 ls.2.2.2.1 ls.2.2.2.2) (lt_ne2' ld.1 ld.2.1 ld.2.2 (by assumption)) (lt_ne2 ld.1 ld.2.1 ld.2.2))
      ⟨_, _, _, _, _, _, _, _, _, _, _, _, _, _, _, rfl, rfl, hset, by assumption, hj, hdict, lm, lc.1, lc.2.1, lc.2.2.1, lc.2.2.2.1, by assumption, ls.1, of1, of2, of3⟩
end Mine
end D1Part
section SetIterPart
open PySem PySem.W PySem.Spec PySem.Calls PyProof.Rows
set_option maxRecDepth 100000
namespace Mine
open PySem
theorem setit_slot_next : Slot "set_iterator" "__next__" "set_iterator.__next__" :=
  .of (owner := "set_iterator") (n := "__next__") (by rw [typeLookup_type, builtinLookup_eq_fast]; kernel_rfl) (by decide +kernel) (by decide +kernel) (by decide +kernel)
    (by first | exact .inl (by decide +kernel) | exact .inr (by decide +kernel)) (by rw [isSubtype_type]; kernel_rfl)
theorem setit_entry_next : entryFor table "set_iterator.__next__" = some Builtin.«set_iterator.__next__» := entryFor_of_tree (by kernel_rfl)
theorem setit_args_next (a : Value) : argsOk "set_iterator.__next__" ⟨[a], []⟩ := by unfold argsOk; kernel_rfl
theorem setit_slot_iter : Slot "set_iterator" "__iter__" "set_iterator.__iter__" :=
  .of (owner := "set_iterator") (n := "__iter__") (by rw [typeLookup_type, builtinLookup_eq_fast]; kernel_rfl) (by decide +kernel) (by decide +kernel) (by decide +kernel)
    (by first | exact .inl (by decide +kernel) | exact .inr (by decide +kernel)) (by rw [isSubtype_type]; kernel_rfl)
theorem setit_entry_iter : entryFor table "set_iterator.__iter__" = some Builtin.«dict_keyiterator.__iter__» :=
  entryFor_alias (id' := "dict_keyiterator.__iter__") (by kernel_rfl) rfl (by decide +kernel) (by kernel_rfl)
theorem setit_args_iter (a : Value) : argsOk "set_iterator.__iter__" ⟨[a], []⟩ := by unfold argsOk; kernel_rfl
theorem set_entry_iter : entryFor table "set.__iter__" = some Builtin.«frozenset.__iter__» :=
  entryFor_alias (id' := "frozenset.__iter__") (by kernel_rfl) rfl (by decide +kernel) (by kernel_rfl)
section
variable {prog : Program} {w : World} {A : Around} {E : Value → Shared → Prop} {s : Shared}
abbrev sitObj (first : Value) (i : Nat) (a : Addr) (n ep : Nat) : Obj := { cls := .type "set_iterator", data := .fields #[first, .int i 0, .ref a, .int n 0, .int ep 0] }
theorem setit_self {it a : Addr} {first : Value} {i n ep : Nat} {Q : Value → Shared → Prop} (hit : s.heap.get? it = some (sitObj first i a n ep)) (h : Q (.ref it) s) :
    wpAny (model prog w) A (pyIter (.ref it)) Q E s := by
  have hT : s.TypeIs (.ref it) "set_iterator" := ⟨_, hit, rfl⟩
  refine wpAny_pyIter_slot hT setit_slot_iter (wpAny_call_entry setit_slot_iter hT setit_entry_iter ?_ (setit_args_iter _))
  show wpAny _ _ (ret (.ref it)) _ _ s
  exact wpAny_pure ⟨_, rfl, "set_iterator", _, hT, setit_slot_next.lookup, h⟩
/-- the part of a next that all three roads share -/
theorem setit_enter {it a : Addr} {first : Value} {i n ep : Nat} {o : Obj} {es : Array (Int × Value)} {t : SetTable} {P : Fin → Shared → Prop} (hit : s.heap.get? it = some (sitObj first i a n ep))
    (ho : s.heap.get? a = some o) (hd : o.data = .set es ep t) (hf : t.fits es.size = true) (hn : es.size = n)
    (h : wpAny (model prog w) A (match first with
      | .int slot _ => do
        match ← setNext a slot.toNat (i : Int).toNat (ep : Int).toNat with
        | some (x, next) =>
          setField (.ref it) 0 (rawInt next)
          setField (.ref it) 1 (rawInt ((i : Int) + 1))
          ret x
        | none => setField (.ref it) 2 .none; raiseNew (← newExc (.type "StopIteration") [])
      | first => do
        let some places ← seqItems? first | unsupported "internal:set_iterator"
        match places[(i : Int).toNat]? with
        | some (.int place _) =>
          let x ← setNextDrawn a place.toNat (ep : Int).toNat
          setField (.ref it) 1 (rawInt ((i : Int) + 1))
          ret x
        | some _ => unsupported "internal:set_iterator"
        | none => setField (.ref it) 0 (rawInt 0); setField (.ref it) 2 .none; raiseNew (← newExc (.type "StopIteration") [])) P E s) :
    wpAny (model prog w) A (Builtin.«set_iterator.__next__» ⟨[.ref it], []⟩) P E s := by
  unfold Builtin.«set_iterator.__next__»
  refine wpAny_bind (wpAny_of_eq (a := (.ref it, [])) rfl ?_)
  dsimp only
  refine wpAny_bind (wpAny_fieldsOf hit rfl ?_)
  dsimp only
  refine wpAny_bind (wpAny_setEntries_of ho hd hf ?_)
  rw [if_neg (by rw [hn]; simp)]
  cases first <;> exact h
theorem choose_any {src : Source} {n : Nat} {Q : Nat → Shared → Prop} (hn : n ≠ 0) (h : ∀ i dr, i < n → Q i { s with drawn := dr }) : wpAny (model prog w) A (choose src n) Q E s := by
  intro Γ p hΓ
  show Sem.wp _ _ (.choose src n pure) _ _ _ _
  rw [Sem.wp_choose]
  refine ⟨hn, ?_⟩
  exact h _ _ (Nat.mod_lt _ (Nat.pos_of_ne_zero hn))
theorem cons_erase {α : Type} : ∀ (xs : List α) (i : Nat) (h : i < xs.length), List.Perm (xs[i] :: xs.eraseIdx i) xs
  | x :: r, 0, h => .rfl
  | x :: r, i + 1, h => by
    show List.Perm (r[i]'(Nat.lt_of_succ_lt_succ h) :: x :: r.eraseIdx i) (x :: r)
    exact (List.Perm.swap _ _ _).trans (List.Perm.cons _ (cons_erase r i (Nat.lt_of_succ_lt_succ h)))
theorem drawOrder_perm {α : Type} : ∀ (n : Nat) (xs : List α) {s : Shared} {Q : List α → Shared → Prop}, n = xs.length → (∀ ys dr, List.Perm ys xs → Q ys { s with drawn := dr }) → wpAny (model prog w) A (drawOrder n xs) Q E s
  | 0, xs, s, Q, hn, h => by
    have hx : xs = [] := List.length_eq_zero_iff.mp hn.symm
    subst hx
    unfold drawOrder
    exact wpAny_pure (h [] s.drawn .rfl)
  | n + 1, [], s, Q, hn, h => by simp at hn
  | n + 1, x :: r, s, Q, hn, h => by
    unfold drawOrder
    refine wpAny_bind (choose_any (by simp) fun i dr hi => ?_)
    rw [List.getElem?_eq_getElem hi]
    dsimp only
    refine wpAny_bind (drawOrder_perm n ((x :: r).eraseIdx i) (s := { s with drawn := dr }) (by rw [List.length_eraseIdx_of_lt hi]; omega) fun ys dr' hp => ?_)
    refine wpAny_pure (h _ _ ?_)
    exact (List.Perm.cons _ hp).trans (cons_erase _ _ hi)
theorem pick_go {α : Type} (next : Nat → Nat) : ∀ (fuel k : Nat) (left : List α) (out : Array α), left.length = fuel → List.Perm (pickOrder.go next fuel k left out).toList (out.toList ++ left)
  | 0, k, left, out, hl => by
    have : left = [] := List.length_eq_zero_iff.mp hl
    subst this
    unfold pickOrder.go
    simp
  | f + 1, k, left, out, hl => by
    unfold pickOrder.go
    have hi : next k % left.length < left.length := Nat.mod_lt _ (by omega)
    rw [List.getElem?_eq_getElem hi]
    dsimp only
    refine (pick_go next f (k + 1) _ _ (by rw [List.length_eraseIdx_of_lt hi]; omega)).trans ?_
    rw [Array.toList_push, List.append_assoc]
    exact List.Perm.append_left _ (cons_erase _ _ hi)
theorem pick_perm {α : Type} (next : Nat → Nat) (xs : Array α) : List.Perm (pickOrder next xs).toList xs.toList := by
  unfold pickOrder
  have := pick_go next xs.size 0 xs.toList #[] (by simp)
  simpa using this
end
end Mine
end SetIterPart
section SetWalkPart
open PySem PySem.W PySem.Spec PySem.Calls PyProof.Rows
set_option maxRecDepth 100000
namespace Mine
open PySem
section
variable {prog : Program} {w : World} {A : Around} {E : Value → Shared → Prop} {s : Shared}
theorem next_of {it a : Addr} {first : Value} {i n ep : Nat} {o : Obj} {es : Array (Int × Value)} {t : SetTable} {Q : Option Value → Shared → Prop} (hh : A.handled = none) (hit : s.heap.get? it = some (sitObj first i a n ep))
    (ho : s.heap.get? a = some o) (hd : o.data = .set es ep t) (hf : t.fits es.size = true) (hn : es.size = n)
    (core : ∀ (A' : Around) (P : Fin → Shared → Prop) (E' : Value → Shared → Prop), A'.handled = none → (∀ v s', Q (some v) s' → P (.done (.ret v)) s') → (∀ e s', s'.TypeIs (.ref e) "StopIteration" → Q none s' → E' (.ref e) s') →
      wpAny (model prog w) A' (match first with
      | .int slot _ => do
        match ← setNext a slot.toNat (i : Int).toNat (ep : Int).toNat with
        | some (x, next) =>
          setField (.ref it) 0 (rawInt next)
          setField (.ref it) 1 (rawInt ((i : Int) + 1))
          ret x
        | none => setField (.ref it) 2 .none; raiseNew (← newExc (.type "StopIteration") [])
      | first => do
        let some places ← seqItems? first | unsupported "internal:set_iterator"
        match places[(i : Int).toNat]? with
        | some (.int place _) =>
          let x ← setNextDrawn a place.toNat (ep : Int).toNat
          setField (.ref it) 1 (rawInt ((i : Int) + 1))
          ret x
        | some _ => unsupported "internal:set_iterator"
        | none => setField (.ref it) 0 (rawInt 0); setField (.ref it) 2 .none; raiseNew (← newExc (.type "StopIteration") [])) P E' s) :
    wpAny (model prog w) A (pyNext (.ref it)) Q E s := by
  have hT : s.TypeIs (.ref it) "set_iterator" := ⟨_, hit, rfl⟩
  unfold pyNext
  refine wpAny_bind (wpAny_attempt (wpAny_callSpecial?_slot (name := PySem.Str.ofString "__next__") hT setit_slot_next
    (wpAny_call_entry setit_slot_next hT setit_entry_next (setit_enter hit ho hd hf hn (core _ _ _ ?_ ?_ ?_)) (setit_args_next _))))
  · exact hh
  · intro v s' hv
    exact ⟨_, rfl, wpAny_pure hv⟩
  · intro e s' hT' hq
    refine wpAny_bind (wpAny_isInstance (T := "StopIteration") (b := true) hT' isSubtype_stop ?_)
    exact wpAny_pure hq
theorem stop_raise {P : Fin → Shared → Prop} (hh : A.handled = none)
    (h : ∀ e h', s.heap.objs.size ≤ e → (∀ b o, s.heap.get? b = some o → h'.get? b = some o) → Shared.TypeIs { s with heap := h' } (.ref e) "StopIteration" → E (.ref e) { s with heap := h' }) :
    wpAny (model prog w) A (do raiseNew (← newExc (.type "StopIteration") [])) P E s := by
  refine wpAny_bind ?_
  simp only [newExc, newTuple]
  refine wpAny_bind (wpAny_newObj_type ?_ (by size_fits))
  refine wpAny_bind (m := firstArgMember _ _) (wpAny_of_eq (a := Value.none) (by first | rfl | (simp only [firstArgMember]; rfl)) ?_)
  refine wpAny_newObj_type ?_ (by size_fits)
  simp only [raiseNew]
  refine wpAny_bind (wpAny_handled ?_)
  rw [hh]
  refine wpAny_bind (wpAny_pure (wpAny_throw ?_))
  exact h _ _ (by rw [Heap.size_push]; exact Nat.le_succ _) (fun b o e => Heap.get?_push_of_some _ (Heap.get?_push_of_some _ e)) ⟨_, Heap.get?_push_size _ rfl, rfl⟩
theorem sit_set {h : Heap} {it a : Addr} {first : Value} {i n ep : Nat} {j : Nat} {v : Value} (hit : h.get? it = some (sitObj first i a n ep)) :
    (h.update it (Obj.mapFields (·.setIfInBounds j v))).get? it = some { cls := .type "set_iterator", data := .fields ((#[first, .int i 0, .ref a, .int n 0, .int ep 0] : Array Value).setIfInBounds j v) } :=
  Heap.get?_update_self _ hit rfl
end
end Mine
end SetWalkPart
section SetWalk2Part
open PySem PySem.W PySem.Spec PySem.Calls PyProof.Rows
set_option maxRecDepth 100000
namespace Mine
open PySem
section
variable {prog : Program} {w : World} {A : Around} {E : Value → Shared → Prop} {s : Shared}
theorem byText_ask {Q : Bool → Shared → Prop} (h : Q (w.params.followText "set-order") s) : wpAny (model prog w) A setsByText Q E s := by
  unfold setsByText; exact wpAny_bind (wpAny_askSetting (wpAny_pure h))
theorem sit_next {h : Heap} {I a : Addr} {first : Value} {i n ep : Nat} (hit : h.get? I = some (sitObj first i a n ep)) :
    (h.update I (Obj.mapFields (·.setIfInBounds 1 (rawInt ((i : Int) + 1))))).get? I = some (sitObj first (i + 1) a n ep) := by
  rw [sit_set hit]; rfl
theorem walk_text {I a : Addr} {o : Obj} {es : Array (Int × Value)} {ep n : Nat} {t : SetTable} (hh : A.handled = none) (hne : a ≠ I) (hd : o.data = .set es ep t) (hf : t.fits es.size = true) (hn : es.size = n)
    (hx : w.params.followText "set-order" = true) :
    Walks prog w A I [I, a] [I] n (fun i v => ((pickOrder (w.params.setOrder a ep) es)[i]?).map (·.2) = some v) (fun i h => h.get? I = some (sitObj (.int 0 0) i a n ep) ∧ h.get? a = some o) where
  sub := fun b hb => by simp at hb; simp [hb]
  frame := fun i h h' st hk => ⟨hk I (by simp) _ st.1, hk a (by simp) _ st.2⟩
  item := fun i s Q E hi st hQ => by
    obtain ⟨h1, h2⟩ := st
    have hsz : (pickOrder (w.params.setOrder a ep) es).size = n := by
      rw [← Array.length_toList, (pick_perm _ es).length_eq, Array.length_toList, hn]
    refine next_of hh h1 h2 hd hf hn fun A' P E' hh' hok _ => ?_
    dsimp only
    refine wpAny_bind ?_
    unfold setNext
    refine wpAny_bind (wpAny_setState_of h2 hd hf ?_)
    refine wpAny_bind (byText_ask ?_)
    rw [hx]
    simp only [if_true]
    rw [if_neg (by simp)]
    unfold setWalk
    refine wpAny_bind (wpAny_bind (wpAny_setState_of h2 hd hf ?_))
    refine wpAny_bind (byText_ask ?_)
    rw [hx]
    simp only [if_true]
    refine wpAny_bind (wpAny_askSetting ?_)
    refine wpAny_pure (wpAny_pure ?_)
    simp only [show (model prog w).w = w from rfl]
    rw [Int.toNat_natCast, Array.getElem?_eq_getElem (Nat.lt_of_lt_of_le hi (Nat.le_of_eq hsz.symm))]
    simp only [Option.map_some]
    refine wpAny_bind (wpAny_setField h1 rfl (by simp) ?_)
    have h3 := sit_set (j := 0) (v := rawInt ((Int.toNat 0 : Nat) : Int)) h1
    have h3' : (s.heap.update I (Obj.mapFields (·.setIfInBounds 0 (rawInt ((Int.toNat 0 : Nat) : Int))))).get? I = some (sitObj (.int 0 0) i a n ep) := h3
    have hk1 := Heap.SameBut.update s.heap I (Obj.mapFields (·.setIfInBounds 0 (rawInt ((Int.toNat 0 : Nat) : Int))))
    refine wpAny_bind (wpAny_setField h3' rfl (by simp) ?_)
    have hk2 := Heap.SameBut.update (s.heap.update I (Obj.mapFields (·.setIfInBounds 0 (rawInt ((Int.toNat 0 : Nat) : Int))))) I (Obj.mapFields (·.setIfInBounds 1 (rawInt ((i : Int) + 1))))
    refine wpAny_pure (hok _ _ (hQ _ _ s.toks ?_ ⟨sit_next h3', ?_⟩ ?_))
    · rw [Array.getElem?_eq_getElem (by rw [hsz]; exact hi)]; rfl
    · exact (hk2.2 _ hne).trans ((hk1.2 _ hne).trans h2)
    · intro b o' hb e
      have hb' : b ≠ I := by simpa using hb
      exact (hk2.2 _ hb').trans ((hk1.2 _ hb').trans e)
  done := fun s Q E st hQ => by
    obtain ⟨h1, h2⟩ := st
    have hsz : (pickOrder (w.params.setOrder a ep) es).size = n := by
      rw [← Array.length_toList, (pick_perm _ es).length_eq, Array.length_toList, hn]
    refine next_of hh h1 h2 hd hf hn fun A' P E' hh' _ hstop => ?_
    dsimp only
    refine wpAny_bind ?_
    unfold setNext
    refine wpAny_bind (wpAny_setState_of h2 hd hf ?_)
    refine wpAny_bind (byText_ask ?_)
    rw [hx]
    simp only [if_true]
    rw [if_neg (by simp)]
    unfold setWalk
    refine wpAny_bind (wpAny_bind (wpAny_setState_of h2 hd hf ?_))
    refine wpAny_bind (byText_ask ?_)
    rw [hx]
    simp only [if_true]
    refine wpAny_bind (wpAny_askSetting ?_)
    refine wpAny_pure (wpAny_pure ?_)
    simp only [show (model prog w).w = w from rfl]
    rw [Int.toNat_natCast, Array.getElem?_eq_none (Nat.le_of_eq hsz)]
    simp only [Option.map_none]
    refine wpAny_bind (wpAny_setField h1 rfl (by simp) ?_)
    have hk1 := Heap.SameBut.update s.heap I (Obj.mapFields (·.setIfInBounds 2 Value.none))
    refine stop_raise hh' fun e h' _ hk hT => hstop e _ hT (hQ _ s.toks fun b o' hb e' => ?_)
    have hb' : b ≠ I := by simpa using hb
    exact hk _ _ ((hk1.2 _ hb').trans e')
  self := fun i s Q E st hQ => setit_self st.1 hQ

abbrev plcs (ord : List Nat) : List Value := ord.map fun (i : Nat) => rawInt (i : Int)
theorem walk_drawn {I a T : Addr} {o : Obj} {es : Array (Int × Value)} {ep n : Nat} {t : SetTable} {ord : List Nat} (hh : A.handled = none) (hne : a ≠ I) (hnT : T ≠ I) (hd : o.data = .set es ep t) (hf : t.fits es.size = true) (hn : es.size = n)
    (hord : List.Perm ord (List.range n)) :
    Walks prog w A I [I, a, T] [I] n (fun i v => (ord[i]?).bind (fun j => (es[j]?).map (·.2)) = some v) (fun i h => h.get? I = some (sitObj (.ref T) i a n ep) ∧ h.get? a = some o ∧ h.get? T = some (tup (plcs ord))) where
  sub := fun b hb => by simp at hb; simp [hb]
  frame := fun i h h' st hk => ⟨hk I (by simp) _ st.1, hk a (by simp) _ st.2.1, hk T (by simp) _ st.2.2⟩
  item := fun i s Q E hi st hQ => by
    obtain ⟨h1, h2, h3⟩ := st
    have hlen : ord.length = n := by rw [hord.length_eq, List.length_range]
    have hi' : i < ord.length := by rw [hlen]; exact hi
    have hj : ord[i] < n := by
      have := hord.mem_iff.mp (List.getElem_mem hi'); exact List.mem_range.mp this
    have hj' : ord[i] < es.size := by rw [hn]; exact hj
    refine next_of hh h1 h2 hd hf hn fun A' P E' hh' hok _ => ?_
    dsimp only
    refine wpAny_bind (wpAny_seqItems h3 rfl ?_)
    dsimp only
    have hg : (plcs ord).toArray[(i : Int).toNat]? = some (.int (ord[i] : Int) 0) := by
      rw [Int.toNat_natCast, List.getElem?_toArray, List.getElem?_map, List.getElem?_eq_getElem hi']; rfl
    rw [hg]
    dsimp only
    unfold setNextDrawn
    refine wpAny_bind (wpAny_bind (wpAny_setState_of h2 hd hf ?_))
    dsimp only
    rw [if_neg (by simp), Int.toNat_natCast, Array.getElem?_eq_getElem hj']
    refine wpAny_pure ?_
    refine wpAny_bind (wpAny_setField h1 rfl (by simp) ?_)
    have hk2 := Heap.SameBut.update s.heap I (Obj.mapFields (·.setIfInBounds 1 (rawInt ((i : Int) + 1))))
    refine wpAny_pure (hok _ _ (hQ _ _ s.toks ?_ ⟨sit_next h1, (hk2.2 _ hne).trans h2, (hk2.2 _ hnT).trans h3⟩ ?_))
    · rw [List.getElem?_eq_getElem hi', Option.bind_some, Array.getElem?_eq_getElem hj']; rfl
    · intro b o' hb e
      exact (hk2.2 _ (by simpa using hb)).trans e
  done := fun s Q E st hQ => by
    obtain ⟨h1, h2, h3⟩ := st
    have hlen : ord.length = n := by rw [hord.length_eq, List.length_range]
    refine next_of hh h1 h2 hd hf hn fun A' P E' hh' _ hstop => ?_
    dsimp only
    refine wpAny_bind (wpAny_seqItems h3 rfl ?_)
    dsimp only
    have hg : (plcs ord).toArray[(n : Int).toNat]? = none := by
      rw [Int.toNat_natCast, List.getElem?_toArray, List.getElem?_map, List.getElem?_eq_none (by rw [hlen]; exact Nat.le_refl _)]; rfl
    rw [hg]
    dsimp only
    refine wpAny_bind (wpAny_setField h1 rfl (by simp) ?_)
    have hk1 := Heap.SameBut.update s.heap I (Obj.mapFields (·.setIfInBounds 0 (rawInt 0)))
    have h4 := sit_set (j := 0) (v := rawInt 0) h1
    refine wpAny_bind (wpAny_setField h4 rfl (by simp) ?_)
    have hk2 := Heap.SameBut.update (s.heap.update I (Obj.mapFields (·.setIfInBounds 0 (rawInt 0)))) I (Obj.mapFields (·.setIfInBounds 2 Value.none))
    refine stop_raise hh' fun e h' _ hk hT => hstop e _ hT (hQ _ s.toks fun b o' hb e' => ?_)
    have hb' : b ≠ I := by simpa using hb
    exact hk _ _ ((hk2.2 _ hb').trans ((hk1.2 _ hb').trans e'))
  self := fun i s Q E st hQ => setit_self st.1 hQ
end
end Mine
end SetWalk2Part
section SetWalk3Part
open PySem PySem.W PySem.Spec PySem.Calls PyProof.Rows
set_option maxRecDepth 100000
namespace Mine
open PySem
section
variable {prog : Program} {w : World} {A : Around} {E : Value → Shared → Prop} {s : Shared}
theorem next_one_core {a : Addr} {o : Obj} {es : Array (Int × Value)} {ep slot i : Nat} {t : SetTable} {Q : Option (Value × Nat) → Shared → Prop} (h2 : s.heap.get? a = some o) (hd : o.data = .set es ep t) (hf : t.fits es.size = true) (hn : es.size = 1) (hl : t.led = true)
    (hx : w.params.followText "set-order" = false)
    (h : Q (match es[SetTable.below t.place slot]?, t.place[SetTable.below t.place slot]? with | some (_, x), some j => some (x, j + 1) | _, _ => none) s) :
    wpAny (model prog w) A (setNext a slot i ep) Q E s := by
  unfold setNext
  refine wpAny_bind (wpAny_setState_of h2 hd hf ?_)
  refine wpAny_bind (byText_ask ?_)
  rw [hx]
  simp only [Bool.false_eq_true, if_false]
  rw [if_neg (by show ¬ ((!t.plain && decide (es.size > 1)) = true); simp [hn])]
  refine wpAny_bind (wpAny_of_eq (a := ()) ?_ ?_)
  · show (if (!t.led && !es.isEmpty) = true then _ else _) = _
    rw [if_neg (by rw [hl]; simp)]
  · exact wpAny_pure h
theorem below_one (j slot : Nat) : SetTable.below #[j] slot = if j < slot then 1 else 0 := by
  unfold SetTable.below
  show SetTable.below.go #[j] slot 1 0 1 = _
  unfold SetTable.below.go
  simp only [Nat.lt_one_iff, if_true]
  by_cases h : j < slot
  · simp [h, SetTable.below.go]
  · simp [h, SetTable.below.go]
theorem walk_one {I a : Addr} {o : Obj} {es : Array (Int × Value)} {ep j : Nat} {t : SetTable} (hh : A.handled = none) (hne : a ≠ I) (hd : o.data = .set es ep t) (hf : t.fits es.size = true) (hn : es.size = 1) (hl : t.led = true) (hpl : t.place = #[j])
    (hx : w.params.followText "set-order" = false) :
    Walks prog w A I [I, a] [I] 1 (fun i v => (es[i]?).map (·.2) = some v) (fun i h => (∃ slot : Nat, h.get? I = some (sitObj (.int (slot : Int) 0) i a 1 ep) ∧ (i = 0 → slot = 0) ∧ (0 < i → slot = j + 1)) ∧ h.get? a = some o) where
  sub := fun b hb => by simp at hb; simp [hb]
  frame := fun i h h' st hk => by
    obtain ⟨⟨sl, h1, h2⟩, h3⟩ := st
    exact ⟨⟨sl, hk I (by simp) _ h1, h2⟩, hk a (by simp) _ h3⟩
  item := fun i s Q E hi st hQ => by
    obtain ⟨⟨slot, h1, hs0, hs1⟩, h2⟩ := st
    have hi0 : i = 0 := by omega
    subst hi0
    have : slot = 0 := hs0 rfl
    subst this
    refine next_of hh h1 h2 hd hf hn fun A' P E' hh' hok _ => ?_
    dsimp only
    refine wpAny_bind ?_
    refine next_one_core h2 hd hf hn hl hx ?_
    rw [hpl, Int.toNat_natCast, below_one, if_neg (by omega), Array.getElem?_eq_getElem (by rw [hn]; omega)]
    simp only [List.getElem?_toArray, List.getElem?_cons_zero]
    refine wpAny_bind (wpAny_setField h1 rfl (by simp) ?_)
    have h3 := sit_set (j := 0) (v := rawInt ((j + 1 : Nat) : Int)) h1
    have h3' : (s.heap.update I (Obj.mapFields (·.setIfInBounds 0 (rawInt ((j + 1 : Nat) : Int))))).get? I = some (sitObj (.int ((j + 1 : Nat) : Int) 0) 0 a 1 ep) := h3
    have hk1 := Heap.SameBut.update s.heap I (Obj.mapFields (·.setIfInBounds 0 (rawInt ((j + 1 : Nat) : Int))))
    refine wpAny_bind (wpAny_setField h3' rfl (by simp) ?_)
    have hk2 := Heap.SameBut.update (s.heap.update I (Obj.mapFields (·.setIfInBounds 0 (rawInt ((j + 1 : Nat) : Int))))) I (Obj.mapFields (·.setIfInBounds 1 (rawInt (((0 : Nat) : Int) + 1))))
    refine wpAny_pure (hok _ _ (hQ _ _ s.toks ?_ ⟨⟨j + 1, sit_next h3', fun h => absurd h (by omega), fun _ => rfl⟩, ?_⟩ ?_))
    · rw [Array.getElem?_eq_getElem (by rw [hn]; omega)]; rfl
    · exact (hk2.2 _ hne).trans ((hk1.2 _ hne).trans h2)
    · intro b o' hb e
      have hb' : b ≠ I := by simpa using hb
      exact (hk2.2 _ hb').trans ((hk1.2 _ hb').trans e)
  done := fun s Q E st hQ => by
    obtain ⟨⟨slot, h1, hs0, hs1⟩, h2⟩ := st
    have : slot = j + 1 := hs1 (by omega)
    subst this
    refine next_of hh h1 h2 hd hf hn fun A' P E' hh' _ hstop => ?_
    dsimp only
    refine wpAny_bind ?_
    refine next_one_core h2 hd hf hn hl hx ?_
    rw [hpl, Int.toNat_natCast, below_one, if_pos (by omega), Array.getElem?_eq_none (by rw [hn]; omega)]
    dsimp only
    refine wpAny_bind (wpAny_setField h1 rfl (by simp) ?_)
    have hk1 := Heap.SameBut.update s.heap I (Obj.mapFields (·.setIfInBounds 2 Value.none))
    refine stop_raise hh' fun e h' _ hk hT => hstop e _ hT (hQ _ s.toks fun b o' hb e' => ?_)
    have hb' : b ≠ I := by simpa using hb
    exact hk _ _ ((hk1.2 _ hb').trans e')
  self := fun i s Q E st hQ => by
    obtain ⟨⟨slot, h1, _⟩, _⟩ := st
    exact setit_self h1 hQ

/-- what a walk over a set of texts gives: an iterator, its texts, and the objects beside it -/
theorem iter_set {a : Addr} {o : Obj} {S : PySem.Str → Bool} {n : Nat} {Q : Value → Shared → Prop} (hh : A.handled = none) (ho : s.heap.get? a = some o) (hS : SetObj prog w o S n (led w)) (hpos : 1 ≤ n)
    (hQ : ∀ (I : Addr) (fp : List Addr) (N : Nat) (P : Nat → Value → Prop) (St : Nat → Heap → Prop) (vals : List PySem.Str) (extra : List (Addr × Obj)) h' dr tk,
      Walks prog w A I fp [I] N P St → St 0 h' → (∀ i h, St i h → ∃ o, h.get? I = some o) → N = vals.length → (∀ i v, i < N → P i v → ∃ x t, vals[i]? = some x ∧ v = .str x t) → (∀ k, S k = true ↔ k ∈ vals) →
      (∀ b ∈ fp, b = I ∨ b = a ∨ ∃ o, (b, o) ∈ extra) → s.heap.objs.size ≤ I → (∀ p ∈ extra, s.heap.objs.size ≤ p.1 ∧ p.1 ≠ I ∧ h'.get? p.1 = some p.2) → (∀ b o, s.heap.get? b = some o → h'.get? b = some o) →
      Q (.ref I) { s with heap := h', toks := tk, drawn := dr }) :
    wpAny (model prog w) A (pyIter (.ref a)) Q E s := by
  obtain ⟨es, ep, t, hex, hd, hel, hmem, hb, hf, hn, hl, hpl⟩ := hS
  have hT : s.TypeIs (.ref a) "set" := ⟨o, ho, hex.1⟩
  have hane : ∀ z, s.heap.objs.size ≤ z → a ≠ z := fun z hz e => absurd (Heap.lt_size ho) (by rw [e]; exact Nat.not_lt.mpr hz)
  have hval : ∀ e ∈ es.toList, ∃ k tk, e.2 = .str k tk := fun e he => by
    obtain ⟨⟨k, hk, _⟩, _⟩ := hel e he
    obtain ⟨tk, e2⟩ := Value.isStrOf_shape hk
    exact ⟨k, tk, e2⟩
  have hkey : ∀ (k : PySem.Str) (tk : Tok) (z : PySem.Str), (strKind prog w).is z (.str k tk) = true ↔ z = k := fun k tk z => by
    constructor
    · intro h
      exact (strKind prog w).inj _ _ _ h (strKind_is prog w k tk)
    · rintro rfl; exact strKind_is prog w z tk
  let key : Int × Value → PySem.Str := fun e => match e.2 with | .str k _ => k | _ => ⟨#[]⟩
  have hkv : ∀ e ∈ es.toList, ∃ tk, e.2 = .str (key e) tk := fun e he => by
    obtain ⟨k, tk, h⟩ := hval e he
    exact ⟨tk, by show e.2 = .str (match e.2 with | .str k _ => k | _ => ⟨#[]⟩) tk; rw [h]⟩
  have hin : ∀ (ord : List (Int × Value)), List.Perm ord es.toList → ∀ k, S k = true ↔ k ∈ ord.map key := fun ord hp k => by
    rw [hmem k]
    constructor
    · rintro ⟨e, he, hk⟩
      obtain ⟨tk, h2⟩ := hkv e he
      rw [h2, hkey] at hk
      exact List.mem_map.mpr ⟨e, hp.mem_iff.mpr he, hk.symm⟩
    · intro hk
      obtain ⟨e, he, rfl⟩ := List.mem_map.mp hk
      have he' := hp.mem_iff.mp he
      obtain ⟨tk, h2⟩ := hkv e he'
      exact ⟨e, he', by rw [h2]; exact (hkey _ _ _).mpr rfl⟩
  refine wpAny_pyIter_slot hT F.slot_set_iter (wpAny_call_entry F.slot_set_iter hT set_entry_iter ?_ (F.args_set_iter_1 _))
  unfold Builtin.«frozenset.__iter__»
  refine wpAny_bind (wpAny_of_eq (a := a) rfl ?_)
  refine wpAny_bind (wpAny_bind (wpAny_setEntries_of ho hd hf (wpAny_pure ?_)))
  have up : ∀ (ob : Obj) b o', s.heap.get? b = some o' → (s.heap.push ob).get? b = some o' := fun ob b o' e => Heap.get?_push_of_some _ e
  cases hx : w.params.followText "set-order" with
  | true =>
    have hd0 : ∀ {Q' : Bool → Shared → Prop} {A'' : Around} {E'' : Value → Shared → Prop}, Q' false s → wpAny (model prog w) A'' (setDrawn a) Q' E'' s := fun {Q'} {A''} {E''} hq => by
      unfold setDrawn
      refine wpAny_bind (wpAny_setState_of ho hd hf ?_)
      refine wpAny_bind (byText_ask ?_)
      rw [hx]
      exact wpAny_pure hq
    refine wpAny_bind (hd0 ?_)
    simp only [Bool.false_eq_true, if_false]
    refine wpAny_bind (wpAny_pure ?_)
    refine wpAny_bind (wpAny_setEpoch_of ho hd hf ?_)
    refine wpAny_bind (wpAny_newObj_type ?_)
    refine wpAny_pure ⟨_, rfl, "set_iterator", _, ⟨_, Heap.get?_push_size _ rfl, rfl⟩, setit_slot_next.lookup, ?_⟩
    have hI := hane s.heap.objs.size (Nat.le_refl _)
    refine hQ s.heap.objs.size [s.heap.objs.size, a] n _ _ ((pickOrder (w.params.setOrder a ep) es).toList.map key) [] _ s.drawn s.toks (walk_text hh hI hd hf hn hx) ⟨by rw [hn]; exact Heap.get?_push_size _ rfl, up _ _ _ ho⟩ (fun i h st => ⟨_, st.1⟩) ?_ ?_ (hin _ (pick_perm _ es)) (fun b hb => ?_) (Nat.le_refl _) (fun p hp => nomatch hp) (up _)
    · rw [List.length_map, (pick_perm _ es).length_eq, Array.length_toList, hn]
    · intro i v hi hv
      obtain ⟨e, he, hv'⟩ := Option.map_eq_some_iff.mp hv
      have he' : (pickOrder (w.params.setOrder a ep) es).toList[i]? = some e := by rw [Array.getElem?_toList]; exact he
      obtain ⟨tk, h2⟩ := hkv e ((pick_perm _ es).mem_iff.mp (List.mem_of_getElem? he'))
      exact ⟨key e, tk, by rw [List.getElem?_map, he']; rfl, by rw [← hv', h2]⟩
    · rcases List.mem_cons.mp hb with rfl | hb
      · exact .inl rfl
      · exact .inr (.inl (List.mem_singleton.mp hb))
  | false =>
    have hl' : t.led = true := by rw [hl]; show (!w.params.followText "set-order") = true; rw [hx]; rfl
    by_cases hn1 : n = 1
    · subst hn1
      have hd0 : ∀ {Q' : Bool → Shared → Prop} {A'' : Around} {E'' : Value → Shared → Prop}, Q' false s → wpAny (model prog w) A'' (setDrawn a) Q' E'' s := fun {Q'} {A''} {E''} hq => by
        unfold setDrawn
        refine wpAny_bind (wpAny_setState_of ho hd hf ?_)
        refine wpAny_bind (byText_ask ?_)
        rw [hx]
        refine wpAny_pure ?_
        have e : (!false && (!t.plain && decide (es.size > 1))) = false := by rw [hn]; simp
        show Q' (!false && (!t.plain && decide (es.size > 1))) s
        rw [e]; exact hq
      obtain ⟨j, hj⟩ : ∃ j, t.place = #[j] := by
        have hps : t.place.size = 1 := by
          simp only [SetTable.fits, Bool.and_eq_true, beq_iff_eq, decide_eq_true_eq] at hf
          rw [hf.1, hn]
        exact Array.size_eq_one_iff.mp hps
      refine wpAny_bind (hd0 ?_)
      simp only [Bool.false_eq_true, if_false]
      refine wpAny_bind (wpAny_pure ?_)
      refine wpAny_bind (wpAny_setEpoch_of ho hd hf ?_)
      refine wpAny_bind (wpAny_newObj_type ?_)
      refine wpAny_pure ⟨_, rfl, "set_iterator", _, ⟨_, Heap.get?_push_size _ rfl, rfl⟩, setit_slot_next.lookup, ?_⟩
      have hI := hane s.heap.objs.size (Nat.le_refl _)
      refine hQ s.heap.objs.size [s.heap.objs.size, a] 1 _ _ (es.toList.map key) [] _ s.drawn s.toks (walk_one hh hI hd hf hn hl' hj hx) ⟨⟨0, by rw [hn]; exact Heap.get?_push_size _ rfl, fun _ => rfl, fun h => absurd h (Nat.lt_irrefl _)⟩, up _ _ _ ho⟩ (fun i h st => by obtain ⟨⟨sl, h1, _⟩, _⟩ := st; exact ⟨_, h1⟩) ?_ ?_ (hin _ .rfl) (fun b hb => ?_) (Nat.le_refl _) (fun p hp => nomatch hp) (up _)
      · rw [List.length_map, Array.length_toList, hn]
      · intro i v hi hv
        obtain ⟨e, he, hv'⟩ := Option.map_eq_some_iff.mp hv
        have he' : es.toList[i]? = some e := by rw [Array.getElem?_toList]; exact he
        obtain ⟨tk, h2⟩ := hkv e (List.mem_of_getElem? he')
        exact ⟨key e, tk, by rw [List.getElem?_map, he']; rfl, by rw [← hv', h2]⟩
      · rcases List.mem_cons.mp hb with rfl | hb
        · exact .inl rfl
        · exact .inr (.inl (List.mem_singleton.mp hb))
    · have hp0 : t.plain = false := by
        rcases hpl with h | h
        · omega
        · exact h
      have hd1 : ∀ {Q' : Bool → Shared → Prop} {A'' : Around} {E'' : Value → Shared → Prop}, Q' true s → wpAny (model prog w) A'' (setDrawn a) Q' E'' s := fun {Q'} {A''} {E''} hq => by
        unfold setDrawn
        refine wpAny_bind (wpAny_setState_of ho hd hf ?_)
        refine wpAny_bind (byText_ask ?_)
        rw [hx]
        refine wpAny_pure ?_
        have e : (!false && (!t.plain && decide (es.size > 1))) = true := by rw [hn, hp0]; simp; omega
        show Q' (!false && (!t.plain && decide (es.size > 1))) s
        rw [e]; exact hq
      refine wpAny_bind (hd1 ?_)
      simp only [if_true]
      refine wpAny_bind (drawOrder_perm es.size (List.range es.size) (by rw [List.length_range]) fun ord dr hperm => ?_)
      rw [hn] at hperm
      refine wpAny_bind (m := newTuple _) ?_
      refine wpAny_newObj_type ?_ (by show (plcs ord).toArray.size ≤ sizeLine; rw [List.size_toArray, List.length_map, hperm.length_eq, List.length_range, sizeLine_eq]; have : scanBound = 4096 := rfl; omega)
      have hT0 := up { cls := .type "tuple", data := .seq (plcs ord).toArray } a o ho
      refine wpAny_bind (wpAny_setEpoch_of (s := { s with heap := s.heap.push { cls := .type "tuple", data := .seq (plcs ord).toArray }, drawn := dr }) hT0 hd hf ?_)
      refine wpAny_bind (wpAny_newObj_type ?_)
      refine wpAny_pure ⟨_, rfl, "set_iterator", _, ⟨_, Heap.get?_push_size _ rfl, rfl⟩, setit_slot_next.lookup, ?_⟩
      have hTI : s.heap.objs.size ≠ (s.heap.push { cls := .type "tuple", data := .seq (plcs ord).toArray }).objs.size := by rw [Heap.size_push]; exact Nat.ne_of_lt (Nat.lt_succ_self _)
      have hI := hane (s.heap.push { cls := .type "tuple", data := .seq (plcs ord).toArray }).objs.size (by rw [Heap.size_push]; exact Nat.le_succ _)
      have hTT : ((s.heap.push { cls := .type "tuple", data := .seq (plcs ord).toArray }).push (sitObj (.ref s.heap.objs.size) 0 a n ep)).get? s.heap.objs.size = some (tup (plcs ord)) := Heap.get?_push_of_some _ (Heap.get?_push_size _ rfl)
      rw [hn]
      refine hQ (s.heap.push { cls := .type "tuple", data := .seq (plcs ord).toArray }).objs.size [(s.heap.push { cls := .type "tuple", data := .seq (plcs ord).toArray }).objs.size, a, s.heap.objs.size] n _ _ ((ord.filterMap fun j => es[j]?).map key) [(s.heap.objs.size, tup (plcs ord))] _ dr s.toks (walk_drawn hh hI hTI hd hf hn hperm) ⟨Heap.get?_push_size _ rfl, Heap.get?_push_of_some _ hT0, hTT⟩ (fun i h st => ⟨_, st.1⟩) ?_ ?_ (hin _ ?_) (fun b hb => ?_) (by rw [Heap.size_push]; exact Nat.le_succ _) (fun p hp => ?_) (fun b o' e => Heap.get?_push_of_some _ (up _ _ _ e))
      · have hlen : (ord.filterMap fun j => es[j]?).length = n := by
          have h2 := (hperm.filterMap fun j => es[j]?).length_eq
          rw [h2, ← hn, filterMap_getElem?_range, Array.length_toList]
        rw [List.length_map, hlen]
      · intro i v hi hv
        have hlen : ord.length = n := by rw [hperm.length_eq, List.length_range]
        have hi' : i < ord.length := by rw [hlen]; exact hi
        have hall : ∀ (l : List Nat), (∀ j ∈ l, j < n) → ∀ (i : Nat), (l.filterMap fun j => es[j]?)[i]? = (l[i]?).bind fun j => es[j]? := by
          intro l
          induction l with
          | nil => intro _ i; simp
          | cons j r ih =>
            intro hj i
            have hjn : j < es.size := by rw [hn]; exact hj j List.mem_cons_self
            rw [List.filterMap_cons_some (b := es[j]) (Array.getElem?_eq_getElem hjn)]
            cases i with
            | zero => simp [hjn]
            | succ i => simpa using ih (fun z hz => hj z (List.mem_cons_of_mem _ hz)) i
        rw [List.getElem?_eq_getElem hi', Option.bind_some] at hv
        obtain ⟨e, he, hv'⟩ := Option.map_eq_some_iff.mp hv
        obtain ⟨tk, h2⟩ := hkv e (by have := Array.mem_of_getElem? he; simpa using this)
        refine ⟨key e, tk, ?_, by rw [← hv', h2]⟩
        rw [List.getElem?_map, hall ord (fun j hj => List.mem_range.mp (hperm.mem_iff.mp hj)) i, List.getElem?_eq_getElem hi', Option.bind_some, he]
        rfl
      · have h2 := hperm.filterMap fun j => es[j]?
        rw [← hn, filterMap_getElem?_range] at h2
        exact h2
      · simp only [List.mem_cons, List.not_mem_nil, or_false] at hb
        rcases hb with rfl | rfl | rfl
        · exact .inl rfl
        · exact .inr (.inl rfl)
        · exact .inr (.inr ⟨_, List.mem_singleton.mpr rfl⟩)
      · rw [List.mem_singleton.mp hp]
        exact ⟨Nat.le_refl _, hTI, hTT⟩
end
end Mine
end SetWalk3Part
section ScanPart
open PySem PySem.W PySem.Spec PySem.Calls PyProof.Rows
namespace Mine
/-- the state between two turns of a scan: nothing has changed, no hit so far -/
def SJ (led : List (Addr × Obj)) (m₀ : Str → Option Value) (x : Str) (vals : List Str) (hit : Str → Bool) (i : Nat) (m : Str → Option Value) (nx : List (Addr × Obj)) : Prop :=
  nx = led ∧ (∀ z, z ≠ x → m z = m₀ z) ∧ ∀ j, j < i → ∀ y, vals[j]? = some y → hit y = false
/-- the end of a scan's turn -/
def SEnd (h₀ : Heap) (L : Addr) (led own : List (Addr × Obj)) (m₀ : Str → Option Value) (x : Str) (miss : Prop) (s₁ : Shared) (Q : Flow → Shared → Prop) (f : Flow) (s₂ : Shared) : Prop :=
  match f with
  | .ret v => Q (.ret v) s₂
  | .brk => Q .next s₂
  | _ => ∃ h' tk m' news', s₂ = { s₁ with heap := h', toks := tk } ∧ Fr h₀ L h' m' ∧ News h₀ L h' news' ∧ (∀ p ∈ led, p ∈ news') ∧ (∀ p ∈ own, p ∈ news') ∧ (∀ z, z ≠ x → m' z = m₀ z) ∧ miss
theorem SEnd.go {h₀ : Heap} {L : Addr} {led own news' : List (Addr × Obj)} {m₀ m' : Str → Option Value} {x : Str} {miss : Prop} {s₁ : Shared} {Q : Flow → Shared → Prop} {f : Flow} {h' : Heap} {tk : Nat} (hf : f = .next ∨ f = .cont)
    (F : Fr h₀ L h' m') (N : News h₀ L h' news') (h1 : ∀ p ∈ led, p ∈ news') (h2 : ∀ p ∈ own, p ∈ news') (h3 : ∀ z, z ≠ x → m' z = m₀ z) (h4 : miss) : SEnd h₀ L led own m₀ x miss s₁ Q f { s₁ with heap := h', toks := tk } := by
  rcases hf with rfl | rfl <;> exact ⟨h', tk, m', news', rfl, F, N, h1, h2, h3, h4⟩
theorem SEnd.ret {h₀ : Heap} {L : Addr} {led own : List (Addr × Obj)} {m₀ : Str → Option Value} {x : Str} {miss : Prop} {s₁ s₂ : Shared} {Q : Flow → Shared → Prop} {v : Value} (h : Q (.ret v) s₂) : SEnd h₀ L led own m₀ x miss s₁ Q (.ret v) s₂ := h
section
variable {prog : Program} {w : World} {A : Around} {E : Value → Shared → Prop} {s : Shared} {env : Env} {h₀ : Heap} {x : Str} {body : List Stmt} {Q : Flow → Shared → Prop}
theorem fr_other {L : Addr} {h : Heap} {m m₀ : Str → Option Value} {v : Value} (hm : ∀ z, z ≠ x → m z = m₀ z) (F : Fr h₀ L h (fun y => if y = x then some v else m y)) : Fr h₀ L h (fun y => if y = x then some v else m₀ y) := by
  have e : (fun y => if y = x then some v else m y) = fun y => if y = x then some v else m₀ y := by
    funext y; by_cases h : y = x
    · rw [if_pos h, if_pos h]
    · rw [if_neg h, if_neg h, hm y h]
  rw [← e]; exact F
theorem fr_other' {L : Addr} {h : Heap} {m m₀ : Str → Option Value} (hm : ∀ z, z ≠ x → m z = m₀ z) (F : Fr h₀ L h m) : Fr h₀ L h (fun y => if y = x then m y else m₀ y) := by
  have e : (fun y => if y = x then m y else m₀ y) = m := by
    funext y; by_cases h : y = x
    · rw [if_pos h]
    · rw [if_neg h, hm y h]
  rw [e]; exact F
theorem send_tend {L : Addr} {led own : List (Addr × Obj)} {m₀ : Str → Option Value} {hit : Str → Bool} {vals : List Str} {i : Nat} {y : Str} {s₁ s₂ : Shared} {f : Flow} {extraP : List (Addr × Obj) → Prop} (hy : vals[i]? = some y) (hoff : OwnOff own (led.map (·.1)))
    (hj : ∀ j, j < i → ∀ y, vals[j]? = some y → hit y = false) (hx : extraP led) (p : SEnd h₀ L led own m₀ x (hit y = false) s₁ Q f s₂) :
    TEnd h₀ L (fun m' nx => extraP nx ∧ SJ led m₀ x vals hit (i + 1) m' nx) own s₁ Q f s₂ := by
  have up : (∃ h' tk m' news', s₂ = { s₁ with heap := h', toks := tk } ∧ Fr h₀ L h' m' ∧ News h₀ L h' news' ∧ (∀ p ∈ led, p ∈ news') ∧ (∀ p ∈ own, p ∈ news') ∧ (∀ z, z ≠ x → m' z = m₀ z) ∧ hit y = false) →
      ∃ h' tk' m' news' nx, s₂ = { s₁ with heap := h', toks := tk' } ∧ Fr h₀ L h' m' ∧ News h₀ L h' news' ∧ (∀ p ∈ nx, p ∈ news') ∧ (∀ p ∈ own, p ∈ news') ∧ OwnOff own (nx.map (·.1)) ∧ (extraP nx ∧ SJ led m₀ x vals hit (i + 1) m' nx) := by
    rintro ⟨h', tk, m', news', e, F', N', h1, h2, h3, h4⟩
    refine ⟨h', tk, m', news', led, e, F', N', h1, h2, hoff, hx, rfl, h3, fun j hj' z hz => ?_⟩
    rcases Nat.lt_succ_iff_lt_or_eq.mp hj' with h | rfl
    · exact hj j h z hz
    · rw [hy] at hz; cases hz; exact h4
  cases f with
  | ret v => exact p
  | brk => exact p
  | next => exact up p
  | cont => exact up p
theorem SEnd.more {L : Addr} {ledg own extra : List (Addr × Obj)} {m₀ : Str → Option Value} {miss : Prop} {s₁ s₂ : Shared} {f : Flow} (p : SEnd h₀ L ledg (extra ++ own) m₀ x miss s₁ Q f s₂) : SEnd h₀ L (extra ++ ledg) own m₀ x miss s₁ Q f s₂ := by
  have up : (∃ h' tk m' news', s₂ = { s₁ with heap := h', toks := tk } ∧ Fr h₀ L h' m' ∧ News h₀ L h' news' ∧ (∀ p ∈ ledg, p ∈ news') ∧ (∀ p ∈ extra ++ own, p ∈ news') ∧ (∀ z, z ≠ x → m' z = m₀ z) ∧ miss) →
      ∃ h' tk m' news', s₂ = { s₁ with heap := h', toks := tk } ∧ Fr h₀ L h' m' ∧ News h₀ L h' news' ∧ (∀ p ∈ extra ++ ledg, p ∈ news') ∧ (∀ p ∈ own, p ∈ news') ∧ (∀ z, z ≠ x → m' z = m₀ z) ∧ miss := by
    rintro ⟨h', tk, m', news', e, F', N', h1, h2, h3, h4⟩
    exact ⟨h', tk, m', news', e, F', N', fun p hp => (List.mem_append.mp hp).elim (fun h => h2 p (List.mem_append_left _ h)) (h1 p), fun p hp => h2 p (List.mem_append_right _ hp), h3, h4⟩
  cases f with
  | ret v => exact p
  | brk => exact p
  | next => exact up p
  | cont => exact up p
theorem scan_set {a : Addr} {o : Obj} {S : Str → Bool} {n : Nat} {m₀ : Str → Option Value} {ledg : List (Addr × Obj)} (hit : Str → Bool) (hh : A.handled = none) (F : Fr h₀ env.locals s.heap m₀) (N : News h₀ env.locals s.heap ledg) (ho : (a, o) ∈ ledg) (hS : SetObj prog w o S n (led w)) (hpos : 1 ≤ n)
    (turn : ∀ y t h tk dr own, S y = true → OwnOff own (ledg.map (·.1)) → Fr h₀ env.locals h (fun z => if z = x then some (.str y t) else m₀ z) → News h₀ env.locals h (ledg ++ own) →
      wpAny (model prog w) A (execs body env) (SEnd h₀ env.locals ledg own m₀ x (hit y = false) { s with heap := h, toks := tk, drawn := dr } Q) E { s with heap := h, toks := tk, drawn := dr })
    (done : ∀ (u : Str → Option Value) h tk dr, (∀ y, S y = true → hit y = false) → Fr h₀ env.locals h (fun z => if z = x then u z else m₀ z) → News h₀ env.locals h ledg → Q .next { s with heap := h, toks := tk, drawn := dr }) :
    wpAny (model prog w) A (pyIter (.ref a)) (fun it s₂ => LoopAtV prog w A h₀ env x body Q E it s₂) E s := by
  refine iter_set hh (N _ ho).1 hS hpos fun I fp NN P St vals extra h' dr tk W st hIo hN hP hSv hfp hI hex hk => ?_
  have big : ∀ z, s.heap.objs.size ≤ z → h₀.get? z = none := fun z hz => by
    cases e : h₀.get? z with
    | none => rfl
    | some o' => exact absurd (Heap.lt_size (F.keep _ _ e)) (Nat.not_lt.mpr hz)
  have Llt := F.ns.lt
  have hNl : ∀ p ∈ ledg, p.1 < s.heap.objs.size := fun p hp => Heap.lt_size (N p hp).1
  have F' : Fr h₀ env.locals h' m₀ := F.keeps hk
  have N' : News h₀ env.locals h' (extra ++ ledg) := fun p hp => by
    rcases List.mem_append.mp hp with hp | hp
    · exact ⟨(hex p hp).2.2, Nat.ne_of_gt (Nat.lt_of_lt_of_le Llt (hex p hp).1), big _ (hex p hp).1⟩
    · exact ⟨hk _ _ (N p hp).1, (N p hp).2⟩
  refine iter_any (s := { s with heap := h', toks := tk, drawn := dr }) (fun i m nx => SJ (extra ++ ledg) m₀ x vals hit i m nx) W ?_ (big I hI) ?_ st hIo ?_ F' N' ⟨rfl, fun _ _ => rfl, fun j hj => absurd hj (Nat.not_lt_zero _)⟩ ?_ ?_
  · intro hm
    rcases hfp _ hm with e | e | ⟨o', e⟩
    · exact absurd Llt (by rw [e]; exact Nat.not_lt.mpr hI)
    · exact (N _ ho).2.1 e.symm
    · exact absurd Llt (Nat.not_lt.mpr (hex _ e).1)
  · intro p hp
    rcases List.mem_append.mp hp with hp | hp
    · exact (hex p hp).2.1
    · exact Nat.ne_of_lt (Nat.lt_of_lt_of_le (hNl p hp) hI)
  · rintro i m₁ nx ⟨rfl, _, _⟩ b hb hbI
    rcases hfp b hb with e | e | ⟨o', e⟩
    · exact absurd e hbI
    · exact ⟨o, by rw [e]; exact List.mem_append_right _ ho⟩
    · exact ⟨o', List.mem_append_left _ e⟩
  · rintro i v m₁ news₁ h tk' own hPv hi hoI hoff ⟨rfl, hm, hj⟩ F₁ N₁
    obtain ⟨y, t, hy, rfl⟩ := hP i v hi hPv
    have hSy : S y = true := (hSv y).mpr (List.mem_of_getElem? hy)
    have hoff2 : OwnOff (extra ++ own) (ledg.map (·.1)) := by
      intro p hp b hb
      obtain ⟨q, hq, rfl⟩ := List.mem_map.mp hb
      rcases List.mem_append.mp hp with hp | hp
      · exact Nat.ne_of_gt (Nat.lt_of_lt_of_le (hNl q hq) (hex p hp).1)
      · exact hoff p hp _ (List.mem_map.mpr ⟨q, List.mem_append_right _ hq, rfl⟩)
    refine wpAny_mono (turn y t h tk' dr (extra ++ own) hSy hoff2 (fr_other hm F₁) (fun p hp => N₁ p (by
      rcases List.mem_append.mp hp with hp | hp
      · exact List.mem_append_left _ (List.mem_append_right _ hp)
      · rcases List.mem_append.mp hp with hp | hp
        · exact List.mem_append_left _ (List.mem_append_left _ hp)
        · exact List.mem_append_right _ hp))) (fun f s₂ q => ?_) fun _ _ e => e
    exact send_tend (extraP := fun nx => ∀ b o, (b, o) ∈ extra ++ ledg → b ∈ fp → (b, o) ∈ nx) hy hoff hj (fun _ _ h _ => h) q.more
  · rintro m₁ news₁ h tk' ⟨rfl, hm, hj⟩ F₁ N₁
    refine done m₁ h tk' dr (fun y hy => ?_) (fr_other' hm F₁) fun p hp => N₁ p (List.mem_append_right _ hp)
    have hmem := (hSv y).mp hy
    obtain ⟨j, hjl, rfl⟩ := List.mem_iff_getElem.mp hmem
    exact hj j (by rw [hN]; exact hjl) _ (List.getElem?_eq_getElem hjl)
theorem scan_list {l : Addr} {vs : List Value} {xs : List Str} {nn : Nat} {m₀ : Str → Option Value} {ledg : List (Addr × Obj)} (hit : Str → Bool) (hh : A.handled = none) (F : Fr h₀ env.locals s.heap m₀) (N : News h₀ env.locals s.heap ledg) (hm : (l, lstN vs.toArray nn) ∈ ledg) (hi : StrsAre vs xs)
    (turn : ∀ y t h tk own, y ∈ xs → OwnOff own (ledg.map (·.1)) → Fr h₀ env.locals h (fun z => if z = x then some (.str y t) else m₀ z) → News h₀ env.locals h (ledg ++ own) →
      wpAny (model prog w) A (execs body env) (SEnd h₀ env.locals ledg own m₀ x (hit y = false) { s with heap := h, toks := tk } Q) E { s with heap := h, toks := tk })
    (done : ∀ (u : Str → Option Value) h tk, (∀ y ∈ xs, hit y = false) → Fr h₀ env.locals h (fun z => if z = x then u z else m₀ z) → News h₀ env.locals h ledg → Q .next { s with heap := h, toks := tk }) :
    wpAny (model prog w) A (pyIter (.ref l)) (fun it s₂ => LoopAtV prog w A h₀ env x body Q E it s₂) E s := by
  refine iter_list (fun i m nx => SJ ledg m₀ x xs hit i m nx) hh (fun i m nx h => by obtain ⟨rfl, _⟩ := h; exact hm) F N ⟨rfl, fun _ _ => rfl, fun j hj => absurd hj (Nat.not_lt_zero _)⟩ ?_ ?_
  · rintro i v m₁ news₁ h tk own hv hoff ⟨rfl, hm', hj⟩ F₁ N₁
    have hv' : vs[i]? = some v := by simpa using hv
    obtain ⟨y, t, rfl, hy⟩ := hi.item i v hv'
    refine wpAny_mono (turn y t h tk own (List.mem_of_getElem? hy) hoff (fr_other hm' F₁) N₁) (fun f s₂ q => ?_) fun _ _ e => e
    have := send_tend (extraP := fun _ => True) hy hoff hj trivial q
    cases f with
    | ret v => exact this
    | brk => exact this
    | next => obtain ⟨h', tk', m', news', nx, e, F', N', h1, h2, h3, _, h4⟩ := this; exact ⟨h', tk', m', news', nx, e, F', N', h1, h2, h3, h4⟩
    | cont => obtain ⟨h', tk', m', news', nx, e, F', N', h1, h2, h3, _, h4⟩ := this; exact ⟨h', tk', m', news', nx, e, F', N', h1, h2, h3, h4⟩
  · rintro m₁ news₁ h tk ⟨rfl, hm', hj⟩ F₁ N₁
    have hlen : vs.toArray.size = xs.length := by rw [List.size_toArray, hi.length]
    refine done m₁ h tk (fun y hy => ?_) (fr_other' hm' F₁) N₁
    obtain ⟨j, hjl, rfl⟩ := List.mem_iff_getElem.mp hy
    exact hj j (by rw [hlen]; exact hjl) _ (List.getElem?_eq_getElem hjl)
end
end Mine
end ScanPart
section CachePart
open PySem PySem.W PySem.Spec PySem.Calls PyProof.Rows
namespace Mine
/-- does k begin with y and the text e -/
def under (e : List Nat) (k y : Str) : Bool := (tl y ++ e).isPrefixOf (tl k)
/-- the answer that names computes for a name that is not in its cache -/
def look (mods dirs : List Str) (k : Str) : Int := if k ∈ mods then 1 else if ∃ y ∈ mods, under [46] k y = true then 1 else if ∃ d ∈ dirs, under [47] k d = true then 1 else 0
def gOf (mods dirs : List Str) (k : Str) : Int := if k = Str.ofString "<string>" then 1 else look mods dirs k
def CacheInv (g : Str → Int) (kvs : List (Str × Value)) : Prop := (∀ k v, valueAt kvs k = some v → ∃ t, v = .int (g k) t) ∧ (valueAt kvs (Str.ofString "<string>")).isSome = true
theorem cache_first {mods dirs : List Str} {t : Tok} : CacheInv (gOf mods dirs) [(Str.ofString "<string>", .int 1 t)] := by
  refine ⟨fun k v h => ?_, by simp [valueAt]⟩
  simp only [valueAt, List.find?_cons, List.find?_nil] at h
  by_cases hk : Str.ofString "<string>" = k
  · subst hk; simp at h; exact ⟨t, by rw [← h, gOf, if_pos rfl]⟩
  · simp [hk] at h
theorem valueAt_stored {kvs : List (Str × Value)} {k z : Str} {v : Value} (h : valueAt kvs k = none) : valueAt (stored kvs k v) z = if k = z then some v else valueAt kvs z := by
  rw [stored_absent h]
  simp only [valueAt, List.find?_append]
  simp only [valueAt, Option.map_eq_none_iff, List.find?_eq_none, decide_eq_true_eq] at h
  by_cases hk : k = z
  · subst hk
    have : kvs.find? (fun kv => decide (kv.1 = k)) = none := List.find?_eq_none.mpr (by simpa using h)
    rw [this]; simp
  · rw [if_neg hk]
    cases kvs.find? (fun kv => decide (kv.1 = z)) <;> simp [hk]
theorem CacheInv.store {g : Str → Int} {kvs : List (Str × Value)} {k : Str} {i : Int} {t : Tok} (h : CacheInv g kvs) (hk : valueAt kvs k = none) (hi : i = g k) : CacheInv g (stored kvs k (.int i t)) := by
  refine ⟨fun z v hz => ?_, ?_⟩
  · rw [valueAt_stored hk] at hz
    by_cases e : k = z
    · subst e; rw [if_pos rfl] at hz; exact ⟨t, by rw [← Option.some.inj hz, hi]⟩
    · rw [if_neg e] at hz; exact h.1 z v hz
  · rw [valueAt_stored hk]
    split
    · rfl
    · exact h.2
theorem CacheInv.absent {g : Str → Int} {kvs : List (Str × Value)} {k : Str} (h : CacheInv g kvs) (hk : valueAt kvs k = none) : k ≠ Str.ofString "<string>" := by
  rintro rfl
  have h2 := h.2
  rw [hk] at h2; cases h2
section
variable {mods dirs : List Str} {k : Str} {kvs : List (Str × Value)}
theorem g_mod (h : CacheInv (gOf mods dirs) kvs) (hk : valueAt kvs k = none) (h1 : k ∈ mods) : (1 : Int) = gOf mods dirs k := by
  rw [gOf, if_neg (h.absent hk), look, if_pos h1]
theorem g_sub (h : CacheInv (gOf mods dirs) kvs) (hk : valueAt kvs k = none) (h1 : k ∉ mods) {y : Str} (hy : y ∈ mods) (hu : under [46] k y = true) : (1 : Int) = gOf mods dirs k := by
  rw [gOf, if_neg (h.absent hk), look, if_neg h1, if_pos ⟨y, hy, hu⟩]
theorem g_dir (h : CacheInv (gOf mods dirs) kvs) (hk : valueAt kvs k = none) (h1 : k ∉ mods) (h2 : ∀ y ∈ mods, under [46] k y = false) {d : Str} (hd : d ∈ dirs) (hu : under [47] k d = true) : (1 : Int) = gOf mods dirs k := by
  rw [gOf, if_neg (h.absent hk), look, if_neg h1, if_neg, if_pos ⟨d, hd, hu⟩]
  rintro ⟨y, hy, h3⟩; rw [h2 y hy] at h3; cases h3
theorem g_none (h : CacheInv (gOf mods dirs) kvs) (hk : valueAt kvs k = none) (h1 : k ∉ mods) (h2 : ∀ y ∈ mods, under [46] k y = false) (h3 : ∀ d ∈ dirs, under [47] k d = false) : (0 : Int) = gOf mods dirs k := by
  rw [gOf, if_neg (h.absent hk), look, if_neg h1, if_neg, if_neg]
  · rintro ⟨y, hy, h4⟩; rw [h3 y hy] at h4; cases h4
  · rintro ⟨y, hy, h4⟩; rw [h2 y hy] at h4; cases h4
end
section
variable {prog : Program} {w : World} {A : Around} {E : Value → Shared → Prop} {s : Shared} {h₀ : Heap} {L D : Addr} {m : Str → Option Value} {news news' : List (Addr × Obj)} {o : Obj} {kvs : List (Str × Value)} {k : Str} {t u : Tok}
theorem map_of (ho : s.heap.get? D = some o) (hd : o.IsDictOf (strKind prog w) kvs) : s.heap.MapOf (strKind prog w) D (valueAt kvs) := by
  obtain ⟨es, ep, h1, h2, h3, h4, _⟩ := hd
  exact ⟨o, es, ep, ho, h1, h2, h3, fun k => by rw [← h4.find k]; cases es; simp [findBy]⟩
theorem in_cache {Q : Value → Shared → Prop} (N : News h₀ L s.heap news) (hm : (D, o) ∈ news) (hd : o.IsDictOf (strKind prog w) kvs) (hsys : (D == sysModules) = false)
    (h : Q (.bool (valueAt kvs k).isSome) { s with toks := s.toks + 1 }) : wpAny (model prog w) A (compareOp .In (.str k t) (.ref D)) Q E s :=
  wpAny_in_of (knd := strKind prog w) (strKind_is prog w k t) hsys (map_of (N _ hm).1 hd) h
theorem get_cache {g : Str → Int} {value slice : Expr} {Q : Value → Shared → Prop} (N : News h₀ L s.heap news) (hm : (D, o) ∈ news) (hd : o.IsDictOf (strKind prog w) kvs) (hc : CacheInv g kvs) (hk : (valueAt kvs k).isSome = true)
    (h : ∀ t', Q (.int (g k) t') { s with toks := s.toks + 1 })
    (hs : subscripted slice false (.ref D) (.str k t) = operate [.ref D, .str k t] (getItem (.ref D) (.str k t)) := by with_unfolding_all rfl) (hg : ∀ r, letTemporaryGo value (.ref D) r = pure () := by intro _; with_unfolding_all rfl) :
    wpAny (model prog w) A (subscriptTail value slice (.ref D) (.str k t)) Q E s := by
  obtain ⟨v, hv⟩ := Option.isSome_iff_exists.mp hk
  obtain ⟨t', rfl⟩ := hc.1 k v hv
  have M0 := map_of (prog := prog) (w := w) (N _ hm).1 hd
  exact tail_of_ItemOn ⟨"dict", _, slot_dict_getitem.lookup, M0.typeIs, wpAny_getItem_of (knd := strKind prog w) (strKind_is prog w k t) M0 hv (h t')⟩ hs hg
theorem in_modset {S : Str → Bool} {n : Nat} {L' : Bool} {Q : Value → Shared → Prop} (N : News h₀ L s.heap news) (hm : (D, o) ∈ news) (hS : SetObj prog w o S n L')
    (h : Q (.bool (S k)) { s with toks := s.toks + 1 }) : wpAny (model prog w) A (compareOp .In (.str k t) (.ref D)) Q E s :=
  wpAny_inSet_of (knd := strKind prog w) (strKind_is prog w k t) rfl (hS.of (N _ hm).1) h
theorem set_cache {i : Int} {rest : List (Addr × Obj)} {Q : Unit → Shared → Prop} (F : Fr h₀ L s.heap m) (N : News h₀ L s.heap ((D, o) :: rest)) (hap : ∀ p ∈ rest, p.1 ≠ D) (hd : o.IsDictOf (strKind prog w) kvs) (hz : kvs.length ≤ 100000)
    (h : ∀ h' o', Fr h₀ L h' m → News h₀ L h' ((D, o') :: rest) → o'.IsDictOf (strKind prog w) (stored kvs k (.int i u)) → Q () { s with heap := h', toks := s.toks + 1 }) :
    wpAny (model prog w) A (setItem (.ref D) (.str k t) (.int i u)) Q E s := by
  refine wpAny_setItem_pairs (hsz := by rw [sizeLine_eq]; omega) (strKind_is prog w k t) (Heap.dictOf_iff.mpr ⟨o, N.get (.head _), hd⟩) fun h' hm hs => ?_
  obtain ⟨o', ho', hd'⟩ := Heap.dictOf_iff.mp hm
  exact h h' o' (F.change hs (N _ (.head _)).2.1 (N.fresh (.head _))) (N.setHead hap hs ho') hd'
end
theorem none_of {α : Type} {o : Option α} (h : o.isSome = false) : o = none := by cases o with | none => rfl | some x => cases h
theorem stored_len {kvs : List (Str × Value)} {k : Str} {v : Value} : (stored kvs k v).length ≤ kvs.length + 1 := stored_length_le kvs k v
theorem starts_under (k y : Str) (e : List Nat) (z : Str) (hz : z = S e) : Txt.startswith k (y ++ z) = under e k y := by
  unfold Txt.startswith under
  have h1 : tl (y ++ z) = tl y ++ e := by rw [tl_append, hz, tl_S]
  rw [StrLaws.subAt_eq, ← h1]
  show (decide (0 + (y ++ z).length ≤ k.length) && (((tl k).drop 0).take (y ++ z).length == tl (y ++ z))) = _
  rw [len_tl, len_tl, List.drop_zero, Bool.eq_iff_iff]
  simp only [Bool.and_eq_true, decide_eq_true_eq, beq_iff_eq, List.isPrefixOf_iff_prefix]
  constructor
  · rintro ⟨_, h⟩; rw [← h]; exact List.take_prefix _ _
  · intro h
    exact ⟨by have := h.length_le; omega, (List.prefix_iff_eq_take.mp h).symm⟩
end Mine
end CachePart
section NamesCtPart
open PySem PySem.W PySem.Spec PySem.Calls PyProof.Rows
namespace Mine
/-- the ledger of one _Ignore, its cache at the head -/
abbrev ILed (w : World) (x d Ds Dl Dc : Addr) (t1 t2 t3 : Tok) (os oc : Obj) (wsd : List Value) (nd kk : Nat) (rest : List (Addr × Obj)) : List (Addr × Obj) :=
  (Dc, oc) :: (Dl, lstN wsd.toArray nd) :: (Ds, os) :: (x, instObj 127 d) :: (d, dictOf (attrs w t1 t2 t3 Ds Dl Dc) kk) :: rest
def NCt (w : World) (k : Str) (tk1 tk2 : Tok) (mods dirs : List Str) (kvs : List (Str × Value)) : Prop :=
  ∀ (x d Ds Dl Dc : Addr) (t1 t2 t3 : Tok) (os oc : Obj) (wsd : List Value) (nd kk c : Nat) (rest : List (Addr × Obj))
    (p : Program) (loose : List Str) (mean : ExcName → Option Value) (mg mb : Str → Option Value)
    (dp un : Nat) (gd : Option (List Code)) (cn : Str) (cs : Scope) (a : Addr) (ccd : Value) (cl : List (Str × Addr)) (outer : List Env) (A₀ : Around)
    (base h₀ : Heap) (L : Addr) (m : Str → Option Value) (s : Shared) (Q E : Value → Shared → Prop),
    SetObj PP w os (fun z => decide (z ∈ mods)) c (led w) → 1 ≤ c → StrsAre wsd dirs → oc.IsDictOf (strKind PP w) kvs → CacheInv (gOf mods dirs) kvs → (Dc == sysModules) = false → (∀ p ∈ rest, @Ne Nat p.1 Dc) →
    @LT.lt Nat instLTNat Dl Dc → @LT.lt Nat instLTNat Ds Dc → @LT.lt Nat instLTNat x Dc → @LT.lt Nat instLTNat d Dc →
    Below A₀ base outer h₀ → Fr h₀ L s.heap m → (Mine.hd.heap_39 w.params).In h₀ → News h₀ L s.heap (ILed w x d Ds Dl Dc t1 t2 t3 os oc wsd nd kk rest) → Top p loose mean mg mb h₀ → cs.kind = .function →
    dp + 10 < recursionLimit → un + 500 < cLine →
    (∀ t h' tk' dr kvs' oc', Fr h₀ L h' m → News h₀ L h' (ILed w x d Ds Dl Dc t1 t2 t3 os oc' wsd nd kk rest) → oc'.IsDictOf (strKind PP w) kvs' → CacheInv (gOf mods dirs) kvs' → kvs'.length ≤ kvs.length + 1 →
      Q (.int (gOf mods dirs k) t) { s with heap := h', toks := tk', drawn := dr }) →
    wpAny (model PySem.Challenge.rw_ik0027_01.row.prog w) (ktrTop dp un gd cn cs L a ccd cl outer) (call (.ref 124) [.ref x, .str k tk1, .str k tk2]) Q E s
theorem drawn_eta (s : Shared) (h : Heap) (tk : Nat) : ({ s with heap := h, toks := tk } : Shared) = { s with heap := h, toks := tk, drawn := s.drawn } := rfl
theorem sub5 {α : Type} {a b c d e p : α} {rest own : List α} (h : p ∈ a :: b :: c :: d :: e :: rest) : p ∈ a :: b :: c :: d :: e :: (rest ++ own) :=
  ((((((List.sublist_append_left rest own).cons_cons e).cons_cons d).cons_cons c).cons_cons b).cons_cons a).subset h
theorem sub5' {α : Type} {a b c d e p : α} {rest own : List α} (h : p ∈ own) : p ∈ a :: b :: c :: d :: e :: (rest ++ own) :=
  List.mem_cons_of_mem _ (List.mem_cons_of_mem _ (List.mem_cons_of_mem _ (List.mem_cons_of_mem _ (List.mem_cons_of_mem _ (List.mem_append_right _ h)))))
end Mine
end NamesCtPart
section D2Part
open PySem PySem.W PySem.Spec PySem.Calls PyProof.Rows
namespace Mine
local macro_rules | `(tactic| k_room) => `(tactic| ktr_room)
local macro_rules | `(tactic| ktr_units) => `(tactic| (have hcL9 := cLine_is; (try simp only [units_under_make, units_in1, units_deeper, Around.mark_units, units_caller] at *); (try dsimp only [ktrTop] at *); omega))
local macro_rules | `(tactic| k_all) => `(tactic| (refine' all_app ?a ?b; (case a => k_all); (case b => k_all)))
local macro_rules | `(tactic| k_all) => `(tactic| first | exact ne_lt (by assumption) | exact ne_allLt (by assumption) | exact ne_allLt (And.right (by assumption)) | exact ne_allLt (And.right (And.right (by assumption))) | exact ne_allLt (And.right (And.right (And.right (by assumption)))) | exact ne_allLt (And.right (And.right (And.right (And.right (by assumption))))))
local macro_rules | `(tactic| k_all) => `(tactic| exact own_ne (by assumption) (by k_memK))
local macro_rules | `(tactic| walk_at "compareOp In str ref") => `(tactic| (k_here; k_dflt (refine' in_cache ?k1 ?k2 ?k3 ?k4 ?_; (case k1 => k_asm); (case k2 => walk_at "mem_list"); (case k3 => assumption); (case k4 => assumption); k_whole)))
local macro_rules | `(tactic| walk_at "compareOp In str ref") => `(tactic| (k_here; k_dflt (refine' in_modset ?k1 ?k2 ?k3 ?_; (case k1 => k_asm); (case k2 => walk_at "mem_list"); (case k3 => assumption); k_whole)))
local macro_rules | `(tactic| walk_at "mem_list") => `(tactic| (repeat (first | exact List.mem_cons_self | refine List.mem_cons_of_mem _ ?_)))
local macro_rules | `(tactic| walk_at "subscriptTail Name Name ref str") => `(tactic| (k_here; k_dflt (refine' get_cache ?k1 ?k2 ?k3 ?k4 ?k5 ?_ ?s ?g; (case k1 => k_asm); (case k2 => walk_at "mem_list"); (case k3 => assumption); (case k4 => assumption); (case k5 => assumption); (case s => with_unfolding_all rfl); (case g => intro _; with_unfolding_all rfl); k_whole); intro t'))
local macro_rules | `(tactic| walk_at "setItem ref str") => `(tactic| (k_here; k_dflt (refine' set_cache ?k1 ?k2 ?k3 ?k4 ?z ?_; (case k1 => k_asm); (case k2 => k_asm); (case k3 => k_all); (case k4 => assumption); (case z => omega); k_whole); intro h' o' F' N' hD'))
local macro_rules | `(tactic| k_all) => `(tactic| assumption)
local macro_rules | `(tactic| walk_at "exec For Name Attribute cons nil") => `(tactic| (k_here; refine halt ?_))
set_option maxRecDepth 100000 in
set_option maxHeartbeats 4000000 in
theorem names_ct (w : World) (k : Str) (tk1 tk2 : Tok) (mods dirs : List Str) (kvs : List (Str × Value)) (hk : k.length ≤ 1000) (hz : kvs.length ≤ 90000) (hm : ∀ y ∈ mods, y.length ≤ 1000) (hd : ∀ y ∈ dirs, y.length ≤ 1000) : NCt w k tk1 tk2 mods dirs kvs := by
  w_top off
  unfold NCt
  k_fill
  intro x d Ds Dl Dc t1 t2 t3 os oc wsd nd kk c rest p loose mean mg mb dp un gd cn cs a ccd cl outer A₀ base h₀ L m s Q E hset hc1 hwsd hdict hcache hsys hrest o1 o2 o3 o4 B F X N T hk' hdp hun hret
  obtain ⟨knd, nms, ig, ic, mo⟩ := cs
  dsimp only at hk'
  subst hk'
  refine wpAny_call ?_
  k_dflt k_enter
  k_steps
  · (rename News _ _ _ _ => N9)
    exact hret _ _ _ s.drawn kvs oc (by k_asm) (fun p hp => N9 p hp) hdict hcache (Nat.le_succ _)
  · have hno := none_of (by assumption)
    have e1 := g_mod (dirs := dirs) hcache hno (by assumption)
    have hst := fun t => hcache.store (t := t) hno e1
    (rename News _ _ _ _ => N9)
    rw [e1]
    exact hret _ _ _ s.drawn _ _ (by k_asm) (fun p hp => N9 p hp) (by assumption) (hst _) stored_len
  · (rename Fr _ _ _ _ => F3)
    unfold Halt
    with_unfolding_all refine' For_invVF F3 ?k1 ?k2 ?_ ?k3
    case k1 => exact rfl
    case k2 => exact rfl
    case k3 => intro _; rfl
    k_steps
    (rename Fr _ _ _ _ => F4)
    (rename News _ _ _ _ => N4)
    have hno := none_of (by assumption)
    have hnm : k ∉ mods := by assumption
    refine scan_set (fun y => under [46] k y) rfl F4 N4 (by (repeat (first | exact List.mem_cons_self | refine List.mem_cons_of_mem _ ?_))) hset hc1 ?_ ?_
    · intro y ty h tk dr own hy hoff F5 N5
      clear F4 N4
      have hy' : y ∈ mods := of_decide_eq_true hy
      have hyl := hm y hy'
      have N6 : News _ _ _ ((Dc, oc) :: (Dl, lstN wsd.toArray nd) :: (Ds, os) :: (x, instObj 127 d) :: (d, dictOf (attrs w t1 t2 t3 Ds Dl Dc) kk) :: (rest ++ own)) := N5
      clear N5
      k_steps
      · have hu : under [46] k y = true := by rw [← starts_under k y [46] _ dotS]; assumption
        have e1 := g_sub (dirs := dirs) hcache hno hnm hy' hu
        have hst := fun t => hcache.store (t := t) hno e1
        dsimp only
        refine SEnd.ret ?_
        dsimp only
        k_steps
        (rename News _ _ _ _ => N9)
        rw [e1]
        exact hret _ _ _ dr _ _ (by k_asm) (fun p hp => N9 p (sub5 hp)) (by assumption) (hst _) stored_len
      · have hu : under [46] k y = false := by rw [← starts_under k y [46] _ dotS]; assumption
        (rename News _ _ _ _ => N9)
        exact SEnd.go (.inl rfl) (by k_asm) N9 (fun p hp => sub5 hp) (fun p hp => sub5' hp) (fun z hz => if_neg hz) hu
    · intro u h tk dr hnone F5 N5
      clear F4 N4
      have hn2 : ∀ y ∈ mods, under [46] k y = false := fun y hy => hnone y (decide_eq_true hy)
      dsimp only
      k_steps
      (rename Fr _ _ _ _ => F3)
      unfold Halt
      with_unfolding_all refine' For_invVF F3 ?k1 ?k2 ?_ ?k3
      case k1 => exact rfl
      case k2 => exact rfl
      case k3 => intro _; rfl
      k_steps
      (rename Fr _ _ _ _ => F4)
      (rename News _ _ _ _ => N4)
      refine scan_list (fun y => under [47] k y) rfl F4 N4 (by (repeat (first | exact List.mem_cons_self | refine List.mem_cons_of_mem _ ?_))) hwsd ?_ ?_
      · intro y ty h tk own hy hoff F5 N5
        clear F4 N4
        have hyl := hd y hy
        have N6 : News _ _ _ ((Dc, oc) :: (Dl, lstN wsd.toArray nd) :: (Ds, os) :: (x, instObj 127 d) :: (d, dictOf (attrs w t1 t2 t3 Ds Dl Dc) kk) :: (rest ++ own)) := N5
        clear N5
        k_steps
        · have hu : under [47] k y = true := by rw [← starts_under k y [47] _ slash]; assumption
          have e1 := g_dir hcache hno hnm hn2 hy hu
          have hst := fun t => hcache.store (t := t) hno e1
          dsimp only
          refine SEnd.ret ?_
          dsimp only
          k_steps
          (rename News _ _ _ _ => N9)
          rw [e1]
          exact hret _ _ _ dr _ _ (by k_asm) (fun p hp => N9 p (sub5 hp)) (by assumption) (hst _) stored_len
        · have hu : under [47] k y = false := by rw [← starts_under k y [47] _ slash]; assumption
          (rename News _ _ _ _ => N9)
          exact SEnd.go (.inl rfl) (by k_asm) N9 (fun p hp => sub5 hp) (fun p hp => sub5' hp) (fun z hz => if_neg hz) hu
      · intro u h tk hnone2 F5 N5
        clear F4 N4
        dsimp only
        k_steps
        have e1 := g_none hcache hno hnm hn2 hnone2
        have hst := fun t => hcache.store (t := t) hno e1
        (rename News _ _ _ _ => N9)
        rw [e1]
        exact hret _ _ _ dr _ _ (by k_asm) (fun p hp => N9 p hp) (by assumption) (hst _) stored_len
end Mine
end D2Part
section LawAuxPart
open PySem PySem.W PySem.Spec PySem.Calls PyProof.Rows
namespace Mine
theorem asLt {news nx : List (Addr × Obj)} (h : ∀ q ∈ news, ∀ p ∈ nx, q.1 < p.1) : ∀ q ∈ news, ∀ p ∈ nx, @LT.lt Nat instLTNat q.1 p.1 := h
theorem wr_len : ∀ l : List Nat, (wr l).length ≤ 2 * l.length
  | [] => by simp [wr]
  | c :: r => by
    have h1 := wr_len r
    have h2 := code1_len c
    show ((c :: r).flatMap code1).length ≤ _
    rw [List.flatMap_cons, List.length_append, List.length_cons]
    have : (r.flatMap code1).length = (wr r).length := rfl
    omega
theorem sw_len (l : List Nat) : (sw l).length = l.length := by simp [sw]
theorem wr_lens {ys : List Str} {b : Nat} (g : Good b ys) : ∀ y ∈ ys.map fun y => S (wr (tl y)), y.length ≤ 2 * b := by
  intro y hy
  obtain ⟨z, hz, rfl⟩ := List.mem_map.mp hy
  have := (g z hz).2
  have h2 := wr_len (tl z)
  rw [len_tl] at this
  show (S (wr (tl z))).length ≤ 2 * b
  rw [len_S]; omega
theorem sw_lens {ys : List Str} {b : Nat} (g : Good b ys) : ∀ y ∈ ys.map fun y => S (sw (tl y)), y.length ≤ b := by
  intro y hy
  obtain ⟨z, hz, rfl⟩ := List.mem_map.mp hy
  have := (g z hz).2
  rw [len_tl] at this
  show (S (sw (tl z))).length ≤ b
  rw [len_S, sw_len]; exact this
theorem map_ne {α β : Type} {f : α → β} {l : List α} (h : l ≠ []) : l.map f ≠ [] := by simpa using h
theorem le_all {ys : List Str} {b c : Nat} (h : ∀ y ∈ ys, y.length ≤ b) (hb : b ≤ c) : ∀ y ∈ ys, y.length ≤ c := fun y hy => Nat.le_trans (h y hy) hb
end Mine
end LawAuxPart
section LawForPart
open PySem PySem.W PySem.Spec PySem.Calls PyProof.Rows
namespace Mine
/-- the end of a turn of the law's loop: the draws of the world may have gone on -/
def FEnd {σ : Type} (h₀ : Heap) (L : Addr) (Led : σ → List (Addr × Obj)) (I c : Addr) (oi oc : Obj) (m : Str → Option Value) (stored : List Str) (P : σ → Prop) (s : Shared) (Q : Flow → Shared → Prop) (f : Flow) (s₂ : Shared) : Prop :=
  match f with
  | .ret v => Q (.ret v) s₂
  | .brk => Q .next s₂
  | _ => ∃ h tk dr σ' m' news', s₂ = { s with heap := h, toks := tk, drawn := dr } ∧ Fr h₀ L h m' ∧ News h₀ L h news' ∧ (∀ p ∈ (I, oi) :: (c, oc) :: Led σ', p ∈ news') ∧ (∀ z, stored.contains z = false → m' z = m z) ∧ P σ'
theorem FEnd.go {σ : Type} {h₀ : Heap} {L : Addr} {Led : σ → List (Addr × Obj)} {I c : Addr} {oi oc : Obj} {m m' : Str → Option Value} {stored : List Str} {P : σ → Prop} {s : Shared} {Q : Flow → Shared → Prop} {h : Heap} {tk : Nat} {dr : Drawn} {news' : List (Addr × Obj)} (σ' : σ)
    (F : Fr h₀ L h m') (N : News h₀ L h news') (h1 : ∀ p ∈ (I, oi) :: (c, oc) :: Led σ', p ∈ news') (h2 : ∀ z, stored.contains z = false → m' z = m z) (h3 : P σ') : FEnd h₀ L Led I c oi oc m stored P s Q .next { s with heap := h, toks := tk, drawn := dr } :=
  ⟨h, tk, dr, σ', m', news', rfl, F, N, h1, h2, h3⟩
theorem FEnd.ret {σ : Type} {h₀ : Heap} {L : Addr} {Led : σ → List (Addr × Obj)} {I c : Addr} {oi oc : Obj} {m : Str → Option Value} {stored : List Str} {P : σ → Prop} {s s₂ : Shared} {Q : Flow → Shared → Prop} {v : Value} (h : Q (.ret v) s₂) : FEnd h₀ L Led I c oi oc m stored P s Q (.ret v) s₂ := h
section
variable {prog : Program} {w : World} {A : Around} {E : Value → Shared → Prop} {s : Shared} {env : Env} {h₀ : Heap} {x : Str} {px pos : Pos} {iter : Expr} {body : List Stmt} {Q : Flow → Shared → Prop}
/-- the law's loop over a list, its variable a cell -/
theorem loop_cell {σ : Type} {l c : Addr} {its : Array Value} {nn : Nat} {m : Str → Option Value} {oc₀ : Obj} {v₀ : Option Value} (Led : σ → List (Addr × Obj)) (stored : List Str) (P : Nat → σ → Prop) (σ₀ : σ)
    (hh : A.handled = none) (hk : env.scope.kind = .function) (hx : env.kindOf x = some .cell) (hc : env.cells.lookup x = some c) (hE : PassesOwn (model prog w) A env E)
    (hl : ∀ σ, (l, lstN its nn) ∈ Led σ) (hadr : ∀ σ, (Led σ).map (·.1) = (Led σ₀).map (·.1)) (hcl : ∀ p ∈ Led σ₀, p.1 ≠ c)
    (F : Fr h₀ env.locals s.heap m) (N : News h₀ env.locals s.heap ((c, oc₀) :: Led σ₀)) (hd₀ : oc₀.data = .cell v₀) (hp : P 0 σ₀)
    (turn : ∀ i v σ I oi oc (u : Str → Option Value) h tk dr, its[i]? = some v → P i σ → Fr h₀ env.locals h (fun z => if stored.contains z then u z else m z) → News h₀ env.locals h ((I, oi) :: (c, oc) :: Led σ) → oc.data = .cell (some v) → AllLt I ((c, oc) :: Led σ) →
      wpAny (model prog w) A (execs body env) (FEnd h₀ env.locals Led I c oi oc m stored (P (i + 1)) { s with heap := h, toks := tk, drawn := dr } Q) E { s with heap := h, toks := tk, drawn := dr })
    (done : ∀ σ oc (u : Str → Option Value) h tk dr, P its.size σ → Fr h₀ env.locals h (fun z => if stored.contains z then u z else m z) → News h₀ env.locals h ((c, oc) :: Led σ) → Q .next { s with heap := h, toks := tk, drawn := dr }) :
    wpAny (model prog w) A (pyIter (.ref l)) (fun it s₂ => codeAny (model prog w) A (.forLoop (.Name x px) it body [] env) (fun r s' => match r with | .ok f => Q f s' | .error e => cameBackBy (model prog w) A env E e s') s₂) E s := by
  have hol := (N _ (List.mem_cons_of_mem _ (hl σ₀))).1
  have hls : s.heap.IsList l its := ⟨_, hol, rfl, nn, rfl⟩
  refine wpAny_pyIter_list hls ?_
  have hI : ∀ p ∈ (c, oc₀) :: Led σ₀, p.1 < s.heap.objs.size := fun p hp => Heap.lt_size (N p hp).1
  generalize hIe : s.heap.objs.size = I at hI ⊢
  have hadr' : ∀ σ oc, ∀ p ∈ (c, oc) :: Led σ, p.1 < I := fun σ oc p hp => by
    rcases List.mem_cons.mp hp with rfl | hp
    · exact hI (c, oc₀) List.mem_cons_self
    · have : p.1 ∈ (Led σ).map (·.1) := List.mem_map.mpr ⟨p, hp, rfl⟩
      rw [hadr σ] at this
      obtain ⟨q, hq, e⟩ := List.mem_map.mp this
      rw [← e]; exact hI q (List.mem_cons_of_mem _ hq)
  have hcl' : ∀ σ, ∀ p ∈ Led σ, p.1 ≠ c := fun σ p hp => by
    have : p.1 ∈ (Led σ).map (·.1) := List.mem_map.mpr ⟨p, hp, rfl⟩
    rw [hadr σ] at this
    obtain ⟨q, hq, e⟩ := List.mem_map.mp this
    rw [← e]; exact hcl q hq
  have hlI : l ≠ I := Nat.ne_of_lt (hadr' σ₀ oc₀ _ (List.mem_cons_of_mem _ (hl σ₀)))
  have hLI : env.locals ≠ I := by rw [← hIe]; exact Nat.ne_of_lt F.ns.lt
  have hI0 : h₀.get? I = none := by rw [← hIe]; exact next_is_new F
  have hcL : c ≠ env.locals := (N (c, oc₀) List.mem_cons_self).2.1
  have hc0 : h₀.get? c = none := (N (c, oc₀) List.mem_cons_self).2.2
  have W : Walks prog w A I [I, l] [I] its.size (fun i v => its[i]? = some v) (fun i h => h.IsListIter I l i ∧ h.IsList l its) := Walks.list hh I l hlI its
  refine codeAny_forLoop_any
    (fun k s' => ∃ h tk dr σ m' oc v' i oi, s' = { s with heap := h, toks := tk, drawn := dr } ∧ h.IsListIter I l i ∧ Fr h₀ env.locals h m' ∧ (∀ z, stored.contains z = false → m' z = m z) ∧ News h₀ env.locals h ((I, oi) :: (c, oc) :: Led σ) ∧ oc.data = .cell v' ∧ P i σ ∧ i ≤ its.size ∧ k = its.size + 1 - i) ?_ (its.size + 1)
    ⟨_, _, _, σ₀, m, oc₀, v₀, 0, { cls := .type "list_iterator", data := .fields #[.ref l, .int 0 0] }, rfl, ⟨_, by rw [← hIe]; exact Heap.get?_push_size _ rfl, rfl, rfl⟩, F.push _, fun _ _ => rfl, fun p hp => ?_, hd₀, hp, Nat.zero_le _, rfl⟩
  · rintro k s' ⟨h, tk, dr, σ, m', oc, v', i, oi, rfl, hit, F', hm', N', hd', hP, hi, rfl⟩
    have hol' := (N' (l, lstN its nn) (List.mem_cons_of_mem _ (List.mem_cons_of_mem _ (hl σ)))).1
    have hst : h.IsListIter I l i ∧ h.IsList l its := ⟨hit, _, hol', rfl, nn, rfl⟩
    have fr : Fr h₀ env.locals h (fun z => if stored.contains z then m' z else m z) := by
      have e : (fun z => if stored.contains z then m' z else m z) = m' := by
        funext z; cases hz : stored.contains z with
        | true => simp
        | false => simp only [Bool.false_eq_true, if_false]; exact (hm' z hz).symm
      rw [e]; exact F'
    by_cases hlt : i < its.size
    · refine W.item i _ _ _ hlt hst fun v h₁ tk₁ hPv hst₁ hk₁ => ?_
      have keep1 : ∀ b o, b ≠ I → h.get? b = some o → h₁.get? b = some o := fun b o hb e => hk₁ b o (by simpa using hb) e
      have F₁ : Fr h₀ env.locals h₁ (fun z => if stored.contains z then m' z else m z) := ⟨fr.ns.at' fun o e => keep1 _ o hLI e, fun b o e => keep1 b o (fun hb => by rw [hb, hI0] at e; cases e) (fr.keep b o e), fr.above⟩
      obtain ⟨oi₁, ho₁, _⟩ := id hst₁.1
      have hcc : h₁.get? c = some oc := keep1 _ _ (Nat.ne_of_lt (hadr' σ oc _ List.mem_cons_self)) (N' (c, oc) (List.mem_cons_of_mem _ List.mem_cons_self)).1
      refine wpAny_of_eq (a := ()) rfl ?_
      refine wpAny_assign_Name (wpAny_storeName_cell hk hx hc ⟨oc, hcc, hd'⟩ fun h₂ hcell hsame => ?_)
      obtain ⟨oc₂, hoc₂, hd₂⟩ := hcell
      have F₂ := F₁.change hsame hcL hc0
      have N₂ : News h₀ env.locals h₂ ((I, oi₁) :: (c, oc₂) :: Led σ) := fun p hp => by
        rcases List.mem_cons.mp hp with rfl | hp
        · exact ⟨(hsame.2 _ (Nat.ne_of_gt (hadr' σ oc _ List.mem_cons_self))).trans ho₁, Ne.symm hLI, hI0⟩
        · rcases List.mem_cons.mp hp with rfl | hp
          · exact ⟨hoc₂, hcL, hc0⟩
          · have z := N' p (List.mem_cons_of_mem _ (List.mem_cons_of_mem _ hp))
            exact ⟨(hsame.2 _ (hcl' σ p hp)).trans (keep1 _ _ (Nat.ne_of_lt (hadr' σ oc p (List.mem_cons_of_mem _ hp))) z.1), z.2⟩
      have hit₂ : h₂.IsListIter I l (i + 1) := hst₁.1.at fun o e => (hsame.2 _ (Nat.ne_of_gt (hadr' σ oc _ List.mem_cons_self))).trans e
      refine wpAny_mono (wpAny_passesOwn hE (turn i v σ I oi₁ oc₂ m' h₂ tk₁ dr hPv hP F₂ N₂ hd₂ (allLt_of (hadr' σ oc₂)))) (fun f s₃ p => ?_) fun _ _ e => e
      have go : (∃ h tk' dr' σ' m' news', s₃ = { s with heap := h, toks := tk', drawn := dr' } ∧ Fr h₀ env.locals h m' ∧ News h₀ env.locals h news' ∧ (∀ p ∈ (I, oi₁) :: (c, oc₂) :: Led σ', p ∈ news') ∧ (∀ z, stored.contains z = false → m' z = m z) ∧ P (i + 1) σ') →
          ∃ k', k' < its.size + 1 - i ∧ ∃ h tk dr σ m' oc v' i oi, s₃ = { s with heap := h, toks := tk, drawn := dr } ∧ h.IsListIter I l i ∧ Fr h₀ env.locals h m' ∧ (∀ z, stored.contains z = false → m' z = m z) ∧ News h₀ env.locals h ((I, oi) :: (c, oc) :: Led σ) ∧ oc.data = .cell v' ∧ P i σ ∧ i ≤ its.size ∧ k' = its.size + 1 - i := by
        rintro ⟨h₃, tk₃, dr₃, σ', m₃, news₃, e, F₃, N₃, hsub, hm₃, hP₃⟩
        refine ⟨its.size + 1 - (i + 1), by omega, h₃, tk₃, dr₃, σ', m₃, oc₂, some v, i + 1, oi₁, e, ?_, F₃, hm₃, fun p hp => N₃ p (hsub p hp), hd₂, hP₃, hlt, rfl⟩
        obtain ⟨o', ho', r⟩ := hit₂
        have z1 := (N₂ (I, oi₁) List.mem_cons_self).1
        have z2 := (N₃ _ (hsub (I, oi₁) List.mem_cons_self)).1
        rw [z1] at ho'; cases ho'
        exact ⟨_, z2, r⟩
      cases f with
      | ret v => exact p
      | brk => exact p
      | next => exact go p
      | cont => exact go p
    · obtain rfl : i = its.size := Nat.le_antisymm hi (Nat.not_lt.mp hlt)
      refine W.done _ _ _ hst fun h₁ tk₁ hk₁ => wpAny_execs_nil ?_
      have keep1 : ∀ b o, b ≠ I → h.get? b = some o → h₁.get? b = some o := fun b o hb e => hk₁ b o (by simpa using hb) e
      refine done σ oc m' h₁ tk₁ dr hP ⟨fr.ns.at' fun o e => keep1 _ o hLI e, fun b o e => keep1 b o (fun hb => by rw [hb, hI0] at e; cases e) (fr.keep b o e), fr.above⟩ fun p hp => ?_
      have z := N' p (List.mem_cons_of_mem _ hp)
      exact ⟨keep1 _ _ (Nat.ne_of_lt (hadr' σ oc p hp)) z.1, z.2⟩
  · rcases List.mem_cons.mp hp with rfl | hp
    · exact ⟨by rw [← hIe]; exact Heap.get?_push_size _ rfl, Ne.symm hLI, hI0⟩
    · exact ⟨Heap.get?_push_of_some _ (N p hp).1, (N p hp).2⟩
end
end Mine
end LawForPart
section Comp2Part
open PySem PySem.W PySem.Spec PySem.Calls PyProof.Rows
set_option maxRecDepth 100000
namespace Mine
open PySem
section
variable {prog : Program} {w : World} {A : Around} {E : Value → Shared → Prop} {R : Result → Shared → Prop} {s : Shared}
theorem turn2_inner (elt t0 i0 t1 i1 : Expr) (scope : Scope) (pos : Pos) (it acc : Value) (env : Env) :
    compTurn (.ListComp elt [⟨t0, i0, [], 0⟩, ⟨t1, i1, [], 0⟩] scope pos) 1 it acc env = (standAt i1.pos >>= fun _ => pyNext it >>= fun r => match r with
      | none => pure (.done .next)
      | some v => letOwnedTupleGo t1 it v >>= fun _ => assign t1 env v >>= fun _ =>
        (eval elt env >>= fun x => call (.builtin "list.append") [acc, x] >>= fun _ => pure ()) >>= fun _ =>
          again (.compLoop (.ListComp elt [⟨t0, i0, [], 0⟩, ⟨t1, i1, [], 0⟩] scope pos) 1 it acc env)) := by rfl
theorem turn2_outer (elt t0 i0 t1 i1 : Expr) (scope : Scope) (pos : Pos) (it acc : Value) (env : Env) :
    compTurn (.ListComp elt [⟨t0, i0, [], 0⟩, ⟨t1, i1, [], 0⟩] scope pos) 0 it acc env = (standAt i0.pos >>= fun _ => pyNext it >>= fun r => match r with
      | none => pure (.done .next)
      | some v => letOwnedTupleGo t0 it v >>= fun _ => assign t0 env v >>= fun _ =>
        eval i1 env >>= fun x => standAt i1.pos >>= fun _ => foldedSetIterable i1 env x >>= fun x => holding [x] (pyIter x) >>= fun it' =>
          runOwn (.compStart (.ListComp elt [⟨t0, i0, [], 0⟩, ⟨t1, i1, [], 0⟩] scope pos) 1 it' acc env) env >>= fun _ =>
          again (.compLoop (.ListComp elt [⟨t0, i0, [], 0⟩, ⟨t1, i1, [], 0⟩] scope pos) 0 it acc env)) := by rfl
theorem loop2_inner {elt t0 i0 t1 i1 : Expr} {scope : Scope} {pos : Pos} {it acc : Value} {env : Env} (I : Nat → Shared → Prop)
    (turn : ∀ n s, I n s → wpAny (model prog w) A (pyNext it) (fun r s₁ => match r with
      | none => R (.ok .next) s₁
      | some v => wpAny (model prog w) A (assign t1 env v) (fun _ s₂ => wpAny (model prog w) A (eval elt env) (fun x s₃ =>
          wpAny (model prog w) A (call (.builtin "list.append") [acc, x]) (fun _ s₄ => ∃ m, m < n ∧ I m s₄) (notedBy (model prog w) A env fun e s' => R (.error e) s') s₃)
          (notedBy (model prog w) A env fun e s' => R (.error e) s') s₂) (notedBy (model prog w) A env fun e s' => R (.error e) s') s₁) (notedBy (model prog w) A env fun e s' => R (.error e) s') s)
    (n : Nat) (h : I n s) (ht : ∀ v, letOwnedTupleGo t1 it v = pure () := by intro _; rfl) :
    codeAny (model prog w) A (.compLoop (.ListComp elt [⟨t0, i0, [], 0⟩, ⟨t1, i1, [], 0⟩] scope pos) 1 it acc env) R s := by
  refine codeAny_loop rfl I (fun n s hI => ?_) n h
  show wpAny _ _ ((compTurn (.ListComp elt [⟨t0, i0, [], 0⟩, ⟨t1, i1, [], 0⟩] scope pos) 1 it acc env).onRaise (fun x => do noteFrame x env; theTreesLotGoes x)) _ _ s
  refine wpAny_noted ?_
  rw [turn2_inner]
  refine wpAny_bind (wpAny_standAt (wpAny_bind (wpAny_mono (turn n s hI) (fun r s₁ h₁ => ?_) fun _ _ h' => h')))
  cases r with
  | none => exact wpAny_pure h₁
  | some v =>
    refine wpAny_bind (wpAny_of_eq (ht v) ?_)
    exact wpAny_bind (wpAny_mono h₁ (fun _ s₂ h₂ => wpAny_bind (wpAny_bind (wpAny_mono h₂ (fun x s₃ h₃ => wpAny_bind (wpAny_mono h₃
      (fun _ s₄ h₄ => wpAny_pure (wpAny_pure ⟨rfl, h₄⟩)) fun _ _ h' => h')) fun _ _ h' => h'))) fun _ _ h' => h')
theorem loop2_outer {elt t0 i0 t1 i1 : Expr} {scope : Scope} {pos : Pos} {it acc : Value} {env : Env} (I : Nat → Shared → Prop)
    (turn : ∀ n s, I n s → wpAny (model prog w) A (pyNext it) (fun r s₁ => match r with
      | none => R (.ok .next) s₁
      | some v => wpAny (model prog w) A (assign t0 env v) (fun _ s₂ => wpAny (model prog w) A (eval i1 env) (fun x s₃ => wpAny (model prog w) A (pyIter x) (fun it' s₄ =>
          codeAny (model prog w) A (.compStart (.ListComp elt [⟨t0, i0, [], 0⟩, ⟨t1, i1, [], 0⟩] scope pos) 1 it' acc env) (fun r s₅ => match r with
            | .ok _ => ∃ m, m < n ∧ I m s₅
            | .error e => cameBackBy (model prog w) A env (notedBy (model prog w) A env fun e s' => R (.error e) s') e s₅) s₄)
          (notedBy (model prog w) A env fun e s' => R (.error e) s') s₃)
          (notedBy (model prog w) A env fun e s' => R (.error e) s') s₂) (notedBy (model prog w) A env fun e s' => R (.error e) s') s₁) (notedBy (model prog w) A env fun e s' => R (.error e) s') s)
    (n : Nat) (h : I n s) (hs : ∀ x, foldedSetIterable i1 env x = pure x) (ht : ∀ v, letOwnedTupleGo t0 it v = pure () := by intro _; rfl) :
    codeAny (model prog w) A (.compLoop (.ListComp elt [⟨t0, i0, [], 0⟩, ⟨t1, i1, [], 0⟩] scope pos) 0 it acc env) R s := by
  refine codeAny_loop rfl I (fun n s hI => ?_) n h
  show wpAny _ _ ((compTurn (.ListComp elt [⟨t0, i0, [], 0⟩, ⟨t1, i1, [], 0⟩] scope pos) 0 it acc env).onRaise (fun x => do noteFrame x env; theTreesLotGoes x)) _ _ s
  refine wpAny_noted ?_
  rw [turn2_outer]
  refine wpAny_bind (wpAny_standAt (wpAny_bind (wpAny_mono (turn n s hI) (fun r s₁ h₁ => ?_) fun _ _ h' => h')))
  cases r with
  | none => exact wpAny_pure h₁
  | some v =>
    refine wpAny_bind (wpAny_of_eq (ht v) ?_)
    refine wpAny_bind (wpAny_mono h₁ (fun _ s₂ h₂ => wpAny_bind (wpAny_mono h₂ (fun x s₃ h₃ => ?_) fun _ _ h' => h')) fun _ _ h' => h')
    refine wpAny_bind (wpAny_standAt (wpAny_bind (wpAny_of_eq (hs x) (wpAny_bind (wpAny_holding (wpAny_mono h₃ (fun it' s₄ h₄ => ?_) fun _ _ h' => h'))))))
    refine wpAny_bind (wpAny_runOwn (codeAny_mono h₄ fun r s₅ hr => ?_))
    cases r with
    | ok f => exact wpAny_pure ⟨rfl, hr⟩
    | error e => exact hr
end
end Mine
end Comp2Part
section Comp2EPart
open PySem PySem.W PySem.Spec PySem.Calls PyProof.Rows
set_option maxRecDepth 100000
namespace Mine
open PySem
open LCg
section
variable {prog : Program} {w : World} {A : Around} {E : Value → Shared → Prop} {R : Result → Shared → Prop} {s : Shared} {h₀ : Heap} {L : Addr} {m : Str → Option Value} {env : Env}
theorem compStart2 {elt t0 i0 t1 i1 : Expr} {scope : Scope} {pos : Pos} {it acc : Value} {env : Env}
    (h0 : codeAny (model prog w) A (.compLoop (.ListComp elt [⟨t0, i0, [], 0⟩, ⟨t1, i1, [], 0⟩] scope pos) 1 it acc env) R s)
    (h : wpAny (model prog w) A (pyIter it) (fun it' s' => codeAny (model prog w) A (.compLoop (.ListComp elt [⟨t0, i0, [], 0⟩, ⟨t1, i1, [], 0⟩] scope pos) 1 it' acc env) R s')
      (notedBy (model prog w) A env fun x s' => R (.error x) s') s) :
    codeAny (model prog w) A (.compStart (.ListComp elt [⟨t0, i0, [], 0⟩, ⟨t1, i1, [], 0⟩] scope pos) 1 it acc env) R s := by
  refine codeAny_of_tree ?_
  show wpAny _ _ ((compStart (.ListComp elt [⟨t0, i0, [], 0⟩, ⟨t1, i1, [], 0⟩] scope pos) 1 it acc env).onRaise (fun x => do noteFrame x env; standAt theWindowsPlace)) _ _ s
  refine wpAny_notedAt ?_
  unfold compStart
  show wpAny _ _ (ask >>= _) _ _ s
  refine wpAny_bind (wpAny_askSetting (wpAny_ite ?_))
  split
  · first
      | exact wpAny_bind (wpAny_pure (wpAny_pure (And.intro rfl h0)))
      | exact wpAny_pure (And.intro rfl h0)
  · first
      | exact wpAny_bind (wpAny_rule (wpAny_bind (wpAny_standAt (wpAny_bind (wpAny_mono h (fun it' s' h' => wpAny_pure (And.intro rfl h')) fun _ _ x => x)))))
      | (refine wpAny_bind (wpAny_rule ?_); show wpAny _ _ (standAt i1.pos >>= _) _ _ s; exact wpAny_bind (wpAny_standAt (wpAny_bind (wpAny_mono h (fun it' s' h' => wpAny_pure (And.intro rfl h')) fun _ _ x => x))))

/-- the end of the inner iterable: a range -/
def R2 (h₀ : Heap) (L : Addr) (m : Str → Option Value) (s₁ : Shared) (keep : List (Addr × Obj)) (n : Nat) (y : Value) (s₂ : Shared) : Prop :=
  ∃ h' tk all r t u v, y = .ref r ∧ s₂ = { s₁ with heap := h', toks := tk } ∧ Fr h₀ L h' m ∧ News h₀ L h' all ∧ (∀ p ∈ keep, p ∈ all) ∧ IsRange h' r 0 (n : Int) 1 t u v
theorem R2.intro {s₁ : Shared} {keep all : List (Addr × Obj)} {n : Nat} {r : Addr} {t u v : Tok} {h' : Heap} {tk : Nat} (F : Fr h₀ L h' m) (N : News h₀ L h' all) (hk : ∀ p ∈ keep, p ∈ all) (hr : IsRange h' r 0 (n : Int) 1 t u v) :
    R2 h₀ L m s₁ keep n (.ref r) { s₁ with heap := h', toks := tk } := ⟨h', tk, all, r, t, u, v, rfl, rfl, F, N, hk, hr⟩

abbrev Turn0 (prog : Program) (w : World) (A : Around) (h₀ : Heap) (L : Addr) (m : Str → Option Value) (env : Env) (i1 : Expr) (x0 : Str) (scope : Scope) (cl : List (Str × Addr)) (s₁ : Shared) (its : Array Value) (news : List (Addr × Obj)) (g : Nat → Nat) (J : Nat → Nat → List Value → Prop) : Prop :=
  ∀ i ys v I oI C oC D m₂ h tk (E' : Value → Shared → Prop), i < its.size → J i 0 ys → its[i]? = some v → NsObj oC m₂ → m₂ x0 = some v → Fr h₀ L h m → News h₀ L h ((I, oI) :: (C, oC) :: (D, lst ys) :: news) → Off3 I C D news → ((@Ne Nat I C) ∧ (@Ne Nat I D) ∧ (@Ne Nat C D)) →
    wpAny (model prog w) A (eval i1 (compEnvC scope cl C env)) (R2 h₀ L m { s₁ with heap := h, toks := tk } ((I, oI) :: (C, oC) :: (D, lst ys) :: news) (g i)) E' { s₁ with heap := h, toks := tk }
abbrev Turn1 (prog : Program) (w : World) (A : Around) (h₀ : Heap) (L : Addr) (m : Str → Option Value) (env : Env) (elt : Expr) (x0 x1 : Str) (scope : Scope) (cl : List (Str × Addr)) (s₁ : Shared) (its : Array Value) (news : List (Addr × Obj)) (g : Nat → Nat) (J : Nat → Nat → List Value → Prop) : Prop :=
  ∀ i j ys v t K oK I oI C oC D m₂ h tk (E' : Value → Shared → Prop), i < its.size → j < g i → J i j ys → its[i]? = some v → NsObj oC m₂ → m₂ x0 = some v → m₂ x1 = some (.int (j : Int) t) → Fr h₀ L h m → News h₀ L h ((K, oK) :: (I, oI) :: (C, oC) :: (D, lst ys) :: news) → Off3 I C D news → ((@Ne Nat I C) ∧ (@Ne Nat I D) ∧ (@Ne Nat C D)) →
    AllLt K ((I, oI) :: (C, oC) :: (D, lst ys) :: news) →
    wpAny (model prog w) A (eval elt (compEnvC scope cl C env)) (CE h₀ L m { s₁ with heap := h, toks := tk } ((K, oK) :: (I, oI) :: (C, oC) :: (D, lst ys) :: news) (fun y => J i (j + 1) (ys ++ [y]))) E' { s₁ with heap := h, toks := tk }

def Src2 (prog : Program) (w : World) (A : Around) (h₀ : Heap) (L : Addr) (m : Str → Option Value) (env : Env) (elt i1 : Expr) (x0 x1 : Str) (scope : Scope) (cl : List (Str × Addr)) (Fin : Shared → List Value → List (Addr × Obj) → Prop) (xv : Value) (s₁ : Shared) : Prop :=
  ∃ (ax : Addr) (its : Array Value) (k : Nat) (news : List (Addr × Obj)) (g : Nat → Nat) (J : Nat → Nat → List Value → Prop),
    xv = .ref ax ∧ A.handled = none ∧ Fr h₀ L s₁.heap m ∧ News h₀ L s₁.heap news ∧ (ax, lstN its k) ∈ news ∧ its.size ≤ 16000 ∧ (∀ i, g i ≤ 16000) ∧ (∀ i j ys, J i j ys → ys.length ≤ 16000) ∧ J 0 0 [] ∧ (∀ i ys, i < its.size → J i (g i) ys → J (i + 1) 0 ys) ∧ (∀ ys, J its.size 0 ys → Fin s₁ ys news) ∧
    (∀ g', Turn0 prog w A h₀ L m env i1 x0 scope cl { s₁ with heap := g' } its news g J) ∧ (∀ g', Turn1 prog w A h₀ L m env elt x0 x1 scope cl { s₁ with heap := g' } its news g J)

theorem block2 {elt i0 i1 : Expr} {x0 x1 : Str} {p0 p1 : Pos} {scope : Scope} {cl : List (Str × Addr)} {pos : Pos} {s₂ : Shared} {I ax : Addr} {its : Array Value} {k : Nat} {news : List (Addr × Obj)} {g : Nat → Nat} {J : Nat → Nat → List Value → Prop}
    {RR : Value → Addr → Result → Shared → Prop} (hh : A.handled = none)
    (hcell : ∀ y ∈ scope.names, y.2 ≠ .cell) (hkind : scope.kind = .function) (hx0 : scope.names.lookup x0 = some .local) (hx1 : scope.names.lookup x1 = some .local) (hne : x0 ≠ x1)
    (hst : s₂.heap.IsListIter I ax 0) (F : Fr h₀ L s₂.heap m) (N : News h₀ L s₂.heap news) (hm : (ax, lstN its k) ∈ news) (hIL : L ≠ I) (hI₀ : h₀.get? I = none) (off : ∀ p ∈ news, p.1 ≠ I)
    (hsz : its.size ≤ 16000) (hg : ∀ i, g i ≤ 16000) (hJl : ∀ i j ys, J i j ys → ys.length ≤ 16000) (j0 : J 0 0 []) (jn : ∀ i ys, i < its.size → J i (g i) ys → J (i + 1) 0 ys)
    (turn0 : Turn0 prog w A h₀ L m env i1 x0 scope cl s₂ its news g J) (turn1 : Turn1 prog w A h₀ L m env elt x0 x1 scope cl s₂ its news g J)
    (hs1 : ∀ C x, foldedSetIterable i1 (compEnvC scope cl C env) x = pure x)
    (hRR : ∀ D C h tk m' ys, Fr h₀ L h m → News h₀ L h ((D, lst ys) :: news) → Off1 D news → h.Ns C m' → h₀.get? C = none → h₀.get? D = none → C ≠ L → D ≠ L → C ≠ D → (∀ p ∈ news, p.1 ≠ C) → J its.size 0 ys → RR (.ref D) C (.ok .next) { s₂ with heap := h, toks := tk }) :
    wpAny (model prog w) A (newList []) (fun acc s₃ => wpAny (model prog w) A (newFunctionEnv scope env.globals cl [] env.qual none .none (some env)) (fun cenv s₄ =>
      codeAny (model prog w) A (.compStart (.ListComp elt [⟨.Name x0 p0, i0, [], 0⟩, ⟨.Name x1 p1, i1, [], 0⟩] scope pos) 0 (.ref I) acc { cenv with scope := relabel scope env }) (RR acc cenv.locals) s₄) E s₃) E s₂ := by
  refine wpAny_newObj_type (wpAny_newFunctionEnv hcell (by intro y hy; simp at hy) (fun h₁ hns₁ hsb₁ => ?_) hkind)
  dsimp only at hns₁ hsb₁ ⊢
  generalize hH2 : s₂.heap.push { cls := .type "list", dict := none, data := .seq ([] : List Value).toArray } = H2 at hns₁ hsb₁ ⊢
  have hC : H2.objs.size = s₂.heap.objs.size + 1 := by rw [← hH2, Heap.size_push]
  have hDC : s₂.heap.objs.size ≠ H2.objs.size := by rw [hC]; exact Nat.ne_of_lt (Nat.lt_succ_self _)
  have below : ∀ b, b < s₂.heap.objs.size → b ≠ H2.objs.size ∧ b ≠ s₂.heap.objs.size := fun b hb => ⟨by rw [hC]; exact Nat.ne_of_lt (Nat.lt_succ_of_lt hb), Nat.ne_of_lt hb⟩
  have hIlt : I < s₂.heap.objs.size := by obtain ⟨_, e, _⟩ := hst; exact Heap.lt_size e
  have old : ∀ b o, s₂.heap.get? b = some o → h₁.get? b = some o := fun b o e => hsb₁.extBut b o (below b (Heap.lt_size e)).1 (Heap.get?_push_of_some _ (hH2 ▸ Heap.get?_push_of_some _ e))
  have hacc : h₁.get? s₂.heap.objs.size = some (lst []) := hsb₁.extBut _ _ hDC (Heap.get?_push_of_some _ (hH2 ▸ Heap.get?_push_size _ rfl))
  have hst₁ : h₁.IsListIter I ax 0 := hst.at fun o e => old _ _ e
  have fresh : ∀ a, s₂.heap.objs.size ≤ a → s₂.heap.get? a = none := fun a ha => by
    cases e : s₂.heap.get? a with
    | none => rfl
    | some o' => exact absurd (Heap.lt_size e) (Nat.not_lt.mpr ha)
  have fresh₀ : ∀ a, s₂.heap.objs.size ≤ a → h₀.get? a = none := fun a ha => by
    cases e : h₀.get? a with
    | none => rfl
    | some o' => have := F.keep a o' e; rw [fresh a ha] at this; cases this
  have hD₀ : h₀.get? s₂.heap.objs.size = none := fresh₀ _ (Nat.le_refl _)
  have hC₀ : h₀.get? H2.objs.size = none := fresh₀ _ (by rw [hC]; exact Nat.le_succ _)
  have hLlt : L < s₂.heap.objs.size := F.ns.lt
  have hDL : s₂.heap.objs.size ≠ L := Ne.symm (below L hLlt).2
  have hCL : H2.objs.size ≠ L := Ne.symm (below L hLlt).1
  have hCI : I ≠ H2.objs.size := (below I hIlt).1
  have hDI : I ≠ s₂.heap.objs.size := (below I hIlt).2
  have off' : Off3 I H2.objs.size s₂.heap.objs.size news := Off3.of fun p hp => ⟨off p hp, (below _ (Heap.lt_size (N p hp).1)).1, (below _ (Heap.lt_size (N p hp).1)).2⟩
  have off3 := off'.mem
  generalize hDe : s₂.heap.objs.size = D at *
  generalize hCe : H2.objs.size = C at *
  have W : Walks prog w A I [I, ax] [I] its.size (fun i v => its[i]? = some v) (fun i h => h.IsListIter I ax i ∧ h.IsList ax its) := Walks.list hh I ax (off3 _ hm).1 its
  have lis : ∀ {h : Heap}, News h₀ L h news → h.IsList ax its := fun n => ⟨_, (n _ hm).1, rfl, k, rfl⟩
  have loop : ∀ s₃ : Shared, s₃ = { s₂ with heap := h₁, toks := s₂.toks + ([] : List (Str × Value)).length } →
      codeAny (model prog w) A (.compLoop (.ListComp elt [⟨.Name x0 p0, i0, [], 0⟩, ⟨.Name x1 p1, i1, [], 0⟩] scope pos) 0 (.ref I) (.ref D) (compEnvC scope cl C env)) (RR (.ref D) C) s₃ := by
    rintro s₃ rfl
    refine loop2_outer
      (fun q s' => ∃ h' tk i ys m', s' = { s₂ with heap := h', toks := tk } ∧ i ≤ its.size ∧ q = its.size + 1 - i ∧ J i 0 ys ∧ h'.IsListIter I ax i ∧ Fr h₀ L h' m ∧ h'.Ns C m' ∧ News h₀ L h' ((D, lst ys) :: news)) ?_ (its.size + 1)
      ⟨h₁, _, 0, [], _, rfl, Nat.zero_le _, rfl, j0, hst₁, F.keeps old, hns₁, fun p hp => ?_⟩ (hs1 C)
    · rintro q s' ⟨h', tk, i, ys, m', rfl, hi, rfl, hJ, hst', F', hn', N'⟩
      have N'' : News h₀ L h' news := fun p hp => N' p (List.mem_cons_of_mem _ hp)
      by_cases hlt : i < its.size
      · refine W.item i _ _ _ hlt ⟨hst', lis N''⟩ fun v h₂ tk₂ hPv hst₂ hk₂ => ?_
        refine wpAny_assign_Name (wpAny_storeName_local (lookup_relabel_local hx0) (hn'.at' fun o e => hk₂ _ o (by simpa using Ne.symm hCI) e) (fun h₃ hn₃ hs₃ => ?_) (by simp [compEnvC, relabel, hkind]))
        have hst₃ : h₃.IsListIter I ax (i + 1) := hst₂.1.at fun o e => hs₃.extBut _ _ hCI e
        obtain ⟨oI, heI, hoI⟩ := hst₃
        obtain ⟨oC, heC, hoC⟩ := ns_obj hn₃
        have F₃ : Fr h₀ L h₃ m := (fr_but F' hk₂ hIL hI₀).change hs₃ hCL hC₀
        have N₂ : News h₀ L h₂ ((D, lst ys) :: news) := news_but N' hk₂ fun p hp => by
          rcases List.mem_cons.mp hp with rfl | hp
          · exact Ne.symm hDI
          · exact (off3 p hp).1
        have N₃ : News h₀ L h₃ ((I, oI) :: (C, oC) :: (D, lst ys) :: news) := fun p hp => by
          rcases List.mem_cons.mp hp with rfl | hp
          · exact ⟨heI, Ne.symm hIL, hI₀⟩
          · rcases List.mem_cons.mp hp with rfl | hp
            · exact ⟨heC, hCL, hC₀⟩
            · have z := N₂ p hp
              refine ⟨hs₃.extBut _ _ ?_ z.1, z.2⟩
              rcases List.mem_cons.mp hp with rfl | hp
              · exact hDC
              · exact (off3 p hp).2.1
        refine wpAny_mono (turn0 i ys v I oI C oC D _ h₃ _ _ hlt hJ hPv hoC (by simp) F₃ N₃ off' ⟨hCI, hDI, Ne.symm hDC⟩) (fun y s₄ h₄ => ?_) fun _ _ e => e
        obtain ⟨h₄, tk₄, all, r, t, u, v', rfl, rfl, F₄, N₄, hk₄, hr⟩ := h₄
        have hgi := hg i
        have hsm : Builtin.Range.small 0 (g i : Int) 1 = true := small_one (by omega) (by omega) (by omega) (by omega)
        have hrs : Builtin.Range.rangeSize 0 (g i : Int) 1 = (g i : Int) := by rw [rangeSize_nat]; omega
        refine wpAny_pyIter_range hr hsm ?_
        rw [hrs]
        have N₄' : News h₀ L h₄ ((I, oI) :: (C, oC) :: (D, lst ys) :: news) := fun p hp => N₄ p (hk₄ p hp)
        have hKlt : AllLt h₄.objs.size ((I, oI) :: (C, oC) :: (D, lst ys) :: news) := allLt_of fun p hp => Heap.lt_size (N₄' p hp).1
        have hK₀ : h₀.get? h₄.objs.size = none := next_is_new F₄
        have hKL : L ≠ h₄.objs.size := Nat.ne_of_lt F₄.ns.lt
        have hKlt' : ∀ p ∈ (I, oI) :: (C, oC) :: (D, lst ys) :: news, p.1 < h₄.objs.size := fun p hp => Heap.lt_size (N₄' p hp).1
        have up : ∀ b o, h₄.get? b = some o → (h₄.push { cls := .type "range_iterator", data := .fields #[rawInt 0, rawInt (g i : Int), rawInt 1] }).get? b = some o := fun b o e => Heap.get?_push_of_some _ e
        have hit₅ : IsRangeIter (h₄.push { cls := .type "range_iterator", data := .fields #[rawInt 0, rawInt (g i : Int), rawInt 1] }) h₄.objs.size 0 (g i : Int) 1 := Heap.get?_push_size _ rfl
        have F₅ := F₄.keeps up
        have N₅ := N₄'.grown up
        dsimp only at hit₅ F₅ N₅ ⊢
        generalize h₄.push { cls := .type "range_iterator", data := .fields #[rawInt 0, rawInt (g i : Int), rawInt 1] } = h₅ at hit₅ F₅ N₅ ⊢
        generalize h₄.objs.size = K at *
        have lI : I < K := hKlt' (I, oI) List.mem_cons_self
        have lC : C < K := hKlt' (C, oC) (List.mem_cons_of_mem _ List.mem_cons_self)
        have lD : D < K := hKlt' (D, lst ys) (List.mem_cons_of_mem _ (List.mem_cons_of_mem _ List.mem_cons_self))
        have hKI : K ≠ I := Ne.symm (Nat.ne_of_lt (hKlt' (I, oI) List.mem_cons_self))
        have hKC : K ≠ C := Ne.symm (Nat.ne_of_lt (hKlt' (C, oC) (List.mem_cons_of_mem _ List.mem_cons_self)))
        have hKD : K ≠ D := Ne.symm (Nat.ne_of_lt (hKlt' (D, lst ys) (List.mem_cons_of_mem _ (List.mem_cons_of_mem _ List.mem_cons_self))))
        have hKn : ∀ p ∈ news, p.1 ≠ K := fun p hp => Nat.ne_of_lt (hKlt' p (List.mem_cons_of_mem _ (List.mem_cons_of_mem _ (List.mem_cons_of_mem _ hp))))
        have W2 : Walks prog w A K [K] [K] (g i) (fun j v => ∃ t, v = .int ((0 : Int) + (j : Int)) t) (fun j h => IsRangeIter h K ((0 : Int) + (j : Nat) * 1) ((g i : Int) - (j : Nat)) 1) := range_walks hh 0 (g i)
        have hst₅ : IsRangeIter h₅ K ((0 : Int) + (0 : Nat) * 1) ((g i : Int) - (0 : Nat)) 1 := by simpa using hit₅
        have inner : codeAny (model prog w) A (.compLoop (.ListComp elt [⟨.Name x0 p0, i0, [], 0⟩, ⟨.Name x1 p1, i1, [], 0⟩] scope pos) 1 (.ref K) (.ref D) (compEnvC scope cl C env))
            (fun r s₅ => match r with
              | .ok _ => ∃ q', q' < its.size + 1 - i ∧ (∃ h' tk i ys m', s₅ = { s₂ with heap := h', toks := tk } ∧ i ≤ its.size ∧ q' = its.size + 1 - i ∧ J i 0 ys ∧ h'.IsListIter I ax i ∧ Fr h₀ L h' m ∧ h'.Ns C m' ∧ News h₀ L h' ((D, lst ys) :: news))
              | .error e => cameBackBy (model prog w) A (compEnvC scope cl C env) (notedBy (model prog w) A (compEnvC scope cl C env) fun e s' => RR (.ref D) C (.error e) s') e s₅) { s₂ with heap := h₅, toks := tk₄ } := by
          refine loop2_inner
            (fun q s' => ∃ h' tk j ys oC m', s' = { s₂ with heap := h', toks := tk } ∧ j ≤ g i ∧ q = g i + 1 - j ∧ J i j ys ∧ IsRangeIter h' K ((0 : Int) + (j : Nat) * 1) ((g i : Int) - (j : Nat)) 1 ∧ Fr h₀ L h' m ∧ NsObj oC m' ∧ m' x0 = some v ∧ News h₀ L h' ((I, oI) :: (C, oC) :: (D, lst ys) :: news)) ?_ (g i + 1)
            ⟨h₅, _, 0, ys, oC, _, rfl, Nat.zero_le _, rfl, hJ, hst₅, F₅, hoC, by simp, N₅⟩
          rintro q s' ⟨h', tk, j, ys, oC, m', rfl, hj, rfl, hJ, hst', F', hoC, hm0, N'⟩
          have offK : ∀ p ∈ (I, oI) :: (C, oC) :: (D, lst ys) :: news, p.1 ≠ K := fun p hp => by
            rcases List.mem_cons.mp hp with rfl | hp
            · exact Ne.symm hKI
            rcases List.mem_cons.mp hp with rfl | hp
            · exact Ne.symm hKC
            rcases List.mem_cons.mp hp with rfl | hp
            · exact Ne.symm hKD
            exact hKn p hp
          by_cases hlt2 : j < g i
          · refine W2.item j _ _ _ hlt2 hst' fun v2 h₂ tk₂ hPv2 hst₂ hk₂ => ?_
            obtain ⟨t2, rfl⟩ := hPv2
            rw [Int.zero_add]
            have N₂ := news_but N' hk₂ offK
            have zC := (N₂ (C, oC) (List.mem_cons_of_mem _ List.mem_cons_self)).1
            refine wpAny_assign_Name (wpAny_storeName_local (lookup_relabel_local hx1) (hoC.ns zC) (fun h₃ hn₃ hs₃ => ?_) (by simp [compEnvC, relabel, hkind]))
            have hst₃ := W2.frame (j + 1) _ _ hst₂ fun b hb o e => hs₃.extBut b o (by rw [List.mem_singleton.mp hb]; exact hKC) e
            obtain ⟨oC3, heC3, hoC3⟩ := ns_obj hn₃
            have F₃ : Fr h₀ L h₃ m := (fr_but F' hk₂ hKL hK₀).change hs₃ hCL hC₀
            obtain ⟨oK, heK⟩ : ∃ oK, h₃.get? K = some oK := ⟨_, hst₃⟩
            have N₃ : News h₀ L h₃ ((K, oK) :: (I, oI) :: (C, oC3) :: (D, lst ys) :: news) := fun p hp => by
              rcases List.mem_cons.mp hp with rfl | hp
              · exact ⟨heK, Ne.symm hKL, hK₀⟩
              rcases List.mem_cons.mp hp with rfl | hp
              · exact ⟨hs₃.extBut _ _ hCI (N₂ (I, oI) List.mem_cons_self).1, Ne.symm hIL, hI₀⟩
              rcases List.mem_cons.mp hp with rfl | hp
              · exact ⟨heC3, hCL, hC₀⟩
              have z := N₂ p (List.mem_cons_of_mem _ (List.mem_cons_of_mem _ hp))
              refine ⟨hs₃.extBut _ _ ?_ z.1, z.2⟩
              rcases List.mem_cons.mp hp with rfl | hp
              · exact hDC
              · exact (off3 p hp).2.1
            have hKlt2 : AllLt K ((I, oI) :: (C, oC3) :: (D, lst ys) :: news) := allLt_of fun p hp => by
              rcases List.mem_cons.mp hp with rfl | hp
              · exact lI
              rcases List.mem_cons.mp hp with rfl | hp
              · exact lC
              rcases List.mem_cons.mp hp with rfl | hp
              · exact lD
              exact hKlt' p (List.mem_cons_of_mem _ (List.mem_cons_of_mem _ (List.mem_cons_of_mem _ hp)))
            refine wpAny_mono (turn1 i j ys v t2 K oK I oI C oC3 D _ h₃ _ _ hlt hlt2 hJ hPv hoC3 (by show (if x0 = x1 then _ else _) = _; rw [if_neg hne]; exact hm0) (by simp) F₃ N₃ off' ⟨hCI, hDI, Ne.symm hDC⟩ hKlt2) (fun y s₄ h₄ => ?_) fun _ _ e => e
            obtain ⟨h₄, tk₄, all, rfl, F₄, N₄, hk₄, hJ'⟩ := h₄
            have N₆ := fun p hp => N₄ p (hk₄ p hp)
            have zK := (N₆ (K, oK) List.mem_cons_self).1
            have zI := (N₆ (I, oI) (List.mem_cons_of_mem _ List.mem_cons_self)).1
            have zC2 := (N₆ (C, oC3) (List.mem_cons_of_mem _ (List.mem_cons_of_mem _ List.mem_cons_self))).1
            have zD := (N₆ (D, lst ys) (List.mem_cons_of_mem _ (List.mem_cons_of_mem _ (List.mem_cons_of_mem _ List.mem_cons_self)))).1
            have zN : News h₀ L h₄ news := fun p hp => N₆ p (List.mem_cons_of_mem _ (List.mem_cons_of_mem _ (List.mem_cons_of_mem _ (List.mem_cons_of_mem _ hp))))
            refine append_at (hsz := by show ys.toArray.size ≤ sizeLine; rw [List.size_toArray, sizeLine_eq]; have := hJl _ _ _ hJ; omega) zD fun h₅ hs₅ hD₅ => ?_
            have hst₄ : IsRangeIter h₄ K ((0 : Int) + ((j + 1 : Nat) : Int) * 1) ((g i : Int) - ((j + 1 : Nat) : Int)) 1 := by
              show h₄.get? K = _
              rw [zK, ← heK]; exact hst₃
            refine ⟨g i + 1 - (j + 1), by omega, h₅, tk₄, j + 1, ys ++ [y], oC3, _, rfl, hlt2, rfl, hJ', W2.frame _ _ _ hst₄ fun b hb o e => hs₅.extBut b o (by rw [List.mem_singleton.mp hb]; exact hKD) e, F₄.change hs₅ hDL hD₀, hoC3, by show (if x0 = x1 then _ else _) = _; rw [if_neg hne]; exact hm0, fun p hp => ?_⟩
            rcases List.mem_cons.mp hp with rfl | hp
            · exact ⟨hs₅.extBut _ _ hDI zI, Ne.symm hIL, hI₀⟩
            rcases List.mem_cons.mp hp with rfl | hp
            · exact ⟨hs₅.extBut _ _ (Ne.symm hDC) zC2, hCL, hC₀⟩
            rcases List.mem_cons.mp hp with rfl | hp
            · exact ⟨hD₅.trans (congrArg some (lst_snoc ys y)), hDL, hD₀⟩
            · exact ⟨hs₅.extBut _ _ (off3 p hp).2.2 (zN p hp).1, (zN p hp).2⟩
          · obtain rfl : j = g i := Nat.le_antisymm hj (Nat.not_lt.mp hlt2)
            refine W2.done _ _ _ hst' fun h₂ tk₂ hk₂ => ?_
            have N₂ := news_but N' hk₂ offK
            refine ⟨its.size + 1 - (i + 1), by omega, h₂, tk₂, i + 1, ys, m', rfl, hlt, rfl, jn i ys hlt hJ, ⟨_, (N₂ (I, oI) List.mem_cons_self).1, hoI⟩, fr_but F' hk₂ hKL hK₀, hoC.ns (N₂ (C, oC) (List.mem_cons_of_mem _ List.mem_cons_self)).1, fun p hp => N₂ p (List.mem_cons_of_mem _ (List.mem_cons_of_mem _ hp))⟩
        exact compStart2 inner (W2.self 0 _ _ _ hst₅ inner)
      · obtain rfl : i = its.size := Nat.le_antisymm hi (Nat.not_lt.mp hlt)
        refine W.done _ _ _ ⟨hst', lis N''⟩ fun h₂ tk₂ hk₂ => ?_
        exact hRR _ _ h₂ tk₂ _ ys (fr_but F' hk₂ hIL hI₀) (news_but N' hk₂ fun p hp => by
          rcases List.mem_cons.mp hp with rfl | hp
          · exact Ne.symm hDI
          · exact (off3 p hp).1) off'.one (hn'.at' fun o e => hk₂ _ o (by simpa using Ne.symm hCI) e) hC₀ hD₀ hCL hDL (Ne.symm hDC) (fun p hp => (off3 p hp).2.1) hJ
    · rcases List.mem_cons.mp hp with rfl | hp
      · exact ⟨hacc, hDL, hD₀⟩
      · exact ⟨old _ _ (N p hp).1, (N p hp).2⟩
  exact codeAny_compStart_list (loop _ rfl) (W.self 0 _ _ _ ⟨hst₁, lis fun p hp => ⟨old _ _ (N p hp).1, (N p hp).2⟩⟩ (loop _ rfl))
theorem comp2_eval {elt i0 i1 : Expr} {x0 x1 : Str} {p0 p1 : Pos} {scope : Scope} {cl : List (Str × Addr)} {pos : Pos} {Q : Value → Shared → Prop} (F₀ : Fr h₀ L s.heap m)
    (hclos : closureFor scope env = pure cl) (hcell : ∀ y ∈ scope.names, y.2 ≠ .cell) (hkind : scope.kind = .function)
    (hnames : ∀ y ∈ scope.names, y.2 = .local → scope.names.lookup y.1 = some .local) (hx0 : scope.names.lookup x0 = some .local) (hx1 : scope.names.lookup x1 = some .local) (hne : x0 ≠ x1)
    (h : wpAny (model prog w) A (eval i0 env) (Src2 prog w A h₀ L m env elt i1 x0 x1 scope cl (fun s₂ => FinE h₀ L m s₂ Q)) E s)
    (hs0 : ∀ x, foldedSetIterable i0 env x = pure x := by intro _; rfl) (hs1 : ∀ C x, foldedSetIterable i1 (compEnvC scope cl C env) x = pure x := by intro _ _; rfl) :
    wpAny (model prog w) A (eval (.ListComp elt [⟨.Name x0 p0, i0, [], 0⟩, ⟨.Name x1 p1, i1, [], 0⟩] scope pos) env) Q E s := by
  rw [eval_ListComp]
  refine wpAny_comprehension_free (use := none) rfl hs0 hclos hkind hnames (wpAny_mono h (fun xv s₁ h₁ => ?_) fun _ _ e => e)
  obtain ⟨ax, its, k, news, g, J, rfl, hh, F, N, hm, hsz, hg, hJl, j0, jn, fin, turn0, turn1⟩ := h₁
  have hol := (N _ hm).1
  have hl : s₁.heap.IsList ax its := ⟨_, hol, rfl, k, rfl⟩
  refine wpAny_pyIter_list hl ?_
  have up : ∀ b o, s₁.heap.get? b = some o → (s₁.heap.push { cls := .type "list_iterator", data := .fields #[.ref ax, .int 0 0] }).get? b = some o := fun b o e => Heap.get?_push_of_some _ e
  refine block2 hh hcell hkind hx0 hx1 hne ⟨_, Heap.get?_push_size _ rfl, rfl, rfl⟩ (F.keeps up) (N.grown up) hm (Nat.ne_of_lt F.ns.lt) (next_is_new F) (fun p hp => Nat.ne_of_lt (Heap.lt_size (N p hp).1)) hsz hg hJl j0 jn (turn0 _) (turn1 _) hs1 ?_
  intro D C h tk m' ys F' N' o1 hn hC₀ hD₀ hCL hDL hCD offC hJ
  refine ⟨m', hn, fun h'' hs'' => fin ys hJ D h'' tk (F'.change hs'' hCL hC₀) (fun p hp => ?_) o1⟩
  refine ⟨hs''.extBut _ _ ?_ (N' p hp).1, (N' p hp).2⟩
  rcases List.mem_cons.mp hp with rfl | hp
  · exact Ne.symm hCD
  · exact offC p hp
end
end Mine
end Comp2EPart
section HeadsPart
open PySem PySem.W PySem.Spec PySem.Calls PyProof.Rows
namespace Mine
/-- all beginnings of a text -/
def heads (y : Str) : List Str := (List.range (y.length + 1)).map fun n => S ((tl y).take n)
def upTo (ys : List Str) (i j : Nat) : List Str := (ys.take i).flatMap heads ++ ((ys[i]?.map fun y => (heads y).take j).getD [])
theorem heads_len (y : Str) : (heads y).length = y.length + 1 := by simp [heads]
theorem upTo_zero (ys : List Str) : upTo ys 0 0 = [] := by
  unfold upTo; cases ys <;> simp
theorem upTo_next {ys : List Str} {i : Nat} {y : Str} (h : ys[i]? = some y) : upTo ys i (y.length + 1) = upTo ys (i + 1) 0 := by
  unfold upTo
  rw [h, List.take_add_one, h]
  simp only [Option.map_some, Option.getD_some, Option.toList_some, List.flatMap_append, List.flatMap_cons, List.flatMap_nil, List.append_nil]
  rw [← heads_len, List.take_length]
  cases ys[i + 1]? <;> simp
theorem upTo_step {ys : List Str} {i j : Nat} {y : Str} (h : ys[i]? = some y) (hj : j < y.length + 1) : upTo ys i (j + 1) = upTo ys i j ++ [S ((tl y).take j)] := by
  unfold upTo
  rw [h]
  simp only [Option.map_some, Option.getD_some]
  rw [List.append_assoc]
  congr 1
  rw [List.take_add_one]
  congr 1
  unfold heads
  simp [hj]
theorem upTo_end (ys : List Str) : upTo ys ys.length 0 = ys.flatMap heads := by
  unfold upTo; simp
theorem flat_len : ∀ {ys : List Str}, (∀ y ∈ ys, y.length ≤ 200) → (ys.flatMap heads).length ≤ 201 * ys.length
  | [], _ => by simp
  | y :: r, h => by
    have := flat_len (ys := r) fun z hz => h z (List.mem_cons_of_mem _ hz)
    have h2 := h y List.mem_cons_self
    rw [List.flatMap_cons, List.length_append, heads_len, List.length_cons]; omega
theorem upTo_len {ys : List Str} (h : ∀ y ∈ ys, y.length ≤ 200) (hn : ys.length ≤ 12) (i j : Nat) : (upTo ys i j).length ≤ 3000 := by
  unfold upTo
  rw [List.length_append]
  have h1 := flat_len (ys := ys.take i) fun z hz => h z (List.mem_of_mem_take hz)
  have h2 : (ys.take i).length ≤ 12 := by rw [List.length_take]; omega
  cases e : ys[i]? with
  | none => simp only [Option.map_none, Option.getD_none, List.length_nil]; omega
  | some y =>
    have h3 := h y (List.mem_of_getElem? e)
    simp only [Option.map_some, Option.getD_some]
    have h4 : ((heads y).take j).length ≤ (heads y).length := by rw [List.length_take]; omega
    rw [heads_len] at h4
    omega
end Mine
end HeadsPart
section LawLoopPart
open PySem PySem.W PySem.Spec PySem.Calls PyProof.Rows
namespace Mine
/-- the two caches, as they stand between the turns -/
structure Sg where
  ow : Obj
  kw : List (Str × Value)
  ob : Obj
  kb : List (Str × Value)
section
variable {h₀ h : Heap} {L : Addr} {p : Addr × Obj} {l : List (Addr × Obj)}
theorem nH (N : News h₀ L h (p :: l)) : h.get? p.1 = some p.2 ∧ p.1 ≠ L ∧ h₀.get? p.1 = none := N p (List.Mem.head _)
theorem nT (N : News h₀ L h (p :: l)) : News h₀ L h l := fun q hq => N q (List.Mem.tail _ hq)
theorem nC (a : h.get? p.1 = some p.2 ∧ p.1 ≠ L ∧ h₀.get? p.1 = none) (N : News h₀ L h l) : News h₀ L h (p :: l) := fun q hq => by
  cases hq with
  | head => exact a
  | tail _ hq => exact N q hq
end
theorem law_perm {h₀ h : Heap} {L Dhd Dcb Dlb Dsb xb db Dd2 Dm2 Dcw Dlw Dsw xw dw Dd1 Dm1 Dh q D' M' R' aH aHo aL aT : Addr} {ohd ob olb osb oxb odb od2 om2 ow olw osw oxw odw od1 om1 oh oq oD oM oR oH oHo oL oT : Obj} (N : News h₀ L h [(Dhd, ohd), (Dcb, ob), (Dlb, olb), (Dsb, osb), (xb, oxb), (db, odb), (Dd2, od2), (Dm2, om2), (Dcw, ow), (Dlw, olw), (Dsw, osw), (xw, oxw), (dw, odw), (Dd1, od1), (Dm1, om1), (Dh, oh), (q, oq), (D', oD), (M', oM), (R', oR), (aH, oH), (aHo, oHo), (aL, oL), (aT, oT)]) : News h₀ L h [(aH, oH), (Dhd, ohd), (Dcb, ob), (Dlb, olb), (Dsb, osb), (xb, oxb), (db, odb), (Dcw, ow), (Dlw, olw), (Dsw, osw), (xw, oxw), (dw, odw), (Dh, oh), (M', oM), (aHo, oHo), (aL, oL), (aT, oT)] := by
  have a0 := nH N
  replace N := nT N
  have a1 := nH N
  replace N := nT N
  have a2 := nH N
  replace N := nT N
  have a3 := nH N
  replace N := nT N
  have a4 := nH N
  replace N := nT N
  have a5 := nH N
  replace N := nT N
  have a6 := nH N
  replace N := nT N
  have a7 := nH N
  replace N := nT N
  have a8 := nH N
  replace N := nT N
  have a9 := nH N
  replace N := nT N
  have a10 := nH N
  replace N := nT N
  have a11 := nH N
  replace N := nT N
  have a12 := nH N
  replace N := nT N
  have a13 := nH N
  replace N := nT N
  have a14 := nH N
  replace N := nT N
  have a15 := nH N
  replace N := nT N
  have a16 := nH N
  replace N := nT N
  have a17 := nH N
  replace N := nT N
  have a18 := nH N
  replace N := nT N
  have a19 := nH N
  replace N := nT N
  have a20 := nH N
  replace N := nT N
  have a21 := nH N
  replace N := nT N
  have a22 := nH N
  replace N := nT N
  have a23 := nH N
  replace N := nT N
  exact nC a20 (nC a0 (nC a1 (nC a2 (nC a3 (nC a4 (nC a5 (nC a8 (nC a9 (nC a10 (nC a11 (nC a12 (nC a15 (nC a18 (nC a21 (nC a22 (nC a23 (N)))))))))))))))))
def LSt : List Str := [Str.ofString "ask", Str.ofString "turned", Str.ofString "by_name", Str.ofString "by_home", Str.ofString "due", Str.ofString "answers"]
section
variable {prog : Program} {w : World} {A : Around} {E : Value → Shared → Prop} {s : Shared} {env : Env} {h₀ : Heap} {x : Str} {px pos : Pos} {body : List Stmt} {Q : Flow → Shared → Prop}
theorem law_loop {its : List Value} {m : Str → Option Value} {v₀ : Option Value} {aH Dhd Dcb Dlb Dsb xb db Dd2 Dm2 Dcw Dlw Dsw xw dw Dd1 Dm1 Dh q D' M' R' aHo aL aT : Addr} {oH ob olb osb oxb odb od2 om2 ow olw osw oxw odw od1 om1 oh oq oD oM oR oHo oL oT : Obj}
    (P : Nat → Sg → Prop) (kw kb : List (Str × Value)) (F : Fr h₀ env.locals s.heap m)
    (N : News h₀ env.locals s.heap [(Dhd, LCg.lst its), (Dcb, ob), (Dlb, olb), (Dsb, osb), (xb, oxb), (db, odb), (Dd2, od2), (Dm2, om2), (Dcw, ow), (Dlw, olw), (Dsw, osw), (xw, oxw), (dw, odw), (Dd1, od1), (Dm1, om1), (Dh, oh), (q, oq), (D', oD), (M', oM), (R', oR), (aH, oH), (aHo, oHo), (aL, oL), (aT, oT)])
    (hh : A.handled = none) (hk : env.scope.kind = .function) (hx : env.kindOf x = some .cell) (hc : env.cells.lookup x = some aH) (hE : PassesOwn (model prog w) A env E)
    (hne : ∀ p ∈ [(Dhd, LCg.lst its), (Dcb, ob), (Dlb, olb), (Dsb, osb), (xb, oxb), (db, odb), (Dcw, ow), (Dlw, olw), (Dsw, osw), (xw, oxw), (dw, odw), (Dh, oh), (M', oM), (aHo, oHo), (aL, oL), (aT, oT)], @Ne Nat p.1 aH)
    (hd₀ : oH.data = .cell v₀) (hp : P 0 ⟨ow, kw, ob, kb⟩)
    (turn : ∀ i v (σ : Sg) I oi oc (u : Str → Option Value) h tk dr, its[i]? = some v → P i σ → Fr h₀ env.locals h (fun z => if LSt.contains z then u z else m z) →
      News h₀ env.locals h [(I, oi), (aH, oc), (Dhd, LCg.lst its), (Dcb, σ.ob), (Dlb, olb), (Dsb, osb), (xb, oxb), (db, odb), (Dcw, σ.ow), (Dlw, olw), (Dsw, osw), (xw, oxw), (dw, odw), (Dh, oh), (M', oM), (aHo, oHo), (aL, oL), (aT, oT)] → oc.data = .cell (some v) →
      AllLt I [(aH, oc), (Dhd, LCg.lst its), (Dcb, σ.ob), (Dlb, olb), (Dsb, osb), (xb, oxb), (db, odb), (Dcw, σ.ow), (Dlw, olw), (Dsw, osw), (xw, oxw), (dw, odw), (Dh, oh), (M', oM), (aHo, oHo), (aL, oL), (aT, oT)] →
      wpAny (model prog w) A (execs body env) (FEnd h₀ env.locals (fun σ : Sg => [(Dhd, LCg.lst its), (Dcb, σ.ob), (Dlb, olb), (Dsb, osb), (xb, oxb), (db, odb), (Dcw, σ.ow), (Dlw, olw), (Dsw, osw), (xw, oxw), (dw, odw), (Dh, oh), (M', oM), (aHo, oHo), (aL, oL), (aT, oT)]) I aH oi oc m LSt (P (i + 1)) { s with heap := h, toks := tk, drawn := dr } Q) E { s with heap := h, toks := tk, drawn := dr })
    (done : ∀ σ oc (u : Str → Option Value) h tk dr, P its.length σ → Fr h₀ env.locals h (fun z => if LSt.contains z then u z else m z) →
      News h₀ env.locals h [(aH, oc), (Dhd, LCg.lst its), (Dcb, σ.ob), (Dlb, olb), (Dsb, osb), (xb, oxb), (db, odb), (Dcw, σ.ow), (Dlw, olw), (Dsw, osw), (xw, oxw), (dw, odw), (Dh, oh), (M', oM), (aHo, oHo), (aL, oL), (aT, oT)] → Q .next { s with heap := h, toks := tk, drawn := dr }) :
    wpAny (model prog w) A (pyIter (.ref Dhd)) (fun it s₂ => codeAny (model prog w) A (.forLoop (.Name x px) it body [] env) (fun r s' => match r with | .ok f => Q f s' | .error e => cameBackBy (model prog w) A env E e s') s₂) E s := by
  refine loop_cell (σ := Sg) (its := its.toArray) (fun σ => [(Dhd, LCg.lst its), (Dcb, σ.ob), (Dlb, olb), (Dsb, osb), (xb, oxb), (db, odb), (Dcw, σ.ow), (Dlw, olw), (Dsw, osw), (xw, oxw), (dw, odw), (Dh, oh), (M', oM), (aHo, oHo), (aL, oL), (aT, oT)]) LSt P ⟨ow, kw, ob, kb⟩ hh hk hx hc hE
    (fun _ => List.mem_cons_self) (fun _ => rfl) hne F (law_perm N) hd₀ hp (fun i v σ I oi oc u h tk dr hv hP F N hd lt => turn i v σ I oi oc u h tk dr (by simpa using hv) hP F N hd lt) (fun σ oc u h tk dr hP F N => done σ oc u h tk dr (by simpa using hP) F N)
end
structure PInv (w : World) (m1 d1 m2 d2 : List Str) (i : Nat) (σ : Sg) : Prop where
  dw : σ.ow.IsDictOf (strKind PP w) σ.kw
  cw : CacheInv (gOf m1 d1) σ.kw
  lw : σ.kw.length ≤ i + 1
  db : σ.ob.IsDictOf (strKind PP w) σ.kb
  cb : CacheInv (gOf m2 d2) σ.kb
  lb : σ.kb.length ≤ i + 1
theorem PInv.first {w : World} {m1 d1 m2 d2 : List Str} {ow ob : Obj} {t t' : Tok} (h1 : ow.IsDictOf (strKind PP w) [(Str.ofString "<string>", .int 1 t)]) (h2 : ob.IsDictOf (strKind PP w) [(Str.ofString "<string>", .int 1 t')]) :
    PInv w m1 d1 m2 d2 0 ⟨ow, [(Str.ofString "<string>", .int 1 t)], ob, [(Str.ofString "<string>", .int 1 t')]⟩ := ⟨h1, cache_first, by simp, h2, cache_first, by simp⟩
end Mine
end LawLoopPart
section CompTPart
open PySem PySem.W PySem.Spec PySem.Calls PyProof.Rows
set_option maxRecDepth 100000
namespace Mine
open LCg LCt
section
variable {prog : Program} {w : World} {A : Around} {E : Value → Shared → Prop} {s : Shared} {h₀ : Heap} {L : Addr} {m : Str → Option Value} {env : Env}
  {elt ct iter : Expr} {x : Str} {px : Pos} {scope : Scope} {cl : List (Str × Addr)} {pos : Pos} {Fin : List Value → List (Addr × Obj) → Prop} {S : List (Addr × Obj) → Prop} {P : Nat → Value → Prop}
/-- what a turn with a test is asked -/
abbrev TurnT (prog : Program) (w : World) (A : Around) (h₀ : Heap) (L : Addr) (m : Str → Option Value) (env : Env) (ct elt : Expr) (x : Str) (scope : Scope) (cl : List (Str × Addr)) (s : Shared) (P : Nat → Value → Prop) (news : List (Addr × Obj)) (n : Nat) (J : Nat → List Value → Prop) : Prop :=
  ∀ i ys v I oI C oC D m₂ h tk (E' : Value → Shared → Prop), i < n → J i ys → P i v → NsObj oC m₂ → m₂ x = some v → Fr h₀ L h m → News h₀ L h ((I, oI) :: (C, oC) :: (D, lst ys) :: news) → Off3 I C D news → ((@Ne Nat I C) ∧ (@Ne Nat I D) ∧ (@Ne Nat C D)) →
      wpAny (model prog w) A (isTrue ct (compEnvC scope cl C env) (eval ct (compEnvC scope cl C env))) (fun ok s' => if ok = true then
        wpAny (model prog w) A (eval elt (compEnvC scope cl C env)) (CE h₀ L m { s with heap := h, toks := tk } ((I, oI) :: (C, oC) :: (D, lst ys) :: news) (fun y => J (i + 1) (ys ++ [y]))) E' s'
        else CE h₀ L m { s with heap := h, toks := tk } ((I, oI) :: (C, oC) :: (D, lst ys) :: news) (fun _ => J (i + 1) ys) Value.none s') E' { s with heap := h, toks := tk }
theorem restT_of {news : List (Addr × Obj)} {n : Nat} {J : Nat → List Value → Prop} (hS : S news) (turn : TurnT prog w A h₀ L m env ct elt x scope cl s P news n J)
    (fin : ∀ ys, J n ys → Fin ys news) : ∀ k i ys, i + k = n → J i ys → CompRestT prog w A h₀ L m env ct elt x scope cl s S P Fin k i ys news
  | 0, i, ys, e, j => fin ys (by rw [← e]; exact j)
  | k + 1, i, ys, e, j => fun v I oI C oC D m₂ h tk E' hP hC hx F N off ne => by
    refine wpAny_mono (turn i ys v I oI C oC D m₂ h tk E' (by omega) j hP hC hx F N off ne) (fun ok s₂ q => ?_) fun _ _ e => e
    cases ok with
    | true =>
      simp only [if_true] at q ⊢
      refine wpAny_mono q (fun y s₃ q => ?_) fun _ _ e => e
      obtain ⟨h', tk', all, rfl, F', N', hk, j'⟩ := q
      exact CompEnd.intro F' N' news hk off hS (restT_of hS turn fin k (i + 1) _ (by omega) j')
    | false =>
      simp only [Bool.false_eq_true, if_false] at q ⊢
      obtain ⟨h', tk', all, rfl, F', N', hk, j'⟩ := q
      exact CompEnd.intro F' N' news hk off hS (restT_of hS turn fin k (i + 1) _ (by omega) j')
theorem srcT_range {Fin : Shared → List Value → List (Addr × Obj) → Prop} {r : Addr} {t u v : Tok} {n : Nat} {news : List (Addr × Obj)} {s₁ : Shared} (J : Nat → List Value → Prop)
    (hh : A.handled = none) (F : Fr h₀ L s₁.heap m) (N : News h₀ L s₁.heap news) (hr : IsRange s₁.heap r 0 (n : Int) 1 t u v) (hn : n ≤ 16000) (j : J 0 [])
    (turn : ∀ g, TurnT prog w A h₀ L m env ct elt x scope cl { s₁ with heap := g } (fun i v => ∃ t, v = .int ((0 : Int) + (i : Int)) t) news n J) (fin : ∀ g ys, J n ys → Fin { s₁ with heap := g } ys news) :
    CompSrcT prog w A h₀ L m env ct elt x scope cl Fin (.ref r) s₁ :=
  CompSrcT.range hh F N hr (small_one (by omega) (by omega) (by omega) (by omega)) (by rw [rangeSize_nat]; omega) (by rw [sizeLine_eq]; omega) fun g => restT_of trivial (turn g) (fin g) _ 0 [] (Nat.zero_add _) j
theorem srcT_ledger {Fin : Shared → List Value → List (Addr × Obj) → Prop} {ax : Addr} {its : Array Value} {k : Nat} {news : List (Addr × Obj)} {s₁ : Shared} (J : Nat → List Value → Prop)
    (hh : A.handled = none) (F : Fr h₀ L s₁.heap m) (N : News h₀ L s₁.heap news) (hm : (ax, lstN its k) ∈ news) (hn : its.size ≤ 16000) (j : J 0 [])
    (turn : ∀ g, TurnT prog w A h₀ L m env ct elt x scope cl { s₁ with heap := g } (fun i v => its[i]? = some v) news its.size J) (fin : ∀ g ys, J its.size ys → Fin { s₁ with heap := g } ys news) :
    CompSrcT prog w A h₀ L m env ct elt x scope cl Fin (.ref ax) s₁ :=
  CompSrcT.ledger hh F N hm (by rw [sizeLine_eq]; omega) fun g => restT_of (.inr ⟨_, hm, rfl, _, rfl⟩) (turn g) (fin g) _ 0 [] (Nat.zero_add _) j
end
end Mine
end CompTPart
section PLawPart
open PySem PySem.W PySem.Spec PySem.Calls PyProof.Rows
namespace Mine
/-- a code of signs: no beginning of one is another, the slash its own code, a dot for the question mark -/
structure SignCode (f : Nat → List Nat) : Prop where
  ne : ∀ c, f c ≠ []
  inj : ∀ a b p q, f a ++ p = f b ++ q → a = b
  sl : f 47 = [47]
  nosl : ∀ c, c ≠ 47 → 47 ∉ f c
  qm : f 63 = [46]
abbrev En (f : Nat → List Nat) (l : List Nat) : List Nat := l.flatMap f
section
variable {f : Nat → List Nat} (hf : SignCode f)
include hf
theorem En.pre : ∀ {a b : List Nat}, En f a <+: En f b ↔ a <+: b
  | [], b => by simp [En]
  | x :: a, [] => by
    simp only [En, List.flatMap_cons, List.flatMap_nil, List.prefix_nil, List.append_eq_nil_iff]
    exact ⟨fun h => absurd h.1 (hf.ne x), fun h => by simp at h⟩
  | x :: a, y :: b => by
    have ih := En.pre (a := a) (b := b)
    simp only [En, List.flatMap_cons] at ih ⊢
    constructor
    · rintro ⟨t, ht⟩
      rw [List.append_assoc] at ht
      have e := hf.inj _ _ _ _ ht
      subst e
      have h2 := List.append_cancel_left ht
      exact List.cons_prefix_cons.mpr ⟨rfl, ih.mp ⟨t, h2⟩⟩
    · intro h
      have h2 := List.cons_prefix_cons.mp h
      rw [h2.1]
      exact (List.prefix_append_right_inj _).mpr (ih.mpr h2.2)
theorem En.inj {a b : List Nat} (h : En f a = En f b) : a = b := by
  have h1 : a <+: b := (En.pre hf).mp (h ▸ List.prefix_refl _)
  have h2 : b <+: a := (En.pre hf).mp (h ▸ List.prefix_refl _)
  exact h1.eq_of_length (Nat.le_antisymm h1.length_le h2.length_le)
theorem En.nil {a : List Nat} : En f a = [] ↔ a = [] := ⟨fun h => En.inj hf (b := []) h, fun h => by rw [h]; rfl⟩
theorem En.q1 {a : List Nat} : En f a = [46] ↔ a = [63] := by
  have e : En f [63] = [46] := by simp [En, hf.qm]
  exact ⟨fun h => En.inj hf (h.trans e.symm), fun h => by rw [h, e]⟩
theorem En.q2 {a : List Nat} : En f a = [46, 46] ↔ a = [63, 63] := by
  have e : En f [63, 63] = [46, 46] := by simp [En, hf.qm]
  exact ⟨fun h => En.inj hf (h.trans e.symm), fun h => by rw [h, e]⟩
theorem En.s1 {a : List Nat} : En f a = [47] ↔ a = [47] := by
  have e : En f [47] = [47] := by simp [En, hf.sl]
  exact ⟨fun h => En.inj hf (h.trans e.symm), fun h => by rw [h, e]⟩
theorem En.head {a : List Nat} : (En f a).take 1 = [47] ↔ a.take 1 = [47] := by
  have e : En f [47] = [47] := by simp [En, hf.sl]
  have h1 : ∀ l : List Nat, l.take 1 = [47] ↔ [47] <+: l := fun l => by
    rw [List.prefix_iff_eq_take]; exact eq_comm
  rw [h1, h1]
  rw [← En.pre hf (a := [47]) (b := a), e]
end
theorem cut_app (c : Nat) : ∀ (a l : List Nat), c ∉ a → ∃ p ps, cut c l = p :: ps ∧ cut c (a ++ l) = (a ++ p) :: ps
  | [], l, _ => by
    cases e : cut c l with
    | nil => exact absurd e (cut_ne c l)
    | cons p ps => exact ⟨p, ps, rfl, e⟩
  | x :: a, l, h => by
    obtain ⟨p, ps, e1, e2⟩ := cut_app c a l fun h' => h (List.mem_cons_of_mem _ h')
    refine ⟨p, ps, e1, ?_⟩
    rw [List.cons_append, cut, if_neg (fun e => h (by rw [e]; exact List.mem_cons_self)), e2]; rfl
section
variable {f : Nat → List Nat} (hf : SignCode f)
include hf
theorem En.cut : ∀ l : List Nat, cut 47 (En f l) = (cut 47 l).map (En f)
  | [] => rfl
  | x :: r => by
    have ih := En.cut r
    by_cases hx : x = 47
    · subst hx
      have : En f (47 :: r) = 47 :: En f r := by simp [En, hf.sl]
      rw [this, Mine.cut, if_pos rfl, ih, Mine.cut, if_pos rfl]; rfl
    · have : En f (x :: r) = f x ++ En f r := by simp [En]
      obtain ⟨p, ps, e1, e2⟩ := cut_app 47 (f x) (En f r) (hf.nosl x hx)
      rw [this, e2]
      rw [ih] at e1
      rw [Mine.cut, if_neg hx]
      cases e : Mine.cut 47 r with
      | nil => exact absurd e (cut_ne _ _)
      | cons q qs =>
        rw [e] at e1
        simp only [List.map_cons, List.cons.injEq] at e1 ⊢
        exact ⟨by rw [← e1.1]; simp [En], e1.2.symm⟩
theorem En.join : ∀ ps : List (List Nat), En f (joinT [47] ps) = joinT [47] (ps.map (En f))
  | [] => rfl
  | [p] => rfl
  | p :: q :: r => by
    have ih := En.join (q :: r)
    simp only [List.map_cons, joinT] at ih ⊢
    rw [← ih]
    simp [En, hf.sl]
theorem En.cons {x : Nat} {r : List Nat} : En f (x :: r) = f x ++ En f r := by simp [En]
theorem En.sl {r : List Nat} : En f (47 :: r) = 47 :: En f r := by simp [En, hf.sl]
theorem En.no {x : Nat} {r : List Nat} (h : x ≠ 47) : ∃ y t, En f (x :: r) = y :: t ∧ y ≠ 47 := by
  rw [En.cons hf]
  cases e : f x with
  | nil => exact absurd e (hf.ne x)
  | cons y t => exact ⟨y, _, rfl, fun h' => hf.nosl x h (by rw [e, h']; exact List.mem_cons_self)⟩
theorem En.root (l : List Nat) : rootOf (En f l) = rootOf l ∧ restOf (En f l) = En f (restOf l) := by
  match l with
  | [] => exact ⟨rfl, rfl⟩
  | x :: r =>
    by_cases hx : x = 47
    · subst hx
      match r with
      | [] => rw [En.sl hf]; exact ⟨rfl, rfl⟩
      | y :: r =>
        by_cases hy : y = 47
        · subst hy
          match r with
          | [] => rw [En.sl hf, En.sl hf]; exact ⟨rfl, rfl⟩
          | z :: r =>
            by_cases hz : z = 47
            · subst hz
              rw [En.sl hf, En.sl hf, En.sl hf]
              simp [rootOf, restOf, En.sl hf]
            · obtain ⟨u, t, e, hu⟩ := En.no hf (r := r) hz
              rw [En.sl hf, En.sl hf, e]
              simp [rootOf, restOf, hu, hz, e]
        · obtain ⟨u, t, e, hu⟩ := En.no hf (r := r) hy
          rw [En.sl hf, e]
          simp [rootOf, restOf, hu, hy, e]
    · obtain ⟨u, t, e, hu⟩ := En.no hf (r := r) hx
      rw [e]
      simp [rootOf, restOf, hu, hx, e]
end
/-- the step of the normal form, a question mark in the dot's place -/
def qstep (rooted : Bool) (st : List (List Nat)) (c : List Nat) : List (List Nat) :=
  if c = [] ∨ c = [63] then st
  else if c ≠ [63, 63] ∨ (rooted = false ∧ st = []) ∨ (st ≠ [] ∧ st.getLastD [] = [63, 63]) then st ++ [c]
  else st.dropLast
section
variable {f : Nat → List Nat} (hf : SignCode f)
include hf
theorem En.step (rd : Bool) (st : List (List Nat)) (c : List Nat) : nstep rd (st.map (En f)) (En f c) = (qstep rd st c).map (En f) := by
  have hl : (st.map (En f)).getLastD [] = En f (st.getLastD []) := by
    rw [List.getLastD_eq_getLast?, List.getLastD_eq_getLast?, List.getLast?_map]
    cases st.getLast? <;> rfl
  unfold nstep qstep
  rw [hl]
  simp only [ne_eq, En.q1 hf, En.nil hf, En.q2 hf, List.map_eq_nil_iff]
  split
  · rfl
  · split
    · simp
    · rw [List.map_dropLast]
theorem En.steps (rd : Bool) : ∀ (ps st : List (List Nat)), (ps.map (En f)).foldl (nstep rd) (st.map (En f)) = (ps.foldl (qstep rd) st).map (En f)
  | [], st => rfl
  | p :: ps, st => by
    simp only [List.map_cons, List.foldl_cons]
    rw [En.step hf, En.steps rd ps]
end
def pf (ps : List (List Nat)) (st : List (List Nat) × Nat) : List (List Nat) × Nat := ps.foldr pstep st
theorem pf_debt (acc : List (List Nat)) (d : Nat) : ∀ ps, pf ps (acc, d) = ((pfold ps).1.take ((pfold ps).1.length - d) ++ acc, (pfold ps).2 + (d - (pfold ps).1.length))
  | [] => by simp [pf, pfold]
  | p :: ps => by
    have ih := pf_debt acc d ps
    have e1 : pf (p :: ps) (acc, d) = pstep p (pf ps (acc, d)) := rfl
    have e2 : pfold (p :: ps) = pstep p (pfold ps) := rfl
    rw [e1, e2, ih]
    generalize pfold ps = z
    obtain ⟨l, n⟩ := z
    unfold pstep
    dsimp only
    by_cases h1 : p = [63, 63]
    · rw [if_pos h1, if_pos h1]; exact Prod.ext rfl (Nat.add_right_comm _ _ _)
    by_cases h2 : p = [] ∨ p = [63]
    · rw [if_neg h1, if_pos h2, if_neg h1, if_pos h2]
    rw [if_neg h1, if_neg h2, if_neg h1, if_neg h2]
    cases n with
    | succ n =>
      rw [if_pos (Nat.succ_pos n), if_pos (Nat.lt_of_lt_of_le (Nat.succ_pos n) (Nat.le_add_right _ _))]
      refine Prod.ext rfl ?_
      show n + 1 + (d - l.length) - 1 = n + (d - l.length)
      rw [Nat.add_right_comm, Nat.add_sub_cancel]
    | zero =>
      rw [if_neg (Nat.lt_irrefl 0), Nat.zero_add]
      rcases Nat.lt_or_ge l.length d with h4 | h4
      · rw [if_pos (Nat.sub_pos_of_lt h4), Nat.sub_eq_zero_of_le (Nat.le_of_lt h4)]
        refine Prod.ext ?_ ?_
        · show _ = List.take ((p :: l).length - d) (p :: l) ++ acc
          rw [List.length_cons, Nat.sub_eq_zero_of_le h4]; rfl
        · show d - l.length - 1 = 0 + (d - (p :: l).length)
          rw [List.length_cons, Nat.zero_add, Nat.sub_sub]
      · rw [Nat.sub_eq_zero_of_le h4, if_neg (Nat.lt_irrefl 0)]
        refine Prod.ext ?_ ?_
        · show p :: _ = List.take ((p :: l).length - d) (p :: l) ++ acc
          rw [List.length_cons, Nat.succ_sub h4]; rfl
        · show 0 = 0 + (d - (p :: l).length)
          rw [List.length_cons, Nat.sub_eq_zero_of_le (Nat.le_succ_of_le h4)]
theorem pf_norm : ∀ ps, ∀ p ∈ (pfold ps).1, p ≠ [63, 63]
  | [], p, h => by simp [pfold] at h
  | q :: ps, p, h => by
    have ih := pf_norm ps
    have e2 : pfold (q :: ps) = pstep q (pfold ps) := rfl
    rw [e2] at h
    unfold pstep at h
    split at h
    · exact ih p h
    · rename_i hq
      split at h
      · exact ih p h
      · split at h
        · exact ih p h
        · rcases List.mem_cons.mp h with rfl | h
          · exact hq
          · exact ih p h
theorem pf_snoc (ps : List (List Nat)) (p : List Nat) : pfold (ps ++ [p]) =
    if p = [63, 63] then ((pfold ps).1.dropLast, (pfold ps).2 + (1 - (pfold ps).1.length)) else if p = [] ∨ p = [63] then pfold ps else ((pfold ps).1 ++ [p], (pfold ps).2) := by
  have e : pfold (ps ++ [p]) = pf ps (pstep p ([], 0)) := by simp [pfold, pf]
  rw [e]
  unfold pstep
  by_cases h1 : p = [63, 63]
  · rw [if_pos h1, if_pos h1, pf_debt]; simp [List.dropLast_eq_take]
  · rw [if_neg h1, if_neg h1]
    by_cases h2 : p = [] ∨ p = [63]
    · rw [if_pos h2, if_pos h2]; rfl
    · rw [if_neg h2, if_neg h2]; rw [if_neg (Nat.lt_irrefl 0), pf_debt]; simp
theorem snoc_ind {P : List (List Nat) → Prop} (h0 : P []) (h1 : ∀ ps p, P ps → P (ps ++ [p])) (ps : List (List Nat)) : P ps := by
  have : ∀ qs : List (List Nat), P qs.reverse := fun qs => by
    induction qs with
    | nil => exact h0
    | cons q qs ih => rw [List.reverse_cons]; exact h1 _ _ ih
  have h := this ps.reverse
  rwa [List.reverse_reverse] at h
theorem q_rooted (ps : List (List Nat)) : ps.foldl (qstep true) [] = (pfold ps).1 := by
  refine snoc_ind (P := fun ps => ps.foldl (qstep true) [] = (pfold ps).1) rfl (fun ps p ih => ?_) ps
  rw [List.foldl_append, ih, pf_snoc]
  show qstep true _ p = _
  have hn := pf_norm ps
  unfold qstep
  by_cases h1 : p = [63, 63]
  · subst h1
    rw [if_neg (by simp), if_pos rfl, if_neg]
    rintro (h | ⟨h, _⟩ | ⟨h2, h3⟩)
    · exact h rfl
    · cases h
    · rw [List.getLastD_eq_getLast?, List.getLast?_eq_some_getLast h2] at h3
      exact hn _ (List.getLast_mem h2) h3
  · by_cases h2 : p = [] ∨ p = [63]
    · rw [if_pos h2, if_neg h1, if_pos h2]
    · rw [if_neg h2, if_pos (.inl h1), if_neg h1, if_neg h2]
theorem q_free (ps : List (List Nat)) : ps.foldl (qstep false) [] = List.replicate (pfold ps).2 [63, 63] ++ (pfold ps).1 := by
  refine snoc_ind (P := fun ps => ps.foldl (qstep false) [] = List.replicate (pfold ps).2 [63, 63] ++ (pfold ps).1) rfl (fun ps p ih => ?_) ps
  rw [List.foldl_append, ih, pf_snoc]
  show qstep false _ p = _
  have hn := pf_norm ps
  generalize pfold ps = z at hn
  obtain ⟨l, n⟩ := z
  dsimp only at hn ⊢
  unfold qstep
  by_cases h1 : p = [63, 63]
  · subst h1
    rw [if_neg (by simp), if_pos rfl]
    rcases List.eq_nil_or_concat l with rfl | ⟨l', y, rfl⟩
    · rw [if_pos]
      · simp [List.replicate_succ']
      · cases n with
        | zero => exact .inr (.inl ⟨rfl, rfl⟩)
        | succ n => exact .inr (.inr ⟨by simp, by rw [List.replicate_succ']; simp⟩)
    · rw [if_neg]
      · rw [List.concat_eq_append, ← List.append_assoc]; simp
      · rw [List.concat_eq_append, ← List.append_assoc] at *
        rintro (h | ⟨_, h⟩ | ⟨_, h3⟩)
        · exact h rfl
        · simp at h
        · rw [List.getLastD_eq_getLast?] at h3
          simp at h3
          exact hn y (by simp) h3
  · by_cases h2 : p = [] ∨ p = [63]
    · rw [if_pos h2, if_neg h1, if_pos h2]
    · rw [if_neg h2, if_pos (.inl h1), if_neg h1, if_neg h2]; simp
theorem pf_root (l : List Nat) : pfold (cut 47 l) = pfold (cut 47 (restOf l)) := by
  have hc : ∀ r, pfold (cut 47 (47 :: r)) = pfold (cut 47 r) := fun r => by
    rw [cut, if_pos rfl]
    show pstep [] (pfold (cut 47 r)) = _
    simp [pstep]
  match l with
  | [] => rfl
  | x :: r =>
    by_cases hx : x = 47
    · subst hx
      match r with
      | [] => exact hc []
      | y :: r =>
        by_cases hy : y = 47
        · subst hy
          match r with
          | [] =>
            show _ = pfold (cut 47 [])
            rw [hc, hc]
          | z :: r =>
            by_cases hz : z = 47
            · subst hz
              rw [show restOf (47 :: 47 :: 47 :: r) = 47 :: 47 :: r by simp [restOf], hc]
            · rw [show restOf (47 :: 47 :: z :: r) = z :: r by simp [restOf, hz], hc, hc]
        · rw [show restOf (47 :: y :: r) = y :: r by simp [restOf, hy], hc]
    · rw [show restOf (x :: r) = x :: r by simp [restOf, hx]]
theorem root_En {f : Nat → List Nat} (hf : SignCode f) (l : List Nat) : En f (rootOf l) = rootOf l := by
  unfold rootOf
  split
  · rfl
  · split
    · simp [En, hf.sl]
    · rename_i h1 h2
      have h3 : l.take 2 = [47, 47] := by
        match l with
        | [] => simp at h1
        | [x] => simp at h2
        | x :: y :: r => simp at h1 h2 ⊢; exact ⟨h1, h2.1⟩
      rw [h3]; simp [En, hf.sl]
/-- the normal form of a written path is the written plain path -/
theorem npath_En {f : Nat → List Nat} (hf : SignCode f) (l : List Nat) : npath (En f l) = En f (plainT l) := by
  have key : ((cut 47 (restOf (En f l))).foldl (nstep (rootOf (En f l) != [])) []) = (pparts l).map (En f) := by
    rw [(En.root hf l).1, (En.root hf l).2, En.cut hf, show ([] : List (List Nat)) = ([] : List (List Nat)).map (En f) from rfl, En.steps hf]
    congr 1
    unfold pparts
    rw [pf_root l]
    by_cases h : rootOf l = []
    · rw [if_pos h, h]; exact q_free _
    · rw [if_neg h, show (rootOf l != []) = true by simpa using h]; exact q_rooted _
  have e : rootOf (En f l) ++ joinT [47] ((pparts l).map (En f)) = En f (rootOf l ++ joinT [47] (pparts l)) := by
    rw [(En.root hf l).1, ← En.join hf]
    show _ = List.flatMap f (rootOf l ++ _)
    rw [List.flatMap_append]
    congr 1
    exact (root_En hf l).symm
  unfold npath plainT
  by_cases hl : l = []
  · subst hl
    rw [if_pos (show En f [] = [] from rfl), if_pos (by decide)]
    exact ((En.q1 hf).mpr rfl).symm
  · rw [if_neg (fun h => hl ((En.nil hf).mp h))]
    dsimp only
    rw [key, e]
    by_cases h2 : rootOf l ++ joinT [47] (pparts l) = []
    · rw [if_pos h2, if_pos ((En.nil hf).mpr h2)]
      exact ((En.q1 hf).mpr rfl).symm
    · rw [if_neg h2, if_neg (fun h => h2 ((En.nil hf).mp h))]
/-- what the law says is due for a head -/
def dueT (mods homes : List Str) (k : List Nat) : Prop :=
  (∃ n, n ≤ k.length ∧ ((k.drop n).take 1 = [] ∨ (k.drop n).take 1 = [63]) ∧ S (k.take n) ∈ mods) ∨ (∃ n, n < k.length ∧ k[n]? = some 47 ∧ S (k.take n) ∈ homes) ∨ S k = Str.ofString "<string>"
theorem pre_snoc {a k : List Nat} {c : Nat} : a ++ [c] <+: k ↔ ∃ n, n < k.length ∧ k[n]? = some c ∧ k.take n = a := by
  constructor
  · rintro ⟨t, rfl⟩
    exact ⟨a.length, by simp, by simp, by simp⟩
  · rintro ⟨n, h1, h2, rfl⟩
    refine ⟨k.drop (n + 1), ?_⟩
    have h3 : k[n] = c := by rw [List.getElem?_eq_getElem h1] at h2; exact Option.some.inj h2
    rw [List.append_assoc, List.singleton_append, ← h3, ← List.drop_eq_getElem_cons h1, List.take_append_drop]
theorem drop_take1 {k : List Nat} {n : Nat} : (k.drop n).take 1 = (k[n]?).toList := by
  by_cases h : n < k.length
  · rw [List.drop_eq_getElem_cons h, List.getElem?_eq_getElem h]; rfl
  · rw [List.drop_eq_nil_of_le (by omega), List.getElem?_eq_none (by omega)]; rfl
theorem look_due {f : Nat → List Nat} (hf : SignCode f) (hstr : En f (tl (Str.ofString "<string>")) = tl (Str.ofString "<string>")) (ym yd : List Str) (k : List Nat) :
    gOf (ym.map fun y => S (En f (tl y))) ((yd.map fun y => S (En f (tl y))).map fun y => S (npath (tl y))) (S (En f k)) = 1 ∧ dueT ym (yd.map fun y => S (plainT (tl y))) k ∨
    gOf (ym.map fun y => S (En f (tl y))) ((yd.map fun y => S (En f (tl y))).map fun y => S (npath (tl y))) (S (En f k)) = 0 ∧ ¬ dueT ym (yd.map fun y => S (plainT (tl y))) k := by
  have a1 : (S (En f k) = Str.ofString "<string>") ↔ S k = Str.ofString "<string>" := by
    rw [← S_tl (Str.ofString "<string>")]
    constructor
    · intro h
      have h2 := S_inj h
      rw [← hstr] at h2
      rw [En.inj hf h2]
    · intro h
      rw [S_inj h, hstr]
  have a2 : (S (En f k) ∈ ym.map fun y => S (En f (tl y))) ↔ S k ∈ ym := by
    constructor
    · intro h
      obtain ⟨y, hy, e⟩ := List.mem_map.mp h
      have := En.inj hf (S_inj e)
      rw [← this, S_tl]; exact hy
    · intro h
      refine List.mem_map.mpr ⟨_, h, ?_⟩
      rw [tl_S]
  have a3 : ∀ a, under [46] (S (En f k)) (S (En f a)) = true ↔ ∃ n, n < k.length ∧ k[n]? = some 63 ∧ k.take n = a := fun a => by
    unfold under
    rw [List.isPrefixOf_iff_prefix, tl_S, tl_S, ← pre_snoc]
    rw [← En.pre hf (a := a ++ [63]) (b := k)]
    simp [En, hf.qm]
  have a4 : ∀ a, under [47] (S (En f k)) (S (En f a)) = true ↔ ∃ n, n < k.length ∧ k[n]? = some 47 ∧ k.take n = a := fun a => by
    unfold under
    rw [List.isPrefixOf_iff_prefix, tl_S, tl_S, ← pre_snoc]
    rw [← En.pre hf (a := a ++ [47]) (b := k)]
    simp [En, hf.sl]
  have b3 : (∃ y ∈ ym.map fun y => S (En f (tl y)), under [46] (S (En f k)) y = true) ↔ ∃ n, n < k.length ∧ k[n]? = some 63 ∧ S (k.take n) ∈ ym := by
    constructor
    · rintro ⟨z, hz, hu⟩
      obtain ⟨y, hy, rfl⟩ := List.mem_map.mp hz
      obtain ⟨n, h1, h2, h3⟩ := (a3 _).mp hu
      exact ⟨n, h1, h2, by rw [h3, S_tl]; exact hy⟩
    · rintro ⟨n, h1, h2, h3⟩
      exact ⟨_, List.mem_map.mpr ⟨_, h3, rfl⟩, (a3 _).mpr ⟨n, h1, h2, by rw [tl_S]⟩⟩
  have b4 : (∃ y ∈ (yd.map fun y => S (En f (tl y))).map fun y => S (npath (tl y)), under [47] (S (En f k)) y = true) ↔ ∃ n, n < k.length ∧ k[n]? = some 47 ∧ S (k.take n) ∈ yd.map fun y => S (plainT (tl y)) := by
    have e : ((yd.map fun y => S (En f (tl y))).map fun y => S (npath (tl y))) = yd.map fun y => S (En f (plainT (tl y))) := by
      rw [List.map_map]
      apply List.map_congr_left
      intro y _
      show S (npath (tl (S (En f (tl y))))) = _
      rw [tl_S, npath_En hf]
    rw [e]
    constructor
    · rintro ⟨z, hz, hu⟩
      obtain ⟨y, hy, rfl⟩ := List.mem_map.mp hz
      obtain ⟨n, h1, h2, h3⟩ := (a4 _).mp hu
      exact ⟨n, h1, h2, List.mem_map.mpr ⟨y, hy, by rw [h3]⟩⟩
    · rintro ⟨n, h1, h2, h3⟩
      obtain ⟨y, hy, e⟩ := List.mem_map.mp h3
      exact ⟨_, List.mem_map.mpr ⟨y, hy, rfl⟩, (a4 _).mpr ⟨n, h1, h2, (S_inj e).symm⟩⟩
  have c3 : (∃ n, n ≤ k.length ∧ ((k.drop n).take 1 = [] ∨ (k.drop n).take 1 = [63]) ∧ S (k.take n) ∈ ym) ↔ (S k ∈ ym ∨ ∃ n, n < k.length ∧ k[n]? = some 63 ∧ S (k.take n) ∈ ym) := by
    constructor
    · rintro ⟨n, h1, h2, h3⟩
      rw [drop_take1] at h2
      by_cases hn : n < k.length
      · rw [List.getElem?_eq_getElem hn] at h2
        right
        refine ⟨n, hn, ?_, h3⟩
        rw [List.getElem?_eq_getElem hn]
        simpa using h2
      · left
        rw [List.take_of_length_le (by omega)] at h3; exact h3
    · rintro (h | ⟨n, h1, h2, h3⟩)
      · exact ⟨k.length, Nat.le_refl _, .inl (by simp), by rw [List.take_length]; exact h⟩
      · exact ⟨n, Nat.le_of_lt h1, .inr (by rw [drop_take1, h2]; rfl), h3⟩
  unfold gOf look dueT
  simp only [a1, a2, b3, b4, c3]
  by_cases h1 : S k = Str.ofString "<string>"
  · rw [if_pos h1]; exact .inl ⟨rfl, .inr (.inr h1)⟩
  rw [if_neg h1]
  by_cases h2 : S k ∈ ym
  · rw [if_pos h2]; exact .inl ⟨rfl, .inl (.inl h2)⟩
  rw [if_neg h2]
  by_cases h3 : ∃ n, n < k.length ∧ k[n]? = some 63 ∧ S (k.take n) ∈ ym
  · rw [if_pos h3]; exact .inl ⟨rfl, .inl (.inr h3)⟩
  rw [if_neg h3]
  by_cases h4 : ∃ n, n < k.length ∧ k[n]? = some 47 ∧ S (k.take n) ∈ yd.map fun y => S (plainT (tl y))
  · rw [if_pos h4]; exact .inl ⟨rfl, .inr (.inl h4)⟩
  rw [if_neg h4]
  refine .inr ⟨rfl, ?_⟩
  rintro ((h | h) | h | h)
  · exact h2 h
  · exact h3 h
  · exact h4 h
  · exact h1 h
theorem sw_is (l : List Nat) : sw l = En (fun c => [sw1 c]) l := (flat_sw l).symm
theorem sw1_inv (c : Nat) : sw1 (sw1 c) = c := by
  unfold sw1
  by_cases h1 : c = 63
  · simp [h1]
  · by_cases h2 : c = 46
    · simp [h2]
    · simp [h1, h2]
theorem code_sw : SignCode fun c => [sw1 c] where
  ne := by simp
  inj := fun a b p q h => by
    have h1 : sw1 a = sw1 b := by simpa using (List.cons.inj h).1
    rw [← sw1_inv a, h1, sw1_inv]
  sl := by decide
  nosl := fun c hc => by
    intro h
    have h1 : 47 = sw1 c := by simpa using h
    exact hc (by rw [← sw1_inv c, ← h1]; decide)
  qm := by decide
theorem spec_46 : spec 46 = true := by decide
theorem spec_92 : spec 92 = true := by decide
theorem code_wr : SignCode code1 where
  ne := fun c => by unfold code1; split; · simp
                    · split <;> simp
  inj := fun a b p q h => by
    unfold code1 at h
    by_cases a1 : a = 63
    · by_cases b1 : b = 63
      · rw [a1, b1]
      · rw [if_pos a1, if_neg b1] at h
        split at h
        · simp at h
        · rename_i hb
          have : 46 = b := by simpa using (List.cons.inj h).1
          subst this; exact absurd spec_46 hb
    · by_cases b1 : b = 63
      · rw [if_neg a1, if_pos b1] at h
        split at h
        · simp at h
        · rename_i ha
          have : a = 46 := by simpa using (List.cons.inj h).1
          subst this; exact absurd spec_46 ha
      · rw [if_neg a1, if_neg b1] at h
        split at h
        · split at h
          · have := (List.cons.inj h).2
            simpa using (List.cons.inj this).1
          · rename_i hb
            have : 92 = b := by simpa using (List.cons.inj h).1
            subst this; exact absurd spec_92 hb
        · rename_i ha
          split at h
          · have : a = 92 := by simpa using (List.cons.inj h).1
            subst this; exact absurd spec_92 ha
          · simpa using (List.cons.inj h).1
  sl := by decide
  nosl := fun c hc => by
    unfold code1
    split
    · simp
    · split
      · intro h
        have : 47 = c := by simpa using h
        exact hc this.symm
      · intro h
        have : 47 = c := by simpa using h
        exact hc this.symm
  qm := by decide
theorem string_wr : En code1 (tl (Str.ofString "<string>")) = tl (Str.ofString "<string>") := by decide +kernel
theorem string_sw : En (fun c => [sw1 c]) (tl (Str.ofString "<string>")) = tl (Str.ofString "<string>") := by decide +kernel
open Classical in
/-- both readers answer what is due -/
theorem due_wr (ym yd : List Str) (k : List Nat) : gOf (ym.map fun y => S (wr (tl y))) ((yd.map fun y => S (wr (tl y))).map fun y => S (npath (tl y))) (S (wr k)) = if dueT ym (yd.map fun y => S (plainT (tl y))) k then 1 else 0 := by
  rcases look_due code_wr string_wr ym yd k with ⟨h1, h2⟩ | ⟨h1, h2⟩
  · rw [if_pos h2]; exact h1
  · rw [if_neg h2]; exact h1
open Classical in
theorem due_sw (ym yd : List Str) (k : List Nat) : gOf (ym.map fun y => S (sw (tl y))) ((yd.map fun y => S (sw (tl y))).map fun y => S (npath (tl y))) (S (sw k)) = if dueT ym (yd.map fun y => S (plainT (tl y))) k then 1 else 0 := by
  simp only [sw_is]
  rcases look_due code_sw string_sw ym yd k with ⟨h1, h2⟩ | ⟨h1, h2⟩
  · rw [if_pos h2]; exact h1
  · rw [if_neg h2]; exact h1
end Mine
end PLawPart
section LTPart
open PySem PySem.W PySem.Spec PySem.Calls PyProof.Rows
namespace Mine
theorem head_ok {ys : List Str} {b : Nat} {y : Str} (g : Good b ys) (z : ∀ y ∈ ys, y.length ≤ 200) (h : y ∈ ys.flatMap heads) : AllFree (tl y) ∧ y.length ≤ 200 := by
  obtain ⟨x, hx, hy⟩ := List.mem_flatMap.mp h
  unfold heads at hy
  obtain ⟨n, _, rfl⟩ := List.mem_map.mp hy
  refine ⟨?_, ?_⟩
  · rw [tl_S]
    intro c hc
    exact (g x hx).1 c (List.mem_of_mem_take hc)
  · have := z x hx
    rw [len_tl] at this
    rw [len_S, List.length_take]; omega
theorem specS : tl (Str.ofString "+-.\\]^{|}~") = [43, 45, 46, 92, 93, 94, 123, 124, 125, 126] := by decide +kernel
section
variable {prog : Program} {w : World} {A : Around} {E : Value → Shared → Prop} {s : Shared} {h₀ : Heap} {L D D' : Addr} {m : Str → Option Value} {news : List (Addr × Obj)}
theorem in_spec {c : Nat} {t u : Tok} {Q : Value → Shared → Prop} (h : Q (.bool (spec c)) s) : wpAny (model prog w) A (compareOp .In (.str (S [c]) t) (.str (Str.ofString "+-.\\]^{|}~") u)) Q E s := by
  refine in_str ?_
  have e : (!(Builtin.Str.occurrences (Str.ofString "+-.\\]^{|}~") (S [c]) 0 (Str.ofString "+-.\\]^{|}~").length 1).isEmpty) = spec c := by
    rw [show S [c] = ⟨#[c]⟩ from rfl, StrLaws.found_one]
    show decide (c ∈ tl (Str.ofString "+-.\\]^{|}~")) = _
    rw [specS]; unfold spec; rw [Bool.eq_iff_iff]; simp
  rw [e]; exact h
/-- the ints that a test has kept -/
def Filt (p : Nat → Bool) (i : Nat) (ys : List Value) : Prop := IntsAre ys (((List.range i).filter p).map fun n : Nat => (n : Int))
theorem filt_nil {p : Nat → Bool} : Filt p 0 [] := .nil
theorem ints_snoc {ys : List Value} {ns : List Int} (h : IntsAre ys ns) (k : Int) (t : Tok) : IntsAre (ys ++ [.int k t]) (ns ++ [k]) := by
  induction h with
  | nil => exact .cons k t .nil
  | cons x u h ih => exact .cons x u ih
theorem filt_yes {p : Nat → Bool} {i : Nat} {ys : List Value} {t : Tok} (h : Filt p i ys) (hp : p i = true) : Filt p (i + 1) (ys ++ [.int ((0 : Int) + (i : Int)) t]) := by
  unfold Filt at *
  rw [List.range_succ, List.filter_append, List.map_append]
  have : ([i].filter p).map (fun n : Nat => (n : Int)) = [(0 : Int) + (i : Int)] := by simp [hp]
  rw [this]
  exact ints_snoc h _ _
theorem filt_no {p : Nat → Bool} {i : Nat} {ys : List Value} (h : Filt p i ys) (hp : p i = false) : Filt p (i + 1) ys := by
  unfold Filt at *
  rw [List.range_succ, List.filter_append, List.map_append]
  have : ([i].filter p).map (fun n : Nat => (n : Int)) = [] := by simp [hp]
  rw [this, List.append_nil]
  exact h
theorem filt_ne {ys : List Value} {n k : Nat} {p : Nat → Bool} {Q : Value → Shared → Prop} (N : News h₀ L s.heap news) (h1 : (D, LCg.lst ys) ∈ news) (h2 : (D', lstN [].toArray k) ∈ news) (hf : Filt p n ys) (hu : A.units + 64 < cLine)
    (h : Q (.bool ((List.range n).any p)) s) : wpAny (model prog w) A (compareOp .NotEq (.ref D) (.ref D')) Q E s := by
  refine ke_ne_ints (xs := ys) (ys := []) (isList_of N h1) (isList_of N h2) hf .nil hu ?_
  have e : (!decide (((List.range n).filter p).map (fun n : Nat => (n : Int)) = [])) = (List.range n).any p := by
    rw [Bool.eq_iff_iff]
    simp
  rw [e]; exact h
/-- a statement, its end in one line -/
theorem cutS {e : Sem Flow} {m₀ : Str → Option Value} {Q : Flow → Shared → Prop} (x : Str) (R : Value → Prop) (F : Fr h₀ L s.heap m₀) (N : News h₀ L s.heap news)
    (h1 : wpAny (model prog w) A e (MidR h₀ L m₀ s news x R) E s)
    (h2 : ∀ h tk v, R v → Fr h₀ L h (fun y => if y = x then some v else m₀ y) → News h₀ L h news → Q .next { s with heap := h, toks := tk }) :
    wpAny (model prog w) A e Q E s := by
  refine wpAny_mono h1 (fun f s' q => ?_) fun _ _ e => e
  obtain ⟨rfl, h, tk, v, rfl, F', N', hv⟩ := q
  exact h2 h tk v hv F' N'
end
theorem code_q {c : Nat} (h : (S [c] == Str.ofString "?") = true) : Str.ofString "." = S (code1 c) := dotS.trans (dot_of h).symm
theorem barS : Str.ofString "\\" = S [92] := by decide +kernel
theorem code_s {c : Nat} (h : (S [c] == Str.ofString "?") = false) (h2 : spec c = true) : Str.ofString "\\" ++ S [c] = S (code1 c) := by
  rw [barS, S_append]; unfold code1; rw [if_neg (ne63' h), if_pos h2]; rfl
theorem code_n {c : Nat} (h : (S [c] == Str.ofString "?") = false) (h2 : spec c = false) : S [c] = S (code1 c) := by
  unfold code1; rw [if_neg (ne63' h), h2]; rfl
theorem ask_is {l : List Nat} (h : (S (wr l) != S (joinT [] ((l.map fun c => S (code1 c)).map tl))) = true) : False := by
  rw [join_codes] at h
  have e : (S (wr l) != S (List.flatMap code1 l)) = false := by
    show (!(S (wr l) == S (wr l))) = false
    simp
  rw [e] at h; cases h
section
open LCg LCt
variable {prog : Program} {w : World} {A : Around} {E : Value → Shared → Prop} {s₁ : Shared} {h₀ : Heap} {L ax : Addr} {m : Str → Option Value} {env : Env} {elt ct : Expr} {x : Str} {scope : Scope} {cl : List (Str × Addr)} {Fin : Shared → List Value → List (Addr × Obj) → Prop} {its : Array Value} {k : Nat} {news : List (Addr × Obj)}
/-- as the rules; the turns know nothing of the ledger -/
theorem srcH_ledger (J : Nat → List Value → Prop) (hh : A.handled = none) (F : Fr h₀ L s₁.heap m) (N : News h₀ L s₁.heap news)
    (hm : (ax, lstN its k) ∈ news) (hsz : its.size ≤ 16000)
    (j : J 0 []) (turn : ∀ nws g, Turn prog w A h₀ L m env elt x scope cl { s₁ with heap := g } (fun i v => its[i]? = some v) nws its.size J) (fin : ∀ ys, J its.size ys → Fin s₁ ys news) :
    SrcG prog w A h₀ L m env elt x scope cl Fin E (.ref ax) s₁ := SrcG.ledger J hh F N hm hsz j (turn news) fin
theorem srcH_text {y : Str} {t : Tok} (J : Nat → List Value → Prop) (hh : A.handled = none) (F : Fr h₀ L s₁.heap m) (N : News h₀ L s₁.heap news) (hsz : y.length ≤ 1000)
    (j : J 0 []) (turn : ∀ nws g, Turn prog w A h₀ L m env elt x scope cl { s₁ with heap := g } (SignAt y) nws y.length J) (fin : ∀ ys, J y.length ys → Fin s₁ ys news) :
    SrcG prog w A h₀ L m env elt x scope cl Fin E (.str y t) s₁ := SrcG.text J hh F N hsz j (turn news) fin
theorem srcTH_ledger (J : Nat → List Value → Prop)
    (hh : A.handled = none) (F : Fr h₀ L s₁.heap m) (N : News h₀ L s₁.heap news) (hm : (ax, lstN its k) ∈ news) (hn : its.size ≤ 16000) (j : J 0 [])
    (turn : ∀ nws g, TurnT prog w A h₀ L m env ct elt x scope cl { s₁ with heap := g } (fun i v => its[i]? = some v) nws its.size J) (fin : ∀ g ys, J its.size ys → Fin { s₁ with heap := g } ys news) :
    CompSrcT prog w A h₀ L m env ct elt x scope cl Fin (.ref ax) s₁ := srcT_ledger J hh F N hm hn j (turn news) fin
theorem turn0_hide {i1 : Expr} {x0 : Str} {g : Nat → Nat} {J : Nat → Nat → List Value → Prop} (t : ∀ nws g', Turn0 prog w A h₀ L m env i1 x0 scope cl { s₁ with heap := g' } its nws g J) : ∀ g', Turn0 prog w A h₀ L m env i1 x0 scope cl { s₁ with heap := g' } its news g J := t news
theorem turn1_hide {x0 x1 : Str} {g : Nat → Nat} {J : Nat → Nat → List Value → Prop} (t : ∀ nws g', Turn1 prog w A h₀ L m env elt x0 x1 scope cl { s₁ with heap := g' } its nws g J) : ∀ g', Turn1 prog w A h₀ L m env elt x0 x1 scope cl { s₁ with heap := g' } its news g J := t news
end
theorem memAt {α : Type} {l : List α} {p : α} (i : Nat) (h : l[i]? = some p) : p ∈ l := List.mem_of_getElem? h
theorem hide5 {h₀ h : Heap} {L : Addr} {a b c d e : Addr × Obj} {l : List (Addr × Obj)} (N : News h₀ L h (a :: b :: c :: d :: e :: l)) : ∃ r, r = l ∧ News h₀ L h (a :: b :: c :: d :: e :: r) := ⟨l, rfl, N⟩
/-- the two tests of the law -/
def pN (mods : List Str) (k : List Nat) (n : Nat) : Bool := (decide ((k.drop n).take 1 = []) || decide ((k.drop n).take 1 = [63])) && decide (S (k.take n) ∈ mods)
def pH (homes : List Str) (k : List Nat) (n : Nat) : Bool := decide (k[n]? = some 47) && decide (S (k.take n) ∈ homes)
section
variable {y : Str} {i : Nat} {mods homes : List Str}
theorem sl_one : Txt.slice y (some ((0 : Int) + (i : Int))) (some ((0 : Int) + (i : Int) + 1)) = S (((tl y).drop i).take 1) := by
  rw [Int.zero_add, show ((i : Int) + 1) = ((i + 1 : Nat) : Int) by omega, slice_ss, show i + 1 - i = 1 by omega]
theorem sl_pre : Txt.slice y none (some ((0 : Int) + (i : Int))) = S ((tl y).take i) := by
  rw [Int.zero_add, slice_ns]
theorem any_mem {l : List Str} {z : Str} : (l.any fun x => x == z) = decide (z ∈ l) := by
  rw [Bool.eq_iff_iff]; simp
theorem sl_a : ([S [], Str.ofString "?"].any fun x => x == Txt.slice y (some ((0 : Int) + (i : Int))) (some ((0 : Int) + (i : Int) + 1))) = (decide (((tl y).drop i).take 1 = []) || decide (((tl y).drop i).take 1 = [63])) := by
  rw [any_mem, sl_one, qmS, Bool.eq_iff_iff]; simp
theorem pN_yes (h1 : ([S [], Str.ofString "?"].any fun x => x == Txt.slice y (some ((0 : Int) + (i : Int))) (some ((0 : Int) + (i : Int) + 1))) = true) (h2 : (mods.any fun x => x == Txt.slice y none (some ((0 : Int) + (i : Int)))) = true) : pN mods (tl y) i = true := by
  rw [sl_a] at h1; rw [any_mem, sl_pre] at h2
  unfold pN; rw [h1, h2]; rfl
theorem pN_no2 (h1 : ([S [], Str.ofString "?"].any fun x => x == Txt.slice y (some ((0 : Int) + (i : Int))) (some ((0 : Int) + (i : Int) + 1))) = true) (h2 : (mods.any fun x => x == Txt.slice y none (some ((0 : Int) + (i : Int)))) = false) : pN mods (tl y) i = false := by
  rw [sl_a] at h1; rw [any_mem, sl_pre] at h2
  unfold pN; rw [h1, h2]; rfl
theorem pN_no1 (h1 : ([S [], Str.ofString "?"].any fun x => x == Txt.slice y (some ((0 : Int) + (i : Int))) (some ((0 : Int) + (i : Int) + 1))) = false) : pN mods (tl y) i = false := by
  rw [sl_a] at h1
  unfold pN; rw [h1]; rfl
theorem pH_a (hi : i < y.length) : (Txt.item y ((0 : Int) + (i : Int)) == S [47]) = decide ((tl y)[i]? = some 47) := by
  rw [len_tl] at hi
  have h1 : (tl y)[i]? = some (tl y)[i] := List.getElem?_eq_getElem hi
  rw [item_S y _ (tl y)[i] (by omega) (by rw [Int.zero_add, Int.toNat_natCast]; exact h1), beq_S, tl_S, tl_S, h1, Bool.eq_iff_iff]
  simp
theorem pH_yes (hi : i < y.length) (h1 : (Txt.item y ((0 : Int) + (i : Int)) == S [47]) = true) (h2 : (homes.any fun x => x == Txt.slice y none (some ((0 : Int) + (i : Int)))) = true) : pH homes (tl y) i = true := by
  rw [pH_a hi] at h1; rw [any_mem, sl_pre] at h2
  unfold pH; rw [h1, h2]; rfl
theorem pH_no2 (hi : i < y.length) (h1 : (Txt.item y ((0 : Int) + (i : Int)) == S [47]) = true) (h2 : (homes.any fun x => x == Txt.slice y none (some ((0 : Int) + (i : Int)))) = false) : pH homes (tl y) i = false := by
  rw [pH_a hi] at h1; rw [any_mem, sl_pre] at h2
  unfold pH; rw [h1, h2]; rfl
theorem pH_no1 (hi : i < y.length) (h1 : (Txt.item y ((0 : Int) + (i : Int)) == S [47]) = false) : pH homes (tl y) i = false := by
  rw [pH_a hi] at h1
  unfold pH; rw [h1]; rfl
end
theorem due_any {mods homes : List Str} {k : List Nat} : dueT mods homes k ↔ (List.range (k.length + 1)).any (pN mods k) = true ∨ (List.range k.length).any (pH homes k) = true ∨ S k = Str.ofString "<string>" := by
  unfold dueT pN pH
  simp only [List.any_eq_true, List.mem_range, Bool.and_eq_true, Bool.or_eq_true, decide_eq_true_eq, Nat.lt_succ_iff]
open Classical in
noncomputable def dueV (mods homes : List Str) (k : List Nat) : Int := if dueT mods homes k then 1 else 0
theorem due_wr' (ym yd : List Str) (k : List Nat) : gOf (ym.map fun y => S (wr (tl y))) ((yd.map fun y => S (wr (tl y))).map fun y => S (npath (tl y))) (S (wr k)) = dueV ym (yd.map fun y => S (plainT (tl y))) k := due_wr ym yd k
theorem due_sw' (ym yd : List Str) (k : List Nat) : gOf (ym.map fun y => S (sw (tl y))) ((yd.map fun y => S (sw (tl y))).map fun y => S (npath (tl y))) (S (sw k)) = dueV ym (yd.map fun y => S (plainT (tl y))) k := due_sw ym yd k
section
variable {y : Str} {mods homes : List Str}
theorem due_1 (h : (List.range (y.length + 1)).any (pN mods (tl y)) = true) : (1 : Int) = dueV mods homes (tl y) := by
  unfold dueV; rw [if_pos]; rw [len_tl] at h; exact due_any.mpr (.inl h)
theorem due_2 (h : (List.range y.length).any (pH homes (tl y)) = true) : (1 : Int) = dueV mods homes (tl y) := by
  unfold dueV; rw [if_pos]; rw [len_tl] at h; exact due_any.mpr (.inr (.inl h))
theorem due_3 (h : (y == Str.ofString "<string>") = true) : (1 : Int) = dueV mods homes (tl y) := by
  unfold dueV; rw [if_pos]; exact due_any.mpr (.inr (.inr (by rw [S_tl]; simpa using h)))
theorem due_0 (h1 : (List.range (y.length + 1)).any (pN mods (tl y)) = false) (h2 : (List.range y.length).any (pH homes (tl y)) = false) (h3 : (y == Str.ofString "<string>") = false) : (0 : Int) = dueV mods homes (tl y) := by
  unfold dueV; rw [if_neg]
  rw [len_tl] at h1 h2
  rw [due_any, S_tl]
  rintro (h | h | h)
  · rw [h] at h1; cases h1
  · rw [h] at h2; cases h2
  · rw [h] at h3; simp at h3
end
theorem due_is {a b : Int} {t : Tok} (h : a = b) : ∃ t', Value.int a t = Value.int b t' := ⟨t, by rw [h]⟩
theorem newsTl {h₀ h : Heap} {L : Addr} {p : Addr × Obj} {l : List (Addr × Obj)} (N : News h₀ L h (p :: l)) : News h₀ L h l := fun q hq => N q (List.mem_cons_of_mem _ hq)
theorem set_pos {prog : Program} {w : World} {o : Obj} {S : Str → Bool} {n : Nat} {b : Bool} (h : SetObj prog w o S n b) {k : Str} (hk : S k = true) : 1 ≤ n := by
  obtain ⟨es, ep, t, _, _, _, hm, _, _, hn, _⟩ := h
  obtain ⟨e, he, _⟩ := (hm k).mp hk
  rw [← hn]
  have := List.length_pos_of_mem he
  rw [Array.length_toList] at this
  exact this
theorem set_pos' {prog : Program} {w : World} {o : Obj} {ys : List Str} {n : Nat} {b : Bool} (h : SetObj prog w o (fun z => decide (z ∈ ys)) n b) (hne : ys ≠ []) : 1 ≤ n := by
  obtain ⟨y, r, rfl⟩ := List.exists_cons_of_ne_nil hne
  exact set_pos h (k := y) (by simp)
/-- a mark in the context: halt at the next such statement -/
def HaltMark : Prop := True
theorem led_a {h₀ h : Heap} {L I aH Dhd Dcb Dlb Dsb xb db Dcw Dlw Dsw xw dw Dh M' aHo aL aT : Addr} {oi oc ohd ob olb osb oxb odb ow olw osw oxw odw oh oM oHo oL oT : Obj}
    (N : News h₀ L h [(I, oi), (aH, oc), (Dhd, ohd), (Dcb, ob), (Dlb, olb), (Dsb, osb), (xb, oxb), (db, odb), (Dcw, ow), (Dlw, olw), (Dsw, osw), (xw, oxw), (dw, odw), (Dh, oh), (M', oM), (aHo, oHo), (aL, oL), (aT, oT)]) :
    News h₀ L h ((aH, oc) :: (M', oM) :: (aL, oL) :: (Dh, oh) :: (aHo, oHo) :: [(I, oi), (Dhd, ohd), (Dcb, ob), (Dlb, olb), (Dsb, osb), (xb, oxb), (db, odb), (Dcw, ow), (Dlw, olw), (Dsw, osw), (xw, oxw), (dw, odw), (aT, oT)]) := by
  have a0 := nH N
  replace N := nT N
  have a1 := nH N
  replace N := nT N
  have a2 := nH N
  replace N := nT N
  have a3 := nH N
  replace N := nT N
  have a4 := nH N
  replace N := nT N
  have a5 := nH N
  replace N := nT N
  have a6 := nH N
  replace N := nT N
  have a7 := nH N
  replace N := nT N
  have a8 := nH N
  replace N := nT N
  have a9 := nH N
  replace N := nT N
  have a10 := nH N
  replace N := nT N
  have a11 := nH N
  replace N := nT N
  have a12 := nH N
  replace N := nT N
  have a13 := nH N
  replace N := nT N
  have a14 := nH N
  replace N := nT N
  have a15 := nH N
  replace N := nT N
  have a16 := nH N
  replace N := nT N
  have a17 := nH N
  replace N := nT N
  exact nC a1 (nC a14 (nC a16 (nC a13 (nC a15 (nC a0 (nC a2 (nC a3 (nC a4 (nC a5 (nC a6 (nC a7 (nC a8 (nC a9 (nC a10 (nC a11 (nC a12 (nC a17 (N))))))))))))))))))
theorem led_w {h₀ h : Heap} {L I aH Dhd Dcb Dlb Dsb xb db Dcw Dlw Dsw xw dw Dh M' aHo aL aT : Addr} {oi oc ohd ob olb osb oxb odb ow olw osw oxw odw oh oM oHo oL oT : Obj}
    (N : News h₀ L h ((aH, oc) :: (M', oM) :: (aL, oL) :: (Dh, oh) :: (aHo, oHo) :: [(I, oi), (Dhd, ohd), (Dcb, ob), (Dlb, olb), (Dsb, osb), (xb, oxb), (db, odb), (Dcw, ow), (Dlw, olw), (Dsw, osw), (xw, oxw), (dw, odw), (aT, oT)])) :
    News h₀ L h ((Dcw, ow) :: (Dlw, olw) :: (Dsw, osw) :: (xw, oxw) :: (dw, odw) :: [(I, oi), (aH, oc), (Dhd, ohd), (Dcb, ob), (Dlb, olb), (Dsb, osb), (xb, oxb), (db, odb), (Dh, oh), (M', oM), (aHo, oHo), (aL, oL), (aT, oT)]) := by
  have a0 := nH N
  replace N := nT N
  have a1 := nH N
  replace N := nT N
  have a2 := nH N
  replace N := nT N
  have a3 := nH N
  replace N := nT N
  have a4 := nH N
  replace N := nT N
  have a5 := nH N
  replace N := nT N
  have a6 := nH N
  replace N := nT N
  have a7 := nH N
  replace N := nT N
  have a8 := nH N
  replace N := nT N
  have a9 := nH N
  replace N := nT N
  have a10 := nH N
  replace N := nT N
  have a11 := nH N
  replace N := nT N
  have a12 := nH N
  replace N := nT N
  have a13 := nH N
  replace N := nT N
  have a14 := nH N
  replace N := nT N
  have a15 := nH N
  replace N := nT N
  have a16 := nH N
  replace N := nT N
  have a17 := nH N
  replace N := nT N
  exact nC a12 (nC a13 (nC a14 (nC a15 (nC a16 (nC a5 (nC a0 (nC a6 (nC a7 (nC a8 (nC a9 (nC a10 (nC a11 (nC a3 (nC a1 (nC a4 (nC a2 (nC a17 (N))))))))))))))))))
theorem led_b {h₀ h : Heap} {L I aH Dhd Dcb Dlb Dsb xb db Dcw Dlw Dsw xw dw Dh M' aHo aL aT : Addr} {oi oc ohd ob olb osb oxb odb ow olw osw oxw odw oh oM oHo oL oT : Obj}
    (N : News h₀ L h ((Dcw, ow) :: (Dlw, olw) :: (Dsw, osw) :: (xw, oxw) :: (dw, odw) :: [(I, oi), (aH, oc), (Dhd, ohd), (Dcb, ob), (Dlb, olb), (Dsb, osb), (xb, oxb), (db, odb), (Dh, oh), (M', oM), (aHo, oHo), (aL, oL), (aT, oT)])) :
    News h₀ L h ((Dcb, ob) :: (Dlb, olb) :: (Dsb, osb) :: (xb, oxb) :: (db, odb) :: [(I, oi), (aH, oc), (Dhd, ohd), (Dcw, ow), (Dlw, olw), (Dsw, osw), (xw, oxw), (dw, odw), (Dh, oh), (M', oM), (aHo, oHo), (aL, oL), (aT, oT)]) := by
  have a0 := nH N
  replace N := nT N
  have a1 := nH N
  replace N := nT N
  have a2 := nH N
  replace N := nT N
  have a3 := nH N
  replace N := nT N
  have a4 := nH N
  replace N := nT N
  have a5 := nH N
  replace N := nT N
  have a6 := nH N
  replace N := nT N
  have a7 := nH N
  replace N := nT N
  have a8 := nH N
  replace N := nT N
  have a9 := nH N
  replace N := nT N
  have a10 := nH N
  replace N := nT N
  have a11 := nH N
  replace N := nT N
  have a12 := nH N
  replace N := nT N
  have a13 := nH N
  replace N := nT N
  have a14 := nH N
  replace N := nT N
  have a15 := nH N
  replace N := nT N
  have a16 := nH N
  replace N := nT N
  have a17 := nH N
  replace N := nT N
  exact nC a8 (nC a9 (nC a10 (nC a11 (nC a12 (nC a5 (nC a6 (nC a7 (nC a0 (nC a1 (nC a2 (nC a3 (nC a4 (nC a13 (nC a14 (nC a15 (nC a16 (nC a17 (N))))))))))))))))))
theorem led_end {h₀ h : Heap} {L I aH Dhd Dcb Dlb Dsb xb db Dcw Dlw Dsw xw dw Dh M' aHo aL aT : Addr} {oi oc ohd ob olb osb oxb odb ow olw osw oxw odw oh oM oHo oL oT : Obj}
    (N : News h₀ L h ((Dcb, ob) :: (Dlb, olb) :: (Dsb, osb) :: (xb, oxb) :: (db, odb) :: [(I, oi), (aH, oc), (Dhd, ohd), (Dcw, ow), (Dlw, olw), (Dsw, osw), (xw, oxw), (dw, odw), (Dh, oh), (M', oM), (aHo, oHo), (aL, oL), (aT, oT)])) :
    News h₀ L h [(I, oi), (aH, oc), (Dhd, ohd), (Dcb, ob), (Dlb, olb), (Dsb, osb), (xb, oxb), (db, odb), (Dcw, ow), (Dlw, olw), (Dsw, osw), (xw, oxw), (dw, odw), (Dh, oh), (M', oM), (aHo, oHo), (aL, oL), (aT, oT)] := by
  have a0 := nH N
  replace N := nT N
  have a1 := nH N
  replace N := nT N
  have a2 := nH N
  replace N := nT N
  have a3 := nH N
  replace N := nT N
  have a4 := nH N
  replace N := nT N
  have a5 := nH N
  replace N := nT N
  have a6 := nH N
  replace N := nT N
  have a7 := nH N
  replace N := nT N
  have a8 := nH N
  replace N := nT N
  have a9 := nH N
  replace N := nT N
  have a10 := nH N
  replace N := nT N
  have a11 := nH N
  replace N := nT N
  have a12 := nH N
  replace N := nT N
  have a13 := nH N
  replace N := nT N
  have a14 := nH N
  replace N := nT N
  have a15 := nH N
  replace N := nT N
  have a16 := nH N
  replace N := nT N
  have a17 := nH N
  replace N := nT N
  exact nC a5 (nC a6 (nC a7 (nC a0 (nC a1 (nC a2 (nC a3 (nC a4 (nC a8 (nC a9 (nC a10 (nC a11 (nC a12 (nC a13 (nC a14 (nC a15 (nC a16 (nC a17 (N))))))))))))))))))
theorem all13 {P : Addr × Obj → Prop} {a b c d e f g h i j k l m : Addr × Obj} (h1 : P a) (h2 : P b) (h3 : P c) (h4 : P d) (h5 : P e) (h6 : P f) (h7 : P g) (h8 : P h) (h9 : P i) (h10 : P j) (h11 : P k) (h12 : P l) (h13 : P m) : ∀ p ∈ [a, b, c, d, e, f, g, h, i, j, k, l, m], P p := by
  exact List.forall_mem_cons.mpr ⟨h1, List.forall_mem_cons.mpr ⟨h2, List.forall_mem_cons.mpr ⟨h3, List.forall_mem_cons.mpr ⟨h4, List.forall_mem_cons.mpr ⟨h5, List.forall_mem_cons.mpr ⟨h6, List.forall_mem_cons.mpr ⟨h7, List.forall_mem_cons.mpr ⟨h8, List.forall_mem_cons.mpr ⟨h9, List.forall_mem_cons.mpr ⟨h10, List.forall_mem_cons.mpr ⟨h11, List.forall_mem_cons.mpr ⟨h12, List.forall_mem_cons.mpr ⟨h13, List.forall_mem_nil _⟩⟩⟩⟩⟩⟩⟩⟩⟩⟩⟩⟩⟩
theorem all16 {P : Addr × Obj → Prop} {a b c d e f g h i j k l m n o q : Addr × Obj} (h1 : P a) (h2 : P b) (h3 : P c) (h4 : P d) (h5 : P e) (h6 : P f) (h7 : P g) (h8 : P h) (h9 : P i) (h10 : P j) (h11 : P k) (h12 : P l) (h13 : P m) (h14 : P n) (h15 : P o) (h16 : P q) : ∀ p ∈ [a, b, c, d, e, f, g, h, i, j, k, l, m, n, o, q], P p := by
  exact List.forall_mem_cons.mpr ⟨h1, List.forall_mem_cons.mpr ⟨h2, List.forall_mem_cons.mpr ⟨h3, List.forall_mem_cons.mpr ⟨h4, List.forall_mem_cons.mpr ⟨h5, List.forall_mem_cons.mpr ⟨h6, List.forall_mem_cons.mpr ⟨h7, List.forall_mem_cons.mpr ⟨h8, List.forall_mem_cons.mpr ⟨h9, List.forall_mem_cons.mpr ⟨h10, List.forall_mem_cons.mpr ⟨h11, List.forall_mem_cons.mpr ⟨h12, List.forall_mem_cons.mpr ⟨h13, List.forall_mem_cons.mpr ⟨h14, List.forall_mem_cons.mpr ⟨h15, List.forall_mem_cons.mpr ⟨h16, List.forall_mem_nil _⟩⟩⟩⟩⟩⟩⟩⟩⟩⟩⟩⟩⟩⟩⟩⟩
theorem two_ints {a : Int} {t t' : Tok} {i : Nat} {v : Value} (h : (#[Value.int a t, Value.int a t'] : Array Value)[i]? = some v) : ∃ u, v = .int a u := by
  match i with
  | 0 => exact ⟨t, (Option.some.inj h).symm⟩
  | 1 => exact ⟨t', (Option.some.inj h).symm⟩
  | i + 2 => simp at h
theorem any_false {n : Nat} (h : ((List.range n).any fun _ => false) = true) : False := by simp at h
theorem lst_ne {z : Str} (hz : LSt.contains z = false) : ¬ z = Str.ofString "ask" ∧ ¬ z = Str.ofString "turned" ∧ ¬ z = Str.ofString "by_name" ∧ ¬ z = Str.ofString "by_home" ∧ ¬ z = Str.ofString "due" ∧ ¬ z = Str.ofString "answers" := by
  simpa only [LSt, List.contains_cons, List.contains_nil, Bool.or_false, Bool.or_eq_false_iff, beq_eq_false_iff_ne, ne_eq] using hz
theorem lst_no {z : Str} (hz : LSt.contains z = false) : ¬ LSt.contains z = true := by rw [hz]; exact Bool.false_ne_true
def wt (ps : List (List Nat)) : Nat := (ps.map (·.length)).sum + ps.length
theorem wt_drop : ∀ ps : List (List Nat), wt ps.dropLast ≤ wt ps
  | [] => Nat.le_refl _
  | [y] => by simp [wt]
  | y :: z :: r => by
    have h := wt_drop (z :: r)
    simp only [wt, List.dropLast_cons_of_ne_nil (List.cons_ne_nil z r), List.map_cons, List.sum_cons, List.length_cons] at h ⊢
    omega
theorem wt_step (rd : Bool) (st : List (List Nat)) (c : List Nat) : wt (nstep rd st c) ≤ wt st + c.length + 1 := by
  unfold nstep
  split
  · omega
  · split
    · simp [wt]; omega
    · have := wt_drop st; omega
theorem wt_fold (rd : Bool) : ∀ (ps st : List (List Nat)), wt (ps.foldl (nstep rd) st) ≤ wt st + wt ps
  | [], st => by simp
  | p :: ps, st => by
    have h1 := wt_step rd st p
    have h2 := wt_fold rd ps (nstep rd st p)
    rw [List.foldl_cons]
    have h3 : wt (p :: ps) = p.length + 1 + wt ps := by simp [wt]; omega
    omega
theorem rest_le (l : List Nat) : (restOf l).length ≤ l.length := by
  unfold restOf; split
  · exact Nat.le_refl _
  · split <;> rw [List.length_drop] <;> omega
theorem root_le (l : List Nat) : (rootOf l).length ≤ 2 := by
  have := root_len l; rwa [len_S] at this
theorem npath_len (l : List Nat) : (npath l).length ≤ l.length + 4 := by
  unfold npath
  split
  · simp
  · have h1 := (joinT_len 47 ((cut 47 (restOf l)).foldl (nstep (rootOf l != [])) [])).1
    have h2 := wt_fold (rootOf l != []) (cut 47 (restOf l)) []
    have h3 := (joinT_len 47 (cut 47 (restOf l))).2 (cut_ne _ _)
    rw [join_cut] at h3
    have h4 := rest_le l
    have h5 := root_le l
    have h6 : wt [] = 0 := rfl
    unfold wt at h2 h6
    dsimp only
    split
    · simp
    · rw [List.length_append]; omega
theorem npath_lens {ys : List Str} {b : Nat} (g : ∀ y ∈ ys, y.length ≤ b) : ∀ y ∈ ys.map fun y => S (npath (tl y)), y.length ≤ b + 4 := by
  intro y hy
  obtain ⟨z, hz, rfl⟩ := List.mem_map.mp hy
  have h1 := g z hz
  have h2 := npath_len (tl z)
  rw [len_tl] at h1
  show (S (npath (tl z))).length ≤ b + 4
  rw [len_S]; omega
theorem wr_ok {y : Str} (h : y.length ≤ 200) : (S (wr (tl y))).length ≤ 1000 := by
  have := wr_len (tl y)
  rw [len_tl] at h
  rw [len_S]; omega
theorem sw_ok {y : Str} (h : y.length ≤ 200) : (S (sw (tl y))).length ≤ 1000 := by
  rw [len_tl] at h
  rw [len_S, sw_len]; omega
theorem turn_lt {vs : List Value} {yr : List Str} {i : Nat} {v : Value} (h : StrsAre vs (yr.flatMap heads)) (z : ∀ y ∈ yr, y.length ≤ 200) (n : yr.length ≤ 12) (hv : vs[i]? = some v) : i ≤ 3000 := by
  have h1 := (List.getElem?_eq_some_iff.mp hv).1
  have h2 := flat_len z
  rw [h.length] at h1
  omega
theorem NCt.use {w : World} {k : Str} {tk1 tk2 : Tok} {mods dirs : List Str} {kvs : List (Str × Value)} (ct : NCt w k tk1 tk2 mods dirs kvs) {x d Ds Dl Dc : Addr} {t1 t2 t3 : Tok} {os oc : Obj} {wsd : List Value} {nd kk c : Nat} (rest : List (Addr × Obj))
    {p : Program} {loose : List Str} {mean : ExcName → Option Value} {mg mb : Str → Option Value}
    {dp un : Nat} {gd : Option (List Code)} {cn : Str} {cs : Scope} {a : Addr} {ccd : Value} {cl : List (Str × Addr)} {outer : List Env} {A₀ : Around}
    {base h₀ : Heap} {L : Addr} {m : Str → Option Value} {s : Shared} {Q E : Value → Shared → Prop}
    (N : News h₀ L s.heap (ILed w x d Ds Dl Dc t1 t2 t3 os oc wsd nd kk rest)) (F : Fr h₀ L s.heap m)
    (hset : SetObj PP w os (fun z => decide (z ∈ mods)) c (led w)) (hc : 1 ≤ c) (hws : StrsAre wsd dirs) (hd : oc.IsDictOf (strKind PP w) kvs) (hca : CacheInv (gOf mods dirs) kvs) (hsys : (Dc == sysModules) = false) (hr : ∀ p ∈ rest, @Ne Nat p.1 Dc)
    (o1 : @LT.lt Nat instLTNat Dl Dc) (o2 : @LT.lt Nat instLTNat Ds Dc) (o3 : @LT.lt Nat instLTNat x Dc) (o4 : @LT.lt Nat instLTNat d Dc)
    (B : Below A₀ base outer h₀) (X : (Mine.hd.heap_39 w.params).In h₀) (T : Top p loose mean mg mb h₀) (hk : cs.kind = .function)
    (hdp : dp + 10 < recursionLimit) (hun : un + 500 < cLine)
    (ret : ∀ t h' tk' dr kvs' oc', Fr h₀ L h' m → News h₀ L h' (ILed w x d Ds Dl Dc t1 t2 t3 os oc' wsd nd kk rest) → oc'.IsDictOf (strKind PP w) kvs' → CacheInv (gOf mods dirs) kvs' → kvs'.length ≤ kvs.length + 1 →
      Q (.int (gOf mods dirs k) t) { s with heap := h', toks := tk', drawn := dr }) :
    wpAny (model PySem.Challenge.rw_ik0027_01.row.prog w) (ktrTop dp un gd cn cs L a ccd cl outer) (call (.ref 124) [.ref x, .str k tk1, .str k tk2]) Q E s :=
  ct x d Ds Dl Dc t1 t2 t3 os oc wsd nd kk c rest p loose mean mg mb dp un gd cn cs a ccd cl outer A₀ base h₀ L m s Q E hset hc hws hd hca hsys hr o1 o2 o3 o4 B F X N T hk hdp hun ret
end Mine
end LTPart
section L1Part
open PySem PySem.W PySem.Spec PySem.Calls PyProof.Rows
namespace Mine
local macro_rules | `(tactic| k_room) => `(tactic| ktr_room)
local macro_rules | `(tactic| ktr_units) => `(tactic| (have hcL9 := cLine_is; (try simp only [units_under_make, units_in1, units_deeper, Around.mark_units, units_caller] at *); (try dsimp only [ktrTop] at *); omega))
local macro_rules | `(tactic| walk_at "call ref") => `(tactic| (k_here; (first | with_reducible show wpAny _ _ (call (Value.ref _) [Value.ref _]) _ _ _ | with_reducible show wpAny _ _ (call (Value.ref _) [Value.ref _, Value.ref _]) _ _ _ | with_reducible show wpAny _ _ (call (Value.ref _) [Value.ref _, Value.str _ _, Value.str _ _]) _ _ _); refine halt ?_))
local macro_rules | `(tactic| walk_at "eval ListComp") => `(tactic| (k_here; k_dflt (refine comp_eval (F₀ := by k_asm) (by with_unfolding_all rfl) (by decide) (by rfl) (by decide) (by rfl) ?_)))
local macro_rules | `(tactic| walk_at "compareOp In str str") => `(tactic| (k_here; k_dflt (refine in_spec ?_)))
local macro_rules | `(tactic| walk_at "compareOp NotEq ref ref") => `(tactic| (k_here; (with_reducible show wpAny _ _ (compareOp CmpOp.NotEq (Value.ref _) (Value.ref _)) _ _ _); k_dflt (refine' filt_ne ?k1 ?k2 ?k3 ?k4 ?k5 ?_; (case k1 => k_asm); (case k2 => walk_at "mem_list"); (case k3 => walk_at "mem_list"); (case k4 => assumption); (case k5 => ke_room); k_whole)))
local macro_rules | `(tactic| walk_at "mem_list") => `(tactic| (repeat (first | exact List.mem_cons_self | refine List.mem_cons_of_mem _ ?_)))
local macro_rules | `(tactic| walk_at "exec Assign") => `(tactic| (k_here; (with_reducible show wpAny _ _ (exec (Stmt.Assign [Expr.Name (Str.ofString "due") _] _ _) _) _ _ _); (with_reducible rename HaltMark => mk9); refine halt ?_))
local macro_rules | `(tactic| walk_at "CompSrcT") => `(tactic| (refine halt ?_))
local macro_rules | `(tactic| walk_at "eval ListComp") => `(tactic| (k_here; lct_look; k_dflt (refine LCt.ListComp_T (F₀ := by k_asm) (by with_unfolding_all rfl) (by decide) (by rfl) (by decide) (by rfl) ?_)))
local macro_rules | `(tactic| walk_at "call builtin:str.join") => `(tactic| (k_here; (with_reducible show wpAny _ _ (call (Value.builtin _) [Value.str _ _, Value.ref _]) _ _ _); k_dflt (refine' ls_join ?k1 ?k2 ?k3 ?k4 ?k5 ?_; (case k1 => k_asm); (case k2 => k_mem); (case k3 => assumption); (case k4 => exact Nat.le_of_ble_eq_true rfl); (case k5 => assumption); k_whole); intro t' k'; (try simp only [txt_join, slash, emptyS, tl_S])))
local macro_rules | `(tactic| walk_at "call ref") => `(tactic| (k_here; k_dflt (refine' Ct.use (written_ct _ _ _ ?c0 ?c1) ?k1 ?k2 ?k3 ?k4 ?k5 ?kK ?kd ?ku ?kp ?_; (case k1 => k_asm); (case k2 => k_asm); (case k3 => k_asm); (case k4 => k_asm); (case k5 => k_asm); (case kK => first | exact rfl | assumption); (case kd => ktr_room); (case ku => ktr_units); (case kp => exact trivial)); (case c0 => omega); (case c1 => assumption); intro r' x' h' tk' F' N' l' o'; obtain ⟨e1', t', e2'⟩ := o'; subst e1'; subst e2'; rw [List.nil_append] at N'; clear l'; (try dsimp only); (try k_fold)))
local macro_rules | `(tactic| walk_at "call ref") => `(tactic| (k_here; k_dflt (refine' Ct.use (swapped_ct _ _ _ ?c0) ?k1 ?k2 ?k3 ?k4 ?k5 ?kK ?kd ?ku ?kp ?_; (case k1 => k_asm); (case k2 => k_asm); (case k3 => k_asm); (case k4 => k_asm); (case k5 => k_asm); (case kK => first | exact rfl | assumption); (case kd => ktr_room); (case ku => ktr_units); (case kp => exact trivial)); (case c0 => omega); intro r' x' h' tk' F' N' l' o'; obtain ⟨e1', t', e2'⟩ := o'; subst e1'; subst e2'; rw [List.nil_append] at N'; clear l'; (try dsimp only); (try k_fold)))
local macro_rules | `(tactic| walk_at "call ref") => `(tactic| (k_here; k_dflt (refine' Ct.use (plain_ct _ _ _ ?c0) ?k1 ?k2 ?k3 ?k4 ?k5 ?kK ?kd ?ku ?kp ?_; (case k1 => k_asm); (case k2 => k_asm); (case k3 => k_asm); (case k4 => k_asm); (case k5 => k_asm); (case kK => first | exact rfl | assumption); (case kd => ktr_room); (case ku => ktr_units); (case kp => exact trivial)); (case c0 => omega); intro r' x' h' tk' F' N' l' o'; obtain ⟨e1', t', e2'⟩ := o'; subst e1'; subst e2'; rw [List.nil_append] at N'; clear l'; (try dsimp only); (try k_fold)))
set_option maxRecDepth 100000 in
set_option maxHeartbeats 8000000 in
theorem main : PySem.Challenge.rw_ik0027_01.Holds := hd (by
  k_go0
  k_steps
  unfold Halt
  refine' CtH.use (drawn_ct _ _ _ _ ?c0 ?c1) ?k1 ?k2 ?k3 ?k4 ?k5 ?kK ?kd ?ku ?kp ?_
  case k1 => k_asm
  case k2 => k_asm
  case k3 => k_asm
  case k4 => k_asm
  case k5 => k_asm
  case kK => first | exact rfl | assumption
  case kd => ktr_room
  case ku => ktr_units
  case kp => assumption
  case c0 => assumption
  case c1 => omega
  intro r' x' h' tk' F' N' l' o'
  obtain ⟨q', R', M', D', wr', wm', wd', yr', ym', yd', nr', nm', nd', e1', e2', okr', okm', okd', lr', lm', ld'⟩ := o'
  subst e1'
  subst e2'
  simp only [List.cons_append, List.nil_append] at N'
  have l2 := asLt l'
  have l2r := l2
  clear l'
  simp only [List.mem_cons, List.not_mem_nil, or_false, forall_eq_or_imp, forall_eq] at l2
  (try dsimp only)
  (try k_fold)
  k_steps
  (rename Fr _ _ _ _ => F1)
  (rename News _ _ _ _ => N1)
  have sd := okd'.1
  have gd := okd'.2.1
  have zd : yd'.length ≤ 11 := okd'.2.2.2
  dsimp only at sd gd
  refine srcH_ledger (its := wd'.toArray) (fun i ys => StrsAre ys ((yd'.take i).map fun y => S (plainT (tl y)))) rfl F1 N1 (by (repeat (first | exact List.mem_cons_self | refine List.mem_cons_of_mem _ ?_))) (by rw [List.size_toArray, sd.length]; omega) .nil ?_ ?_
  · rintro nws g i ys v I oI C oC D m₂ h tk E' hi hj hv hC hx' F2 N2 off ne
    clear F1 N1
    obtain ⟨y, ty, rfl, hy⟩ := sd.item i v (by simpa using hv)
    have hyl : y.length ≤ 200 := Nat.le_trans (gd y (List.mem_of_getElem? hy)).2 (by omega)
    k_steps
    refine CE.intro (by k_asm) (by k_asm) (fun p hp => hp) ?_
    exact strs_stepL (f := fun y => S (plainT (tl y))) hy hj rfl
  intro hs hj
  rw [show wd'.toArray.size = yd'.length by rw [List.size_toArray, sd.length], List.take_length] at hj
  intro Dh h tk F2 N2 off
  clear F1 N1
  have offr := off
  simp only [LCg.Off1] at off
  k_steps
  (rename Fr _ _ _ _ => F1)
  (rename News _ _ _ _ => N1)
  have sm := okm'.1
  have gm := okm'.2.1
  have zm : ym'.length ≤ 11 := okm'.2.2.2
  dsimp only at sm gm
  refine srcH_ledger (its := wm'.toArray) (fun i ys => StrsAre ys ((ym'.take i).map fun y => S (wr (tl y)))) rfl F1 N1 (by (repeat (first | exact List.mem_cons_self | refine List.mem_cons_of_mem _ ?_))) (by rw [List.size_toArray, sm.length]; omega) .nil ?_ ?_
  · rintro nws g i ys v I oI C oC D m₂ h tk E' hi hj hv hC hx' F2 N2 off ne
    clear F1 N1
    obtain ⟨y, ty, rfl, hy⟩ := sm.item i v (by simpa using hv)
    have hyl : y.length ≤ 200 := Nat.le_trans (gm y (List.mem_of_getElem? hy)).2 (by omega)
    have hyf := (gm y (List.mem_of_getElem? hy)).1
    k_steps
    refine CE.intro (by k_asm) (by k_asm) (fun p hp => hp) ?_
    exact strs_stepL (f := fun y => S (wr (tl y))) hy hj rfl
  intro vm1 jm1
  rw [show wm'.toArray.size = ym'.length by rw [List.size_toArray, sm.length], List.take_length] at jm1
  intro Dm1 h tk F2 N2 off2
  clear F1 N1
  k_steps
  (rename Fr _ _ _ _ => F1)
  (rename News _ _ _ _ => N1)
  refine srcH_ledger (its := wd'.toArray) (fun i ys => StrsAre ys ((yd'.take i).map fun y => S (wr (tl y)))) rfl F1 N1 (by (repeat (first | exact List.mem_cons_self | refine List.mem_cons_of_mem _ ?_))) (by rw [List.size_toArray, sd.length]; omega) .nil ?_ ?_
  · rintro nws g i ys v I oI C oC D m₂ h tk E' hi hj hv hC hx' F2 N2 off ne
    clear F1 N1
    obtain ⟨y, ty, rfl, hy⟩ := sd.item i v (by simpa using hv)
    have hyl : y.length ≤ 200 := Nat.le_trans (gd y (List.mem_of_getElem? hy)).2 (by omega)
    have hyf := (gd y (List.mem_of_getElem? hy)).1
    k_steps
    refine CE.intro (by k_asm) (by k_asm) (fun p hp => hp) ?_
    exact strs_stepL (f := fun y => S (wr (tl y))) hy hj rfl
  intro vd1 jd1
  rw [show wd'.toArray.size = yd'.length by rw [List.size_toArray, sd.length], List.take_length] at jd1
  intro Dd1 h tk F2 N2 off3
  clear F1 N1
  k_steps
  unfold Halt
  refine' CtN.use (ignore_ct _ _ _ _ _ _ _ vm1.length vd1.length jm1 jd1 ?e1 ?e2 ?l1 ?l2 ?g2) ?k1 ?k2 ?k3 ?k4 ?k5 ?kK ?kd ?ku ?kp ?_
  case e1 => exact map_ne okm'.2.2.1
  case e2 => exact map_ne okd'.2.2.1
  case l1 => rw [List.length_map]; exact zm
  case l2 => rw [List.length_map]; exact zd
  case g2 => exact le_all (wr_lens gd) (by omega)
  case k1 => k_asm
  case k2 => k_asm
  case k3 => k_asm
  case k4 => k_asm
  case k5 => k_asm
  case kK => first | exact rfl | assumption
  case kd => ktr_room
  case ku => ktr_units
  case kp => exact ⟨_, rfl⟩
  intro r' x' h' tk' F' N' l' o'
  obtain ⟨xw, dw, Dsw, Dlw, Dcw, taw, tbw, tcw, tdw, osw, ocw, wsw, ndw, kkw, cw, e1', e2', hsetw, hcw, hwsw, hdictw, hsysw, orw⟩ := o'
  subst e1'
  subst e2'
  simp only [List.cons_append, List.nil_append] at N'
  have lw := l'
  clear l'
  (try dsimp only)
  (try k_fold)
  k_steps
  (rename Fr _ _ _ _ => F1)
  (rename News _ _ _ _ => N1)
  refine srcH_ledger (its := wm'.toArray) (fun i ys => StrsAre ys ((ym'.take i).map fun y => S (sw (tl y)))) rfl F1 N1 (by (repeat (first | exact List.mem_cons_self | refine List.mem_cons_of_mem _ ?_))) (by rw [List.size_toArray, sm.length]; omega) .nil ?_ ?_
  · rintro nws g i ys v I oI C oC D m₂ h tk E' hi hj hv hC hx' F2 N2 off ne
    clear F1 N1
    obtain ⟨y, ty, rfl, hy⟩ := sm.item i v (by simpa using hv)
    have hyl : y.length ≤ 200 := Nat.le_trans (gm y (List.mem_of_getElem? hy)).2 (by omega)
    have hyf := (gm y (List.mem_of_getElem? hy)).1
    k_steps
    refine CE.intro (by k_asm) (by k_asm) (fun p hp => hp) ?_
    exact strs_stepL (f := fun y => S (sw (tl y))) hy hj rfl
  intro vm2 jm2
  rw [show wm'.toArray.size = ym'.length by rw [List.size_toArray, sm.length], List.take_length] at jm2
  intro Dm2 h tk F2 N2 off4
  clear F1 N1
  k_steps
  (rename Fr _ _ _ _ => F1)
  (rename News _ _ _ _ => N1)
  refine srcH_ledger (its := wd'.toArray) (fun i ys => StrsAre ys ((yd'.take i).map fun y => S (sw (tl y)))) rfl F1 N1 (by (repeat (first | exact List.mem_cons_self | refine List.mem_cons_of_mem _ ?_))) (by rw [List.size_toArray, sd.length]; omega) .nil ?_ ?_
  · rintro nws g i ys v I oI C oC D m₂ h tk E' hi hj hv hC hx' F2 N2 off ne
    clear F1 N1
    obtain ⟨y, ty, rfl, hy⟩ := sd.item i v (by simpa using hv)
    have hyl : y.length ≤ 200 := Nat.le_trans (gd y (List.mem_of_getElem? hy)).2 (by omega)
    have hyf := (gd y (List.mem_of_getElem? hy)).1
    k_steps
    refine CE.intro (by k_asm) (by k_asm) (fun p hp => hp) ?_
    exact strs_stepL (f := fun y => S (sw (tl y))) hy hj rfl
  intro vd2 jd2
  rw [show wd'.toArray.size = yd'.length by rw [List.size_toArray, sd.length], List.take_length] at jd2
  intro Dd2 h tk F2 N2 off5
  clear F1 N1
  k_steps
  unfold Halt
  refine' CtN.use (ignore_ct _ _ _ _ _ _ _ vm2.length vd2.length jm2 jd2 ?e1 ?e2 ?l1 ?l2 ?g2) ?k1 ?k2 ?k3 ?k4 ?k5 ?kK ?kd ?ku ?kp ?_
  case e1 => exact map_ne okm'.2.2.1
  case e2 => exact map_ne okd'.2.2.1
  case l1 => rw [List.length_map]; exact zm
  case l2 => rw [List.length_map]; exact zd
  case g2 => exact le_all (sw_lens gd) (by omega)
  case k1 => k_asm
  case k2 => k_asm
  case k3 => k_asm
  case k4 => k_asm
  case k5 => k_asm
  case kK => first | exact rfl | assumption
  case kd => ktr_room
  case ku => ktr_units
  case kp => exact ⟨_, rfl⟩
  intro r' x' h' tk' F' N' l' o'
  obtain ⟨xb, db, Dsb, Dlb, Dcb, tab, tbb, tcb, tdb, osb, ocb, wsb, ndb, kkb, cb, e1', e2', hsetb, hcb, hwsb, hdictb, hsysb, orb⟩ := o'
  subst e1'
  subst e2'
  simp only [List.cons_append, List.nil_append] at N'
  have lb := l'
  clear l'
  (try dsimp only)
  (try k_fold)
  k_steps
  refine wpAny_For ?_
  refine comp2_eval (F₀ := by k_asm) (by with_unfolding_all rfl) (by decide) (by rfl) (by decide) (by rfl) (by rfl) (by decide) ?_
  k_steps
  (rename Fr _ _ _ _ => F1)
  (rename News _ _ _ _ => N1)
  have sr := okr'.1
  have gr := okr'.2.1
  have zr : yr'.length ≤ 12 := okr'.2.2.2
  dsimp only at sr gr
  have zr2 : ∀ y ∈ yr', y.length ≤ 200 := fun y hy => Nat.le_trans (gr y hy).2 (by omega)
  refine ⟨R', wr'.toArray, _, _, fun i => (yr'[i]?.map fun y => y.length + 1).getD 0, fun i j ys => StrsAre ys (upTo yr' i j), rfl, by rfl, F1, N1, (by (repeat (first | exact List.mem_cons_self | refine List.mem_cons_of_mem _ ?_))), by rw [List.size_toArray, sr.length]; omega, ?_, ?_, ?_, ?_, ?_, ?_, ?_⟩
  · intro i
    dsimp only
    cases e : yr'[i]? with
    | none => exact Nat.zero_le _
    | some y => have := zr2 y (List.mem_of_getElem? e); simp only [Option.map_some, Option.getD_some]; omega
  · intro i j ys h
    have := upTo_len zr2 zr i j
    rw [h.length]; omega
  · dsimp only; rw [upTo_zero]; exact .nil
  · intro i ys hi h
    obtain ⟨y, hy⟩ : ∃ y, yr'[i]? = some y := by
      rw [List.size_toArray, sr.length] at hi
      exact ⟨_, List.getElem?_eq_getElem hi⟩
    dsimp only at h ⊢
    rw [hy] at h
    simp only [Option.map_some, Option.getD_some] at h
    rw [upTo_next hy] at h
    exact h
  · intro hs hj0
    rw [List.size_toArray, sr.length] at hj0
    rw [upTo_end] at hj0
    intro Dhd h tk F2 N2 off6
    clear F1 N1
    refine law_loop (PInv _ (ym'.map fun y => S (wr (tl y))) ((yd'.map fun y => S (wr (tl y))).map fun y => S (npath (tl y))) (ym'.map fun y => S (sw (tl y))) ((yd'.map fun y => S (sw (tl y))).map fun y => S (npath (tl y)))) _ _ F2 N2 rfl (by rfl) (by rfl) (by rfl) ?_ ?_ (by assumption) (PInv.first hdictw hdictb) ?_ ?_
    · passes_own
    · exact all16 (by have h9 := Off1.mem off6 _ (memAt 19 rfl); exact Ne.symm h9) (by have h9 := lb _ (memAt 14 rfl) _ (memAt 0 rfl); exact Ne.symm h9) (by have h9 := lb _ (memAt 14 rfl) _ (memAt 1 rfl); exact Ne.symm h9) (by have h9 := lb _ (memAt 14 rfl) _ (memAt 2 rfl); exact Ne.symm h9) (by have h9 := lb _ (memAt 14 rfl) _ (memAt 3 rfl); exact Ne.symm h9) (by have h9 := lb _ (memAt 14 rfl) _ (memAt 4 rfl); exact Ne.symm h9) (by have h9 := lw _ (memAt 7 rfl) _ (memAt 0 rfl); exact Ne.symm h9) (by have h9 := lw _ (memAt 7 rfl) _ (memAt 1 rfl); exact Ne.symm h9) (by have h9 := lw _ (memAt 7 rfl) _ (memAt 2 rfl); exact Ne.symm h9) (by have h9 := lw _ (memAt 7 rfl) _ (memAt 3 rfl); exact Ne.symm h9) (by have h9 := lw _ (memAt 7 rfl) _ (memAt 4 rfl); exact Ne.symm h9) (by have h9 := Off1.mem offr _ (memAt 4 rfl); exact Ne.symm h9) (by have h9 := l2r _ (memAt 0 rfl) _ (memAt 2 rfl); exact Nat.ne_of_gt h9) (Nat.ne_of_lt (Nat.lt_succ_self _)) (Nat.ne_of_lt (Nat.lt_succ_of_lt (Nat.lt_succ_self _))) (Nat.ne_of_lt (Nat.lt_succ_of_lt (Nat.lt_succ_of_lt (Nat.lt_succ_of_lt (by assumption)))))
    · intro i v σ I oi oc u h tk dr hv hP F3 N3 hoc lI
      clear F2 N2
      obtain ⟨y, ty, rfl, hy⟩ := hj0.item i v hv
      obtain ⟨hyf, hyl⟩ := head_ok gr zr2 (List.mem_of_getElem? hy)
      have hok := codes_ok code1 code1_len (tl y) (by rw [← len_tl]; omega)
      obtain ⟨rA, hrA, NA⟩ := hide5 (led_a N3)
      clear N3
      k_steps
      (rename Fr _ _ _ _ => F1)
      (rename News _ _ _ _ => N1)
      refine srcH_text (fun i ys => StrsAre ys (((tl y).take i).map fun c => S (code1 c))) rfl F1 N1 (by omega) .nil ?_ ?_
      · rintro nws g i ys v I' oI' C oC D m₂ h tk E' hi hj ⟨c, u, hc, rfl⟩ hC hx' F2 N2 off ne --DEV
        clear F1 N1
        rw [mk_S] at hx'
        k_steps
        all_goals refine CE.intro (by k_asm) (by k_asm) (fun p hp => hp) (strs_step hc hj ?_)
        · exact code_q (by assumption)
        · exact code_s (by assumption) (by assumption)
        · exact code_n (by assumption) (by assumption)
      intro ys hj
      rw [List.take_of_length_le (by rw [← len_tl]; exact Nat.le_refl _)] at hj
      intro D h tk F2 N2 off
      clear F1 N1
      k_steps
      · exact (ask_is (by assumption)).elim
      unfold Halt
      (rename Fr _ _ _ _ => F1)
      (rename News _ _ _ _ => N1)
      (rename IsRange _ _ _ _ _ _ _ _ => hr2)
      refine srcT_range (n := y.length + 1) (Filt (pN ym' (tl y))) rfl F1 N1 hr2 (by omega) filt_nil ?_ ?_
      · rintro g i ys v I' oI' C oC D m₂ h tk E' hi hj ⟨t, rfl⟩ hC hx' F2 N2 off ne --DEV
        clear F1 N1 hr2
        k_steps
        · refine CE.intro (by k_asm) (by k_asm) (by intro p hp; (repeat (first | exact hp | exact List.mem_append_left _ hp | exact List.mem_append_right _ hp | refine List.mem_cons_of_mem _ ?_))) (filt_yes hj (pN_yes (by assumption) (by assumption)))
        · refine CE.intro (by k_asm) (by k_asm) (by intro p hp; (repeat (first | exact hp | exact List.mem_append_left _ hp | exact List.mem_append_right _ hp | refine List.mem_cons_of_mem _ ?_))) (filt_no hj (pN_no2 (by assumption) (by assumption)))
        · refine CE.intro (by k_asm) (by k_asm) (by intro p hp; (repeat (first | exact hp | exact List.mem_append_left _ hp | exact List.mem_append_right _ hp | refine List.mem_cons_of_mem _ ?_))) (filt_no hj (pN_no1 (by assumption)))
      intro g ys hj1 D h tk F2 N2 off
      clear F1 N1 hr2
      k_steps
      unfold Halt
      (rename Fr _ _ _ _ => F1)
      (rename News _ _ _ _ => N1)
      (rename IsRange _ _ _ _ _ _ _ _ => hr2)
      refine srcT_range (n := y.length) (Filt (pH (yd'.map fun y => S (plainT (tl y))) (tl y))) rfl F1 N1 hr2 (by omega) filt_nil ?_ ?_
      · rintro g i ys v I' oI' C oC D m₂ h tk E' hi hj2 ⟨t, rfl⟩ hC hx' F2 N2 off ne --DEV
        clear F1 N1 hr2
        k_steps
        · refine CE.intro (by k_asm) (by k_asm) (by intro p hp; (repeat (first | exact hp | exact List.mem_append_left _ hp | exact List.mem_append_right _ hp | refine List.mem_cons_of_mem _ ?_))) (filt_yes hj2 (pH_yes hi (by assumption) (by assumption)))
        · refine CE.intro (by k_asm) (by k_asm) (by intro p hp; (repeat (first | exact hp | exact List.mem_append_left _ hp | exact List.mem_append_right _ hp | refine List.mem_cons_of_mem _ ?_))) (filt_no hj2 (pH_no2 hi (by assumption) (by assumption)))
        · refine CE.intro (by k_asm) (by k_asm) (by intro p hp; (repeat (first | exact hp | exact List.mem_append_left _ hp | exact List.mem_append_right _ hp | refine List.mem_cons_of_mem _ ?_))) (filt_no hj2 (pH_no1 hi (by assumption)))
      intro g ys hj2 D h tk F2 N2 off
      clear F1 N1 hr2
      have mk : HaltMark := trivial
      k_steps
      unfold Halt
      (rename Fr _ _ _ _ => F1)
      (rename News _ _ _ _ => N1)
      refine cutS (Str.ofString "due") (fun v => ∃ t, v = .int (dueV ym' (yd'.map fun y => S (plainT (tl y))) (tl y)) t) F1 (newsTl (newsTl (newsTl (newsTl (newsTl (newsTl N1)))))) ?_ ?_
      · (rename HaltMark => mk) --DEV
        clear mk
        k_steps
        all_goals try dsimp only
        · exact MidR.intro _ (by k_asm) (by k_asm) (by intro p hp; (repeat (first | exact hp | exact List.mem_append_left _ hp | exact List.mem_append_right _ hp | refine List.mem_cons_of_mem _ ?_))) rfl (due_is (due_1 (by assumption)))
        · exact MidR.intro _ (by k_asm) (by k_asm) (by intro p hp; (repeat (first | exact hp | exact List.mem_append_left _ hp | exact List.mem_append_right _ hp | refine List.mem_cons_of_mem _ ?_))) rfl (due_is (due_2 (by assumption)))
        · exact MidR.intro _ (by k_asm) (by k_asm) (by intro p hp; (repeat (first | exact hp | exact List.mem_append_left _ hp | exact List.mem_append_right _ hp | refine List.mem_cons_of_mem _ ?_))) rfl (due_is (due_3 (by assumption)))
        · exact MidR.intro _ (by k_asm) (by k_asm) (by intro p hp; (repeat (first | exact hp | exact List.mem_append_left _ hp | exact List.mem_append_right _ hp | refine List.mem_cons_of_mem _ ?_))) rfl (due_is (due_0 (by assumption) (by assumption) (by assumption)))
      rintro h tk v ⟨td, rfl⟩ F2 N2
      clear F1 N1
      (rename HaltMark => mk)
      clear mk
      have hi3 := turn_lt hj0 zr2 zr hv
      have lb1 := hP.lw
      have lb2 := hP.lb
      subst hrA
      obtain ⟨rW, hrW0, NW⟩ := hide5 (led_w N2)
      clear N2
      have hrW : ∀ p ∈ rW, @Ne Nat p.1 Dcw := by rw [hrW0]; exact all13 (by have h9 := AllLt.mem lI _ (memAt 7 rfl); exact Nat.ne_of_gt h9) (by have h9 := lw _ (memAt 7 rfl) _ (memAt 0 rfl); exact h9) (by have h9 := Off1.mem off6 _ (memAt 7 rfl); exact Ne.symm h9) (by have h9 := lb _ (memAt 2 rfl) _ (memAt 0 rfl); exact Ne.symm h9) (by have h9 := lb _ (memAt 2 rfl) _ (memAt 1 rfl); exact Ne.symm h9) (by have h9 := lb _ (memAt 2 rfl) _ (memAt 2 rfl); exact Ne.symm h9) (by have h9 := lb _ (memAt 2 rfl) _ (memAt 3 rfl); exact Ne.symm h9) (by have h9 := lb _ (memAt 2 rfl) _ (memAt 4 rfl); exact Ne.symm h9) (by have h9 := lw _ (memAt 2 rfl) _ (memAt 0 rfl); exact h9) (by have h9 := lw _ (memAt 5 rfl) _ (memAt 0 rfl); exact h9) (by have h9 := lw _ (memAt 8 rfl) _ (memAt 0 rfl); exact h9) (by have h9 := lw _ (memAt 9 rfl) _ (memAt 0 rfl); exact h9) (by have h9 := lw _ (memAt 10 rfl) _ (memAt 0 rfl); exact h9)
      k_steps
      unfold Halt
      (rename Fr _ _ _ _ => F1)
      (rename News _ _ _ _ => N1)
      refine' NCt.use (names_ct _ _ _ _ _ _ σ.kw ?c1 ?c2 ?c3 ?c4) _ N1 F1 hsetw ?pos hwsw hP.dw hP.cw hsysw hrW orw.1 orw.2.1 orw.2.2.1 orw.2.2.2.1 ?k1 ?k3 ?k5 ?kK ?kd ?ku ?_
      case c1 => exact wr_ok hyl
      case c2 => omega
      case c3 => exact le_all (wr_lens gm) (by omega)
      case c4 => exact le_all (npath_lens (wr_lens gd)) (by omega)
      case pos => exact set_pos' hsetw (map_ne okm'.2.2.1)
      case k1 => k_asm
      case k3 => k_asm
      case k5 => k_asm
      case kK => first | exact rfl | assumption
      case kd => ktr_room
      case ku => ktr_units
      intro t1' h' tk' dr' kw' ow' F2 N2 hdw' hcw' hlw'
      clear F1 N1
      rw [due_wr']
      subst hrW0
      obtain ⟨rB, hrB0, NB⟩ := hide5 (led_b N2)
      clear N2
      have hrB : ∀ p ∈ rB, @Ne Nat p.1 Dcb := by rw [hrB0]; exact all13 (by have h9 := AllLt.mem lI _ (memAt 2 rfl); exact Nat.ne_of_gt h9) (by have h9 := lb _ (memAt 14 rfl) _ (memAt 0 rfl); exact h9) (by have h9 := Off1.mem off6 _ (memAt 0 rfl); exact Ne.symm h9) (by have h9 := lb _ (memAt 2 rfl) _ (memAt 0 rfl); exact h9) (by have h9 := lb _ (memAt 3 rfl) _ (memAt 0 rfl); exact h9) (by have h9 := lb _ (memAt 4 rfl) _ (memAt 0 rfl); exact h9) (by have h9 := lb _ (memAt 5 rfl) _ (memAt 0 rfl); exact h9) (by have h9 := lb _ (memAt 6 rfl) _ (memAt 0 rfl); exact h9) (by have h9 := lb _ (memAt 9 rfl) _ (memAt 0 rfl); exact h9) (by have h9 := lb _ (memAt 12 rfl) _ (memAt 0 rfl); exact h9) (by have h9 := lb _ (memAt 15 rfl) _ (memAt 0 rfl); exact h9) (by have h9 := lb _ (memAt 16 rfl) _ (memAt 0 rfl); exact h9) (by have h9 := lb _ (memAt 17 rfl) _ (memAt 0 rfl); exact h9)
      k_steps
      unfold Halt
      (rename Fr _ _ _ _ => F1)
      (rename News _ _ _ _ => N1)
      refine' NCt.use (names_ct _ _ _ _ _ _ σ.kb ?c1 ?c2 ?c3 ?c4) _ N1 F1 hsetb ?pos hwsb hP.db hP.cb hsysb hrB orb.1 orb.2.1 orb.2.2.1 orb.2.2.2.1 ?k1 ?k3 ?k5 ?kK ?kd ?ku ?_
      case c1 => exact sw_ok hyl
      case c2 => omega
      case c3 => exact le_all (sw_lens gm) (by omega)
      case c4 => exact le_all (npath_lens (sw_lens gd)) (by omega)
      case pos => exact set_pos' hsetb (map_ne okm'.2.2.1)
      case k1 => k_asm
      case k3 => k_asm
      case k5 => k_asm
      case kK => first | exact rfl | assumption
      case kd => ktr_room
      case ku => ktr_units
      intro t2' h' tk' dr' kb' ob' F2 N2 hdb' hcb' hlb'
      clear F1 N1
      rw [due_sw']
      k_steps
      unfold Halt
      (rename Fr _ _ _ _ => F1)
      (rename News _ _ _ _ => N1)
      refine srcTH_ledger (its := #[Value.int (dueV ym' (yd'.map fun y => S (plainT (tl y))) (tl y)) t1', Value.int (dueV ym' (yd'.map fun y => S (plainT (tl y))) (tl y)) t2']) (Filt fun _ => false) rfl F1 N1 (by (repeat (first | exact List.mem_cons_self | refine List.mem_cons_of_mem _ ?_))) (by show 2 ≤ 16000; omega) filt_nil ?_ ?_
      · rintro nws g i' ys v I' oI' C oC D m₂ h tk E' hi hj3 hv3 hC hx' F2 N2 off ne
        clear F1 N1
        obtain ⟨t3', rfl⟩ := two_ints hv3
        k_steps
        refine CE.intro (by k_asm) (by k_asm) (by intro p hp; (repeat (first | exact hp | exact List.mem_append_left _ hp | exact List.mem_append_right _ hp | refine List.mem_cons_of_mem _ ?_))) (filt_no hj3 rfl)
      intro g ys hj3 D h tk F2 N2 off
      clear F1 N1
      k_steps
      all_goals try dsimp only
      · exact (any_false (by assumption)).elim
      subst hrB0
      refine FEnd.go ⟨ow', kw', ob', kb'⟩ (by k_asm) (led_end (newsTl (newsTl (newsTl (newsTl (by k_asm)))))) (fun p hp => hp) (fun z hz => (if_neg (lst_ne hz).2.2.2.2.2).trans ((if_neg (lst_ne hz).2.2.2.2.1).trans ((if_neg (lst_ne hz).2.2.2.1).trans ((if_neg (lst_ne hz).2.2.1).trans ((if_neg (lst_ne hz).1).trans ((if_neg (lst_ne hz).2.1).trans (if_neg (lst_no hz)))))))) ⟨hdw', hcw', ?_, hdb', hcb', ?_⟩
      · show kw'.length ≤ i + 1 + 1
        omega
      · show kb'.length ≤ i + 1 + 1
        omega
    · intro σ oc u h tk dr hP F3 N3
      clear F2 N2
      dsimp only
      k_steps
  · refine turn0_hide ?_
    rintro nws g i ys v I oI C oC D m₂ h tk E' hi hj hv hC hx' F2 N2 off ne
    clear F1 N1
    obtain ⟨y, ty, rfl, hy⟩ := sr.item i v (by simpa using hv)
    have hyl := zr2 y (List.mem_of_getElem? hy)
    k_steps
    (rename IsRange _ _ _ _ _ _ _ _ => hr2)
    refine R2.intro (by k_asm) (by k_asm) (fun p hp => hp) (by dsimp only; rw [hy]; exact hr2)
  · refine turn1_hide ?_
    rintro nws g i j ys v t K oK I oI C oC D m₂ h tk E' hi hlt hj hv hC hx' hx2' F2 N2 off ne lk
    clear F1 N1
    obtain ⟨y, ty, rfl, hy⟩ := sr.item i v (by simpa using hv)
    have hyl := zr2 y (List.mem_of_getElem? hy)
    dsimp only at hlt
    rw [hy] at hlt
    simp only [Option.map_some, Option.getD_some] at hlt
    k_steps
    refine CE.intro (by k_asm) (by k_asm) (fun p hp => hp) ?_
    dsimp only
    rw [upTo_step hy hlt, slice_ns]
    exact strs_snoc hj _ _)
end Mine
end L1Part
theorem PySem.Challenge.cw_ik0027_01_holds : PySem.Challenge.rw_ik0027_01.Holds :=
  Mine.main
