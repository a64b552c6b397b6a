import PyProof.Rows.All
import Wide.All
import OpenK.AllK
import Wide.FinOn
import PySem.Challenge.RW_nq0030_01
set_option Elab.async false

section
open PySem PySem.W PyProof.Rows
set_option maxRecDepth 100000
set_option maxHeartbeats 8000000
namespace Mine
open_top hd for PySem.Challenge.rw_nq0030_01
end Mine
end

section
open PySem PySem.W PyProof.Rows
set_option maxRecDepth 100000
set_option maxHeartbeats 8000000
namespace Mine
theorem fill : PySem.Challenge.rw_nq0030_01.prog = PySem.Challenge.rw_nq0030_01.prog ∧ Mine.hd.heap_39 = Mine.hd.heap_39 := by w_top off; k_fill; exact ⟨rfl, rfl⟩

/-- a contract: the call of the def at `f` upon `vs` gives `R t`; the frame and the ledger stay -/
abbrev Con (prog : Program) (w : World) (loose : List Str) (mean : ExcName → Option Value) (mg mb : Str → Option Value) (f : Addr) (news : List (Addr × Obj)) (vs : List Value) (R : Tok → Value) : Prop :=
  ∀ (dp un : Nat) (gd : Option (List Code)) (cn : Str) (cs : Scope) (a : Addr) (ccd : Value) (cl : List (Str × Addr)) (outer : List Env) (A₀ : Around) (base h₀ : Heap) (L : Addr) (m : Str → Option Value) (s : Shared) (Q E : Value → Shared → Prop),
    Below A₀ base outer h₀ → Fr h₀ L s.heap m → (Mine.hd.heap_39 w.params).In h₀ → News h₀ L s.heap news → Top Mine.hd.view_39 loose mean mg mb h₀ → cs.kind = .function →
    dp + 5 < recursionLimit → un + 50 < cLine → CbRet h₀ L m news s Q R →
      wpAny (model prog w) (ktrTop dp un gd cn cs L a ccd cl outer) (call (.ref f) vs) Q E s

def subCost (a b : Str) : Int := if a = b then 0 else if Txt.lower a = Txt.lower b then 1 else 2

theorem sub_cost {prog : Program} {w : World} {loose mean mg mb} (news) (a b : Str) (ta tb : Tok) (ha : a.length ≤ 100) (hb : b.length ≤ 100) :
    Con prog w loose mean mg mb 38 news [.str a ta, .str b tb] (fun t => .int (subCost a b) t) := by
  intro dp un gd cn cs aF ccd cl outer A₀ base h₀ L m s Q E B₀ F₀ X₀ N₀ T₀ hcs hdp hun hret
  refine wpAny_call ?_
  k_dflt cell_enter
  k_steps
  · exact cb_retI (Q := Q) hret (by simp_all [subCost]) (by assumption) (by assumption)
  · exact cb_retI (Q := Q) hret (by simp_all [subCost]) (by assumption) (by assumption)
  · exact cb_retI (Q := Q) hret (by simp_all [subCost]) (by assumption) (by assumption)
end Mine
end

section
open PySem PySem.W PyProof.Rows PySem.Builtin PySem.Builtin.Str
namespace Mine
/-- a text by the list of its signs -/
def S (xs : List Nat) : Str := ⟨xs.toArray⟩
theorem S_len (xs : List Nat) : (S xs).length = xs.length := by simp [S, Str.length]
theorem S_cps (xs : List Nat) : (S xs).cps.toList = xs := by simp [S]
theorem S_of (x : Str) : x = S x.cps.toList := by cases x; simp [S]
theorem S_inj {xs ys : List Nat} : S xs = S ys ↔ xs = ys := by simp [S]
theorem S_app (xs ys : List Nat) : S xs ++ S ys = S (xs ++ ys) := by
  show Str.mk _ = Str.mk _
  simp [S]
theorem sl_from {xs : List Nat} {k : Int} (h0 : 0 ≤ k) (h1 : k ≤ xs.length) : Txt.slice (S xs) (some k) none = S (xs.drop k.toNat) := by
  rw [slice_from_eq (b := (xs.length : Int)) h0 (by rw [S_len]; exact h1) (by rw [S_len]), S_cps]
  show S _ = S _
  rw [S_inj]
  apply List.take_of_length_le
  simp; omega
theorem sl_ge {xs : List Nat} {k : Int} (h : (xs.length : Int) ≤ k) : strSliceIndices none (some k) 1 xs.length = strSliceIndices none (some (xs.length : Int)) 1 xs.length := by
  have h1 : ¬ (k < 0) := by omega
  have h2 : ¬ ((xs.length : Int) < 0) := by omega
  have h3 : (1 : Int) > 0 := by decide
  simp only [strSliceIndices, h1, h2, h3, if_false, if_true, Int.min_eq_right h, Int.min_self]
theorem sl_to {xs : List Nat} {k : Int} (h0 : 0 ≤ k) : Txt.slice (S xs) none (some k) = S (xs.take k.toNat) := by
  by_cases h1 : k ≤ xs.length
  · show StrLaws.sliceText (S xs) none (some k) = _
    rw [StrLaws.sliceText_to ⟨h0, by rw [S_cps]; exact h1⟩, S_cps]
    show S _ = S _
    rw [S_inj, List.drop_zero]
    congr 1; omega
  · have e : Txt.slice (S xs) none (some k) = Txt.slice (S xs) none (some (xs.length : Int)) := by
      show StrLaws.sliceText (S xs) none (some k) = StrLaws.sliceText (S xs) none (some (xs.length : Int))
      unfold StrLaws.sliceText
      rw [S_len, sl_ge (by omega)]
    rw [e]
    show StrLaws.sliceText (S xs) none (some (xs.length : Int)) = _
    rw [StrLaws.sliceText_to ⟨by omega, by rw [S_cps]; omega⟩, S_cps]
    show S _ = S _
    rw [S_inj, List.drop_zero, List.take_of_length_le (by omega), List.take_of_length_le (by omega)]
theorem sl_all {xs : List Nat} : Txt.slice (S xs) none none = S xs := by
  show StrLaws.sliceText (S xs) none none = _
  have e : StrLaws.sliceText (S xs) none none = StrLaws.sliceText (S xs) none (some (xs.length : Int)) := by
    unfold StrLaws.sliceText
    rw [StrLaws.sliceIdx_none_hi, S_len]
  rw [e]
  have := sl_to (xs := xs) (k := (xs.length : Int)) (by omega)
  rw [show (Txt.slice (S xs) none (some (xs.length : Int))) = StrLaws.sliceText (S xs) none (some (xs.length : Int)) from rfl] at this
  rw [this, S_inj, List.take_of_length_le (by omega)]
theorem sl_neg {xs : List Nat} {k : Int} (h0 : k < 0) (h1 : -(xs.length : Int) ≤ k) : Txt.slice (S xs) none (some k) = S (xs.take (xs.length + k).toNat) := by
  show StrLaws.sliceText (S xs) none (some k) = _
  rw [StrLaws.sliceText_neg_hi _ _ h0 (by rw [S_len]; exact h1), S_len]
  have := sl_to (xs := xs) (k := k + xs.length) (by omega)
  rw [show (Txt.slice (S xs) none (some (k + xs.length))) = StrLaws.sliceText (S xs) none (some (k + xs.length)) from rfl] at this
  rw [this, S_inj]; congr 1; omega
theorem sl_mid {xs : List Nat} {i j : Int} (h0 : 0 ≤ i) (h1 : i ≤ j) (h2 : j ≤ xs.length) : Txt.slice (S xs) (some i) (some j) = S ((xs.drop i.toNat).take (j - i).toNat) := by
  show StrLaws.sliceText (S xs) (some i) (some j) = _
  rw [StrLaws.sliceText_plain ⟨h0, h1, by rw [S_cps]; exact h2⟩, S_cps]; rfl
theorem it_at {xs : List Nat} {k : Int} (h0 : 0 ≤ k) (h1 : k < xs.length) : Txt.item (S xs) k = S [xs.getD k.toNat 0] := by
  unfold Txt.item Txt.charAt
  rw [S_len, StrLaws.seqIndex_nonneg h0 h1]
  simp [S]
theorem it_neg {xs : List Nat} {k : Int} (h0 : k < 0) (h1 : -(xs.length : Int) ≤ k) : Txt.item (S xs) k = S [xs.getD (xs.length + k).toNat 0] := by
  unfold Txt.item Txt.charAt
  rw [S_len, StrLaws.seqIndex_neg h0 h1]
  have : (k + xs.length).toNat = (xs.length + k).toNat := by omega
  simp [S, this]
end Mine
end

section
namespace Mine
section ed
variable (c : Nat → Nat → Int)
/-- least cost, over reversed texts (their last signs first) -/
def ed : List Nat → List Nat → Int
  | [], ys => 2 * ys.length
  | x :: xs, [] => 2 * (xs.length + 1)
  | x :: xs, y :: ys => min (ed xs ys + c x y) (min (ed xs (y :: ys) + 2) (ed (x :: xs) ys + 2))
termination_by xs ys => xs.length + ys.length

theorem ed_nil_l (ys : List Nat) : ed c [] ys = 2 * ys.length := by unfold ed; rfl
theorem ed_nil_r (xs : List Nat) : ed c xs [] = 2 * xs.length := by
  cases xs with
  | nil => simp [ed_nil_l]
  | cons x xs => unfold ed; simp
theorem ed_cons (x y : Nat) (xs ys : List Nat) : ed c (x :: xs) (y :: ys) = min (ed c xs ys + c x y) (min (ed c xs (y :: ys) + 2) (ed c (x :: xs) ys + 2)) := by
  rw [ed]

variable {c} (h0 : ∀ x y, 0 ≤ c x y) (h2 : ∀ x y, c x y ≤ 2) (hs : ∀ x, c x x = 0) (hsym : ∀ x y, c x y = c y x)
include hsym in
theorem ed_symm (xs ys : List Nat) : ed c xs ys = ed c ys xs := by
  induction xs generalizing ys with
  | nil => rw [ed_nil_l, ed_nil_r]
  | cons x xs ihx =>
    induction ys with
    | nil => rw [ed_nil_l, ed_nil_r]
    | cons y ys ihy =>
      rw [ed_cons, ed_cons, ihx ys, ihx (y :: ys), ihy, hsym x y]
      omega
include h0 in
theorem ed_ge (xs ys : List Nat) : 2 * ((xs.length : Int) - ys.length) ≤ ed c xs ys ∧ 2 * ((ys.length : Int) - xs.length) ≤ ed c xs ys := by
  induction xs generalizing ys with
  | nil => rw [ed_nil_l]; simp only [List.length_nil]; omega
  | cons x xs ihx =>
    induction ys with
    | nil => rw [ed_nil_r]; simp only [List.length_nil]; omega
    | cons y ys ihy =>
      rw [ed_cons]
      have a1 := ihx ys
      have a2 := ihx (y :: ys)
      have a3 := h0 x y
      simp only [List.length_cons] at *
      omega
/-- one sign more or less on the left changes the cost by two at most -/
theorem ed_lip_r (x : Nat) (xs ys : List Nat) : ed c (x :: xs) ys ≤ ed c xs ys + 2 := by
  cases ys with
  | nil => rw [ed_nil_r, ed_nil_r]; simp; omega
  | cons y ys => rw [ed_cons]; omega
theorem ed_lip_r' (y : Nat) (xs ys : List Nat) : ed c xs (y :: ys) ≤ ed c xs ys + 2 := by
  cases xs with
  | nil => rw [ed_nil_l, ed_nil_l]; simp; omega
  | cons x xs => rw [ed_cons]; omega
include h0 in
theorem ed_lip_l (x : Nat) (xs ys : List Nat) : ed c xs ys ≤ ed c (x :: xs) ys + 2 := by
  induction ys with
  | nil => rw [ed_nil_r, ed_nil_r]; simp; omega
  | cons y ys ihy =>
    rw [ed_cons]
    have a1 := ed_lip_r' (c := c) y xs ys
    have a3 := h0 x y
    omega
include h0 in
theorem ed_lip_l' (y : Nat) (xs ys : List Nat) : ed c xs ys ≤ ed c xs (y :: ys) + 2 := by
  induction xs with
  | nil => rw [ed_nil_l, ed_nil_l]; simp; omega
  | cons x xs ihx =>
    rw [ed_cons]
    have a1 := ed_lip_r (c := c) x xs ys
    have a3 := h0 x y
    omega
include h0 hs in
theorem ed_same (x : Nat) (xs ys : List Nat) : ed c (x :: xs) (x :: ys) = ed c xs ys := by
  rw [ed_cons, hs]
  have a1 := ed_lip_l' h0 x xs ys
  have a2 := ed_lip_l h0 x xs ys
  omega
include h0 hs in
/-- a common end of the reversed texts (a common beginning) -/
theorem ed_app (p xs ys : List Nat) : ed c (p ++ xs) (p ++ ys) = ed c xs ys := by
  induction p with
  | nil => rfl
  | cons z p ih => rw [List.cons_append, List.cons_append, ed_same h0 hs, ih]
include h0 hs in
theorem ed_one (z : Nat) (ys : List Nat) : ed c [z] (ys ++ [z]) = 2 * ys.length := by
  induction ys with
  | nil => rw [List.nil_append, ed_same h0 hs, ed_nil_l]
  | cons y ys ih =>
    rw [List.cons_append, ed_cons, ih, ed_nil_l, ed_nil_l]
    have := h0 z y
    simp; omega
include h0 hs in
theorem ed_one' (z : Nat) (xs : List Nat) : ed c (xs ++ [z]) [z] = 2 * xs.length := by
  induction xs with
  | nil => rw [List.nil_append, ed_same h0 hs, ed_nil_l]
  | cons x xs ih =>
    rw [List.cons_append, ed_cons, ih, ed_nil_r, ed_nil_r]
    have := h0 x z
    simp; omega
include h0 hs in
theorem ed_snoc (z : Nat) (xs ys : List Nat) : ed c (xs ++ [z]) (ys ++ [z]) = ed c xs ys := by
  induction xs generalizing ys with
  | nil => rw [List.nil_append, ed_one h0 hs, ed_nil_l]
  | cons x xs ihx =>
    induction ys with
    | nil => rw [List.nil_append, ed_one' h0 hs, ed_nil_r]
    | cons y ys ihy =>
      have i1 := ihx ys
      have i2 := ihx (y :: ys)
      simp only [List.cons_append] at *
      rw [ed_cons, ed_cons, i1, i2, ihy]
include h0 hs in
theorem ed_app_r (p xs ys : List Nat) : ed c (xs ++ p) (ys ++ p) = ed c xs ys := by
  induction p generalizing xs ys with
  | nil => simp
  | cons z p ih =>
    have e1 : xs ++ z :: p = (xs ++ [z]) ++ p := by simp
    have e2 : ys ++ z :: p = (ys ++ [z]) ++ p := by simp
    rw [e1, e2, ih, ed_snoc h0 hs]
include hs in
theorem ed_sub {xs ys : List Nat} (h : List.Sublist xs ys) : ed c xs ys ≤ 2 * ((ys.length : Int) - xs.length) := by
  induction h with
  | slnil => rw [ed_nil_l]; simp
  | @cons l₁ l₂ a h ih =>
    have := ed_lip_r' (c := c) a l₁ l₂
    simp only [List.length_cons]; omega
  | @cons_cons l₁ l₂ a h ih =>
    rw [ed_cons, hs]
    simp only [List.length_cons]; omega
include h0 hs in
theorem ed_sub_eq {xs ys : List Nat} (h : List.Sublist xs ys) : ed c xs ys = 2 * ((ys.length : Int) - xs.length) := by
  have a := ed_sub hs h
  have b := (ed_ge h0 xs ys).2
  omega
end ed
end Mine
end

section
open PySem PySem.W PyProof.Rows
set_option maxRecDepth 100000
set_option maxHeartbeats 8000000
namespace Mine
theorem post_cut {prog : Program} {w : World} {A : Around} {E : Value → Shared → Prop} {s : Shared} {h₀ : Heap} {L : Addr} {m : Str → Option Value} {news : List (Addr × Obj)} {cn : Str} {cs : Scope} {a : Addr} {ccd : Value} {x : Str} {xs : List Nat} {tx tj : Tok} {j : Int} {px p1 p2 p3 p4 p5 : Pos} {n2 : Nat} {Q : Value → Shared → Prop}
    (F : Fr h₀ L s.heap m) (N : News h₀ L s.heap news) (hx : m x = some (.str (S xs) tx)) (hp : m (Str.ofString "post") = some (.int j tj)) (hj0 : j ≤ 0) (hj1 : -j ≤ xs.length) (hl : xs.length ≤ 1000)
    (hk : cs.kind = .function) (hkx : (envOf cn cs L a ccd).kindOf x = some .local) (hkp : (envOf cn cs L a ccd).kindOf (Str.ofString "post") = some .local) (hd : (x == ("__debug__" : Str)) = false)
    (h : ∀ h' t' k, Fr h₀ L h' m → News h₀ L h' news → (S (xs.take (xs.length + j).toNat)).length = (xs.length + j).toNat → Q (.str (S (xs.take (xs.length + j).toNat)) t') { s with heap := h', toks := k }) :
    wpAny (model prog w) A (eval (.Subscript (.Name x px) (.Slice none (some (.BoolOp .Or [.Name (Str.ofString "post") p1, .Constant .none n2 p2] p3)) none p4) p5) (envOf cn cs L a ccd)) Q E s := by
  have hlen : (S (xs.take (xs.length + j).toNat)).length = (xs.length + j).toNat := by rw [S_len]; simp; omega
  have hsz : (S xs).length ≤ sizeLine := by rw [S_len, sizeLine_eq]; omega
  refine Subscript_ ?_
  refine ld F hx ?_ hk hkx hd
  refine wpAny_Slice ?_
  refine evalPart_none_step ?_
  refine evalPart_some_step ?_
  refine BoolOp_or ?_
  refine ld F hp ?_ hk hkp rfl
  refine truthy_int ?_
  by_cases e : j = 0
  · subst e
    simp only [bne_self_eq_false, Bool.false_eq_true, if_false]
    refine BoolOp_one ?_
    refine wpAny_mono (Q := fun v s' => v = Value.none ∧ s' = s) (E := E) ?_ ?_ (fun _ _ h => h)
    · walk1
      exact ⟨rfl, rfl⟩
    · rintro _ _ ⟨rfl, rfl⟩
      refine evalPart_none_step ?_
      refine slice_strN_nn (hsz := hsz) (s := ⟨_, _, _, _, _⟩) F N ?_
      intro h' t' k F' N'
      have := h h' t' k F' N' hlen
      rw [sl_all]
      simpa using this
  · have e' : (j != 0) = true := by simp [e]
    rw [if_pos e']
    refine evalPart_none_step ?_
    refine slice_strN_ns (hsz := hsz) (s := ⟨_, _, _, _, _⟩) F N ?_
    intro h' t' k F' N'
    have := h h' t' k F' N' hlen
    rw [sl_neg (by omega) (by omega)]
    exact this
end Mine
end

section
open PySem PySem.W PyProof.Rows PySem.Spec
set_option maxRecDepth 100000
set_option maxHeartbeats 8000000
namespace Mine
/-- a goal that the walk leaves alone -/
structure Sealed (P : Prop) : Prop where
  out : P
theorem frTo {h₀ h : Heap} {L : Addr} {m m' : Str → Option Value} (F : Fr h₀ L h m) (e : ∀ y, m y = m' y) : Fr h₀ L h m' := (funext e : m = m') ▸ F
theorem lk {y k : Str} {v : Value} {r : List (Str × Value)} (e : ¬ y = k) : List.lookup y ((k, v) :: r) = List.lookup y r := by simp [List.lookup, beq_false_of_ne e]

theorem ints_of : ∀ (vs : List Value) (f : Nat → Int) (n : Nat), vs.length = n → (∀ (j : Nat) (v : Value), vs[j]? = some v → ∃ t, v = .int (f j) t) → IntsAre vs ((List.range n).map f)
  | [], f, n, e, _ => by subst e; exact IntsAre.nil
  | v :: r, f, n, e, h => by
    subst e
    obtain ⟨t, ht⟩ := h 0 v rfl
    subst ht
    rw [List.length_cons, List.range_succ_eq_map, List.map_cons, List.map_map]
    exact IntsAre.cons _ _ (ints_of r (f ∘ Nat.succ) r.length rfl fun j v hj => h (j + 1) v hj)
theorem ints_set : ∀ {vs : List Value} {ns : List Int} (i : Nat) (x : Int) (t : Tok), IntsAre vs ns → IntsAre (vs.set i (.int x t)) (ns.set i x)
  | _, _, _, _, _, .nil => .nil
  | _, _, 0, x, t, .cons _ _ h => .cons x t h
  | _, _, i + 1, x, t, .cons n u h => .cons n u (ints_set i x t h)

section
variable {prog : Program} {w : World} {A : Around} {E : Value → Shared → Prop} {s : Shared} {h₀ : Heap} {L l r : Addr} {m : Str → Option Value} {news : List (Addr × Obj)}
theorem list_range_k {a b c : Int} {t₀ u₀ v₀ : Tok} {n : Nat} {Q : Value → Shared → Prop} (hh : A.handled = none) (F : Fr h₀ L s.heap m) (N : News h₀ L s.heap news) (hr : IsRange s.heap r a b c t₀ u₀ v₀) (hsmall : Builtin.Range.small a b c = true) (hn : Builtin.Range.rangeSize a b c = (n : Int)) (hz : n ≤ 2 ^ 24)
    (h : ∀ D us k h' tk, Fr h₀ L h' m → News h₀ L h' ((D, listOf (List.toArray us) k) :: news) → (∀ p ∈ news, p.1 < D) → IntsAre us ((List.range n).map fun (i : Nat) => a + (i : Int) * c) → Q (.ref D) { s with heap := h', toks := tk }) :
    wpAny (model prog w) A (call (.type "list") [.ref r]) Q E s := by
  refine call_list_range hh hr hsmall hn hz fun h' tk acc k hk hD hI => ?_
  have hD' : h'.get? s.heap.objs.size = some (listOf (List.toArray acc.toList) k) := by
    rw [Array.toArray_toList]
    exact hD
  exact h _ acc.toList k h' tk (F.keeps hk) (news_pushed F N hk hD' rfl) (fun p hp => Heap.lt_size (N p hp).1) (ints_of _ _ _ (by rw [Array.length_toList]; exact hI.1) fun j v hj => hI.2 j v (by rw [← hj, Array.getElem?_toList]))

theorem set_k {us : List Value} {ns : List Int} {n : Nat} {k v : Int} {t tv : Tok} {Q : Unit → Shared → Prop} (F : Fr h₀ L s.heap m) (N : News h₀ L s.heap ((l, listOf us.toArray n) :: news)) (hne : ∀ p ∈ news, p.1 ≠ l)
    (hI : IntsAre us ns) (h0 : 0 ≤ k) (h1 : k < ns.length) (hfit : k < 2 ^ 63)
    (h : ∀ h' us', Fr h₀ L h' m → News h₀ L h' ((l, listOf (List.toArray us') n) :: news) → IntsAre us' (ns.set k.toNat v) → Q () { s with heap := h' }) :
    wpAny (model prog w) A (setItem (.ref l) (.int k t) (.int v tv)) Q E s := by
  have D := N (l, listOf us.toArray n) (.head _)
  have hl := hI.length
  refine ki_setAt (items := us.toArray) D.1 h0 hfit (by rw [List.size_toArray]; omega) ?_
  refine h _ (us.set k.toNat (.int v tv)) (F.change (Heap.SameBut.update ..) D.2.1 D.2.2) ?_ (ints_set _ _ _ hI)
  exact ki_turn (pre := []) (fun x => x.setIfInBounds k.toNat (.int v tv)) N (fun _ h => (nomatch h)) hne (by simp) (by simp)
end
theorem size_two {n : Nat} (h : 0 < n) : Builtin.Range.rangeSize 2 (2 * ((n : Int) + 1)) 2 = (n : Int) := by
  unfold Builtin.Range.rangeSize
  rw [if_pos (by decide), if_pos (by omega)]
  omega
theorem small_two {n : Nat} (h : 0 < n) (h' : n ≤ 1000) : Builtin.Range.small 2 (2 * ((n : Int) + 1)) 2 = true := by
  have f : ∀ i : Int, -5000 ≤ i → i ≤ 5000 → Builtin.Range.rangeFitsLong i = true := by
    intro i h1 h2
    unfold Builtin.Range.rangeFitsLong
    rw [Bool.and_eq_true, decide_eq_true_eq, decide_eq_true_eq]
    omega
  unfold Builtin.Range.small
  rw [size_two h, if_pos (by decide), f 2 (by omega) (by omega), f _ (by omega) (by omega), f (n : Int) (by omega) (by omega), f _ (by omega) (by omega)]
  simp
end Mine
end

section
open PySem PySem.W PyProof.Rows
namespace Mine
def cst (x y : Nat) : Int := subCost (S [x]) (S [y])
theorem cst_0 (x y : Nat) : 0 ≤ cst x y := by unfold cst subCost; split; · omega
                                              split <;> omega
theorem cst_2 (x y : Nat) : cst x y ≤ 2 := by unfold cst subCost; split; · omega
                                              split <;> omega
theorem cst_same (x : Nat) : cst x x = 0 := by simp [cst, subCost]
theorem cst_symm (x y : Nat) : cst x y = cst y x := by
  unfold cst subCost
  simp only [eq_comm (a := S [x]) (b := S [y]), eq_comm (a := Txt.lower (S [x])) (b := Txt.lower (S [y]))]
def edl (xs ys : List Nat) : Int := ed cst xs.reverse ys.reverse
def edt (P R : List Nat) (i j : Nat) : Int := ed cst (P.take i).reverse (R.take j).reverse
theorem edt_full (P R : List Nat) : edt P R P.length R.length = edl P R := by simp [edt, edl]
theorem edt_0 {P R : List Nat} {j : Nat} (h : j ≤ R.length) : edt P R 0 j = 2 * j := by
  unfold edt; rw [List.take_zero, List.reverse_nil, ed_nil_l]; simp; omega
theorem edt_i {P R : List Nat} {i : Nat} (h : i ≤ P.length) : edt P R i 0 = 2 * i := by
  unfold edt; rw [List.take_zero, List.reverse_nil, ed_nil_r]; simp; omega
theorem rev_take {P : List Nat} {i : Nat} (h : i < P.length) : (P.take (i + 1)).reverse = P.getD i 0 :: (P.take i).reverse := by
  rw [List.take_add_one, List.getElem?_eq_getElem h]; simp [List.getElem?_eq_getElem h]
theorem edt_step {P R : List Nat} {i j : Nat} (h1 : i < P.length) (h2 : j < R.length) :
    edt P R (i + 1) (j + 1) = min (edt P R i j + cst (P.getD i 0) (R.getD j 0)) (min (edt P R i (j + 1) + 2) (edt P R (i + 1) j + 2)) := by
  unfold edt
  rw [rev_take h1, rev_take h2, ed_cons]
theorem edt_code {P R : List Nat} {i j : Nat} {r : Int} (h1 : i < P.length) (h2 : j < R.length) (hr : r = if i = 0 then 2 * (j : Int) else edt P R i (j + 1)) :
    min (min r (edt P R (i + 1) j) + 2) (edt P R i j + cst (R.getD j 0) (P.getD i 0)) = edt P R (i + 1) (j + 1) := by
  rw [edt_step h1 h2, cst_symm (R.getD j 0)]
  by_cases e : i = 0
  · subst e
    rw [if_pos rfl] at hr
    rw [edt_0 (by omega), edt_0 (by omega)]
    have := cst_2 (P.getD 0 0) (R.getD j 0)
    omega
  · rw [if_neg e] at hr
    omega
theorem edt_below {P R : List Nat} {j' : Nat} : ∀ (n i j : Nat), i + j ≤ n → i ≤ P.length → j ≤ R.length → j' ≤ j → ∃ k, k ≤ i ∧ edt P R k j' ≤ edt P R i j := by
  intro n
  induction n with
  | zero =>
    intro i j e hi hj hjj
    have : j = 0 := by omega
    have : j' = 0 := by omega
    subst_vars
    exact ⟨i, Nat.le_refl _, Int.le_refl _⟩
  | succ n ih =>
    intro i j e hi hj hjj
    by_cases ej : j = j'
    · subst ej; exact ⟨i, Nat.le_refl _, Int.le_refl _⟩
    · obtain ⟨j, rfl⟩ : ∃ q, j = q + 1 := ⟨j - 1, by omega⟩
      cases i with
      | zero => exact ⟨0, Nat.le_refl _, by rw [edt_0 (by omega), edt_0 (by omega)]; omega⟩
      | succ i =>
        have st := edt_step (P := P) (R := R) (i := i) (j := j) (by omega) (by omega)
        have c0 := cst_0 (P.getD i 0) (R.getD j 0)
        obtain ⟨k1, hk1, hle1⟩ := ih i j (by omega) (by omega) (by omega) (by omega)
        obtain ⟨k2, hk2, hle2⟩ := ih i (j + 1) (by omega) (by omega) hj (by omega)
        obtain ⟨k3, hk3, hle3⟩ := ih (i + 1) j (by omega) hi (by omega) (by omega)
        by_cases a : edt P R (i + 1) (j + 1) = edt P R i j + cst (P.getD i 0) (R.getD j 0)
        · exact ⟨k1, by omega, by omega⟩
        · by_cases b : edt P R (i + 1) (j + 1) = edt P R i (j + 1) + 2
          · exact ⟨k2, by omega, by omega⟩
          · exact ⟨k3, by omega, by omega⟩
theorem edt_row {P R : List Nat} {j : Nat} (hP : P ≠ []) (h2 : j < R.length) : ∃ i, i < P.length ∧ edt P R (i + 1) (j + 1) ≤ edl P R := by
  have hl : 0 < P.length := List.length_pos_iff.mpr hP
  obtain ⟨k, hk, hle⟩ := edt_below (P := P) (R := R) (j' := j + 1) _ P.length R.length (Nat.le_refl _) (Nat.le_refl _) (Nat.le_refl _) (by omega)
  rw [edt_full] at hle
  cases k with
  | zero =>
    refine ⟨0, hl, ?_⟩
    rw [edt_0 (by omega)] at hle
    have st := edt_step (P := P) (R := R) (i := 0) (j := j) hl h2
    rw [edt_0 (by omega)] at st
    have := cst_2 (P.getD 0 0) (R.getD j 0)
    omega
  | succ k => exact ⟨k, by omega, hle⟩
def rowAt (P R : List Nat) (j : Nat) : List Int := (List.range P.length).map fun i => edt P R (i + 1) j
def mixAt (P R : List Nat) (j k : Nat) : List Int := (List.range P.length).map fun i => if i < k then edt P R (i + 1) (j + 1) else edt P R (i + 1) j
theorem row_len (P R : List Nat) (j : Nat) : (rowAt P R j).length = P.length := by simp [rowAt]
theorem mix_len (P R : List Nat) (j k : Nat) : (mixAt P R j k).length = P.length := by simp [mixAt]
theorem mix_0 (P R : List Nat) (j : Nat) : mixAt P R j 0 = rowAt P R j := by simp [mixAt, rowAt]
theorem mix_n (P R : List Nat) (j : Nat) : mixAt P R j P.length = rowAt P R (j + 1) := by
  unfold mixAt rowAt
  apply List.map_congr_left
  intro i hi
  rw [if_pos (by simpa using hi)]
theorem mix_get {P R : List Nat} {j k : Nat} (h : k < P.length) : (mixAt P R j k).getD k 0 = edt P R (k + 1) j := by
  simp [mixAt, List.getD_eq_getElem?_getD, h]
theorem mix_set {P R : List Nat} {j k : Nat} (h : k < P.length) : (mixAt P R j k).set k (edt P R (k + 1) (j + 1)) = mixAt P R j (k + 1) := by
  apply List.ext_getElem
  · simp [mixAt]
  · intro i h1 h2
    simp only [mixAt, List.length_set, List.length_map, List.length_range] at h1
    simp only [List.getElem_set, mixAt, List.getElem_map, List.getElem_range]
    by_cases e : k = i
    · subst e; simp
    · rw [if_neg e]
      by_cases q : i < k
      · rw [if_pos q, if_pos (by omega)]
      · rw [if_neg q, if_neg (by omega)]
theorem row_0 {P R : List Nat} : ((List.range P.length).map fun (i : Nat) => (2 : Int) + (i : Int) * 2) = rowAt P R 0 := by
  unfold rowAt
  apply List.map_congr_left
  intro i hi
  have hi' : i < P.length := by simpa using hi
  rw [edt_i (by omega)]
  omega
end Mine
end

section
open PySem PySem.W PyProof.Rows
namespace Mine
def LevDP (xs ys : List Nat) (c v : Int) : Prop :=
  if c < 2 * ((xs.length : Int) - ys.length) ∨ c < 2 * ((ys.length : Int) - xs.length) then v = c + 1 else v = edl xs ys ∨ (v = c + 1 ∧ c < edl xs ys)
def LevRel (xs ys : List Nat) (c v : Int) : Prop :=
  (xs = ys ∧ v = 0) ∨ (xs ≠ ys ∧ ∃ p q xs' ys' : List Nat, xs = p ++ xs' ++ q ∧ ys = p ++ ys' ++ q ∧
    ((xs' = [] ∨ ys' = []) ∧ v = 2 * ((xs'.length : Int) + ys'.length) ∨ (xs' ≠ [] ∧ ys' ≠ [] ∧ xs'.head? ≠ ys'.head? ∧ xs'.getLast? ≠ ys'.getLast? ∧ LevDP xs' ys' c v)))
theorem edl_symm (xs ys : List Nat) : edl xs ys = edl ys xs := ed_symm cst_symm _ _
theorem LevDP.symm {xs ys : List Nat} {c v : Int} (h : LevDP xs ys c v) : LevDP ys xs c v := by
  unfold LevDP at *
  rw [edl_symm ys xs]
  by_cases e : c < 2 * ((xs.length : Int) - ys.length) ∨ c < 2 * ((ys.length : Int) - xs.length)
  · rw [if_pos e] at h; rw [if_pos e.symm]; exact h
  · rw [if_neg e] at h; rw [if_neg (fun q => e q.symm)]; exact h
theorem strip_rel {xs ys as bs : List Nat} {k j : Int} (hk0 : 0 ≤ k) (hk1 : k ≤ xs.length) (hk2 : k ≤ ys.length) (hk3 : xs.take k.toNat = ys.take k.toNat)
    (hk4 : k = xs.length ∨ k = ys.length ∨ xs.getD k.toNat 0 ≠ ys.getD k.toNat 0) (has : xs.drop k.toNat = as) (hbs : ys.drop k.toNat = bs)
    (hj0 : j ≤ 0) (hj1 : -j ≤ as.length) (hj2 : -j ≤ bs.length) (hj3 : as.drop (as.length + j).toNat = bs.drop (bs.length + j).toNat)
    (hj4 : -j = as.length ∨ -j = bs.length ∨ as.getD (as.length + j - 1).toNat 0 ≠ bs.getD (bs.length + j - 1).toNat 0) :
    ∃ p q, xs = p ++ as.take (as.length + j).toNat ++ q ∧ ys = p ++ bs.take (bs.length + j).toNat ++ q ∧
      (as.take (as.length + j).toNat ≠ [] → bs.take (bs.length + j).toNat ≠ [] → (as.take (as.length + j).toNat).head? ≠ (bs.take (bs.length + j).toNat).head? ∧ (as.take (as.length + j).toNat).getLast? ≠ (bs.take (bs.length + j).toNat).getLast?) := by
  refine ⟨xs.take k.toNat, as.drop (as.length + j).toNat, ?_, ?_, ?_⟩
  · rw [List.append_assoc, List.take_append_drop, ← has, List.take_append_drop]
  · rw [hj3, hk3, List.append_assoc, List.take_append_drop, ← hbs, List.take_append_drop]
  · intro h1 h2
    have la : 0 < (as.length + j).toNat ∧ 0 < as.length := by
      have := List.length_pos_iff.mpr h1
      simp at this; omega
    have lb : 0 < (bs.length + j).toNat ∧ 0 < bs.length := by
      have := List.length_pos_iff.mpr h2
      simp at this; omega
    have lx : as.length = xs.length - k.toNat := by rw [← has]; simp
    have ly : bs.length = ys.length - k.toNat := by rw [← hbs]; simp
    constructor
    · have d : xs.getD k.toNat 0 ≠ ys.getD k.toNat 0 := by
        rcases hk4 with h | h | h
        · omega
        · omega
        · exact h
      rw [List.head?_take, List.head?_take, if_neg (by omega), if_neg (by omega), ← has, ← hbs, List.head?_drop, List.head?_drop]
      have l1 : k.toNat < xs.length := by omega
      have l2 : k.toNat < ys.length := by omega
      rw [List.getD_eq_getElem?_getD, List.getD_eq_getElem?_getD, List.getElem?_eq_getElem l1, List.getElem?_eq_getElem l2] at d
      rw [List.getElem?_eq_getElem l1, List.getElem?_eq_getElem l2]
      simpa using d
    · have d : as.getD (as.length + j - 1).toNat 0 ≠ bs.getD (bs.length + j - 1).toNat 0 := by
        rcases hj4 with h | h | h
        · omega
        · omega
        · exact h
      have ea : (as.length + j - 1).toNat = (as.length + j).toNat - 1 := by omega
      have eb : (bs.length + j - 1).toNat = (bs.length + j).toNat - 1 := by omega
      rw [ea, eb] at d
      have l1 : (as.length + j).toNat - 1 < as.length := by omega
      have l2 : (bs.length + j).toNat - 1 < bs.length := by omega
      rw [List.getD_eq_getElem?_getD, List.getD_eq_getElem?_getD, List.getElem?_eq_getElem l1, List.getElem?_eq_getElem l2] at d
      have m1 : min (as.length + j).toNat as.length - 1 = (as.length + j).toNat - 1 := by omega
      have m2 : min (bs.length + j).toNat bs.length - 1 = (bs.length + j).toNat - 1 := by omega
      rw [List.getLast?_eq_getElem?, List.getLast?_eq_getElem?, List.length_take, List.length_take, m1, m2, List.getElem?_take, List.getElem?_take, if_pos (by omega), if_pos (by omega), List.getElem?_eq_getElem l1, List.getElem?_eq_getElem l2]
      simpa using d
/-- what the distance is, whatever the bound, where it isn't above it -/
theorem LevRel.edl_le {xs ys : List Nat} {c v : Int} (h : LevRel xs ys c v) : (edl xs ys ≤ c → v = edl xs ys) ∧ (c < edl xs ys → c < v) := by
  have hs : ∀ p q a b : List Nat, edl (p ++ a ++ q) (p ++ b ++ q) = edl a b := fun p q a b => by
    unfold edl
    rw [List.reverse_append, List.reverse_append, List.reverse_append, List.reverse_append, ed_app cst_0 cst_same, ed_app_r cst_0 cst_same]
  rcases h with ⟨rfl, rfl⟩ | ⟨_, p, q, a, b, rfl, rfl, h⟩
  · have : edl xs xs = 0 := by
      have := hs xs [] [] []
      simpa [edl, ed_nil_l] using this
    rw [this]; exact ⟨fun _ => rfl, fun h => h⟩
  · rw [hs]
    rcases h with ⟨h1, h2⟩ | ⟨_, _, _, _, h⟩
    · have : edl a b = 2 * ((a.length : Int) + b.length) := by
        rcases h1 with rfl | rfl
        · simp [edl, ed_nil_l]
        · simp [edl, ed_nil_r]
      rw [this, h2]; exact ⟨fun _ => rfl, fun h => h⟩
    · have g := ed_ge cst_0 a.reverse b.reverse
      simp only [List.length_reverse] at g
      have g' : 2 * ((a.length : Int) - b.length) ≤ edl a b ∧ 2 * ((b.length : Int) - a.length) ≤ edl a b := g
      unfold LevDP at h
      split at h <;> constructor <;> intro hc <;> omega
theorem edl_sub {xs ys : List Nat} (h : List.Sublist xs ys) : edl xs ys = 2 * ((ys.length : Int) - xs.length) := by
  have := ed_sub_eq cst_0 cst_same h.reverse
  simpa [edl] using this
theorem LevRel.symm_len {xs ys : List Nat} {c v : Int} (h : LevRel xs ys c v) (hl : xs.length = ys.length) (hs : List.Sublist ys xs) : v = 0 := by
  have e : ys = xs := hs.eq_of_length hl.symm
  rcases h with ⟨_, h⟩ | ⟨h, _⟩
  · exact h
  · exact absurd e.symm h
/-- one piece put in: the distance at any bound -/
theorem LevRel.piece {xs ys : List Nat} {c v : Int} (h : LevRel xs ys c v) {u m t : List Nat} (hy : ys = u ++ t) (hx : xs = u ++ m ++ t) : v = 2 * (m.length : Int) := by
  rcases h with ⟨rfl, rfl⟩ | ⟨_, p, q, a, b, hx', hy', h⟩
  · have := congrArg List.length (hy.symm.trans hx)
    simp at this
    simp [this]
  · have hlen : (a.length : Int) - b.length = m.length := by
      have l1 := congrArg List.length (hx.symm.trans hx')
      have l2 := congrArg List.length (hy.symm.trans hy')
      simp at l1 l2
      omega
    rcases h with ⟨h1, h2⟩ | ⟨ha, hb, hh, hl, _⟩
    · rcases h1 with rfl | rfl
      · have : b.length = 0 := by simp at hlen; omega
        simp at hlen h2 ⊢; omega
      · simp at hlen h2 ⊢; omega
    · exfalso
      have la := List.length_pos_iff.mpr ha
      have lb := List.length_pos_iff.mpr hb
      by_cases k : p.length < u.length
      · -- the place behind p lies within u
        apply hh
        have e1 : xs[p.length]? = a.head? := by
          rw [hx', List.append_assoc, List.getElem?_append_right (Nat.le_refl _), Nat.sub_self, List.getElem?_append_left la, List.head?_eq_getElem?]
        have e2 : ys[p.length]? = b.head? := by
          rw [hy', List.append_assoc, List.getElem?_append_right (Nat.le_refl _), Nat.sub_self, List.getElem?_append_left lb, List.head?_eq_getElem?]
        have e3 : xs[p.length]? = u[p.length]? := by rw [hx, List.append_assoc, List.getElem?_append_left k]
        have e4 : ys[p.length]? = u[p.length]? := by rw [hy, List.getElem?_append_left k]
        rw [← e1, ← e2, e3, e4]
      · apply hl
        have l2 := congrArg List.length (hy.symm.trans hy')
        simp at l2
        have e1 : xs.reverse[q.length]? = a.getLast? := by
          rw [hx', List.reverse_append, List.reverse_append, List.getElem?_append_right (by simp), List.length_reverse, Nat.sub_self, List.getElem?_append_left (by simpa using la), ← List.head?_eq_getElem?, List.head?_reverse]
        have e2 : ys.reverse[q.length]? = b.getLast? := by
          rw [hy', List.reverse_append, List.reverse_append, List.getElem?_append_right (by simp), List.length_reverse, Nat.sub_self, List.getElem?_append_left (by simpa using lb), ← List.head?_eq_getElem?, List.head?_reverse]
        have kt : q.length < t.reverse.length := by simp; omega
        have e3 : xs.reverse[q.length]? = t.reverse[q.length]? := by rw [hx, List.reverse_append, List.getElem?_append_left kt]
        have e4 : ys.reverse[q.length]? = t.reverse[q.length]? := by rw [hy, List.reverse_append, List.getElem?_append_left kt]
        rw [← e1, ← e2, e3, e4]
/-- not one piece: above the bound it's the bound and one -/
theorem LevRel.pieces {xs ys : List Nat} {c v : Int} (h : LevRel xs ys c v) (hn : ∀ u m t : List Nat, ys = u ++ t → xs = u ++ m ++ t → False) (hl : ys.length ≤ xs.length) (hc : c < 2 * ((xs.length : Int) - ys.length)) : v = c + 1 := by
  rcases h with ⟨rfl, rfl⟩ | ⟨_, p, q, a, b, hx', hy', h⟩
  · exact (hn xs [] [] (by simp) (by simp)).elim
  · have l1 := congrArg List.length hx'
    have l2 := congrArg List.length hy'
    simp at l1 l2
    rcases h with ⟨h1, h2⟩ | ⟨ha, hb, hh, hl, h⟩
    · exfalso
      rcases h1 with rfl | rfl
      · have : b = [] := List.length_eq_zero_iff.mp (by simp at l1; omega)
        subst this
        exact hn p [] q (by simpa using hy') (by simpa using hx')
      · exact hn p a q (by simpa using hy') hx'
    · unfold LevDP at h
      rw [if_pos (.inl (by omega))] at h
      exact h
end Mine
end

section
open PySem PySem.W PyProof.Rows
set_option maxRecDepth 100000
set_option maxHeartbeats 8000000
namespace Mine
theorem fill3 : PySem.Challenge.rw_nq0030_01.prog = PySem.Challenge.rw_nq0030_01.prog ∧ Mine.hd.heap_39 = Mine.hd.heap_39 := by w_top off; k_fill; exact ⟨rfl, rfl⟩

local macro_rules | `(tactic| k_steps) => `(tactic| repeat' ((fail_if_success (with_reducible show Sealed _)); (fail_if_success (with_reducible show KswEnd _ _ _ _ _ _ _ _ _ _ _ _)); (fail_if_success (with_reducible show InvEndN _ _ _ _ _ _ _)); first | (k_unfold; (try dsimp only)) | ((fail_if_success (with_reducible show wpAny _ _ (exec (Stmt.While _ _ _ _) _) _ _ _)); (fail_if_success (with_reducible show wpAny _ _ (exec (Stmt.For _ _ _ _ _) _) _ _ _)); (fail_if_success (with_reducible show wpAny _ _ (call (Value.ref _) _ _) _ _ _)); (fail_if_success (with_reducible show wpAny _ _ (call (Value.type "list") _ _) _ _ _)); (fail_if_success (with_reducible show wpAny _ _ (pyIter _) _ _ _)); (fail_if_success (with_reducible show wpAny _ _ (subscriptTail _ _ (Value.ref _) (Value.int _ _)) _ _ _)); (fail_if_success (with_reducible show wpAny _ _ (setItem (Value.ref _) (Value.int _ _) (Value.int _ _)) _ _ _)); (fail_if_success (with_reducible show wpAny _ _ (exec (Stmt.If (Expr.Compare (Expr.Call _ _ _ _) (CmpOp.Lt :: _) _ _) _ _ _) _) _ _ _)); (first | walk1 | (dsimp only; walk1))) | (leave1; walk_say "STEP leave1"; try dsimp only) | fail "no step"))
abbrev ConR (prog : Program) (w : World) (loose : List Str) (mean : ExcName → Option Value) (mg mb : Str → Option Value) (f : Addr) (news : List (Addr × Obj)) (vs : List Value) (R : Value → Prop) : Prop :=
  ∀ (dp un : Nat) (gd : Option (List Code)) (cn : Str) (cs : Scope) (a : Addr) (ccd : Value) (cl : List (Str × Addr)) (outer : List Env) (A₀ : Around) (base h₀ : Heap) (L : Addr) (m : Str → Option Value) (s : Shared) (Q E : Value → Shared → Prop),
    Below A₀ base outer h₀ → Fr h₀ L s.heap m → (Mine.hd.heap_39 w.params).In h₀ → News h₀ L s.heap news → Top Mine.hd.view_39 loose mean mg mb h₀ → cs.kind = .function →
    dp + 10 < recursionLimit → un + 100 < cLine → (∀ v h' tk', R v → Fr h₀ L h' m → News h₀ L h' news → Q v { s with heap := h', toks := tk' }) →
      wpAny (model prog w) (ktrTop dp un gd cn cs L a ccd cl outer) (call (.ref f) vs) Q E s

local macro_rules | `(tactic| walk_at "eval Subscript") => `(tactic| ((with_reducible show wpAny _ _ (eval (Expr.Subscript (Expr.Name _ _) (Expr.Slice none (some (Expr.BoolOp _ _ _)) none _) _) _) _ _ _); k_dflt (refine' post_cut ?zF ?zN ?zx ?zp ?zj0 ?zj1 ?zl ?zk ?zkx ?zkp ?zd ?_; (case zF => k_asm); (case zN => k_asm); (case zx => exact rfl); (case zp => exact rfl); (case zj0 => omega); (case zj1 => omega); (case zl => omega); (case zk => exact rfl); (case zkx => exact rfl); (case zkp => exact rfl); (case zd => exact rfl)); intro h' t' k' F' N' hl'; (try dsimp only); (try k_sweep)))

theorem w1_next {xs ys : List Nat} {k : Int} (h0 : 0 ≤ k) (h1 : k < xs.length) (h2 : k < ys.length) (h3 : xs.take k.toNat = ys.take k.toNat) (h : (Txt.item (S xs) k == Txt.item (S ys) k) = true) :
    xs.take (k + 1).toNat = ys.take (k + 1).toNat := by
  rw [it_at h0 h1, it_at h0 h2, beq_iff_eq, S_inj] at h
  have e : (k + 1).toNat = k.toNat + 1 := by omega
  have l1 : k.toNat < xs.length := by omega
  have l2 : k.toNat < ys.length := by omega
  rw [e, List.take_add_one, List.take_add_one, h3]
  simp only [List.getD_eq_getElem?_getD, List.getElem?_eq_getElem l1, List.getElem?_eq_getElem l2, Option.getD_some, List.cons.injEq, and_true] at h
  rw [List.getElem?_eq_getElem l1, List.getElem?_eq_getElem l2, h]
theorem w1_stop {xs ys : List Nat} {k : Int} (h0 : 0 ≤ k) (h1 : k < xs.length) (h2 : k < ys.length) (h : (Txt.item (S xs) k == Txt.item (S ys) k) = false) : xs.getD k.toNat 0 ≠ ys.getD k.toNat 0 := by
  rw [it_at h0 h1, it_at h0 h2] at h
  intro e
  rw [e] at h
  simp at h

theorem w2_next {as bs : List Nat} {j : Int} (h0 : j ≤ 0) (h1 : -j < as.length) (h2 : -j < bs.length) (h3 : as.drop (as.length + j).toNat = bs.drop (bs.length + j).toNat) (h : (Txt.item (S as) (j - 1) == Txt.item (S bs) (j - 1)) = true) :
    as.drop (as.length + (j - 1)).toNat = bs.drop (bs.length + (j - 1)).toNat := by
  rw [it_neg (by omega) (by omega), it_neg (by omega) (by omega), beq_iff_eq, S_inj] at h
  have ea : (as.length + j).toNat = (as.length + (j - 1)).toNat + 1 := by omega
  have eb : (bs.length + j).toNat = (bs.length + (j - 1)).toNat + 1 := by omega
  have l1 : (as.length + (j - 1)).toNat < as.length := by omega
  have l2 : (bs.length + (j - 1)).toNat < bs.length := by omega
  rw [List.drop_eq_getElem_cons l1, List.drop_eq_getElem_cons l2, ← ea, ← eb, h3]
  simp only [List.getD_eq_getElem?_getD, List.getElem?_eq_getElem l1, List.getElem?_eq_getElem l2, Option.getD_some, List.cons.injEq, and_true] at h
  rw [h]
theorem w2_stop {as bs : List Nat} {j : Int} (h0 : j ≤ 0) (h1 : -j < as.length) (h2 : -j < bs.length) (h : (Txt.item (S as) (j - 1) == Txt.item (S bs) (j - 1)) = false) : as.getD (as.length + j - 1).toNat 0 ≠ bs.getD (bs.length + j - 1).toNat 0 := by
  rw [it_neg (by omega) (by omega), it_neg (by omega) (by omega)] at h
  intro e
  have ea : (as.length + (j - 1)).toNat = (as.length + j - 1).toNat := by omega
  have eb : (bs.length + (j - 1)).toNat = (bs.length + j - 1).toNat := by omega
  rw [ea, eb, e] at h
  simp at h

theorem lev_call {prog : Program} {w : World} {loose mean mg mb} (news) (xs ys : List Nat) (c : Int) (ta tb tc : Tok) (ha : xs.length ≤ 40) (hb : ys.length ≤ 40) :
    ConR prog w loose mean mg mb 45 news [.str (S xs) ta, .str (S ys) tb, .int c tc] (fun v => ∃ i t, v = .int i t ∧ LevRel xs ys c i) := by
  intro dp un gd cn cs aF ccd cl outer A₀ base h₀ L m s Q E B₀ F₀ X₀ N₀ T₀ hcs hdp hun hret
  have hla : (S xs).length = xs.length := S_len xs
  have hlb : (S ys).length = ys.length := S_len ys
  refine wpAny_call ?_
  k_dflt cell_enter
  rename_i g1 L1 h1 FG1 F1 N1 B1 X1 T1
  replace F1 : Fr g1 L1 h1 (fun y => List.lookup y [(Str.ofString "max_cost", .int c tc), (Str.ofString "b", .str (S ys) tb), (Str.ofString "a", .str (S xs) ta)]) := F1
  k_steps
  · -- equal
    rename_i heq _ _ _ _
    have e : xs = ys := S_inj.mp (by simpa using heq)
    exact hret _ _ _ ⟨0, _, rfl, .inl ⟨e, rfl⟩⟩ (by assumption) (by assumption)
  rename_i hne h2 F2 N2
  have hne' : xs ≠ ys := fun e => by subst e; simp at hne
  clear hne
  refine wpAny_mono (Q := fun f s' => Sealed (f = Flow.next ∧ ∃ (k : Int) (t : Tok) (u : Str → Option Value) (h' : Heap) (tk' : Nat), s' = { s with heap := h', toks := tk' } ∧ (0 ≤ k ∧ k ≤ xs.length ∧ k ≤ ys.length ∧ xs.take k.toNat = ys.take k.toNat) ∧ (k = xs.length ∨ k = ys.length ∨ xs.getD k.toNat 0 ≠ ys.getD k.toNat 0) ∧
      Fr g1 L1 h' (kstB (fun z => if [Str.ofString "pre"].contains z then u z else if z = Str.ofString "pre" then some (.int 0 tk) else List.lookup z [(Str.ofString "max_cost", .int c tc), (Str.ofString "b", .str (S ys) tb), (Str.ofString "a", .str (S xs) ta)]) [(Str.ofString "pre", .int k t)]) ∧ News g1 L1 h' news)) ?w ?q (fun _ _ h => h)
  case w =>
    refine ksw_while (σ := Int × Tok) (fun _ => news) (fun c => [(Str.ofString "pre", .int c.1 c.2)]) (fun _ => True) ["pre"] (fun c => 0 ≤ c.1 ∧ c.1 ≤ xs.length ∧ c.1 ≤ ys.length ∧ xs.take c.1.toNat = ys.take c.1.toNat) (fun c => (xs.length - c.1).toNat) (0, tk) F2 N2 trivial ?hk ?hp ?turn
    case hk => intro p hp; simp only [List.mem_singleton] at hp; subst hp; rfl
    case hp => simp
    case turn =>
      rintro ⟨k, t⟩ u h tk' - ⟨hk0, hk1, hk2, hk3⟩ F2 N2
      dsimp only at *
      k_steps
      · have e1 : k < xs.length := by omega
        have e2 : k < ys.length := by omega
        refine ksw_end (k + 1, ?tok) (by assumption) (by assumption) (fun _ hp => hp) trivial ?hk ?hr ⟨by dsimp only; omega, by dsimp only; omega, by dsimp only; omega, w1_next hk0 e1 e2 hk3 (by assumption)⟩ (by dsimp only; omega)
        case hk => intro p hp; simp only [List.mem_singleton] at hp; subst hp; rfl
        case hr => intro z hz1 hz2; simp at hz1; simp [kstB, hz1]
      · have e1 : k < xs.length := by omega
        have e2 : k < ys.length := by omega
        exact ⟨by first | rfl | trivial, k, t, u, _, _, rfl, ⟨hk0, hk1, hk2, hk3⟩, .inr (.inr (w1_stop hk0 e1 e2 (by assumption))), by assumption, by assumption⟩
      · exact ⟨by first | rfl | trivial, k, t, u, _, _, rfl, ⟨hk0, hk1, hk2, hk3⟩, .inr (.inl (by omega)), by assumption, by assumption⟩
      · exact ⟨by first | rfl | trivial, k, t, u, _, _, rfl, ⟨hk0, hk1, hk2, hk3⟩, .inl (by omega), by assumption, by assumption⟩
  case q =>
    rintro f s' ⟨rfl, k, t, u, h3, tk3, rfl, ⟨hk0, hk1, hk2, hk3⟩, hk4, F3, N3⟩
    clear F2 N2
    replace F3 : Fr g1 L1 h3 (fun y => if y = Str.ofString "pre" then some (.int k t) else List.lookup y [(Str.ofString "max_cost", .int c tc), (Str.ofString "b", .str (S ys) tb), (Str.ofString "a", .str (S xs) ta)]) :=
      frTo F3 (fun y => by by_cases e : y = Str.ofString "pre" <;> simp [kstB, e])
    dsimp only
    k_steps
    rename_i _ tA kA lA _ _ tB tkB lB _ h4 F4 N4
    rw [sl_from hk0 hk1, sl_from hk0 hk2] at F4
    clear lA lB
    generalize has : xs.drop k.toNat = as at F4
    generalize hbs : ys.drop k.toNat = bs at F4
    have hla' : (S as).length = as.length := S_len as
    have hlb' : (S bs).length = bs.length := S_len bs
    have hA4 : as.length ≤ 40 := by rw [← has]; simp; omega
    have hB4 : bs.length ≤ 40 := by rw [← hbs]; simp; omega
    refine wpAny_mono (Q := fun f s' => Sealed (f = Flow.next ∧ ∃ (j : Int) (t5 : Tok) (u : Str → Option Value) (h' : Heap) (tk' : Nat), s' = { s with heap := h', toks := tk' } ∧ (j ≤ 0 ∧ -j ≤ as.length ∧ -j ≤ bs.length ∧ as.drop (as.length + j).toNat = bs.drop (bs.length + j).toNat) ∧ (-j = as.length ∨ -j = bs.length ∨ as.getD (as.length + j - 1).toNat 0 ≠ bs.getD (bs.length + j - 1).toNat 0) ∧
      Fr g1 L1 h' (kstB (fun z => if [Str.ofString "post"].contains z then u z else if z = Str.ofString "post" then some (.int 0 (tkB + 1)) else if z = Str.ofString "b" then some (.str (S bs) tB) else if z = Str.ofString "a" then some (.str (S as) tA) else if z = Str.ofString "pre" then some (.int k t) else List.lookup z [(Str.ofString "max_cost", .int c tc), (Str.ofString "b", .str (S ys) tb), (Str.ofString "a", .str (S xs) ta)]) [(Str.ofString "post", .int j t5)]) ∧ News g1 L1 h' news)) ?w ?q (fun _ _ h => h)
    case w =>
      refine ksw_while (σ := Int × Tok) (fun _ => news) (fun c => [(Str.ofString "post", .int c.1 c.2)]) (fun _ => True) ["post"] (fun c => c.1 ≤ 0 ∧ -c.1 ≤ as.length ∧ -c.1 ≤ bs.length ∧ as.drop (as.length + c.1).toNat = bs.drop (bs.length + c.1).toNat) (fun c => (as.length + c.1).toNat) (0, tkB + 1) F4 N4 trivial ?hk ?hp ?turn
      case hk => intro p hp; simp only [List.mem_singleton] at hp; subst hp; rfl
      case hp => simp
      case turn =>
        rintro ⟨j, t'⟩ u h tk' - ⟨hj0, hj1, hj2, hj3⟩ F5 N5
        dsimp only at *
        clear hla hlb
        k_steps
        · have e1 : -j < as.length := by omega
          have e2 : -j < bs.length := by omega
          refine ksw_end (j - 1, ?tok2) (by assumption) (by assumption) (fun _ hp => hp) trivial ?hk ?hr ⟨by dsimp only; omega, by dsimp only; omega, by dsimp only; omega, w2_next hj0 e1 e2 hj3 (by assumption)⟩ (by dsimp only; omega)
          case hk => intro p hp; simp only [List.mem_singleton] at hp; subst hp; rfl
          case hr => intro z hz1 hz2; simp at hz1; simp [kstB, hz1]
        · have e1 : -j < as.length := by omega
          have e2 : -j < bs.length := by omega
          exact ⟨by first | rfl | trivial, j, t', u, _, _, rfl, ⟨hj0, hj1, hj2, hj3⟩, .inr (.inr (w2_stop hj0 e1 e2 (by assumption))), by assumption, by assumption⟩
        · exact ⟨by first | rfl | trivial, j, t', u, _, _, rfl, ⟨hj0, hj1, hj2, hj3⟩, .inr (.inl (by omega)), by assumption, by assumption⟩
        · exact ⟨by first | rfl | trivial, j, t', u, _, _, rfl, ⟨hj0, hj1, hj2, hj3⟩, .inl (by omega), by assumption, by assumption⟩
    case q =>
      rintro f s' ⟨rfl, j, t5, u5, h5, tk5, rfl, ⟨hj0, hj1, hj2, hj3⟩, hj4, F5, N5⟩
      clear F4 N4
      replace F5 : Fr g1 L1 h5 (fun y => if y = Str.ofString "post" then some (.int j t5) else if y = Str.ofString "b" then some (.str (S bs) tB) else if y = Str.ofString "a" then some (.str (S as) tA) else List.lookup y [(Str.ofString "pre", .int k t), (Str.ofString "max_cost", .int c tc)]) :=
        frTo F5 (fun y => by
          rcases Classical.em (y = Str.ofString "post") with rfl | e1
          · rfl
          rcases Classical.em (y = Str.ofString "b") with rfl | e2
          · rfl
          rcases Classical.em (y = Str.ofString "a") with rfl | e3
          · rfl
          rcases Classical.em (y = Str.ofString "pre") with rfl | e4
          · rfl
          rcases Classical.em (y = Str.ofString "max_cost") with rfl | e5
          · rfl
          simp [kstB, lk, e1, e2, e3, e4, e5])
      dsimp only
      obtain ⟨p0, q0, hxs, hys, hmax⟩ := strip_rel hk0 hk1 hk2 hk3 hk4 has hbs hj0 hj1 hj2 hj3 hj4
      k_steps
      rotate_left
      · refine hret _ _ _ ⟨_, _, rfl, .inr ⟨hne', p0, q0, _, _, hxs, hys, .inl ⟨.inr ?_, ?_⟩⟩⟩ (by assumption) (by assumption)
        · apply List.length_eq_zero_iff.mp; rw [← S_len]; omega
        · rw [S_len, S_len]
      · refine hret _ _ _ ⟨_, _, rfl, .inr ⟨hne', p0, q0, _, _, hxs, hys, .inl ⟨.inl ?_, ?_⟩⟩⟩ (by assumption) (by assumption)
        · apply List.length_eq_zero_iff.mp; rw [← S_len]; omega
        · rw [S_len, S_len]
      rename Fr _ _ _ _ => F6
      rename News _ _ _ _ => N6
      have nA6 : ((S (as.take (as.length + j).toNat)).length : Int) ≠ 0 := by assumption
      have nB6 : ((S (bs.take (bs.length + j).toNat)).length : Int) ≠ 0 := by assumption
      have eA6 : as.take (as.length + j).toNat ≠ [] := fun e => by rw [S_len, e] at nA6; simp at nA6
      have eB6 : bs.take (bs.length + j).toNat ≠ [] := fun e => by rw [S_len, e] at nB6; simp at nB6
      obtain ⟨hmx1, hmx2⟩ := hmax eA6 eB6
      have hl6 : (as.take (as.length + j).toNat).length ≤ 40 := by simp; omega
      have hl6' : (bs.take (bs.length + j).toNat).length ≤ 40 := by simp; omega
      clear hmax hk3 hk4 hj3 hj4
      generalize has6 : as.take (as.length + j).toNat = as6 at *
      generalize hbs6 : bs.take (bs.length + j).toNat = bs6 at *
      have hsA : (S as6).length = as6.length := S_len as6
      have hsB : (S bs6).length = bs6.length := S_len bs6
      -- the shorter one first
      refine wpAny_mono (Q := fun f s' => Sealed (f = Flow.next ∧ ∃ (P R : List Nat) (tP tR : Tok) (h' : Heap) (tk' : Nat), s' = { s with heap := h', toks := tk' } ∧ P.length ≤ R.length ∧ (P = as6 ∧ R = bs6 ∨ P = bs6 ∧ R = as6) ∧
        Fr g1 L1 h' (fun y => if y = Str.ofString "a" then some (.str (S P) tP) else if y = Str.ofString "b" then some (.str (S R) tR) else if y = Str.ofString "post" then some (.int j t5) else List.lookup y [(Str.ofString "pre", .int k t), (Str.ofString "max_cost", .int c tc)]) ∧ News g1 L1 h' news)) ?w ?q (fun _ _ h => h)
      case w =>
        walk1
        k_steps
        · refine ⟨rfl, bs6, as6, _, _, _, _, rfl, by omega, .inr ⟨rfl, rfl⟩, frTo (by assumption) (fun y => by
            rcases Classical.em (y = Str.ofString "a") with rfl | e0
            · rfl
            rcases Classical.em (y = Str.ofString "b") with rfl | e1
            · rfl
            rcases Classical.em (y = Str.ofString "post") with rfl | e2
            · rfl
            rcases Classical.em (y = Str.ofString "pre") with rfl | e3
            · rfl
            rcases Classical.em (y = Str.ofString "max_cost") with rfl | e4
            · rfl
            simp [lk, e0, e1, e2, e3, e4]), by rename News _ _ _ _ => N7; exact fun p hp => N7 p (.tail _ hp)⟩
        · refine ⟨rfl, as6, bs6, _, _, _, _, rfl, by omega, .inl ⟨rfl, rfl⟩, frTo (by assumption) (fun y => by
            rcases Classical.em (y = Str.ofString "a") with rfl | e0
            · rfl
            rcases Classical.em (y = Str.ofString "b") with rfl | e1
            · rfl
            rcases Classical.em (y = Str.ofString "post") with rfl | e2
            · rfl
            rcases Classical.em (y = Str.ofString "pre") with rfl | e3
            · rfl
            rcases Classical.em (y = Str.ofString "max_cost") with rfl | e4
            · rfl
            simp [lk, e0, e1, e2, e3, e4]), by assumption⟩
      case q =>
        rintro f s' ⟨rfl, P, R, tP, tR, h7, tk7, rfl, hPR, hor, F7, N7⟩
        clear F6 N6
        have hP : P ≠ [] := by rcases hor with ⟨rfl, _⟩ | ⟨rfl, _⟩ <;> assumption
        have hP0 : 0 < P.length := List.length_pos_iff.mpr hP
        have hR40 : R.length ≤ 40 := by rcases hor with ⟨_, rfl⟩ | ⟨_, rfl⟩ <;> assumption
        have hfin : ∀ i, LevDP P R c i → LevRel xs ys c i := by
          intro i hi
          refine .inr ⟨hne', p0, q0, as6, bs6, hxs, hys, .inr ⟨eA6, eB6, hmx1, hmx2, ?_⟩⟩
          rcases hor with ⟨rfl, rfl⟩ | ⟨rfl, rfl⟩
          · exact hi
          · exact hi.symm
        have hsP : (S P).length = P.length := S_len P
        have hsR : (S R).length = R.length := S_len R
        clear hor hxs hys hmx1 hmx2 hsA hsB hl6 hl6' nA6 nB6 eA6 eB6 has6 hbs6 has hbs hla hlb hla' hlb' hj0 hj1 hj2 hk0 hk1 hk2 hA4 hB4 ha hb
        dsimp only
        k_steps
        · refine hret _ _ _ ⟨_, _, rfl, hfin _ ?_⟩ (by assumption) (by assumption)
          unfold LevDP
          rw [if_pos (.inr (by omega))]
        have hdiff : ¬ (c < 2 * ((P.length : Int) - R.length) ∨ c < 2 * ((R.length : Int) - P.length)) := by omega
        refine list_range_k (n := P.length) rfl (by assumption) (by assumption) (by assumption) (by rw [hsP]; exact small_two hP0 (by omega)) (by rw [hsP]; exact size_two hP0) (by omega) ?_
        intro D us kD h8 tk8 F8 N8 l8 I8
        rw [row_0 (R := R)] at I8
        dsimp only
        k_steps
        refine For_invV g1 rfl rfl ?_
        k_steps
        rename Fr _ _ _ _ => F9
        rename News _ _ _ _ => N9
        rename IsRange _ _ _ _ _ _ _ _ => R9
        obtain ⟨m9, tr9, F9⟩ : ∃ (m9 : Str → Option Value) (tr9 : Tok), Fr g1 L1 _ (fun y => if y = Str.ofString "result" then some (.int 0 tr9) else if y = Str.ofString "row" then some (.ref D) else if y = Str.ofString "a" then some (.str (S P) tP) else if y = Str.ofString "b" then some (.str (S R) tR) else if y = Str.ofString "max_cost" then some (.int c tc) else m9 y) :=
          ⟨_, _, frTo F9 (fun y => by
            rcases Classical.em (y = Str.ofString "result") with rfl | e0
            · rfl
            rcases Classical.em (y = Str.ofString "row") with rfl | e1
            · rfl
            rcases Classical.em (y = Str.ofString "a") with rfl | e2
            · rfl
            rcases Classical.em (y = Str.ofString "b") with rfl | e3
            · rfl
            rcases Classical.em (y = Str.ofString "max_cost") with rfl | e4
            · rfl
            simp only [if_neg e0, if_neg e1, if_neg e2, if_neg e3, if_neg e4]; rfl)⟩
        refine kst_range (n := R.length) (σ := List Value × Nat × Int × Tok) (fun c => (D, listOf c.1.toArray c.2.1) :: news) (fun c => [(Str.ofString "result", .int c.2.2.1 c.2.2.2)]) (fun _ => True)
          ["bchar", "distance", "result", "minimum", "index", "substitute", "insert_delete"] (fun pre c => IntsAre c.1 (rowAt P R pre.length) ∧ (pre.length ≠ 0 → c.2.2.1 = edt P R P.length pre.length)) (us, kD, 0, tr9)
          rfl R9 (small_one (by omega) (by omega) (by omega) (by omega)) (by rw [rangeSize_one, hsR]; split <;> omega) F9 N9 trivial ?hk ?hp ?turn ?done
        case hk => intro p hp; simp only [List.mem_singleton] at hp; subst hp; rfl
        case hp => exact ⟨I8, fun e => (e rfl).elim⟩
        case done =>
          rintro ⟨us', kD', r, tr⟩ u h' tk' - ⟨hI, hr⟩ F10 N10
          rw [rangeKs_length] at hI hr
          dsimp only at *
          k_steps
          refine hret _ _ _ ⟨_, _, rfl, hfin _ ?_⟩ (by assumption) (fun p hp => ?_)
          · unfold LevDP
            rw [if_neg hdiff, ← edt_full]
            exact .inl (hr (by omega))
          · rename News _ _ _ _ => N11
            exact N11 p (.tail _ hp)
        case turn =>
          rintro ⟨us', kD', r, tr⟩ pre k' t' u' h' tk' own hk' hlt hoff - ⟨hI, hr⟩ F10 N10
          dsimp only at *
          rw [Int.zero_add] at hk'
          subst hk'
          generalize hj : pre.length = jj at *
          k_steps
          rename Fr _ _ _ _ => F11
          rename News _ _ _ _ => N11
          rw [it_at (by omega) (by omega)] at F11
          obtain ⟨mR, tm0, tr0, td0, tch, tbi, F11, hmR⟩ : ∃ (mR : Str → Option Value) (tm0 tr0 td0 tch tbi : Tok), Fr g1 L1 _ (fun y => if y = Str.ofString "minimum" then some (.int 9223372036854775807 tm0) else if y = Str.ofString "result" then some (.int (jj * 2) tr0) else if y = Str.ofString "distance" then some (.int (jj * 2) td0) else if y = Str.ofString "bchar" then some (.str (S [R.getD jj 0]) tch) else if y = Str.ofString "bindex" then some (.int jj tbi) else if y = Str.ofString "row" then some (.ref D) else if y = Str.ofString "a" then some (.str (S P) tP) else if y = Str.ofString "b" then some (.str (S R) tR) else if y = Str.ofString "max_cost" then some (.int c tc) else mR y) ∧ (∀ z, z ≠ Str.ofString "bindex" → (["bchar", "distance", "result", "minimum", "index", "substitute", "insert_delete"] : List Str).contains z = false → z ≠ Str.ofString "row" → z ≠ Str.ofString "a" → z ≠ Str.ofString "b" → z ≠ Str.ofString "max_cost" → mR z = m9 z) :=
            ⟨fun y => kstB (fun z => if (["bchar", "distance", "result", "minimum", "index", "substitute", "insert_delete"] : List Str).contains z then u' z else (fun y => if y = Str.ofString "result" then some (.int 0 tr9) else if y = Str.ofString "row" then some (.ref D) else if y = Str.ofString "a" then some (.str (S P) tP) else if y = Str.ofString "b" then some (.str (S R) tR) else if y = Str.ofString "max_cost" then some (.int c tc) else m9 y) z) [] y, _, _, _, _, _, frTo F11 (fun y => by
              rcases Classical.em (y = Str.ofString "minimum") with rfl | e0
              · rfl
              rcases Classical.em (y = Str.ofString "result") with rfl | e1
              · rfl
              rcases Classical.em (y = Str.ofString "distance") with rfl | e2
              · rfl
              rcases Classical.em (y = Str.ofString "bchar") with rfl | e3
              · rfl
              rcases Classical.em (y = Str.ofString "bindex") with rfl | e4
              · rfl
              rcases Classical.em (y = Str.ofString "row") with rfl | e5
              · rfl
              rcases Classical.em (y = Str.ofString "a") with rfl | e6
              · rfl
              rcases Classical.em (y = Str.ofString "b") with rfl | e7
              · rfl
              rcases Classical.em (y = Str.ofString "max_cost") with rfl | e8
              · rfl
              simp [kstB, e0, e1, e2, e3, e4, e5, e6, e7, e8]), fun z hz0 hz1 hz2 hz3 hz4 hz5 => by
                have hz6 : z ≠ Str.ofString "result" := fun e => by subst e; simp at hz1
                simp only [kstB, hz1, Bool.false_eq_true, if_false, if_neg hz2, if_neg hz3, if_neg hz4, if_neg hz5, if_neg hz6]⟩
          clear F10 N10
          refine wpAny_mono (Q := fun f s' => Sealed (f = Flow.next ∧ ∃ (us2 : List Value) (kD2 : Nat) (mn rr : Int) (tm tr2 : Tok) (m12 : Str → Option Value) (h' : Heap) (tk' : Nat), s' = { s with heap := h', toks := tk' } ∧ IntsAre us2 (rowAt P R (jj + 1)) ∧ rr = edt P R P.length (jj + 1) ∧ (∀ i, i < P.length → mn ≤ edt P R (i + 1) (jj + 1)) ∧
            (∀ z, z ≠ Str.ofString "bindex" → (["bchar", "distance", "result", "minimum", "index", "substitute", "insert_delete"] : List Str).contains z = false → z ≠ Str.ofString "row" → z ≠ Str.ofString "a" → z ≠ Str.ofString "b" → z ≠ Str.ofString "max_cost" → m12 z = m9 z) ∧
            Fr g1 L1 h' (fun y => if y = Str.ofString "minimum" then some (.int mn tm) else if y = Str.ofString "result" then some (.int rr tr2) else if y = Str.ofString "row" then some (.ref D) else if y = Str.ofString "a" then some (.str (S P) tP) else if y = Str.ofString "b" then some (.str (S R) tR) else if y = Str.ofString "max_cost" then some (.int c tc) else m12 y) ∧ News g1 L1 h' ((D, listOf us2.toArray kD2) :: (news ++ own)))) ?w ?q (fun _ _ h => h)
          case q =>
            rintro f s' ⟨rfl, us2, kD2, mn, rr, tm, tr2, m12, h12, tk12, rfl, hI2, hr2, hmn, hm12, F12, N12⟩
            clear F11 N11
            dsimp only
            k_steps
            · refine hret _ _ _ ⟨_, _, rfl, hfin _ ?_⟩ (by assumption) (fun p hp => ?_)
              · unfold LevDP
                rw [if_neg hdiff]
                obtain ⟨i, hi, hle⟩ := edt_row hP hlt
                have := hmn i hi
                exact .inr ⟨rfl, by omega⟩
              · rename News _ _ _ _ => N20
                exact N20 p (.tail _ (List.mem_append_left _ hp))
            · refine kst_end (us2, kD2, rr, ?tb3) F12 N12 ?hn3 ?ho3 rfl trivial ?hk3 ?hr3 ?hp3
              case hn3 =>
                intro p hp
                rcases List.mem_cons.mp hp with rfl | hp
                · exact .head _
                · exact .tail _ (List.mem_append_left _ hp)
              case ho3 => exact fun p hp => .tail _ (List.mem_append_right _ hp)
              case hk3 => intro p hp; simp only [List.mem_singleton] at hp; subst hp; rfl
              case hr3 =>
                intro z hz hz1 hz2
                rcases Classical.em (z = Str.ofString "row") with rfl | e2
                · rfl
                rcases Classical.em (z = Str.ofString "a") with rfl | e3
                · rfl
                rcases Classical.em (z = Str.ofString "b") with rfl | e4
                · rfl
                rcases Classical.em (z = Str.ofString "max_cost") with rfl | e5
                · rfl
                have hz2' := hz2
                simp only [List.contains_cons, List.contains_nil, Bool.or_false, Bool.or_eq_false_iff, beq_eq_false_iff_ne, ne_eq] at hz2'
                obtain ⟨q1, q2, q3, q4, q5, q6, q7⟩ := hz2'
                simp only [if_neg q3, if_neg q4, if_neg e2, if_neg e3, if_neg e4, if_neg e5]
                exact hm12 z hz hz2 e2 e3 e4 e5
              case hp3 =>
                have hl2 : (pre ++ [((jj : Nat) : Int)]).length = jj + 1 := by simp [hj]
                rw [hl2]
                exact ⟨hI2, fun _ => hr2⟩
          case w =>
            refine For_invV g1 rfl rfl ?_
            k_steps
            rename Fr _ _ _ _ => F13
            rename News _ _ _ _ => N13
            rename IsRange _ _ _ _ _ _ _ _ => R13
            refine kst_range (n := P.length) (σ := List Value × Nat × Int × Tok × Int × Tok × Int × Tok) (fun c => (D, listOf c.1.toArray c.2.1) :: (news ++ own)) (fun c => [(Str.ofString "distance", .int c.2.2.1 c.2.2.2.1), (Str.ofString "result", .int c.2.2.2.2.1 c.2.2.2.2.2.1), (Str.ofString "minimum", .int c.2.2.2.2.2.2.1 c.2.2.2.2.2.2.2)]) (fun _ => True)
              ["distance", "result", "minimum", "substitute", "insert_delete"] (fun pre c => IntsAre c.1 (mixAt P R jj pre.length) ∧ c.2.2.1 = edt P R pre.length jj ∧ (c.2.2.2.2.1 = if pre.length = 0 then 2 * (jj : Int) else edt P R pre.length (jj + 1)) ∧ (∀ i, i < pre.length → c.2.2.2.2.2.2.1 ≤ edt P R (i + 1) (jj + 1)))
              (us', kD', jj * 2, td0, jj * 2, tr0, 9223372036854775807, tm0)
              rfl R13 (small_one (by omega) (by omega) (by omega) (by omega)) (by rw [rangeSize_one, hsP]; split <;> omega) F13 N13 trivial ?hk ?hp ?turn ?done
            case hk => intro p hp; simp only [List.mem_cons, List.not_mem_nil, or_false] at hp; rcases hp with rfl | rfl | rfl <;> rfl
            case hp => exact ⟨by rw [List.length_nil, mix_0]; exact hI, by rw [List.length_nil, edt_0 (by omega)]; dsimp only; omega, by simp; omega, fun i h => absurd h (Nat.not_lt_zero _)⟩
            case done =>
              rintro ⟨us2, kD2, d2, td2, r2, tr2, mn2, tm2⟩ u2 h' tk' - ⟨hI2, hd2, hr2, hmn2⟩ F14 N14
              rw [rangeKs_length] at hI2 hd2 hr2 hmn2
              dsimp only at *
              refine ⟨rfl, us2, kD2, mn2, r2, tm2, tr2, ?mz, h', tk', rfl, by rw [← mix_n]; exact hI2, by rw [hr2, if_neg (by omega)], hmn2, ?mz1, frTo F14 ?mz2, N14⟩
              case mz2 =>
                intro y
                rcases Classical.em (y = Str.ofString "minimum") with rfl | e0
                · rfl
                rcases Classical.em (y = Str.ofString "result") with rfl | e1
                · rfl
                rcases Classical.em (y = Str.ofString "row") with rfl | e2
                · rfl
                rcases Classical.em (y = Str.ofString "a") with rfl | e3
                · rfl
                rcases Classical.em (y = Str.ofString "b") with rfl | e4
                · rfl
                rcases Classical.em (y = Str.ofString "max_cost") with rfl | e5
                · rfl
                simp only [if_neg e0, if_neg e1, if_neg e2, if_neg e3, if_neg e4, if_neg e5]
                rfl
              case mz1 =>
                intro z hz0 hz1 hz2 hz3 hz4 hz5
                have hz1' := hz1
                simp only [List.contains_cons, List.contains_nil, Bool.or_false, Bool.or_eq_false_iff, beq_eq_false_iff_ne, ne_eq] at hz1'
                obtain ⟨q1, q2, q3, q4, q5, q6, q7⟩ := hz1'
                simp [kstB, q1, q2, q3, q4, q5, q6, q7, hz0, hz2, hz3, hz4, hz5]
                exact hmR z hz0 hz1 hz2 hz3 hz4 hz5
            case turn =>
              rintro ⟨us2, kD2, d2, td2, r2, tr2, mn2, tm2⟩ pre2 k2 t2 u2 h14 tk14 own2 hk2 hlt2 hoff2 - ⟨hI2, hd2, hr2, hmn2⟩ F14 N14
              dsimp only at *
              rw [Int.zero_add] at hk2
              subst hk2
              generalize hj2 : pre2.length = ii at *
              k_steps
              rw [it_at (by omega) (by omega)]
              have hsc : subCost (S [R.getD jj 0]) (S [P.getD ((ii : Nat) : Int).toNat 0]) = cst (R.getD jj 0) (P.getD ii 0) := rfl
              refine' (sub_cost _ _ _ _ _ (by rw [S_len]; simp) (by rw [S_len]; simp)) _ _ _ _ _ _ _ _ _ _ _ _ _ _ _ _ _ ?zB ?zF ?zX ?zN ?zT ?zC ?zd ?zu ?zR
              case zB => k_asm
              case zF => k_asm
              case zX => k_asm
              case zN => k_asm
              case zT => k_asm
              case zC => exact rfl
              case zd => dsimp only; omega
              case zu => dsimp only; omega
              case zR =>
                intro t15 h15 tk15 F15 N15
                rw [hsc]
                dsimp only
                k_steps
                rename Fr _ _ _ _ => F16
                rename News _ _ _ _ => N16
                refine item_anyK (ns := mixAt P R jj ii) (PySem.IsL.isList (N16 _ (.head _)).1) hI2 (by omega) (by rw [mix_len]; omega) (by omega) ?_
                intro t17
                have hget : (mixAt P R jj ii).getD ((ii : Nat) : Int).toNat 0 = edt P R (ii + 1) jj := mix_get hlt2
                rw [hget]
                dsimp only
                k_steps
                rename Fr _ _ _ _ => F17
                rename News _ _ _ _ => N17
                have hv : (if d2 + cst (R.getD jj 0) (P.getD ii 0) < (if edt P R (ii + 1) jj < r2 then edt P R (ii + 1) jj else r2) + 2 then d2 + cst (R.getD jj 0) (P.getD ii 0) else (if edt P R (ii + 1) jj < r2 then edt P R (ii + 1) jj else r2) + 2) = edt P R (ii + 1) (jj + 1) := by
                  rw [← edt_code (r := r2) hlt2 hlt hr2, ← hd2]
                  split <;> split <;> omega
                rw [hv] at F17
                rw [hv]
                refine set_k (news := (news ++ own) ++ own2) F17 N17 ?_ hI2 (by omega) (by rw [mix_len]; omega) (by omega) ?_
                · intro p hp
                  rcases List.mem_append.mp hp with hp | hp
                  · rcases List.mem_append.mp hp with hp | hp
                    · exact Nat.ne_of_lt (l8 p hp)
                    · exact hoff p hp _ (by simp)
                  · exact hoff2 p hp _ (by simp)
                intro h18 us3 F18 N18 I18
                have hset : (mixAt P R jj ii).set ((ii : Nat) : Int).toNat (edt P R (ii + 1) (jj + 1)) = mixAt P R jj (ii + 1) := mix_set hlt2
                rw [hset] at I18
                clear F17 N17
                dsimp only
                k_steps
                · rename Fr _ _ _ _ => F19
                  rename News _ _ _ _ => N19
                  refine kst_end (us3, kD2, edt P R (ii + 1) jj, ?ta1, edt P R (ii + 1) (jj + 1), ?tb1, edt P R (ii + 1) (jj + 1), ?tc1) F19 N19 ?hn1 ?ho1 rfl trivial ?hk1 ?hr1 ?hp1
                  case hn1 =>
                    intro p hp
                    rcases List.mem_cons.mp hp with rfl | hp
                    · exact .head _
                    · exact .tail _ (List.mem_append_left _ hp)
                  case ho1 => exact fun p hp => .tail _ (List.mem_append_right _ hp)
                  case hk1 => intro p hp; simp only [List.mem_cons, List.not_mem_nil, or_false] at hp; rcases hp with rfl | rfl | rfl <;> rfl
                  case hr1 =>
                    intro z hz hz1 hz2
                    simp only [List.contains_cons, List.contains_nil, Bool.or_false, Bool.or_eq_false_iff, beq_eq_false_iff_ne, ne_eq] at hz2
                    obtain ⟨q1, q2, q3, q4, q5⟩ := hz2
                    simp [kstB, q1, q2, q3, q4, q5, hz]
                  case hp1 =>
                    have hl2 : (pre2 ++ [((ii : Nat) : Int)]).length = ii + 1 := by simp [hj2]
                    rw [hl2]
                    refine ⟨I18, rfl, by dsimp only; rw [if_neg (by omega)], fun i hi => ?_⟩
                    dsimp only
                    rcases Nat.lt_or_ge i ii with h | h
                    · have := hmn2 i h; omega
                    · have e : i = ii := by omega
                      subst e; omega
                · rename Fr _ _ _ _ => F19
                  rename News _ _ _ _ => N19
                  refine kst_end (us3, kD2, edt P R (ii + 1) jj, ?ta2, edt P R (ii + 1) (jj + 1), ?tb2, mn2, ?tc2) F19 N19 ?hn2 ?ho2 rfl trivial ?hk2 ?hr2 ?hp2
                  case hn2 =>
                    intro p hp
                    rcases List.mem_cons.mp hp with rfl | hp
                    · exact .head _
                    · exact .tail _ (List.mem_append_left _ hp)
                  case ho2 => exact fun p hp => .tail _ (List.mem_append_right _ hp)
                  case hk2 => intro p hp; simp only [List.mem_cons, List.not_mem_nil, or_false] at hp; rcases hp with rfl | rfl | rfl <;> rfl
                  case hr2 =>
                    intro z hz hz1 hz2
                    simp only [List.contains_cons, List.contains_nil, Bool.or_false, Bool.or_eq_false_iff, beq_eq_false_iff_ne, ne_eq] at hz2
                    obtain ⟨q1, q2, q3, q4, q5⟩ := hz2
                    simp [kstB, q1, q2, q3, q4, q5, hz]
                  case hp2 =>
                    have hl2 : (pre2 ++ [((ii : Nat) : Int)]).length = ii + 1 := by simp [hj2]
                    rw [hl2]
                    refine ⟨I18, rfl, by dsimp only; rw [if_neg (by omega)], fun i hi => ?_⟩
                    dsimp only
                    rcases Nat.lt_or_ge i ii with h | h
                    · have := hmn2 i h; omega
                    · have e : i = ii := by omega
                      subst e; omega
end Mine
end

section
open PySem PySem.W PyProof.Rows
set_option maxRecDepth 100000
set_option maxHeartbeats 8000000
namespace Mine
theorem pat_getattribute : typeLookup (.type "re.Pattern") "__getattribute__" = pure (some (.builtin "object.__getattribute__")) := by rw [typeLookup_type, builtinLookup_eq_fast]; kernel_rfl
theorem canon_obj_getattribute : (Manifest.canonical "object.__getattribute__" != "object.__getattribute__") = false := by decide +kernel
theorem pat_getattr_none : typeLookup (.type "re.Pattern") "__getattr__" = pure none := by rw [typeLookup_type, builtinLookup_eq_fast]; kernel_rfl
theorem slot_pat_sub : Slot "re.Pattern" "sub" "re.Pattern.sub" :=
  .of (owner := "re.Pattern") (n := "sub") (by rw [typeLookup_type, builtinLookup_eq_fast]; kernel_rfl) (by decide +kernel) (by decide +kernel) (by decide +kernel)
    (by first | exact .inl (by decide +kernel) | exact .inr (by decide +kernel)) (by rw [isSubtype_type]; kernel_rfl)
theorem type_pat_sub : typeOf (.builtin "re.Pattern.sub") = pure (.type "method_descriptor") := by show builtinType _ = _; rw [builtinType_eq_fast]; kernel_rfl
theorem entry_pat_sub : entryFor table "re.Pattern.sub" = some Builtin.«re.Pattern.sub» := entryFor_of_tree (by kernel_rfl)
theorem entry_pat_loop : entryFor table "re.Pattern.sub.loop" = some Builtin.«re.Pattern.sub.loop» := entryFor_of_tree (by kernel_rfl)
theorem args_pat_sub (a b c : Value) : argsOk "re.Pattern.sub" ⟨[a, b, c], []⟩ := by unfold argsOk; kernel_rfl
theorem plain_loop : plainId "re.Pattern.sub.loop" = true := by decide +kernel
theorem str_call_none : typeLookup (.type "str") "__call__" = pure none := by rw [typeLookup_type, builtinLookup_eq_fast]; kernel_rfl
end Mine
end

section
open PySem PySem.W PyProof.Rows
set_option maxRecDepth 100000
set_option maxHeartbeats 8000000
namespace Mine
open PySem.Sre PySem.Sre.M
theorem runFor_done {m : Sre.M} (h : m.outcome.isSome = true) : ∀ n, m.runFor n = m
  | 0 => rfl
  | n + 1 => by unfold M.runFor; rw [if_pos h]
theorem runFor_one {m : Sre.M} {n : Nat} (h : m.outcome = none) : m.runFor (n + 1) = (m.step).runFor n := by
  conv => lhs; unfold M.runFor
  rw [if_neg (by rw [h]; simp)]
theorem runFor_add (a b : Nat) : ∀ m : Sre.M, m.runFor (a + b) = (m.runFor a).runFor b := by
  induction a with
  | zero => intro m; rw [Nat.zero_add]; rfl
  | succ a ih =>
    intro m
    cases h : m.outcome with
    | some o => rw [runFor_done (by rw [h]; rfl), runFor_done (m := m) (by rw [h]; rfl), runFor_done (by rw [h]; rfl)]
    | none => rw [show a + 1 + b = (a + b) + 1 by omega, runFor_one h, runFor_one h, ih]
section
variable {M : Model} {A : Around} {E : Value → Shared → Prop} {s : Shared}
open PySem.Builtin.Re
theorem wp_drive {Q : Sre.M → Shared → Prop} : ∀ (turns : Nat) (m : Sre.M) (N : Nat), 0 < turns → N ≤ 4 * turns → (m.runFor N).outcome.isSome = true → Q (m.runFor N) s → wpAny M A (reDrive turns m) Q E s
  | 0, _, _, h, _, _, _ => absurd h (Nat.lt_irrefl _)
  | t + 1, m, N, _, hN, ho, hq => by
    show wpAny M A (if (m.runFor reTurnSteps).outcome.isSome = true then pure (m.runFor reTurnSteps) else do rule "sre.turn"; reDrive t (m.runFor reTurnSteps)) Q E s
    have e4 : reTurnSteps = 4 := rfl
    by_cases h : (m.runFor reTurnSteps).outcome.isSome = true
    · rw [if_pos h]
      have e : m.runFor reTurnSteps = m.runFor N := by
        rw [e4] at h ⊢
        by_cases hl : N ≤ 4
        · obtain ⟨k, hk⟩ : ∃ k, 4 = N + k := ⟨4 - N, by omega⟩
          rw [hk, runFor_add, runFor_done ho]
        · obtain ⟨k, rfl⟩ : ∃ k, N = 4 + k := ⟨N - 4, by omega⟩
          rw [runFor_add, runFor_done h]
      rw [e]
      exact wpAny_pure hq
    · rw [if_neg h]
      refine wpAny_bind (wpAny_rule ?_)
      rw [e4] at h ⊢
      have hl : 4 < N := by
        apply Classical.byContradiction
        intro q
        obtain ⟨k, hk⟩ : ∃ k, 4 = N + k := ⟨4 - N, by omega⟩
        rw [hk, runFor_add, runFor_done ho] at h
        exact h ho
      obtain ⟨k, rfl⟩ : ∃ k, N = 4 + k := ⟨N - 4, by omega⟩
      rw [runFor_add] at ho hq
      exact wp_drive t _ k (by omega) (by omega) ho hq
end
end Mine
namespace Mine
open PySem.Sre PySem.Sre.M
section
variable {M : Model} {A : Around} {E : Value → Shared → Prop} {s : Shared}
open PySem.Builtin.Re
theorem wp_found {Q : Option Sre.M → Shared → Prop} {m m' : Sre.M} {N : Nat} (hN : N ≤ 1000000) (e : m.runFor N = m') (ho : m'.outcome = some .matched) (hq : Q (some m') s) : wpAny M A (reRunToEnd m) Q E s := by
  unfold reRunToEnd
  refine wpAny_bind (wp_drive _ m N (by decide) (by omega) (by rw [e, ho]; rfl) ?_)
  rw [e]
  refine wpAny_bind (wpAny_mono (Q := fun _ s' => s' = s) (wpAny_forIn_list _ (fun _ _ s' => s' = s) _ ?turn (fun _ _ h => h) _ _ rfl) (fun _ s' h => ?_) (fun _ _ h => h))
  case turn =>
    rintro x rest b s' rfl
    (try dsimp only)
    split
    · refine wpAny_bind (wpAny_rule ?_)
      exact wpAny_pure rfl
    · first | (refine wpAny_bind ?_; refine wpAny_pure ?_; exact wpAny_pure rfl) | exact wpAny_pure rfl
  subst h
  rw [ho]
  exact wpAny_pure hq
theorem wp_none {Q : Option Sre.M → Shared → Prop} {m m' : Sre.M} {N : Nat} (hN : N ≤ 1000000) (e : m.runFor N = m') (ho : m'.outcome = some .failed) (hq : Q none s) : wpAny M A (reRunToEnd m) Q E s := by
  unfold reRunToEnd
  refine wpAny_bind (wp_drive _ m N (by decide) (by omega) (by rw [e, ho]; rfl) ?_)
  rw [e]
  refine wpAny_bind (wpAny_mono (Q := fun _ s' => s' = s) (wpAny_forIn_list _ (fun _ _ s' => s' = s) _ ?turn (fun _ _ h => h) _ _ rfl) (fun _ s' h => ?_) (fun _ _ h => h))
  case turn =>
    rintro x rest b s' rfl
    (try dsimp only)
    split
    · refine wpAny_bind (wpAny_rule ?_)
      exact wpAny_pure rfl
    · first | (refine wpAny_bind ?_; refine wpAny_pure ?_; exact wpAny_pure rfl) | exact wpAny_pure rfl
  subst h
  rw [ho]
  exact wpAny_pure hq
end
end Mine
end

section
open PySem PySem.W PyProof.Rows
set_option maxRecDepth 100000
set_option maxHeartbeats 8000000
namespace Mine
open PySem.Sre
theorem step_lit {m : Sre.M} (ho : m.outcome = none) (ha : m.answer = none) (hpc : m.pc < m.code.size) (hop : ops[m.code.getD m.pc 0]? = some .LITERAL) :
    ∃ sn, m.step = (if m.pos ≥ m.lim then ({ m with seen := sn } : Sre.M).say false else if (m.text.getD m.pos 0 == m.code.getD (m.pc + 1) 0) = true then { m with seen := sn, pc := m.pc + 2, pos := m.pos + 1 } else ({ m with seen := sn } : Sre.M).say false) := by
  refine ⟨m.seen.add (m.word 0), ?_⟩
  unfold M.step
  rw [ho, ha]
  simp only [Option.isSome_none, Bool.false_eq_true, if_false, if_pos hpc]
  unfold M.exec
  have hw : m.word 0 = m.code.getD m.pc 0 := rfl
  rw [hw, hop]
  dsimp only
  by_cases hl : m.pos ≥ m.lim
  · rw [if_pos hl, if_pos hl]; simp [ho, ha]
  · rw [if_neg hl, if_neg hl]
    unfold accepts
    rw [hop]
    dsimp only
    by_cases hc : (m.text.getD m.pos 0 == m.code.getD (m.pc + 1) 0) = true
    · rw [if_pos hc, hc]
      dsimp only
      unfold itemWidth
      rw [hop]
      simp [ho, ha]
    · rw [if_neg hc, Bool.eq_false_iff.mpr hc]
      simp [ho, ha]
def code2 : Array Nat := #[14, 9, 4, 1, 2, 16, 10, 16, 13, 0, 7, 7, 16, 13, 16, 10, 15, 18, 5, 16, 10, 15, 13, 11, 16, 13, 5, 5, 0, 16, 10, 1, 15, 2, 0, 1]
theorem inset2 (c : Nat) (sn : Sre.Seen) : ∃ sn', inSet code2 c code2.size 5 true sn = .ok (decide (c = 10 ∨ c = 13), sn') := by
  by_cases h1 : c = 10
  · subst h1; exact ⟨_, rfl⟩
  · by_cases h2 : c = 13
    · subst h2; exact ⟨_, rfl⟩
    · refine ⟨((sn.add 16).add 16).add 0, ?_⟩
      have e1 : (c == 10) = false := by simp [h1]
      have e2 : (c == 13) = false := by simp [h2]
      show (if (c == 10) = true then _ else if (c == 13) = true then _ else Except.ok (false, ((sn.add 16).add 16).add 0)) = _
      rw [e1, e2]
      simp [h1, h2]
end Mine
namespace Mine
open PySem.Sre
def mk2 (text : Array Nat) (lim j ls pc pos handed : Nat) (out : Bool) (fs : List Sre.Frame) (wt : Nat) (ans : Option Bool) (sn : Sre.Seen) : Sre.M :=
  { code := code2, text, lim, start := j, lastStart := ls, pc, pos, handed, outermost := out, marks := #[], frames := fs, weight := wt, answer := ans, seen := sn }
def f0 (j : Nat) : Sre.Frame := { wait := .nextStart, pc := 10, pos := j, outermost := true }
def fb (alt j : Nat) : Sre.Frame := { wait := .nextBranch, pc := alt, pos := j, outermost := true }
def fl (pc j : Nat) : Sre.Frame := { wait := .lookNot, pc, pos := j, outermost := true }
section
variable {text : Array Nat} {lim j ls pc pos handed : Nat} {out : Bool} {fs : List Sre.Frame} {wt : Nat} {sn : Sre.Seen}
theorem lit_yes (hpc : pc < 36) (hop : ops[code2.getD pc 0]? = some .LITERAL) (h1 : pos < lim) (h2 : text.getD pos 0 = code2.getD (pc + 1) 0) :
    ∃ sn', (mk2 text lim j ls pc pos handed out fs wt none sn).step = mk2 text lim j ls (pc + 2) (pos + 1) handed out fs wt none sn' := by
  obtain ⟨sn', e⟩ := step_lit (m := mk2 text lim j ls pc pos handed out fs wt none sn) rfl rfl hpc hop
  refine ⟨sn', e.trans ?_⟩
  show (if pos ≥ lim then _ else if (text.getD pos 0 == code2.getD (pc + 1) 0) = true then mk2 text lim j ls (pc + 2) (pos + 1) handed out fs wt none sn' else _) = _
  rw [if_neg (by omega), if_pos (by rw [h2]; simp)]
theorem lit_no (hpc : pc < 36) (hop : ops[code2.getD pc 0]? = some .LITERAL) (h : pos < lim → text.getD pos 0 ≠ code2.getD (pc + 1) 0) :
    ∃ sn', (mk2 text lim j ls pc pos handed out fs wt none sn).step = mk2 text lim j ls pc pos handed out fs wt (some false) sn' := by
  obtain ⟨sn', e⟩ := step_lit (m := mk2 text lim j ls pc pos handed out fs wt none sn) rfl rfl hpc hop
  refine ⟨sn', e.trans ?_⟩
  show (if pos ≥ lim then mk2 text lim j ls pc pos handed out fs wt (some false) sn' else if (text.getD pos 0 == code2.getD (pc + 1) 0) = true then _ else mk2 text lim j ls pc pos handed out fs wt (some false) sn') = _
  by_cases hl : pos ≥ lim
  · rw [if_pos hl]
  · rw [if_neg hl, if_neg (by simpa using h (by omega))]
def Ends2 (m : Sre.M) (j e : Nat) : Prop := ∃ N m', N ≤ 100 ∧ m.runFor N = m' ∧ m'.outcome = some .matched ∧ m'.start = j ∧ m'.handed = e
theorem ends_step {m m' : Sre.M} {j e k : Nat} (hm : m.outcome = none) (hs : m.step = m') (h : ∃ N m'', N ≤ k ∧ m'.runFor N = m'' ∧ m''.outcome = some .matched ∧ m''.start = j ∧ m''.handed = e) :
    ∃ N m'', N ≤ k + 1 ∧ m.runFor N = m'' ∧ m''.outcome = some .matched ∧ m''.start = j ∧ m''.handed = e := by
  obtain ⟨N, m'', h1, h2, h3⟩ := h
  exact ⟨N + 1, m'', by omega, by rw [runFor_one hm, hs, h2], h3⟩
/-- from the word SUCCESS of the whole, within one branch -/
theorem ends_tail {alt : Nat} : ∃ N m'', N ≤ 4 ∧ (mk2 text lim j ls 35 pos handed true [fb alt j, f0 j] 2 none sn).runFor N = m'' ∧ m''.outcome = some .matched ∧ m''.start = j ∧ m''.handed = pos :=
  ends_step rfl rfl (ends_step rfl rfl (ends_step rfl rfl (ends_step (m' := { mk2 text lim j ls 10 j pos true [] 0 (some true) (sn.add 1) with outcome := some .matched }) rfl rfl ⟨0, _, Nat.le_refl _, rfl, rfl, rfl, rfl⟩)))
theorem run_crlf (h1 : j + 1 < lim) (h2 : text.getD j 0 = 13) (h3 : text.getD (j + 1) 0 = 10) :
    ∃ N m'', N ≤ 8 ∧ (mk2 text lim j ls 10 j j true [f0 j] 1 none sn).runFor N = m'' ∧ m''.outcome = some .matched ∧ m''.start = j ∧ m''.handed = j + 2 := by
  refine ends_step (m' := mk2 text lim j ls 12 j j true [fb 11 j, f0 j] 2 none (sn.add 7)) rfl rfl ?_
  obtain ⟨sn1, e1⟩ := lit_yes (text := text) (lim := lim) (j := j) (ls := ls) (pc := 12) (pos := j) (handed := j) (out := true) (fs := [fb 11 j, f0 j]) (wt := 2) (sn := sn.add 7) (by decide) rfl (by omega) h2
  refine ends_step rfl e1 ?_
  obtain ⟨sn2, e2⟩ := lit_yes (text := text) (lim := lim) (j := j) (ls := ls) (pc := 14) (pos := j + 1) (handed := j) (out := true) (fs := [fb 11 j, f0 j]) (wt := 2) (sn := sn1) (by decide) rfl (by omega) h3
  refine ends_step rfl e2 ?_
  exact ends_step rfl rfl ends_tail
theorem run_lf (h1 : j < lim) (h2 : text.getD j 0 = 10) :
    ∃ N m'', N ≤ 9 ∧ (mk2 text lim j ls 10 j j true [f0 j] 1 none sn).runFor N = m'' ∧ m''.outcome = some .matched ∧ m''.start = j ∧ m''.handed = j + 1 := by
  refine ends_step (m' := mk2 text lim j ls 12 j j true [fb 11 j, f0 j] 2 none (sn.add 7)) rfl rfl ?_
  obtain ⟨sn1, e1⟩ := lit_no (text := text) (lim := lim) (j := j) (ls := ls) (pc := 12) (pos := j) (handed := j) (out := true) (fs := [fb 11 j, f0 j]) (wt := 2) (sn := sn.add 7) (by decide) rfl (fun _ => by rw [h2]; decide)
  refine ends_step rfl e1 ?_
  refine ends_step (m' := mk2 text lim j ls 19 j j true [fb 18 j, f0 j] 2 none sn1) rfl rfl ?_
  obtain ⟨sn2, e2⟩ := lit_yes (text := text) (lim := lim) (j := j) (ls := ls) (pc := 19) (pos := j) (handed := j) (out := true) (fs := [fb 18 j, f0 j]) (wt := 2) (sn := sn1) (by decide) rfl h1 h2
  refine ends_step rfl e2 ?_
  exact ends_step rfl rfl ends_tail
theorem run_cr (h1 : j < lim) (h2 : text.getD j 0 = 13) (h3 : j + 1 < lim → text.getD (j + 1) 0 ≠ 10) :
    ∃ N m'', N ≤ 15 ∧ (mk2 text lim j ls 10 j j true [f0 j] 1 none sn).runFor N = m'' ∧ m''.outcome = some .matched ∧ m''.start = j ∧ m''.handed = j + 1 := by
  refine ends_step (m' := mk2 text lim j ls 12 j j true [fb 11 j, f0 j] 2 none (sn.add 7)) rfl rfl ?_
  obtain ⟨sn1, e1⟩ := lit_yes (text := text) (lim := lim) (j := j) (ls := ls) (pc := 12) (pos := j) (handed := j) (out := true) (fs := [fb 11 j, f0 j]) (wt := 2) (sn := sn.add 7) (by decide) rfl h1 h2
  refine ends_step rfl e1 ?_
  obtain ⟨sn2, e2⟩ := lit_no (text := text) (lim := lim) (j := j) (ls := ls) (pc := 14) (pos := j + 1) (handed := j) (out := true) (fs := [fb 11 j, f0 j]) (wt := 2) (sn := sn1) (by decide) rfl h3
  refine ends_step rfl e2 ?_
  refine ends_step (m' := mk2 text lim j ls 19 j j true [fb 18 j, f0 j] 2 none sn2) rfl rfl ?_
  obtain ⟨sn3, e3⟩ := lit_no (text := text) (lim := lim) (j := j) (ls := ls) (pc := 19) (pos := j) (handed := j) (out := true) (fs := [fb 18 j, f0 j]) (wt := 2) (sn := sn2) (by decide) rfl (fun _ => by rw [h2]; decide)
  refine ends_step rfl e3 ?_
  refine ends_step (m' := mk2 text lim j ls 24 j j true [fb 23 j, f0 j] 2 none sn3) rfl rfl ?_
  obtain ⟨sn4, e4⟩ := lit_yes (text := text) (lim := lim) (j := j) (ls := ls) (pc := 24) (pos := j) (handed := j) (out := true) (fs := [fb 23 j, f0 j]) (wt := 2) (sn := sn3) (by decide) rfl h1 h2
  refine ends_step rfl e4 ?_
  refine ends_step (m' := mk2 text lim j ls 29 (j + 1) (j + 1) false [fl 26 (j + 1), fb 23 j, f0 j] 3 none (sn4.add 5)) rfl rfl ?_
  obtain ⟨sn5, e5⟩ := lit_no (text := text) (lim := lim) (j := j) (ls := ls) (pc := 29) (pos := j + 1) (handed := j + 1) (out := false) (fs := [fl 26 (j + 1), fb 23 j, f0 j]) (wt := 3) (sn := sn4.add 5) (by decide) rfl h3
  refine ends_step rfl e5 ?_
  refine ends_step (m' := mk2 text lim j ls 32 (j + 1) (j + 1) true [fb 23 j, f0 j] 2 none sn5) rfl rfl ?_
  exact ends_step rfl rfl ends_tail
end
end Mine
end

section
open PySem PySem.W PyProof.Rows
set_option maxRecDepth 100000
set_option maxHeartbeats 8000000
namespace Mine
open PySem.Sre
abbrev eol (c : Nat) : Prop := c = 10 ∨ c = 13
theorem admit2 {m : Sre.M} (hc : m.code = code2) : ∀ (fuel s : Nat) (sn : Sre.Seen), m.lim + 1 ≤ s + fuel →
    (∃ j sn', s ≤ j ∧ j < m.lim ∧ eol (m.text.getD j 0) ∧ (∀ i, s ≤ i → i < j → ¬ eol (m.text.getD i 0)) ∧ M.admitted m fuel s sn = .ok (some j, sn')) ∨
    (∃ sn', (∀ i, s ≤ i → i < m.lim → ¬ eol (m.text.getD i 0)) ∧ M.admitted m fuel s sn = .ok (none, sn'))
  | 0, s, sn, h => .inr ⟨sn, fun i h1 h2 => by omega, rfl⟩
  | fuel + 1, s, sn, h => by
    unfold M.admitted
    by_cases hl : s ≥ m.lim
    · rw [if_pos hl]
      exact .inr ⟨sn, fun i h1 h2 => by omega, rfl⟩
    · rw [if_neg hl]
      obtain ⟨sn', e⟩ := inset2 (m.text.getD s 0) sn
      rw [hc, e]
      by_cases he : eol (m.text.getD s 0)
      · rw [show decide (m.text.getD s 0 = 10 ∨ m.text.getD s 0 = 13) = true from decide_eq_true he]
        exact .inl ⟨s, sn', Nat.le_refl _, by omega, he, fun i h1 h2 => by omega, rfl⟩
      · rw [show decide (m.text.getD s 0 = 10 ∨ m.text.getD s 0 = 13) = false from decide_eq_false he]
        rcases admit2 hc fuel (s + 1) sn' (by omega) with ⟨j, sn2, a, b, c, d, f⟩ | ⟨sn2, d, f⟩
        · refine .inl ⟨j, sn2, by omega, b, c, fun i h1 h2 => ?_, f⟩
          by_cases q : i = s
          · subst q; exact he
          · exact d i (by omega) h2
        · refine .inr ⟨sn2, fun i h1 h2 => ?_, f⟩
          by_cases q : i = s
          · subst q; exact he
          · exact d i (by omega) h2
def fr2 (text : Array Nat) (start ls : Nat) : Sre.M :=
  { code := code2, text, lim := text.size, start, lastStart := ls, pc := 10, pos := start, handed := start, marks := #[], seen := ({} : Sre.Seen).add 14 }
theorem search2 {text : Array Nat} {start : Nat} (h : start ≤ text.size) :
    (∃ j e N m', start ≤ j ∧ j < text.size ∧ (∀ i, start ≤ i → i < j → ¬ eol (text.getD i 0)) ∧ eol (text.getD j 0) ∧ (e = if text.getD j 0 = 13 ∧ j + 1 < text.size ∧ text.getD (j + 1) 0 = 10 then j + 2 else j + 1) ∧
      N ≤ 100 ∧ (forSearch code2 text 0 start text.size false).runFor N = m' ∧ m'.outcome = some .matched ∧ m'.start = j ∧ m'.handed = e) ∨
    (∃ N m', (∀ i, start ≤ i → i < text.size → ¬ eol (text.getD i 0)) ∧ N ≤ 100 ∧ (forSearch code2 text 0 start text.size false).runFor N = m' ∧ m'.outcome = some .failed) := by
  by_cases hl : text.size - start < 1
  · have e : forSearch code2 text 0 start text.size false = (fr2 text start 0).say false := by
      show (if (decide (start > text.size) || decide (text.size - start < 1)) = true then (fr2 text start 0).say false else _) = _
      rw [if_pos (by simp; omega)]
    rw [e]
    exact .inr ⟨1, _, fun i h1 h2 => by omega, by decide, rfl, rfl⟩
  · have e : forSearch code2 text 0 start text.size false = (fr2 text start text.size).attemptFrom start true := by
      show (if (decide (start > text.size) || decide (text.size - start < 1)) = true then _ else (fr2 text start text.size).attemptFrom start true) = _
      rw [if_neg (by simp; omega)]
    rw [e]
    have e2 : (fr2 text start text.size).attemptFrom start true = (match M.admitted (fr2 text start text.size) (text.size + 1 - start) start (({} : Sre.Seen).add 14) with
      | .ok (some s, seen) => ({ fr2 text start text.size with mustAdvance := false, seen } : Sre.M).attemptAt s true
      | .ok (none, seen) => ({ fr2 text start text.size with seen } : Sre.M).say false
      | .error why => (fr2 text start text.size).stick why) := rfl
    rw [e2]
    rcases admit2 (m := fr2 text start text.size) rfl (text.size + 1 - start) start (({} : Sre.Seen).add 14) (by show text.size + 1 ≤ _; omega) with ⟨j, sn, a, b, c, d, f⟩ | ⟨sn, d, f⟩
    · rw [f]
      have e3 : ({ fr2 text start text.size with mustAdvance := false, seen := sn } : Sre.M).attemptAt j true = mk2 text text.size j text.size 10 j j true [f0 j] 1 none sn := rfl
      dsimp only
      rw [e3]
      by_cases hcr : text.getD j 0 = 13
      · by_cases hn : j + 1 < text.size ∧ text.getD (j + 1) 0 = 10
        · obtain ⟨N, m', h1, h2, h3, h4, h5⟩ := run_crlf (text := text) (lim := text.size) (j := j) (ls := text.size) (sn := sn) hn.1 hcr hn.2
          exact .inl ⟨j, j + 2, N, m', a, b, d, c, by rw [if_pos ⟨hcr, hn⟩], by omega, h2, h3, h4, h5⟩
        · obtain ⟨N, m', h1, h2, h3, h4, h5⟩ := run_cr (text := text) (lim := text.size) (j := j) (ls := text.size) (sn := sn) b hcr (fun q r => hn ⟨q, r⟩)
          exact .inl ⟨j, j + 1, N, m', a, b, d, c, by rw [if_neg (fun q => hn q.2)], by omega, h2, h3, h4, h5⟩
      · have hlf : text.getD j 0 = 10 := c.resolve_right hcr
        obtain ⟨N, m', h1, h2, h3, h4, h5⟩ := run_lf (text := text) (lim := text.size) (j := j) (ls := text.size) (sn := sn) b hlf
        exact .inl ⟨j, j + 1, N, m', a, b, d, c, by rw [if_neg (fun q => hcr q.1)], by omega, h2, h3, h4, h5⟩
    · rw [f]
      exact .inr ⟨1, _, d, by decide, rfl, rfl⟩

def code1 : Array Nat := #[14, 4, 0, 1, 1, 6, 1, 16, 46, 1]
def mk1 (text : Array Nat) (lim j ls pc pos handed : Nat) (out : Bool) (fs : List Sre.Frame) (wt : Nat) (ans : Option Bool) (sn : Sre.Seen) : Sre.M :=
  { code := code1, text, lim, start := j, lastStart := ls, pc, pos, handed, outermost := out, marks := #[], frames := fs, weight := wt, answer := ans, seen := sn }
def g0 (j : Nat) (out : Bool) : Sre.Frame := { wait := .nextStart, pc := 5, pos := j, outermost := out }
/-- a row's begin -/
abbrev rowBegin (text : Array Nat) (s : Nat) : Prop := s = 0 ∨ text.getD (s - 1) 0 = 10
abbrev dotAt (text : Array Nat) (s : Nat) : Prop := rowBegin text s ∧ s < text.size ∧ text.getD s 0 = 46
section
variable {text : Array Nat} {lim j ls pc pos handed : Nat} {out : Bool} {fs : List Sre.Frame} {wt : Nat} {sn : Sre.Seen}
theorem lit1_yes (hpc : pc < 10) (hop : ops[code1.getD pc 0]? = some .LITERAL) (h1 : pos < lim) (h2 : text.getD pos 0 = code1.getD (pc + 1) 0) :
    ∃ sn', (mk1 text lim j ls pc pos handed out fs wt none sn).step = mk1 text lim j ls (pc + 2) (pos + 1) handed out fs wt none sn' := by
  obtain ⟨sn', e⟩ := step_lit (m := mk1 text lim j ls pc pos handed out fs wt none sn) rfl rfl hpc hop
  refine ⟨sn', e.trans ?_⟩
  show (if pos ≥ lim then _ else if (text.getD pos 0 == code1.getD (pc + 1) 0) = true then mk1 text lim j ls (pc + 2) (pos + 1) handed out fs wt none sn' else _) = _
  rw [if_neg (by omega), if_pos (by rw [h2]; simp)]
theorem lit1_no (hpc : pc < 10) (hop : ops[code1.getD pc 0]? = some .LITERAL) (h : pos < lim → text.getD pos 0 ≠ code1.getD (pc + 1) 0) :
    ∃ sn', (mk1 text lim j ls pc pos handed out fs wt none sn).step = mk1 text lim j ls pc pos handed out fs wt (some false) sn' := by
  obtain ⟨sn', e⟩ := step_lit (m := mk1 text lim j ls pc pos handed out fs wt none sn) rfl rfl hpc hop
  refine ⟨sn', e.trans ?_⟩
  show (if pos ≥ lim then mk1 text lim j ls pc pos handed out fs wt (some false) sn' else if (text.getD pos 0 == code1.getD (pc + 1) 0) = true then _ else mk1 text lim j ls pc pos handed out fs wt (some false) sn') = _
  by_cases hl : pos ≥ lim
  · rw [if_pos hl]
  · rw [if_neg hl, if_neg (by simpa using h (by omega))]
theorem at_yes (h : rowBegin text pos) : ∃ sn', (mk1 text lim j ls 5 pos handed out fs wt none sn).step = mk1 text lim j ls 7 pos handed out fs wt none sn' := by
  refine ⟨(sn.add 6).add 44, ?_⟩
  have hb : (pos == 0 || text.getD (pos - 1) 0 == 10) = true := by rw [Bool.or_eq_true, beq_iff_eq, beq_iff_eq]; exact h
  show (if (pos == 0 || text.getD (pos - 1) 0 == 10) = true then mk1 text lim j ls 7 pos handed out fs wt none ((sn.add 6).add 44) else _) = _
  rw [if_pos hb]
theorem at_no (h : ¬ rowBegin text pos) : ∃ sn', (mk1 text lim j ls 5 pos handed out fs wt none sn).step = mk1 text lim j ls 5 pos handed out fs wt (some false) sn' := by
  refine ⟨(sn.add 6).add 44, ?_⟩
  have hb : ¬ (pos == 0 || text.getD (pos - 1) 0 == 10) = true := by rw [Bool.or_eq_true, beq_iff_eq, beq_iff_eq]; exact h
  show (if (pos == 0 || text.getD (pos - 1) 0 == 10) = true then _ else mk1 text lim j ls 5 pos handed out fs wt (some false) ((sn.add 6).add 44)) = _
  rw [if_neg hb]
theorem back_on {pc' pos' : Nat} (h : j < ls) : (mk1 text lim j ls pc' pos' handed out [g0 j out] 1 (some false) sn).step = mk1 text lim (j + 1) ls 5 (j + 1) (j + 1) false [g0 (j + 1) false] 1 none sn := by
  show (if j < ls then mk1 text lim (j + 1) ls 5 (j + 1) (j + 1) false [g0 (j + 1) false] 1 none sn else _) = _
  rw [if_pos h]
theorem back_off {pc' pos' : Nat} (h : ¬ j < ls) : (mk1 text lim j ls pc' pos' handed out [g0 j out] 1 (some false) sn).step = mk1 text lim j ls 5 j handed out [] 0 (some false) sn := by
  show (if j < ls then _ else mk1 text lim j ls 5 j handed out [] 0 (some false) sn) = _
  rw [if_neg h]
end
theorem run1 {text : Array Nat} : ∀ (k j : Nat) (out : Bool) (sn : Sre.Seen), j + k = text.size →
    (∃ i N m', j ≤ i ∧ dotAt text i ∧ (∀ q, j ≤ q → q < i → ¬ dotAt text q) ∧ N ≤ 4 * k + 6 ∧ (mk1 text text.size j text.size 5 j j out [g0 j out] 1 none sn).runFor N = m' ∧ m'.outcome = some .matched ∧ m'.start = i ∧ m'.handed = i + 1) ∨
    (∃ N m', (∀ q, j ≤ q → q < text.size → ¬ dotAt text q) ∧ N ≤ 4 * k + 6 ∧ (mk1 text text.size j text.size 5 j j out [g0 j out] 1 none sn).runFor N = m' ∧ m'.outcome = some .failed) := by
  intro k
  induction k with
  | zero =>
    intro j out sn hk
    refine .inr ?_
    have hj : ¬ j < text.size := by omega
    by_cases hb : rowBegin text j
    · obtain ⟨sn1, e1⟩ := at_yes (text := text) (lim := text.size) (j := j) (ls := text.size) (pos := j) (handed := j) (out := out) (fs := [g0 j out]) (wt := 1) (sn := sn) hb
      obtain ⟨sn2, e2⟩ := lit1_no (text := text) (lim := text.size) (j := j) (ls := text.size) (pc := 7) (pos := j) (handed := j) (out := out) (fs := [g0 j out]) (wt := 1) (sn := sn1) (by decide) rfl (fun h => absurd h hj)
      refine ⟨4, { mk1 text text.size j text.size 5 j j out [] 0 (some false) sn2 with outcome := some .failed }, fun q h1 h2 => by omega, by omega, ?_, ?_⟩
      · rw [runFor_one rfl, e1, runFor_one rfl, e2, runFor_one rfl, back_off hj, runFor_one rfl]; rfl
      · rfl
    · obtain ⟨sn1, e1⟩ := at_no (text := text) (lim := text.size) (j := j) (ls := text.size) (pos := j) (handed := j) (out := out) (fs := [g0 j out]) (wt := 1) (sn := sn) hb
      refine ⟨3, { mk1 text text.size j text.size 5 j j out [] 0 (some false) sn1 with outcome := some .failed }, fun q h1 h2 => by omega, by omega, ?_, ?_⟩
      · rw [runFor_one rfl, e1, runFor_one rfl, back_off hj, runFor_one rfl]; rfl
      · rfl
  | succ k ih =>
    intro j out sn hk
    have hj : j < text.size := by omega
    have goOn : ∀ (n : Nat) (sn' : Sre.Seen), n ≤ 3 → (mk1 text text.size j text.size 5 j j out [g0 j out] 1 none sn).runFor n = mk1 text text.size (j + 1) text.size 5 (j + 1) (j + 1) false [g0 (j + 1) false] 1 none sn' → ¬ dotAt text j →
        (∃ i N m', j ≤ i ∧ dotAt text i ∧ (∀ q, j ≤ q → q < i → ¬ dotAt text q) ∧ N ≤ 4 * (k + 1) + 6 ∧ (mk1 text text.size j text.size 5 j j out [g0 j out] 1 none sn).runFor N = m' ∧ m'.outcome = some .matched ∧ m'.start = i ∧ m'.handed = i + 1) ∨
        (∃ N m', (∀ q, j ≤ q → q < text.size → ¬ dotAt text q) ∧ N ≤ 4 * (k + 1) + 6 ∧ (mk1 text text.size j text.size 5 j j out [g0 j out] 1 none sn).runFor N = m' ∧ m'.outcome = some .failed) := by
      intro n sn' hn e hd
      rcases ih (j + 1) false sn' (by omega) with ⟨i, N, m', a, b, c, d, f, g⟩ | ⟨N, m', c, d, f, g⟩
      · refine .inl ⟨i, n + N, m', by omega, b, fun q h1 h2 => ?_, by omega, by rw [runFor_add, e, f], g⟩
        by_cases e' : q = j
        · subst e'; exact hd
        · exact c q (by omega) h2
      · refine .inr ⟨n + N, m', fun q h1 h2 => ?_, by omega, by rw [runFor_add, e, f], g⟩
        by_cases e' : q = j
        · subst e'; exact hd
        · exact c q (by omega) h2
    by_cases hb : rowBegin text j
    · obtain ⟨sn1, e1⟩ := at_yes (text := text) (lim := text.size) (j := j) (ls := text.size) (pos := j) (handed := j) (out := out) (fs := [g0 j out]) (wt := 1) (sn := sn) hb
      by_cases hd : text.getD j 0 = 46
      · obtain ⟨sn2, e2⟩ := lit1_yes (text := text) (lim := text.size) (j := j) (ls := text.size) (pc := 7) (pos := j) (handed := j) (out := out) (fs := [g0 j out]) (wt := 1) (sn := sn1) (by decide) rfl hj hd
        refine .inl ⟨j, 5, { mk1 text text.size j text.size 5 j (j + 1) out [] 0 (some true) (sn2.add 1) with outcome := some .matched }, Nat.le_refl _, ⟨hb, hj, hd⟩, fun q h1 h2 => by omega, by omega, ?_, rfl, rfl, rfl⟩
        have e3 : (mk1 text text.size j text.size 9 (j + 1) j out [g0 j out] 1 none sn2).step = mk1 text text.size j text.size 9 (j + 1) (j + 1) out [g0 j out] 1 (some true) (sn2.add 1) := by cases out <;> rfl
        rw [runFor_one rfl, e1, runFor_one rfl, e2, runFor_one rfl, e3, runFor_one rfl, runFor_one rfl]; rfl
      · obtain ⟨sn2, e2⟩ := lit1_no (text := text) (lim := text.size) (j := j) (ls := text.size) (pc := 7) (pos := j) (handed := j) (out := out) (fs := [g0 j out]) (wt := 1) (sn := sn1) (by decide) rfl (fun _ => hd)
        refine goOn 3 sn2 (by omega) ?_ (fun q => hd q.2.2)
        rw [runFor_one rfl, e1, runFor_one rfl, e2, runFor_one rfl, back_on hj]; rfl
    · obtain ⟨sn1, e1⟩ := at_no (text := text) (lim := text.size) (j := j) (ls := text.size) (pos := j) (handed := j) (out := out) (fs := [g0 j out]) (wt := 1) (sn := sn) hb
      refine goOn 2 sn1 (by omega) ?_ (fun q => hb q.1)
      rw [runFor_one rfl, e1, runFor_one rfl, back_on hj]; rfl
def fr1 (text : Array Nat) (start ls : Nat) : Sre.M :=
  { code := code1, text, lim := text.size, start, lastStart := ls, pc := 5, pos := start, handed := start, marks := #[], seen := ({} : Sre.Seen).add 14 }
theorem search1 {text : Array Nat} {start : Nat} (h : start ≤ text.size) :
    (∃ i N m', start ≤ i ∧ dotAt text i ∧ (∀ q, start ≤ q → q < i → ¬ dotAt text q) ∧ N ≤ 4 * text.size + 6 ∧ (forSearch code1 text 0 start text.size false).runFor N = m' ∧ m'.outcome = some .matched ∧ m'.start = i ∧ m'.handed = i + 1) ∨
    (∃ N m', (∀ q, start ≤ q → q < text.size → ¬ dotAt text q) ∧ N ≤ 4 * text.size + 6 ∧ (forSearch code1 text 0 start text.size false).runFor N = m' ∧ m'.outcome = some .failed) := by
  by_cases hl : text.size - start < 1
  · have e : forSearch code1 text 0 start text.size false = (fr1 text start 0).say false := by
      show (if (decide (start > text.size) || decide (text.size - start < 1)) = true then (fr1 text start 0).say false else _) = _
      rw [if_pos (by simp; omega)]
    rw [e]
    exact .inr ⟨1, _, fun i h1 h2 => by omega, by omega, rfl, rfl⟩
  · have e : forSearch code1 text 0 start text.size false = mk1 text text.size start text.size 5 start start true [g0 start true] 1 none (({} : Sre.Seen).add 14) := by
      show (if (decide (start > text.size) || decide (text.size - start < 1)) = true then _ else (fr1 text start text.size).attemptFrom start true) = _
      rw [if_neg (by simp; omega)]
      rfl
    rw [e]
    rcases run1 (text := text) (text.size - start) start true (({} : Sre.Seen).add 14) (by omega) with ⟨i, N, m', a, b, c, d, f⟩ | ⟨N, m', c, d, f⟩
    · exact .inl ⟨i, N, m', a, b, c, by omega, f⟩
    · exact .inr ⟨N, m', c, by omega, f⟩
end Mine
end

section
open PySem PySem.W PyProof.Rows PySem.Calls
set_option maxRecDepth 100000
set_option maxHeartbeats 8000000
namespace Mine
open PySem.Builtin.Re
/-- a compiled pattern on the heap, without groups, for texts -/
structure PatAt (h : Heap) (p : Addr) (code : Array Nat) : Prop where
  at_ : ∃ (o : Obj) (f0 f1 f3 f4 : Value) (q : Addr) (oq : Obj) (its : Array Value) (n : Nat), h.get? p = some o ∧ o.cls = .type "re.Pattern" ∧ o.dict = none ∧ o.data = .fields #[f0, f1, .int 0 0, f3, f4, .ref q, .int 0 0] ∧
    h.get? q = some oq ∧ oq.data = .seq its n ∧ (its.map reRawOf).map (·.toNat) = code
theorem PatAt.keeps {h h' : Heap} {p : Addr} {code : Array Nat} (P : PatAt h p code) (k : ∀ b o, h.get? b = some o → h'.get? b = some o) : PatAt h' p code := by
  obtain ⟨o, f0, f1, f3, f4, q, oq, its, n, h1, h2, h3, h4, h5, h6, h7⟩ := P
  exact ⟨o, f0, f1, f3, f4, q, oq, its, n, k _ _ h1, h2, h3, h4, k _ _ h5, h6, h7⟩
section
variable {M : Model} {A : Around} {E : Value → Shared → Prop} {s : Shared} {p : Addr} {code : Array Nat} {xs : List Nat} {t : Tok}
theorem getMethod_pat {pl : Sem Bool} {Q : Value × List Value → Shared → Prop} (P : PatAt s.heap p code) (h : Q (.builtin "re.Pattern.sub", [.ref p]) s) : wpAny M A (getMethod (.ref p) "sub" pl) Q E s := by
  obtain ⟨o, f0, f1, f3, f4, q, oq, its, n, ho, hc, hd, h4, h5, h6, h7⟩ := P
  have hT : s.TypeIs (.ref p) "re.Pattern" := ⟨o, ho, hc⟩
  unfold getMethod
  refine wpAny_bind (wpAny_specialOf hT pat_getattribute ?_)
  show wpAny M A (if (Manifest.canonical "object.__getattribute__" != "object.__getattribute__") = true then _ else _) Q E s
  rw [canon_obj_getattribute, if_neg Bool.false_ne_true]
  refine wpAny_bind (wpAny_specialOf hT pat_getattr_none ?_)
  refine wpAny_bind (wpAny_specialOf hT slot_pat_sub.lookup ?_)
  refine wpAny_bind (wpAny_of_eq type_pat_sub ?_)
  refine wpAny_bind (wpAny_load ho ?_)
  rw [hd]
  exact wpAny_bind (wpAny_rule (wpAny_pure h))
theorem target_k {Q : ReTarget → Shared → Prop} (P : PatAt s.heap p code) (h : Q { pattern := .ref p, string := .str (S xs) t, code := code, text := xs.toArray, kind := 0, groups := 0, pos := 0, lim := xs.toArray.size } s) :
    wpAny M A (reWholeTarget (.ref p) (.str (S xs) t)) Q E s := by
  obtain ⟨o, f0, f1, f3, f4, q, oq, its, n, ho, hc, hd, h4, h5, h6, h7⟩ := P
  unfold reWholeTarget
  refine wpAny_bind ?_
  unfold fieldsOf
  refine wpAny_bind (wpAny_load ho ?_)
  rw [h4]
  refine wpAny_pure ?_
  refine wpAny_bind ?_
  unfold reTextOf
  refine wpAny_bind ?_
  unfold asStr?
  refine wpAny_pure ?_
  refine wpAny_pure ?_
  show wpAny M A (reNoCollectionInside (.str (S xs) t) 0 >>= fun _ => reRawItems (.ref q) >>= fun c => pure { pattern := .ref p, string := .str (S xs) t, code := c.map (·.toNat), text := xs.toArray, kind := 0, groups := 0, pos := 0, lim := xs.toArray.size }) Q E s
  refine wpAny_bind ?_
  unfold reNoCollectionInside
  refine wpAny_pure ?_
  refine wpAny_bind ?_
  unfold reRawItems
  refine wpAny_bind (wpAny_seqItems h5 h6 ?_)
  refine wpAny_pure ?_
  refine wpAny_pure ?_
  show Q { pattern := .ref p, string := .str (S xs) t, code := (its.map reRawOf).map (·.toNat), text := xs.toArray, kind := 0, groups := 0, pos := 0, lim := xs.toArray.size } s
  rw [h7]
  exact h
end
end Mine
namespace Mine
open PySem.Builtin.Re
/-- what a search from each place finds, and what the putting in makes of the rest -/
structure Subs (code : Array Nat) (xs rp : List Nat) (res : Nat → List Nat) : Prop where
  go : ∀ i, i ≤ xs.length →
    (∃ N m', N ≤ 1000000 ∧ (Sre.forSearch code xs.toArray 0 i xs.toArray.size false).runFor N = m' ∧ m'.outcome = some .failed ∧ res i = xs.drop i) ∨
    (∃ a b N m', i ≤ a ∧ a < b ∧ b ≤ xs.length ∧ N ≤ 1000000 ∧ (Sre.forSearch code xs.toArray 0 i xs.toArray.size false).runFor N = m' ∧ m'.outcome = some .matched ∧ m'.start = a ∧ m'.handed = b ∧ res i = (xs.drop i).take (a - i) ++ rp ++ res b)
section
variable {prog : Program} {w : World} {A : Around} {E : Value → Shared → Prop} {s : Shared} {h₀ : Heap} {L l p : Addr} {m : Str → Option Value} {news : List (Addr × Obj)} {code : Array Nat} {xs rp : List Nat} {res : Nat → List Nat}
theorem push_k {M : Model} {vs : List Value} {c : Nat} {v : Value} {Q : Unit → Shared → Prop} (F : Fr h₀ L s.heap m) (N : News h₀ L s.heap ((l, listOf vs.toArray c) :: news)) (hne : ∀ p ∈ news, p.1 ≠ l) (hz : vs.length ≤ 10000)
    (h : ∀ h', Fr h₀ L h' m → News h₀ L h' ((l, listOf (vs ++ [v]).toArray (c + 1)) :: news) → Q () { s with heap := h' }) : wpAny M A (updateSeq l (·.push v)) Q E s := by
  have D := N (l, listOf vs.toArray c) (.head _)
  refine wpAny_updateSeq D.1 rfl ?_ (by rw [List.size_toArray, sizeLine_eq]; omega) (by rw [Array.size_push, List.size_toArray, sizeLine_eq]; omega)
  refine h _ (F.change (Heap.SameBut.update ..) D.2.1 D.2.2) ?_
  exact ki_turn (pre := []) (fun x => x.push v) N (fun _ h => (nomatch h)) hne (by simp) (by simp)
theorem extract_eq (xs : List Nat) (a b : Nat) : (⟨xs.toArray.extract a b⟩ : Str) = S ((xs.drop a).take (b - a)) := by
  show Str.mk _ = Str.mk _
  congr 1
  apply Array.toList_inj.mp
  simp [List.take_drop]
def joinL (sep : List Nat) : List (List Nat) → List Nat
  | [] => []
  | [x] => x
  | x :: y :: r => x ++ sep ++ joinL sep (y :: r)
theorem join_S (sep : List Nat) : ∀ ys : List (List Nat), Txt.join (S sep) (ys.map S) = S (joinL sep ys) := by
  intro ys
  show Builtin.Str.glued (S sep) (ys.map S) = _
  rw [StrLaws.glued_eq_join]
  induction ys with
  | nil => rfl
  | cons x r ih =>
    cases r with
    | nil => rfl
    | cons y r =>
      show S x ++ S sep ++ Str.join (S sep) ((y :: r).map S) = _
      rw [ih, S_app, S_app]
      rfl
theorem joinL_nil : ∀ ys : List (List Nat), joinL [] ys = ys.flatten
  | [] => rfl
  | [x] => by simp [joinL]
  | x :: y :: r => by rw [joinL, joinL_nil (y :: r)]; simp
theorem strs_app {vs : List Value} {ps : List (List Nat)} (h : StrsAre vs (ps.map S)) (x : List Nat) (t : Tok) : StrsAre (vs ++ [.str (S x) t]) ((ps ++ [x]).map S) := by
  rw [List.map_append]
  exact h.append' (.cons _ _ .nil)
theorem join_tail {A' : Around} {vs : List Value} {ps : List (List Nat)} {c : Nat} {R : Result → Shared → Prop} (N : News h₀ L s.heap ((l, listOf vs.toArray c) :: news)) (hS : StrsAre vs (ps.map S)) (hs : (ps.map List.length).sum ≤ 10000)
    (hR : ∀ t tk', R (.ok (.ret (.str (S ps.flatten) t))) { s with toks := tk' }) :
    wpAny (model prog w) A (reSlice xs.toArray 0 0 0 >>= fun joiner => seqItems? (.ref l) >>= fun d => if (d.getD #[]).isEmpty = true then (pure joiner >>= fun text => ret text) else (call (.builtin "str.join") [joiner, .ref l] >>= fun text => ret text))
      (fun fin s' => match fin with | .done f => R (.ok f) s' | .again c' => c'.quiet = true ∧ codeAny (model prog w) A' c' R s') E s := by
  refine wpAny_bind ?_
  show wpAny _ _ (mkStr ⟨xs.toArray.extract 0 0⟩) _ _ _
  rw [extract_eq]
  refine wpAny_mkStr ?_ (by rw [S_len]; simp)
  have D := N (l, listOf vs.toArray c) (.head _)
  refine wpAny_bind (wpAny_seqItems D.1 rfl ?_)
  cases vs with
  | nil =>
    have : ps = [] := by cases ps with | nil => rfl | cons _ _ => cases hS
    subst this
    show wpAny _ _ (pure _ >>= fun text => ret text) _ _ _
    refine wpAny_bind (wpAny_pure ?_)
    exact wpAny_pure (by have := hR s.toks (s.toks + 1); simpa using this)
  | cons v r =>
    rw [if_neg (by simp)]
    refine wpAny_bind ?_
    refine join_list (ys := ps.map S) (PySem.IsL.isList D.1) (by simpa using hS) ?_ ?_
    · have e : ((ps.map S).map (·.length)) = ps.map List.length := by
        rw [List.map_map]; apply List.map_congr_left; intro x _; exact S_len x
      rw [e]
      have : (S (List.take (0 - 0) (List.drop 0 xs))).length = 0 := by rw [S_len]; simp
      rw [this]; omega
    · intro t' k'
      have e : S (List.take (0 - 0) (List.drop 0 xs)) = S [] := by simp
      rw [e, join_S, joinL_nil]
      exact wpAny_pure (hR t' k')
theorem sub_loop (T : Subs code xs rp res) (hxs : xs.length ≤ 100) (hrp : rp.length ≤ 10) {ts tr : Tok} : ∀ (k i n : Nat) (s : Shared) (vs : List Value) (ps : List (List Nat)) (c : Nat) (R : Result → Shared → Prop),
    i + k = xs.length → PatAt h₀ p code → Fr h₀ L s.heap m → News h₀ L s.heap ((l, listOf vs.toArray c) :: news) → (∀ p ∈ news, p.1 ≠ l) → StrsAre vs (ps.map S) → ps.length ≤ 2 * i → (ps.map List.length).sum ≤ 11 * i →
    (∀ t h' tk', Fr h₀ L h' m → News h₀ L h' news → R (.ok (.ret (.str (S (ps.flatten ++ res i)) t))) { s with heap := h', toks := tk' }) →
    codeAny (model prog w) A (.builtin "re.Pattern.sub.loop" ⟨[.ref p, .str (S xs) ts, .str (S rp) tr, rawInt 0, rawInt 0, rawInt n, rawInt i, rawInt i, .bool false, .ref l, .bool false], []⟩) R s := by
  intro k
  induction k using Nat.strongRecOn with
  | ind k ih =>
    intro i n s vs ps c R hik P F N hne hS hpl hps hR
    refine codeAny_builtin entry_pat_loop ?_
    rw [Around.under_plainId plain_loop]
    unfold Builtin.«re.Pattern.sub.loop»
    refine wpAny_bind (target_k (P.keeps F.keep) ?_)
    show wpAny _ _ (reLiteralCannotBeTurned (.str (S rp) tr) >>= _) _ _ s
    refine wpAny_bind ?_
    unfold reLiteralCannotBeTurned
    refine wpAny_bind ?_
    unfold asStr?
    refine wpAny_pure ?_
    refine wpAny_pure ?_
    show wpAny _ _ (reRunToEnd (Sre.forSearch code xs.toArray 0 i xs.toArray.size false) >>= _) _ _ s
    refine wpAny_bind ?_
    rcases T.go i (by omega) with ⟨NN, m', a1, a2, a3, a4⟩ | ⟨a, b, NN, m', a1, a2, a3, a4, a5, a6, a7, a8, a9⟩
    · refine wp_none a1 a2 a3 ?_
      show wpAny _ _ (if i < xs.toArray.size then (reSlice xs.toArray 0 i xs.toArray.size >>= fun v => updateSeq l (fun x => x.push v) >>= fun _ => (reSlice xs.toArray 0 0 0 >>= fun joiner => seqItems? (.ref l) >>= fun d => if (d.getD #[]).isEmpty = true then (pure joiner >>= fun text => ret text) else (call (.builtin "str.join") [joiner, .ref l] >>= fun text => ret text)))
        else (reSlice xs.toArray 0 0 0 >>= fun joiner => seqItems? (.ref l) >>= fun d => if (d.getD #[]).isEmpty = true then (pure joiner >>= fun text => ret text) else (call (.builtin "str.join") [joiner, .ref l] >>= fun text => ret text))) _ _ s
      by_cases hi : i < xs.toArray.size
      · rw [if_pos hi]
        refine wpAny_bind ?_
        show wpAny _ _ (mkStr ⟨xs.toArray.extract i xs.toArray.size⟩) _ _ _
        rw [extract_eq]
        refine wpAny_mkStr ?_ (by rw [S_len, sizeLine_eq]; simp; omega)
        refine wpAny_bind (push_k F N hne (by rw [hS.len_eq]; simp; omega) ?_)
        intro h' F' N'
        refine join_tail (xs := xs) (ps := ps ++ [List.take (xs.toArray.size - i) (List.drop i xs)]) N' (strs_app hS _ _) (by simp; omega) ?_
        intro t tk'
        have e : (ps ++ [List.take (xs.toArray.size - i) (List.drop i xs)]).flatten = ps.flatten ++ res i := by
          rw [a4, List.take_of_length_le (by simp)]; simp
        rw [e]
        exact hR t _ _ F' (fun p hp => N' p (.tail _ hp))
      · rw [if_neg hi]
        refine join_tail (xs := xs) N hS (by omega) ?_
        intro t tk'
        have e : ps.flatten = ps.flatten ++ res i := by
          rw [a4, List.drop_of_length_le (by simp at hi; omega)]; simp
        rw [e]
        exact hR t _ _ F (fun p hp => N p (.tail _ hp))
    · refine wp_found a4 a5 a6 ?_
      have fin : ∀ (s' : Shared) (vs' : List Value) (ps' : List (List Nat)) (c' : Nat), (∃ h' tk', s' = { s with heap := h', toks := tk' }) → Fr h₀ L s'.heap m → News h₀ L s'.heap ((l, listOf vs'.toArray c') :: news) → StrsAre vs' (ps'.map S) → ps'.length + 1 ≤ 2 * b → (ps'.map List.length).sum + 10 ≤ 11 * b → ps'.flatten = ps.flatten ++ (xs.drop i).take (a - i) →
          wpAny (model prog w) A.in1 (updateSeq l (fun x => x.push (Value.str (S rp) tr)) >>= fun _ => again (.builtin "re.Pattern.sub.loop" ⟨[.ref p, .str (S xs) ts, .str (S rp) tr, rawInt 0, rawInt 0, rawInt ((n : Int) + 1), rawInt m'.handed, rawInt m'.handed, .bool (m'.handed == m'.start), .ref l, .bool false], []⟩))
            (fun fin s' => match fin with | .done f => R (.ok f) s' | .again c' => c'.quiet = true ∧ codeAny (model prog w) A c' R s') (fun e s' => R (.error e) s') s' := by
        rintro _ vs' ps' c' ⟨h', tk', rfl⟩ F' N' hS' hl1 hl2 hfl
        refine wpAny_bind (push_k F' N' hne (by rw [hS'.len_eq]; simp; omega) ?_)
        intro h2 F2 N2
        refine wpAny_pure ⟨plainId_quiet plain_loop _, ?_⟩
        have eb : (m'.handed == m'.start) = false := by rw [a7, a8]; simp; omega
        rw [eb, a8]
        refine ih (xs.length - b) (by omega) b (n + 1) _ _ (ps' ++ [rp]) _ R (by omega) P F2 N2 hne (strs_app hS' _ _) (by simp; omega) (by simp; omega) ?_
        intro t h3 tk3 F3 N3
        have e : (ps' ++ [rp]).flatten ++ res b = ps.flatten ++ res i := by
          rw [a9]; simp [hfl]
        rw [e]
        exact hR t h3 tk3 F3 N3
      show wpAny _ _ (if i < m'.start then (reSlice xs.toArray 0 i m'.start >>= fun v => updateSeq l (fun x => x.push v) >>= fun _ => (updateSeq l (fun x => x.push (Value.str (S rp) tr)) >>= fun _ => again (.builtin "re.Pattern.sub.loop" ⟨[.ref p, .str (S xs) ts, .str (S rp) tr, rawInt 0, rawInt 0, rawInt ((n : Int) + 1), rawInt m'.handed, rawInt m'.handed, .bool (m'.handed == m'.start), .ref l, .bool false], []⟩)))
        else (updateSeq l (fun x => x.push (Value.str (S rp) tr)) >>= fun _ => again (.builtin "re.Pattern.sub.loop" ⟨[.ref p, .str (S xs) ts, .str (S rp) tr, rawInt 0, rawInt 0, rawInt ((n : Int) + 1), rawInt m'.handed, rawInt m'.handed, .bool (m'.handed == m'.start), .ref l, .bool false], []⟩))) _ _ s
      by_cases hi : i < m'.start
      · rw [if_pos hi]
        refine wpAny_bind ?_
        show wpAny _ _ (mkStr ⟨xs.toArray.extract i m'.start⟩) _ _ _
        rw [extract_eq]
        refine wpAny_mkStr ?_ (by rw [S_len, sizeLine_eq]; simp; omega)
        refine wpAny_bind (push_k F N hne (by rw [hS.len_eq]; simp; omega) ?_)
        intro h' F' N'
        rw [a7] at hi
        refine fin _ _ (ps ++ [(xs.drop i).take (m'.start - i)]) _ ⟨_, _, rfl⟩ F' N' (strs_app hS _ _) (by simp; omega) (by rw [a7]; simp; omega) (by rw [a7]; simp)
      · rw [if_neg hi]
        rw [a7] at hi
        refine fin s vs ps c ⟨_, _, rfl⟩ F N hS (by omega) (by omega) ?_
        have : a - i = 0 := by omega
        rw [this]; simp
end
end Mine
namespace Mine
open PySem.Builtin.Re
theorem named_sub (a b : Value) : reNamed "re.Pattern.sub" "sub" ["repl", "string", "count"] 2 [a, b] [] = pure [some a, some b, none] := rfl
section
variable {prog : Program} {w : World} {A : Around} {E : Value → Shared → Prop} {s : Shared} {h₀ : Heap} {L p : Addr} {m : Str → Option Value} {news : List (Addr × Obj)} {code : Array Nat} {xs rp : List Nat} {res : Nat → List Nat}
theorem sub_call {ts tr : Tok} {Q : Value → Shared → Prop} (T : Subs code xs rp res) (hxs : xs.length ≤ 100) (hrp : rp.length ≤ 10) (h92 : ((S rp).cps.contains 92) = false) (P : PatAt h₀ p code) (F : Fr h₀ L s.heap m) (N : News h₀ L s.heap news)
    (h : ∀ t h' tk', Fr h₀ L h' m → News h₀ L h' news → Q (.str (S (res 0)) t) { s with heap := h', toks := tk' }) :
    wpAny (model prog w) A (call (.builtin "re.Pattern.sub") [.ref p, .str (S rp) tr, .str (S xs) ts]) Q E s := by
  have Ps := P.keeps F.keep
  have hT : s.TypeIs (.ref p) "re.Pattern" := by
    obtain ⟨o, f0, f1, f3, f4, q, oq, its, n, ho, hc, _⟩ := Ps
    exact ⟨o, ho, hc⟩
  refine wpAny_call (codeAny_call_builtin slot_pat_sub.plain entry_pat_sub (slot_pat_sub.check _ _ _ _ _ _ _ _ hT (args_pat_sub _ _ _) ?_))
  show wpAny _ _ (reSubstitute "re.Pattern.sub" "sub" false ⟨[.ref p, .str (S rp) tr, .str (S xs) ts], []⟩) _ _ s
  unfold reSubstitute
  refine wpAny_bind (wpAny_of_eq (named_sub _ _) ?_)
  refine wpAny_bind (wpAny_pure ?_)
  refine wpAny_bind (wpAny_specialOf (typeIs_str _ _ _) str_call_none ?_)
  show wpAny _ _ (asStr? (.str (S rp) tr) >>= _) _ _ s
  refine wpAny_bind (wpAny_pure ?_)
  show wpAny _ _ (pure (!(S rp).cps.contains 92) >>= _) _ _ s
  refine wpAny_bind (wpAny_pure ?_)
  rw [h92]
  show wpAny _ _ (pure (Value.str (S rp) tr, (0 : Int)) >>= _) _ _ s
  refine wpAny_bind (wpAny_pure ?_)
  show wpAny _ _ (holding [.str (S rp) tr] (reWholeTarget (.ref p) (.str (S xs) ts)) >>= _) _ _ s
  refine wpAny_bind (wpAny_holding (target_k Ps ?_))
  show wpAny _ _ (newList [] >>= _) _ _ s
  refine wpAny_bind (wpAny_newList ?_ (Nat.zero_le _))
  refine wpAny_pure ⟨plainId_quiet plain_loop _, ?_⟩
  have hk : ∀ b o, s.heap.get? b = some o → (s.heap.push { cls := .type "list", data := .seq [].toArray }).get? b = some o := fun b o e => Heap.get?_push_of_some _ e
  have N' := news_pushed F N hk (D := s.heap.objs.size) (o := listOf [].toArray 0) (Heap.get?_push_size _ rfl) rfl
  refine sub_loop (xs := xs) (rp := rp) (res := res) T hxs hrp xs.length 0 0 _ [] [] 0 _ (by omega) P (F.keeps hk) N' (fun p hp e => absurd (Heap.lt_size (N p hp).1) (by rw [e]; exact Nat.lt_irrefl _)) .nil (by simp) (by simp) ?_
  intro t h' tk' F' N''
  exact h t h' tk' F' N''
end
end Mine
end

section
open PySem PySem.W PyProof.Rows PySem.Calls
set_option maxRecDepth 100000
set_option maxHeartbeats 8000000
namespace Mine
def dropLF : List Nat → List Nat
  | [] => []
  | c :: r => if c = 10 then r else c :: r
theorem dropLF_le (r : List Nat) : (dropLF r).length ≤ r.length := by
  cases r with
  | nil => simp [dropLF]
  | cons c r => simp only [dropLF]; split <;> simp
/-- the line ends made both signs -/
def fixE : List Nat → List Nat
  | [] => []
  | c :: r => if c = 13 then 13 :: 10 :: fixE (dropLF r) else if c = 10 then 13 :: 10 :: fixE r else c :: fixE r
termination_by xs => xs.length
decreasing_by all_goals (have := dropLF_le r; simp; try omega)
/-- a dot more ahead of a row that begins with one -/
def dotE : Bool → List Nat → List Nat
  | _, [] => []
  | b, c :: r => if b = true ∧ c = 46 then 46 :: 46 :: dotE false r else c :: dotE (c == 10) r
theorem fixE_nil : fixE [] = [] := by rw [fixE]
theorem fixE_cons (c : Nat) (r : List Nat) : fixE (c :: r) = if c = 13 then 13 :: 10 :: fixE (dropLF r) else if c = 10 then 13 :: 10 :: fixE r else c :: fixE r := by rw [fixE]
theorem getD_arr (xs : List Nat) (i : Nat) : xs.toArray.getD i 0 = xs.getD i 0 := by
  simp [Array.getD_eq_getD_getElem?, List.getD_eq_getElem?_getD]
theorem drop_at {xs : List Nat} {i : Nat} (h : i < xs.length) : xs.drop i = xs.getD i 0 :: xs.drop (i + 1) := by
  rw [List.drop_eq_getElem_cons h, List.getD_eq_getElem?_getD, List.getElem?_eq_getElem h]; rfl
theorem take_sub_succ {xs : List Nat} {i a : Nat} (h : i < xs.length) (ha : i < a) : (xs.drop i).take (a - i) = xs.getD i 0 :: (xs.drop (i + 1)).take (a - (i + 1)) := by
  rw [drop_at h, show a - i = (a - (i + 1)) + 1 by omega, List.take_succ_cons]
theorem fixE_skip {xs : List Nat} : ∀ (k i a : Nat), i + k = a → a ≤ xs.length → (∀ q, i ≤ q → q < a → ¬ eol (xs.getD q 0)) → fixE (xs.drop i) = (xs.drop i).take (a - i) ++ fixE (xs.drop a) := by
  intro k
  induction k with
  | zero => intro i a e _ _; have : i = a := by omega
            subst this; simp
  | succ k ih =>
    intro i a e ha hq
    have hi : i < xs.length := by omega
    have hn := hq i (Nat.le_refl _) (by omega)
    rw [take_sub_succ hi (by omega), drop_at hi, fixE_cons, if_neg (fun q => hn (.inr q)), if_neg (fun q => hn (.inl q)), ih (i + 1) a (by omega) ha (fun q h1 h2 => hq q (by omega) h2)]
    rfl
theorem fixE_subs (xs : List Nat) (hxs : xs.length ≤ 100) : Subs code2 xs [13, 10] (fun i => fixE (xs.drop i)) := by
  refine ⟨fun i hi => ?_⟩
  rcases search2 (text := xs.toArray) (start := i) (by simpa using hi) with ⟨j, e, N, m', h1, h2, h3, h4, h5, h6, h7, h8, h9, h10⟩ | ⟨N, m', h3, h6, h7, h8⟩
  · have hj : j < xs.length := by simpa using h2
    simp only [getD_arr] at h3 h4 h5
    have hsz : xs.toArray.size = xs.length := by simp
    rw [hsz] at h5
    have he : j < e ∧ e ≤ xs.length := by
      rw [h5]; split <;> omega
    refine .inr ⟨j, e, N, m', h1, he.1, he.2, by omega, h7, h8, h9, h10, ?_⟩
    show fixE (xs.drop i) = _
    rw [fixE_skip (j - i) i j (by omega) (by omega) h3, List.append_assoc]
    congr 1
    rw [drop_at hj, fixE_cons]
    by_cases c13 : xs.getD j 0 = 13
    · rw [if_pos c13]
      show 13 :: 10 :: fixE (dropLF (xs.drop (j + 1))) = 13 :: 10 :: fixE (xs.drop e)
      congr 2
      rw [h5]
      by_cases hn : j + 1 < xs.length ∧ xs.getD (j + 1) 0 = 10
      · rw [if_pos ⟨c13, hn⟩, drop_at hn.1, dropLF, if_pos hn.2]
      · rw [if_neg (fun q => hn q.2)]
        by_cases hl : j + 1 < xs.length
        · have : xs.getD (j + 1) 0 ≠ 10 := fun q => hn ⟨hl, q⟩
          rw [drop_at hl, dropLF, if_neg this]
        · rw [List.drop_of_length_le (by omega)]; rfl
    · have c10 : xs.getD j 0 = 10 := h4.resolve_right c13
      rw [if_neg c13, if_pos c10, h5, if_neg (fun q => c13 q.1)]
      rfl
  · refine .inl ⟨N, m', by omega, h7, h8, ?_⟩
    simp only [getD_arr] at h3
    show fixE (xs.drop i) = _
    have := fixE_skip (xs := xs) (xs.length - i) i xs.length (by omega) (Nat.le_refl _) (fun q h1 h2 => h3 q h1 (by simpa using h2))
    rw [this, List.drop_length, fixE_nil, List.append_nil, List.take_of_length_le (by simp)]
def rbg (xs : List Nat) (i : Nat) : Bool := i == 0 || xs.getD (i - 1) 0 == 10
theorem rbg_iff (xs : List Nat) (i : Nat) : rbg xs i = true ↔ rowBegin xs.toArray i := by
  unfold rbg rowBegin
  rw [getD_arr, Bool.or_eq_true, beq_iff_eq, beq_iff_eq]
theorem rbg_succ (xs : List Nat) (i : Nat) : rbg xs (i + 1) = (xs.getD i 0 == 10) := by simp [rbg]
theorem dotE_skip {xs : List Nat} : ∀ (k i a : Nat), i + k = a → a ≤ xs.length → (∀ q, i ≤ q → q < a → ¬ dotAt xs.toArray q) → dotE (rbg xs i) (xs.drop i) = (xs.drop i).take (a - i) ++ dotE (rbg xs a) (xs.drop a) := by
  intro k
  induction k with
  | zero => intro i a e _ _; have : i = a := by omega
            subst this; simp
  | succ k ih =>
    intro i a e ha hq
    have hi : i < xs.length := by omega
    have hn := hq i (Nat.le_refl _) (by omega)
    have hn' : ¬ (rbg xs i = true ∧ xs.getD i 0 = 46) := fun q => hn ⟨(rbg_iff xs i).mp q.1, by simpa using hi, by rw [getD_arr]; exact q.2⟩
    rw [take_sub_succ hi (by omega), drop_at hi, dotE, if_neg hn', ← rbg_succ, ih (i + 1) a (by omega) ha (fun q h1 h2 => hq q (by omega) h2)]
    rfl
theorem dotE_subs (xs : List Nat) (hxs : xs.length ≤ 100) : Subs code1 xs [46, 46] (fun i => dotE (rbg xs i) (xs.drop i)) := by
  refine ⟨fun i hi => ?_⟩
  have hsz : xs.toArray.size = xs.length := by simp
  rcases search1 (text := xs.toArray) (start := i) (by simpa using hi) with ⟨j, N, m', h1, h2, h3, h6, h7, h8, h9, h10⟩ | ⟨N, m', h3, h6, h7, h8⟩
  · obtain ⟨d1, d2, d3⟩ := h2
    have hj : j < xs.length := by simpa using d2
    rw [getD_arr] at d3
    refine .inr ⟨j, j + 1, N, m', h1, by omega, by omega, by omega, h7, h8, h9, h10, ?_⟩
    show dotE (rbg xs i) (xs.drop i) = _
    rw [dotE_skip (j - i) i j (by omega) (by omega) h3, List.append_assoc]
    congr 1
    have e1 : rbg xs j = true := (rbg_iff xs j).mpr d1
    have e2 : rbg xs (j + 1) = false := by rw [rbg_succ, d3]; rfl
    rw [drop_at hj, dotE, if_pos ⟨e1, d3⟩, e2]
    rfl
  · refine .inl ⟨N, m', by omega, h7, h8, ?_⟩
    show dotE (rbg xs i) (xs.drop i) = _
    have := dotE_skip (xs := xs) (xs.length - i) i xs.length (by omega) (Nat.le_refl _) (fun q h1 h2 => h3 q h1 (by simpa using h2))
    rw [this, List.drop_length, dotE, List.append_nil, List.take_of_length_le (by simp)]
end Mine
end

section
open PySem PySem.W PyProof.Rows PySem.Calls
set_option maxRecDepth 100000
set_option maxHeartbeats 8000000
namespace Mine
theorem fill5 : PySem.Challenge.rw_nq0030_01.prog = PySem.Challenge.rw_nq0030_01.prog ∧ Mine.hd.heap_39 = Mine.hd.heap_39 := by w_top off; k_fill; exact ⟨rfl, rfl⟩
theorem pat2 {w : World} {h : Heap} (X : (Mine.hd.heap_39 w.params).In h) : PatAt h 55 code2 := ⟨_, _, _, _, _, 54, _, _, _, X 55 _ rfl, rfl, rfl, rfl, X 54 _ rfl, rfl, by decide +kernel⟩
theorem pat1 {w : World} {h : Heap} (X : (Mine.hd.heap_39 w.params).In h) : PatAt h 50 code1 := ⟨_, _, _, _, _, 49, _, _, _, X 50 _ rfl, rfl, rfl, rfl, X 49 _ rfl, rfl, by decide +kernel⟩
theorem crlf_S : Str.ofString "\r\n" = S [13, 10] := by decide +kernel
theorem dots_S : Str.ofString ".." = S [46, 46] := by decide +kernel
theorem fix_call {prog : Program} {w : World} {loose mean mg mb} (news) (xs : List Nat) (ta : Tok) (ha : xs.length ≤ 40) :
    Con prog w loose mean mg mb 69 news [.str (S xs) ta] (fun t => .str (S (fixE xs)) t) := by
  intro dp un gd cn cs aF ccd cl outer A₀ base h₀ L m s Q E B₀ F₀ X₀ N₀ T₀ hcs hdp hun hret
  have hla : (S xs).length = xs.length := S_len xs
  refine wpAny_call ?_
  k_dflt cell_enter
  rename_i g1 L1 h1 FG1 F1 N1 B1 X1 T1
  replace F1 : Fr g1 L1 h1 (fun y => List.lookup y [(Str.ofString "data", .str (S xs) ta)]) := F1
  repeat ((fail_if_success (with_reducible show wpAny _ _ (getMethod _ _ _) _ _ _)); walk1)
  refine getMethod_pat ((pat2 X1).keeps F1.keep) ?_
  dsimp only
  k_steps
  rw [crlf_S]
  refine sub_call (fixE_subs xs (by omega)) (by omega) (by decide) (by decide +kernel) (pat2 X1) F1 N1 ?_
  intro t2 h2 tk2 F2 N2
  simp only [List.drop_zero]
  k_steps
  exact cb_retS (Q := Q) hret rfl (by assumption) (by assumption)
theorem fixE_len : ∀ (n : Nat) (xs : List Nat), xs.length ≤ n → (fixE xs).length ≤ 2 * xs.length := by
  intro n
  induction n with
  | zero => intro xs h; have : xs = [] := List.length_eq_zero_iff.mp (by omega); subst this; rw [fixE_nil]; simp
  | succ n ih =>
    intro xs h
    cases xs with
    | nil => rw [fixE_nil]; simp
    | cons c r =>
      rw [fixE_cons]
      simp only [List.length_cons] at h ⊢
      have l1 := dropLF_le r
      have i1 := ih r (by omega)
      have i2 := ih (dropLF r) (by omega)
      split
      · simp only [List.length_cons]; omega
      · split <;> simp only [List.length_cons] <;> omega
theorem quote_call {prog : Program} {w : World} {loose mean mg mb} (news) (xs : List Nat) (ta : Tok) (ha : xs.length ≤ 40) :
    Con prog w loose mean mg mb 62 news [.str (S xs) ta] (fun t => .str (S (dotE true (fixE xs))) t) := by
  intro dp un gd cn cs aF ccd cl outer A₀ base h₀ L m s Q E B₀ F₀ X₀ N₀ T₀ hcs hdp hun hret
  have hla : (S xs).length = xs.length := S_len xs
  have hfl := fixE_len _ xs (Nat.le_refl _)
  refine wpAny_call ?_
  k_dflt cell_enter
  rename_i g1 L1 h1 FG1 F1 N1 B1 X1 T1
  replace F1 : Fr g1 L1 h1 (fun y => List.lookup y [(Str.ofString "data", .str (S xs) ta)]) := F1
  repeat ((fail_if_success (with_reducible show wpAny _ _ (getMethod _ _ _) _ _ _)); walk1)
  refine getMethod_pat ((pat1 X1).keeps F1.keep) ?_
  dsimp only
  repeat ((fail_if_success (with_reducible show wpAny _ _ (getMethod _ _ _) _ _ _)); walk1)
  refine getMethod_pat ((pat2 X1).keeps F1.keep) ?_
  dsimp only
  k_steps
  rw [crlf_S]
  refine sub_call (fixE_subs xs (by omega)) (by omega) (by decide) (by decide +kernel) (pat2 X1) F1 N1 ?_
  intro t2 h2 tk2 F2 N2
  simp only [List.drop_zero]
  k_steps
  rw [dots_S]
  refine sub_call (dotE_subs (fixE xs) (by omega)) (by omega) (by decide) (by decide +kernel) (pat1 X1) F2 N2 ?_
  intro t3 h3 tk3 F3 N3
  simp only [List.drop_zero]
  k_steps
  exact cb_retS (Q := Q) hret rfl (by assumption) (by assumption)
end Mine
end

section
open PySem PySem.W PyProof.Rows PySem.Calls PySem.Spec PyProof.V
set_option maxRecDepth 100000
set_option maxHeartbeats 8000000
namespace Mine
/-- a turn's end in `range_any` -/
def TurnPost (h₀ : Heap) (L I : Addr) (oI : Obj) (J : (Str → Option Value) → List (Addr × Obj) → Prop) (s₁ : Shared) (Q : Flow → Shared → Prop) (f : Flow) (s₂ : Shared) : Prop :=
  match f with
  | .ret v => Q (.ret v) s₂
  | .brk => Q .next s₂
  | _ => Sealed (∃ h' tk' m' news', s₂ = { s₁ with heap := h', toks := tk' } ∧ Fr h₀ L h' m' ∧ News h₀ L h' ((I, oI) :: news') ∧ (∀ p ∈ news', p.1 ≠ I) ∧ J m' news')
section
variable {prog : Program} {w : World} {A : Around} {E : Value → Shared → Prop} {s : Shared} {env : Env} {h₀ : Heap} {x : Str} {body : List Stmt} {Q : Flow → Shared → Prop}
theorem range_any {r : Addr} {a₀ b₀ : Int} {t₀ u₀ v₀ : Tok} {n : Nat} {m₀ : Str → Option Value} {news : List (Addr × Obj)} (J : Nat → (Str → Option Value) → List (Addr × Obj) → Prop)
    (hh : A.handled = none) (hr : IsRange s.heap r a₀ b₀ 1 t₀ u₀ v₀) (hsmall : Builtin.Range.small a₀ b₀ 1 = true) (hn : Builtin.Range.rangeSize a₀ b₀ 1 = (n : Int)) (F : Fr h₀ env.locals s.heap m₀) (N : News h₀ env.locals s.heap news) (h0 : J 0 m₀ news)
    (turn : ∀ (i : Nat) t m₁ news₁ h tk I oI, i < n → J i m₁ news₁ → Fr h₀ env.locals h (fun y => if y = x then some (.int (a₀ + (i : Int)) t) else m₁ y) → News h₀ env.locals h ((I, oI) :: news₁) → (∀ p ∈ news₁, p.1 ≠ I) →
      wpAny (model prog w) A (execs body env) (TurnPost h₀ env.locals I oI (J (i + 1)) { s with heap := h, toks := tk } Q) E { s with heap := h, toks := tk })
    (done : ∀ m₁ news₁ h tk, J n m₁ news₁ → Fr h₀ env.locals h m₁ → News h₀ env.locals h news₁ → Q .next { s with heap := h, toks := tk }) :
    wpAny (model prog w) A (pyIter (.ref r)) (fun it s₂ => LoopAtV prog w A h₀ env x body Q E it s₂) E s := by
  refine wpAny_pyIter_range hr hsmall ?_
  have W : Walks prog w A s.heap.objs.size [s.heap.objs.size] [s.heap.objs.size] n (fun i v => i < n ∧ ∃ t, v = .int (a₀ + i * 1) t)
      (fun i h => IsRangeIter h s.heap.objs.size (a₀ + (i : Nat) * 1) ((n : Int) - (i : Nat)) 1) := (Walks.range hh _ a₀ 1 n).bound
  refine ⟨_, _, _, n, _, _, m₀, news, J, rfl, W, ?_, ?_, ?_, (by show IsRangeIter _ _ _ _ _; rw [hn]; simpa using Heap.get?_push_size _ rfl), F.push _, (fun p hp => ⟨Heap.get?_push_of_some _ (N p hp).1, (N p hp).2⟩), h0, ?_, ?_⟩
  · intro hm
    exact absurd F.ns.lt ((List.mem_singleton.mp hm) ▸ Nat.lt_irrefl _)
  · intro b hb
    rw [List.mem_singleton.mp hb]
    exact next_is_new F
  · intro p hp hI
    exact absurd (Heap.lt_size (N p hp).1) ((List.mem_singleton.mp hI) ▸ Nat.lt_irrefl _)
  · rintro i v m₁ news₁ s₁ own ⟨hh', tk', rfl⟩ hin ⟨_, t, rfl⟩ hJ hoff hfp hget hall hst F₁ N₁
    have e1 : a₀ + (i : Int) * 1 = a₀ + (i : Int) := by omega
    rw [e1] at F₁
    obtain ⟨oI, hoI⟩ : ∃ oI, hh'.get? s.heap.objs.size = some oI := ⟨_, hst⟩
    have hin' : (s.heap.objs.size, oI) ∈ own := hall _ (.head _) (next_is_new F) oI hoI
    have hown : ∀ p ∈ own, p = (s.heap.objs.size, oI) := by
      intro p hp
      have a := List.mem_singleton.mp (hfp p hp)
      have b := hget p hp
      obtain ⟨p1, p2⟩ := p
      dsimp only at a b
      subst a
      have : some p2 = some oI := b.symm.trans hoI
      cases this
      rfl
    have NI : News h₀ env.locals hh' ((s.heap.objs.size, oI) :: news₁) := fun p hp => N₁ p (by
      rcases List.mem_cons.mp hp with rfl | hp
      · exact List.mem_append_left _ hin'
      · exact List.mem_append_right _ hp)
    refine wpAny_mono (turn i t m₁ news₁ hh' tk' s.heap.objs.size oI hin hJ F₁ NI (fun p hp e => hoff p hp (by rw [e]; exact .head _))) (fun f s₂ p => ?_) fun _ _ e => e
    have fin : Sealed (∃ h' tk2 m' news', s₂ = ({ s with heap := h', toks := tk2 } : Shared) ∧ Fr h₀ env.locals h' m' ∧ News h₀ env.locals h' ((s.heap.objs.size, oI) :: news') ∧ (∀ p ∈ news', p.1 ≠ s.heap.objs.size) ∧ J (i + 1) m' news') →
        LoopStepU h₀ env.locals [s.heap.objs.size] own (J (i + 1)) { s with heap := hh', toks := tk' } .next s₂ := by
      rintro ⟨h', tk2, m', news', e, F', N', hn', hJ'⟩
      refine ⟨rfl, h', tk2, m', news', e, F', fun p hp => N' p ?_, fun p hp q => hn' p hp (List.mem_singleton.mp q), hJ'⟩
      rcases List.mem_append.mp hp with hp | hp
      · rw [hown p hp]; exact .head _
      · exact .tail _ hp
    cases f with
    | ret v => exact .ret p
    | brk => exact .brk p
    | next => exact .next (fin p)
    | cont => exact .cont (fin p)
  · rintro h' tk m' news' F' N' _ hJ
    exact done m' news' h' tk hJ F' N'
end
end Mine
end

section
open PySem PySem.W PyProof.Rows PySem.Calls
set_option maxRecDepth 100000
set_option maxHeartbeats 8000000
namespace Mine
theorem fill6 : PySem.Challenge.rw_nq0030_01.prog = PySem.Challenge.rw_nq0030_01.prog ∧ Mine.hd.heap_39 = Mine.hd.heap_39 := by w_top off; k_fill; exact ⟨rfl, rfl⟩
local macro_rules | `(tactic| k_steps) => `(tactic| repeat' ((fail_if_success (with_reducible show Sealed _)); (fail_if_success (with_reducible show KswEnd _ _ _ _ _ _ _ _ _ _ _ _)); (fail_if_success (with_reducible show InvEndN _ _ _ _ _ _ _)); (fail_if_success (with_reducible show TurnPost _ _ _ _ _ _ _ _ _)); first | (k_unfold; (try dsimp only)) | ((fail_if_success (with_reducible show wpAny _ _ (exec (Stmt.While _ _ _ _) _) _ _ _)); (fail_if_success (with_reducible show wpAny _ _ (exec (Stmt.For _ _ _ _ _) _) _ _ _)); (fail_if_success (with_reducible show wpAny _ _ (call (Value.ref _) _ _) _ _ _)); (fail_if_success (with_reducible show wpAny _ _ (pyIter _) _ _ _)); (fail_if_success (with_reducible show wpAny _ _ (call (Value.builtin "list.append") _ _) _ _ _)); (fail_if_success (with_reducible show wpAny _ _ (subscriptTail _ _ (Value.ref _) (Value.int _ _)) _ _ _)); (first | walk1 | (dsimp only; walk1))) | (leave1; walk_say "STEP leave1"; try dsimp only) | fail "no step"))
def colAt (xs zs : List Nat) (i : Nat) : List Int := (List.range (zs.length + 1)).map fun k => edt xs zs i k
def colTo (xs zs : List Nat) (i k : Nat) : List Int := (List.range (k + 1)).map fun k => edt xs zs i k
theorem col_0 {xs zs : List Nat} : (rangeKs 0 ((zs.length : Int) + 1 - 0).toNat).map (fun k' => 2 * k') = colAt xs zs 0 := by
  have e : ((zs.length : Int) + 1 - 0).toNat = zs.length + 1 := by omega
  rw [e]
  unfold colAt rangeKs
  rw [List.map_map]
  apply List.map_congr_left
  intro k hk
  have : k < zs.length + 1 := by simpa using hk
  rw [edt_0 (by omega)]
  simp
theorem offne {D : Addr} : ∀ {l : List (Addr × Obj)}, LCg.Off1 D l → ∀ p ∈ l, p.1 ≠ D
  | [], _, _, hp => (nomatch hp)
  | q :: r, h, p, hp => by
    rcases List.mem_cons.mp hp with rfl | hp
    · exact h.1
    · exact offne h.2 p hp
theorem item_neg {prog : Program} {w : World} {A : Around} {E : Value → Shared → Prop} {s : Shared} {value slice : PySem.Expr} {l : Addr} {items : Array Value} {k : Int} {u : Tok} {x : Value} {Q : Value → Shared → Prop} (hl : s.heap.IsList l items)
    (h0 : k < 0) (h1 : -(items.size : Int) ≤ k) (hfit : -(2 ^ 63) ≤ k) (hx : items[(k + items.size).toNat]? = some x) (h : Q x s)
    (hs : subscripted slice false (.ref l) (.int k u) = operate [.ref l, .int k u] (getItem (.ref l) (.int k u)) := by with_unfolding_all rfl) :
    wpAny (model prog w) A (subscriptTail value slice (.ref l) (.int k u)) Q E s :=
  tail_any hl.typeIs slot_list_getitem.lookup (wpAny_getItem_list_neg hl h0 h1 hfit hx h) hs
theorem price_0 {xs zs : List Nat} {i k : Nat} (hi : i < xs.length) (hk : k < zs.length) (h : (Txt.item (S xs) (i : Int) == Txt.item (S zs) (k : Int)) = true) : cst (xs.getD i 0) (zs.getD k 0) = 0 := by
  rw [it_at (by omega) (by omega), it_at (by omega) (by omega)] at h
  unfold cst subCost
  rw [if_pos (by simpa using h)]
theorem price_1 {xs zs : List Nat} {i k : Nat} (hi : i < xs.length) (hk : k < zs.length) (h : (Txt.item (S xs) (i : Int) == Txt.item (S zs) (k : Int)) = false) (h2 : (Txt.lower (Txt.item (S xs) (i : Int)) == Txt.lower (Txt.item (S zs) (k : Int))) = true) : cst (xs.getD i 0) (zs.getD k 0) = 1 := by
  rw [it_at (by omega) (by omega), it_at (by omega) (by omega)] at h h2
  unfold cst subCost
  rw [if_neg (by simpa using h), if_pos (by simpa using h2)]
theorem price_2 {xs zs : List Nat} {i k : Nat} (hi : i < xs.length) (hk : k < zs.length) (h : (Txt.item (S xs) (i : Int) == Txt.item (S zs) (k : Int)) = false) (h2 : (Txt.lower (Txt.item (S xs) (i : Int)) == Txt.lower (Txt.item (S zs) (k : Int))) = false) : cst (xs.getD i 0) (zs.getD k 0) = 2 := by
  rw [it_at (by omega) (by omega), it_at (by omega) (by omega)] at h h2
  unfold cst subCost
  rw [if_neg (by simpa using h), if_neg (by simpa using h2)]
theorem col_get {xs zs : List Nat} {i k : Nat} (h : k < zs.length + 1) : (colAt xs zs i).getD k 0 = edt xs zs i k := by
  simp [colAt, List.getD_eq_getElem?_getD, h]
theorem colTo_get {xs zs : List Nat} {i k : Nat} : (colTo xs zs i k).getD k 0 = edt xs zs i k := by
  simp [colTo, List.getD_eq_getElem?_getD]
theorem colTo_succ {xs zs : List Nat} {i k : Nat} : colTo xs zs i (k + 1) = colTo xs zs i k ++ [edt xs zs i (k + 1)] := by
  simp [colTo, List.range_succ]
theorem least_call {prog : Program} {w : World} {loose mean mg mb} (news) (xs zs : List Nat) (ta tb : Tok) (ha : xs.length ≤ 40) (hb : zs.length ≤ 40) :
    Con prog w loose mean mg mb 86 news [.str (S xs) ta, .str (S zs) tb] (fun t => .int (edl xs zs) t) := by
  intro dp un gd cn cs aF ccd cl outer A₀ base h₀ L m s Q E B₀ F₀ X₀ N₀ T₀ hcs hdp hun hret
  have hla : (S xs).length = xs.length := S_len xs
  have hlb : (S zs).length = zs.length := S_len zs
  refine wpAny_call ?_
  k_dflt cell_enter
  rename_i g1 L1 h1 FG1 F1 N1 B1 X1 T1
  replace F1 : Fr g1 L1 h1 (fun y => List.lookup y [(Str.ofString "second", .str (S zs) tb), (Str.ofString "first", .str (S xs) ta)]) := F1
  k_steps
  rename Fr _ _ _ _ => F2
  rename News _ _ _ _ => N2
  rename IntsAre _ _ => I2
  rename LCg.Off1 _ _ => O2
  rw [hlb, col_0 (xs := xs)] at I2
  refine For_invV g1 rfl rfl ?_
  k_steps
  rename Fr _ _ _ _ => F3
  rename News _ _ _ _ => N3
  rename IsRange _ _ _ _ _ _ _ _ => R3
  refine range_any (n := xs.length) (fun i m₁ news₁ => ∃ (us : List Value) (cnt : Nat) (D : Addr) (mX : Str → Option Value), m₁ = (fun y => if y = Str.ofString "row" then some (.ref D) else if y = Str.ofString "first" then some (.str (S xs) ta) else if y = Str.ofString "second" then some (.str (S zs) tb) else mX y) ∧
    news₁ = (D, listOf us.toArray cnt) :: news ∧ (∀ p ∈ news, p.1 ≠ D) ∧ IntsAre us (colAt xs zs i)) rfl R3 (small_one (by omega) (by omega) (by omega) (by omega)) (by rw [rangeSize_one, hla]; split <;> omega) F3 N3 ?h0 ?turn ?done
  case h0 =>
    refine ⟨_, _, _, ?mX0, funext ?fx0, rfl, offne O2, I2⟩
    case fx0 =>
     intro y
     rcases Classical.em (y = Str.ofString "row") with rfl | e0
     · rfl
     rcases Classical.em (y = Str.ofString "first") with rfl | e1
     · rfl
     rcases Classical.em (y = Str.ofString "second") with rfl | e2
     · rfl
     simp only [if_neg e0, if_neg e1, if_neg e2]
     rfl
  case done =>
    rintro m₁ news₁ h' tk' ⟨us, cnt, D, mX, rfl, rfl, hD, hI⟩ F4 N4
    dsimp only
    k_steps
    have hlD : h'.IsList D us.toArray := PySem.IsL.isList (N4 (D, listOf us.toArray cnt) (.head _)).1
    have hln : us.length = zs.length + 1 := by rw [hI.length]; simp [colAt]
    obtain ⟨tl, htl⟩ := hI.get zs.length (edt xs zs xs.length zs.length) (by simp [colAt])
    refine item_neg (x := .int (edt xs zs xs.length zs.length) tl) hlD (by decide) (by rw [List.size_toArray, hln]; omega) (by decide) ?hx ?hz
    case hx =>
      rw [List.size_toArray, hln]
      have e : ((-1 : Int) + ((zs.length + 1 : Nat) : Int)).toNat = zs.length := by omega
      rw [e]
      simpa using htl
    case hz =>
      dsimp only
      k_steps
      rw [edt_full]
      exact cb_retI (Q := Q) hret rfl (by assumption) (by rename News _ _ _ _ => N5; exact fun p hp => N5 p (.tail _ hp))
  case turn =>
    rintro i t m₁ news₁ h' tk' I oI hi ⟨us, cnt, D, mX, rfl, rfl, hD, hI⟩ F4 N4 hne
    dsimp only at *
    rw [Int.zero_add] at F4
    k_steps
    rename Fr _ _ _ _ => F5
    rename _ < _ ∧ _ < _ ∧ AllLt _ _ => l4
    refine For_invV g1 rfl rfl ?_
    k_steps
    rename Fr _ _ _ _ => F6
    rename News _ _ _ _ => N6
    rename IsRange _ _ _ _ _ _ _ _ => R6
    refine range_any (n := zs.length) (news := (_ :: (I, oI) :: (D, listOf us.toArray cnt) :: news)) (fun k m₁ news₁ => ∃ (us' : List Value) (cnt' : Nat) (Dn : Addr) (mY : Str → Option Value), m₁ = (fun y => if y = Str.ofString "row" then some (.ref Dn) else if y = Str.ofString "above" then some (.ref D) else if y = Str.ofString "i" then some (.int (i : Int) t) else if y = Str.ofString "first" then some (.str (S xs) ta) else if y = Str.ofString "second" then some (.str (S zs) tb) else mY y) ∧
      news₁ = (Dn, listOf us'.toArray cnt') :: (I, oI) :: (D, listOf us.toArray cnt) :: news ∧ (∀ p ∈ (I, oI) :: (D, listOf us.toArray cnt) :: news, p.1 ≠ Dn) ∧ IntsAre us' (colTo xs zs (i + 1) k)) rfl R6 (small_one (by omega) (by omega) (by omega) (by omega)) (by rw [rangeSize_one, hlb]; split <;> omega) F6 (fun p hp => N6 p (.tail _ hp)) ?i0 ?iturn ?idone
    case i0 =>
      refine ⟨[_], 0, _, ?mY0, funext ?fy0, rfl, fun p hp => Nat.ne_of_lt (kst_ltOf (l := (I, oI) :: (D, listOf us.toArray cnt) :: news) ⟨l4.1, l4.2.1, l4.2.2⟩ p hp), ?fi0⟩
      case fy0 =>
        intro y
        rcases Classical.em (y = Str.ofString "row") with rfl | e0
        · rfl
        rcases Classical.em (y = Str.ofString "above") with rfl | e1
        · rfl
        rcases Classical.em (y = Str.ofString "i") with rfl | e2
        · rfl
        rcases Classical.em (y = Str.ofString "first") with rfl | e3
        · rfl
        rcases Classical.em (y = Str.ofString "second") with rfl | e4
        · rfl
        simp only [if_neg e0, if_neg e1, if_neg e2, if_neg e3, if_neg e4]
        (try rfl)
      case fi0 =>
        have e : colTo xs zs (i + 1) 0 = [2 * (i : Int) + 2] := by
          simp only [colTo, List.range_succ, List.range_zero, List.nil_append, List.map_cons, List.map_nil]
          rw [edt_i (by omega)]
          (try (congr 1))
        rw [e]
        exact .cons _ _ .nil
    case idone =>
      rintro m₁ news₁ h2 tk2 ⟨us', cnt', Dn, mY, rfl, rfl, hDn, hI'⟩ F7 N7
      dsimp only
      k_steps
      show Sealed _
      refine ⟨h2, _, _, (Dn, listOf us'.toArray cnt') :: news, rfl, frTo F7 ?gz1, ?gz2, ?gz3, ⟨us', cnt', Dn, (fun y => if y = Str.ofString "above" then some (.ref D) else if y = Str.ofString "i" then some (.int (i : Int) t) else mY y), rfl, rfl, fun p hp => hDn p (.tail _ (.tail _ hp)), hI'⟩⟩
      case gz1 =>
        intro y
        rcases Classical.em (y = Str.ofString "row") with rfl | e0
        · rfl
        rcases Classical.em (y = Str.ofString "first") with rfl | e1
        · rfl
        rcases Classical.em (y = Str.ofString "second") with rfl | e2
        · rfl
        simp only [if_neg e0, if_neg e1, if_neg e2]
      case gz2 =>
        intro p hp
        rcases List.mem_cons.mp hp with rfl | hp
        · exact N7 _ (.tail _ (.head _))
        · rcases List.mem_cons.mp hp with rfl | hp
          · exact N7 _ (.head _)
          · exact N7 p (.tail _ (.tail _ (.tail _ hp)))
      case gz3 =>
        intro p hp
        rcases List.mem_cons.mp hp with rfl | hp
        · exact fun e => hDn _ (.head _) e.symm
        · exact hne p (.tail _ hp)
    case iturn =>
      rintro k t2 m₁ news₁ h2 tk2 I2 oI2 hk ⟨us', cnt', Dn, mY, rfl, rfl, hDn, hI'⟩ F7 N7 hne7
      dsimp only at *
      rw [Int.zero_add] at F7
      repeat ((fail_if_success (with_reducible show wpAny _ _ (exec _ _) _ _ _)); walk1)
      refine wpAny_mono (Q := fun f s' => Sealed (f = Flow.next ∧ ∃ (tp : Tok) (h' : Heap) (tk' : Nat), s' = { s with heap := h', toks := tk' } ∧ Fr g1 L1 h' (fun y => if y = Str.ofString "price" then some (.int (cst (xs.getD i 0) (zs.getD k 0)) tp) else if y = Str.ofString "k" then some (.int (k : Int) t2) else if y = Str.ofString "row" then some (.ref Dn) else if y = Str.ofString "above" then some (.ref D) else if y = Str.ofString "i" then some (.int (i : Int) t) else if y = Str.ofString "first" then some (.str (S xs) ta) else if y = Str.ofString "second" then some (.str (S zs) tb) else mY y) ∧ News g1 L1 h' ((I2, oI2) :: (Dn, listOf us'.toArray cnt') :: (I, oI) :: (D, listOf us.toArray cnt) :: news))) ?w ?q (fun _ _ h => h)
      case w =>
        k_steps
        · rw [price_0 hi hk (by assumption)]
          refine ⟨rfl, ?tp1, _, _, rfl, frTo (by assumption) ?eq1, by assumption⟩
          case eq1 =>
            intro y
            rcases Classical.em (y = Str.ofString "price") with rfl | e0
            · rfl
            rcases Classical.em (y = Str.ofString "k") with rfl | e1
            · rfl
            rcases Classical.em (y = Str.ofString "row") with rfl | e2
            · rfl
            rcases Classical.em (y = Str.ofString "above") with rfl | e3
            · rfl
            rcases Classical.em (y = Str.ofString "i") with rfl | e4
            · rfl
            rcases Classical.em (y = Str.ofString "first") with rfl | e5
            · rfl
            rcases Classical.em (y = Str.ofString "second") with rfl | e6
            · rfl
            simp only [if_neg e0, if_neg e1, if_neg e2, if_neg e3, if_neg e4, if_neg e5, if_neg e6]
        · rw [price_1 hi hk (by assumption) (by assumption)]
          refine ⟨rfl, ?tp2, _, _, rfl, frTo (by assumption) ?eq2, by assumption⟩
          case eq2 =>
            intro y
            rcases Classical.em (y = Str.ofString "price") with rfl | e0
            · rfl
            rcases Classical.em (y = Str.ofString "k") with rfl | e1
            · rfl
            rcases Classical.em (y = Str.ofString "row") with rfl | e2
            · rfl
            rcases Classical.em (y = Str.ofString "above") with rfl | e3
            · rfl
            rcases Classical.em (y = Str.ofString "i") with rfl | e4
            · rfl
            rcases Classical.em (y = Str.ofString "first") with rfl | e5
            · rfl
            rcases Classical.em (y = Str.ofString "second") with rfl | e6
            · rfl
            simp only [if_neg e0, if_neg e1, if_neg e2, if_neg e3, if_neg e4, if_neg e5, if_neg e6]
        · rw [price_2 hi hk (by assumption) (by assumption)]
          refine ⟨rfl, ?tp3, _, _, rfl, frTo (by assumption) ?eq3, by assumption⟩
          case eq3 =>
            intro y
            rcases Classical.em (y = Str.ofString "price") with rfl | e0
            · rfl
            rcases Classical.em (y = Str.ofString "k") with rfl | e1
            · rfl
            rcases Classical.em (y = Str.ofString "row") with rfl | e2
            · rfl
            rcases Classical.em (y = Str.ofString "above") with rfl | e3
            · rfl
            rcases Classical.em (y = Str.ofString "i") with rfl | e4
            · rfl
            rcases Classical.em (y = Str.ofString "first") with rfl | e5
            · rfl
            rcases Classical.em (y = Str.ofString "second") with rfl | e6
            · rfl
            simp only [if_neg e0, if_neg e1, if_neg e2, if_neg e3, if_neg e4, if_neg e5, if_neg e6]
      case q =>
        rintro f s' ⟨rfl, tp, h8, tk8, rfl, F8, N8⟩
        clear F7 N7
        dsimp only
        have hlD : h8.IsList D us.toArray := PySem.IsL.isList (N8 (D, listOf us.toArray cnt) (.tail _ (.tail _ (.tail _ (.head _))))).1
        have hlN : h8.IsList Dn us'.toArray := PySem.IsL.isList (N8 (Dn, listOf us'.toArray cnt') (.tail _ (.head _))).1
        k_steps
        refine item_anyK hlD hI (by omega) (by simp [colAt]; omega) (by omega) ?_
        intro t9
        have g1' : (colAt xs zs i).getD ((k : Nat) : Int).toNat 0 = edt xs zs i k := col_get (by omega)
        rw [g1']
        dsimp only
        k_steps
        refine item_anyK hlD hI (by omega) (by simp [colAt]; omega) (by omega) ?_
        intro t10
        have g2' : (colAt xs zs i).getD ((k : Int) + 1).toNat 0 = edt xs zs i (k + 1) := col_get (by omega)
        rw [g2']
        dsimp only
        k_steps
        refine item_anyK hlN hI' (by omega) (by simp [colTo]; omega) (by omega) ?_
        intro t11
        have g3' : (colTo xs zs (i + 1) k).getD ((k : Nat) : Int).toNat 0 = edt xs zs (i + 1) k := colTo_get
        rw [g3']
        dsimp only
        k_steps
        refine PySem.min_three_ints rfl ?_
        intro h9 tk9 kp9
        have F9 := F8.keeps kp9
        have N9 : News g1 L1 h9 ((I2, oI2) :: (Dn, listOf us'.toArray cnt') :: (I, oI) :: (D, listOf us.toArray cnt) :: news) := fun p hp => ⟨kp9 _ _ (N8 p hp).1, (N8 p hp).2⟩
        clear F8 N8
        obtain ⟨tv, hv⟩ : ∃ tv, (if edt xs zs i (k + 1) + 2 < edt xs zs i k + cst (xs.getD i 0) (zs.getD k 0) then (if edt xs zs (i + 1) k + 2 < edt xs zs i (k + 1) + 2 then Value.int (edt xs zs (i + 1) k + 2) (tk8 + 1 + 1 + 1 + 1 + 1 + 1) else Value.int (edt xs zs i (k + 1) + 2) (tk8 + 1 + 1 + 1 + 1))
            else (if edt xs zs (i + 1) k + 2 < edt xs zs i k + cst (xs.getD i 0) (zs.getD k 0) then Value.int (edt xs zs (i + 1) k + 2) (tk8 + 1 + 1 + 1 + 1 + 1 + 1) else Value.int (edt xs zs i k + cst (xs.getD i 0) (zs.getD k 0)) tk8)) = Value.int (edt xs zs (i + 1) (k + 1)) tv := by
          have st := edt_step (P := xs) (R := zs) (i := i) (j := k) hi hk
          split
          · split
            · exact ⟨_, by congr 1; omega⟩
            · exact ⟨_, by congr 1; omega⟩
          · split
            · exact ⟨_, by congr 1; omega⟩
            · exact ⟨_, by congr 1; omega⟩
        rw [hv]
        dsimp only
        k_steps
        refine append_K F9 N9 (Upd.tail (fun e => hne7 _ (.head _) e.symm) (Upd.head hDn)) ?_ (by rw [List.size_toArray, sizeLine_eq, hI'.length]; simp [colTo]; omega)
        intro h10 F10 N10
        dsimp only
        k_steps
        show Sealed _
        refine ⟨h10, _, _, _, rfl, frTo F10 ?fz1, N10, ?fz2, ⟨us' ++ [Value.int (edt xs zs (i + 1) (k + 1)) tv], cnt' + 1, Dn, ?mY1, rfl, by simp, hDn, ?fz3⟩⟩
        case fz1 =>
          intro y
          rcases Classical.em (y = Str.ofString "row") with rfl | e0
          · rfl
          rcases Classical.em (y = Str.ofString "above") with rfl | e1
          · rfl
          rcases Classical.em (y = Str.ofString "i") with rfl | e2
          · rfl
          rcases Classical.em (y = Str.ofString "first") with rfl | e3
          · rfl
          rcases Classical.em (y = Str.ofString "second") with rfl | e4
          · rfl
          simp only [if_neg e0, if_neg e1, if_neg e2, if_neg e3, if_neg e4]
          rfl
        case fz2 =>
          intro p hp
          rcases List.mem_cons.mp hp with rfl | hp
          · exact hne7 (Dn, listOf us'.toArray cnt') (.head _)
          · exact hne7 p (.tail _ hp)
        case fz3 =>
          rw [colTo_succ]
          exact hI'.append (.cons _ _ .nil)
end Mine
end

section
open PySem PySem.W PyProof.Rows PySem.Calls PySem.Spec
set_option maxRecDepth 100000
set_option maxHeartbeats 8000000
namespace Mine
section
variable {prog : Program} {w : World} {A₀ A : Around} {s : Shared} {base h₀ : Heap} {outer : List Env} {L : Addr} {m mg mb : Str → Option Value} {env : Env} {news : List (Addr × Obj)} {K : Frag} {p : Program} {loose : List Str} {mean : ExcName → Option Value}
  {R : Result → Shared → Prop} {name qual : Str} {params : Arguments} {body : List Stmt} {scope : Scope} {dV kV doc pm cdv ct oc : Value} {an od : Option Addr} {osl : Array (Option Value)} {f : Addr} {args : Args} {binds : List (Str × Value)}
theorem code_full (B : Below A₀ base outer h₀) (F : Fr h₀ L s.heap m) (X₀ : K.In h₀) (N : News h₀ L s.heap news) (T : Top p loose mean mg mb h₀) (hA : A.frames = some (env :: outer)) (hf : env.frame = some L) (hke : env.scope.kind = .function)
    (ho : K.lookup f = some ⟨oc, od, .func (fnOf name qual params body scope dV kV doc pm an cdv ct), osl⟩) (hcd : codeIn K cdv qual = true) (hroom : A.depth < recursionLimit)
    (hbind : BindsTo s (fnOf name qual params body scope dV kV doc pm an cdv ct) args binds) (hkind : (binds.all fun y => scope.names.lookup y.1 == some .local || scope.names.lookup y.1 == some .cell) = true)
    (hnd : ((cellsFrom 0 scope.names []).map (·.1)).Nodup)
    (h : ∀ g L' h₁ tk cells, Fr h₀ L g m → Fr g L' h₁ (bindL (envOfC qual scope L' f cdv).kindOf binds fun _ => none) → News g L' h₁ cells →
      CellsAre (bindC (envOfC qual scope L' f cdv).kindOf binds fun _ => none) (cellsFrom (L' + 1) scope.names []) cells → Below A base (env :: outer) g → K.In g → Top p loose mean mg mb g → (∀ b o, s.heap.get? b = some o → g.get? b = some o) →
      wpAny (model prog w) (A.deeper (envOfC qual scope L' f cdv)) (execs body (envOfC qual scope L' f cdv))
        (fun fl s' => LeaveK h₀ L m g (fun r s' => News h₀ L s'.heap news → R r s') (match fl with | .ret v => v | _ => .none) s')
        (fun e s' => wpAny (model prog w) (A.deeper (envOfC qual scope L' f cdv)) (leaving (envOfC qual scope L' f cdv) e) (fun _ s'' => R (.error e) s'') (fun e' s'' => R (.error e') s'') s')
        { s with heap := h₁, toks := tk })
    (hco : scope.isCoroutine = false) (hgen : scope.isGenerator = false) (hk : scope.kind = .function) : codeAny (model prog w) A (.call (.ref f) args) R s := by
  have X := X₀.keeps F.keep
  have BG : Below A base (env :: outer) s.heap := ⟨hA, fun b o e => F.keep b o (B.stays b o e), (pushX B F hf hke).frames⟩
  refine codeAny_call_function hroom (X _ _ ho) rfl hco hgen rfl (codeRec_of X hcd) (hbind _ _ _ _ ?_)
  refine wpAny_newFunctionEnv_cells hk (kindsX hkind _) fun env' he s' x => ?_
  subst he
  refine ⟨(T.nolimit.keeps F.keep).keeps x.toInCall.keep, codeAny_func ?_⟩
  obtain ⟨h₁, tk, rfl, _⟩ := x.done
  have hk₁ := x.toInCall.keep
  obtain ⟨cells, NC, Y⟩ := Cl.news (h₀ := s.heap) (Nat.le_refl _) fun n c hm => ⟨x.cell n c (lookup_of_mem_nodup (cellsFrom_names scope.names 0 (s.heap.objs.size + 1) [] [] rfl ▸ hnd) hm), x.above n c hm⟩
  refine wpAny_mono (h s.heap s.heap.objs.size h₁ tk cells F ⟨x.toInCall.ns, hk₁, Nat.le_refl _⟩ NC Y BG X (T.keeps F.keep) (fun _ _ e => e)) (fun fl s' hl => ?_) fun _ _ y => y
  obtain ⟨L', m', news', F', N', k⟩ := hl
  obtain ⟨oL, es, ep, hL, hLd, hLk, hLf⟩ := F.ns
  have F2 : Fr h₀ L s'.heap m := ⟨⟨oL, es, ep, F'.keep L oL hL, hLd, hLk, hLf⟩, fun b o e => F'.keep b o (F.keep b o e), F.above⟩
  refine k F2 (fun p hp => ⟨(N' p hp).1, fun q => ?_, ?_⟩) (fun p hp => ⟨F'.keep _ _ (N p hp).1, (N p hp).2⟩)
  · have := (N' p hp).2.2; rw [q, hL] at this; cases this
  · cases q : h₀.get? p.1 with
    | none => rfl
    | some o => have := (N' p hp).2.2; rw [F.keep _ _ q] at this; cases this
end
end Mine
end

section
open PySem PySem.W PyProof.Rows PySem.Calls
set_option maxRecDepth 100000
set_option maxHeartbeats 8000000
namespace Mine
theorem fill7 : PySem.Challenge.rw_nq0030_01.prog = PySem.Challenge.rw_nq0030_01.prog ∧ Mine.hd.heap_39 = Mine.hd.heap_39 := by w_top off; k_fill; exact ⟨rfl, rfl⟩
local macro_rules | `(tactic| k_steps) => `(tactic| repeat' ((fail_if_success (with_reducible show Sealed _)); (fail_if_success (with_reducible show KCiNo _ _ _ _)); first | (k_unfold; (try dsimp only)) | ((fail_if_success (with_reducible show wpAny _ _ (call (Value.ref _) _ _) _ _ _)); (fail_if_success (with_reducible show wpAny _ _ (compareOp CmpOp.NotEq (Value.ref _) (Value.ref _)) _ _ _)); (first | walk1 | (dsimp only; walk1))) | (leave1; walk_say "STEP leave1"; try dsimp only) | fail "no step"))
/-- one piece put in, from the left -/
def OneAt (xs zs : List Nat) : Prop := ∃ k, k ≤ xs.length ∧ zs = xs.take k ++ (zs.drop k).take (zs.length - xs.length) ++ xs.drop k
def ToldRel (xs zs : List Nat) (c v : Int) : Prop :=
  ((OneAt xs zs ∨ 2 * ((zs.length : Int) - xs.length) ≤ c) → v = 2 * ((zs.length : Int) - xs.length)) ∧ (¬ (OneAt xs zs ∨ 2 * ((zs.length : Int) - xs.length) ≤ c) → v = c + 1)
theorem fold_filter (p : Int → Prop) [DecidablePred p] : ∀ (ks l : List Int), List.foldl (fun l k => if p k then l ++ [k] else l) l ks = l ++ ks.filter p
  | [], l => by simp
  | k :: r, l => by
    rw [List.foldl_cons, fold_filter p r]
    by_cases h : p k
    · rw [if_pos h, List.filter_cons_of_pos (by simpa using h)]; simp
    · rw [if_neg h, List.filter_cons_of_neg (by simpa using h)]
theorem cat_eq {xs zs : List Nat} (hl : xs.length ≤ zs.length) {b : Int} (h0 : 0 ≤ b) (h1 : b ≤ xs.length) :
    Txt.slice (S xs) none (some b) ++ Txt.slice (S zs) (some b) (some (b + (((S zs).length : Int) - ((S xs).length : Int)))) ++ Txt.slice (S xs) (some b) none = S (xs.take b.toNat ++ (zs.drop b.toNat).take (zs.length - xs.length) ++ xs.drop b.toNat) := by
  rw [S_len, S_len, sl_to h0, sl_mid h0 (by omega) (by omega), sl_from h0 h1, S_app, S_app]
  have e : (b + ((zs.length : Int) - xs.length) - b).toNat = zs.length - xs.length := by omega
  rw [e]
theorem told_call {prog : Program} {w : World} {loose mean mg mb} (news) (xs zs : List Nat) (c : Int) (ta tb tc : Tok) (ha : xs.length ≤ zs.length) (hb : zs.length ≤ 40) :
    ConR prog w loose mean mg mb 81 news [.str (S xs) ta, .str (S zs) tb, .int c tc] (fun v => ∃ i t, v = .int i t ∧ ToldRel xs zs c i) := by
  intro dp un gd cn cs aF ccd cl outer A₀ base h₀ L m s Q E B₀ F₀ X₀ N₀ T₀ hcs hdp hun hret
  have hla : (S xs).length = xs.length := S_len xs
  have hlb : (S zs).length = zs.length := S_len zs
  refine wpAny_call ?_
  k_dflt (refine' code_full ?k1 ?k2 ?k3 ?k4 ?k5 ?kA ?kF ?kK ?k6 ?k7 ?k8 ?k9 ?kB ?kD ?_ ?c2 ?c3 ?c4; (case kA => exact rfl); (case kF => exact rfl); (case kK => assumption); (case k1 => k_asm); (case k2 => k_asm); (case k3 => k_asm); (case k4 => k_asm); (case k5 => k_asm); (case k6 => k_is); (case k7 => k_is); (case k8 => ktr_room); (case k9 => exact BindsTo.of_eq rfl); (case kB => exact rfl); (case kD => decide +kernel); (case c2 => exact rfl); (case c3 => exact rfl); (case c4 => exact rfl); k_whole; intro g1 L1 h1 tk1 cells' FG1 F1 N1 Y' B1 X1 T1 kp1; k_cells Y'; (try simp only [List.cons_append, List.nil_append] at N1); (try dsimp only); (try k_lift B1); (try k_fold))
  clear F₀ N₀
  k_steps
  · rename (_ == _) = false => hq
    have hq' := beq_eq_false_iff_ne.mp hq
    exact kci_no (if_neg (fun hh => hq' hh.2.2.2.2.2)) rfl
  rename IntsAre _ _ => I2
  rename Fr _ _ _ _ => F2
  rename News _ _ _ _ => N2
  rw [fold_filter] at I2
  generalize hpl : ([] ++ List.filter _ _ : List Int) = pl at I2
  have hk : pl = [] ↔ ¬ OneAt xs zs := by
    rw [← hpl, List.nil_append, List.filter_eq_nil_iff]
    constructor
    · rintro h ⟨k, hk1, hk2⟩
      have hm : ((k : Nat) : Int) ∈ rangeKs 0 ((((S xs).length : Nat) : Int) + 1 - 0).toNat := by
        unfold rangeKs
        rw [List.mem_map]
        exact ⟨k, by rw [List.mem_range]; omega, by omega⟩
      refine h _ hm (decide_eq_true ⟨PyProof.Txt.length_slice_le _ _ _, PyProof.Txt.length_slice_le _ _ _, ⟨by rw [Str.length_append]; exact Nat.le_refl _, by rw [Str.length_append]; exact Nat.le_refl _⟩, PyProof.Txt.length_slice_le _ _ _, ⟨by rw [Str.length_append (_ ++ _)]; exact Nat.le_refl _, by rw [Str.length_append (_ ++ _)]; exact Nat.le_refl _⟩, ?_⟩)
      rw [cat_eq ha (by omega) (by omega), S_inj]
      exact hk2
    · intro h b hb hc
      unfold rangeKs at hb
      rw [List.mem_map] at hb
      obtain ⟨k, hk1, hk2⟩ := hb
      rw [List.mem_range] at hk1
      have hkl : k ≤ xs.length := by omega
      have hd := (of_decide_eq_true hc).2.2.2.2.2
      rw [← hk2, cat_eq ha (by omega) (by omega), S_inj] at hd
      refine h ⟨k, hkl, ?_⟩
      have e : ((0 : Int) + (k : Int)).toNat = k := by omega
      rw [e] at hd
      exact hd
  clear hpl
  refine ne_intsK (PySem.IsL.isList (N2 _ (.tail _ (.head _))).1) I2 (us := []) (PySem.IsL.isList (N2 _ (.head _)).1) .nil (by dsimp only [Around.deeper, ktrTop]; omega) ?_
  dsimp only
  k_steps
  · rename _ ≤ c => hc
    refine hret _ _ _ ⟨_, _, rfl, ?_, fun h => ?_⟩ (by assumption) (by assumption)
    · intro _; rw [hla, hlb]
    · exact absurd (.inr (by rw [← hla, ← hlb]; exact hc)) h
  · rename ¬ _ ≤ c => hc
    rename decide (pl = []) = _ => hd
    refine hret _ _ _ ⟨_, _, rfl, fun h => ?_, fun _ => rfl⟩ (by assumption) (by assumption)
    exfalso
    have h1 : ¬ OneAt xs zs := hk.mp (by simpa using hd)
    rcases h with h | h
    · exact h1 h
    · exact hc (by rw [hla, hlb]; exact h)
  · rename decide (pl = []) = _ => hd
    have h1 : OneAt xs zs := by
      apply Classical.byContradiction
      intro q
      have := hk.mpr q
      simp [this] at hd
    refine hret _ _ _ ⟨_, _, rfl, ?_, fun h => absurd (.inl h1) h⟩ (by assumption) (by assumption)
    intro _; rw [hla, hlb]
end Mine
end

section
open PySem PySem.W PyProof.Rows PySem.Calls
set_option maxRecDepth 100000
set_option maxHeartbeats 8000000
namespace Mine
theorem fill8 : PySem.Challenge.rw_nq0030_01.prog = PySem.Challenge.rw_nq0030_01.prog ∧ Mine.hd.heap_39 = Mine.hd.heap_39 := by w_top off; k_fill; exact ⟨rfl, rfl⟩
theorem ed_most {c : Nat → Nat → Int} : ∀ (xs ys : List Nat), ed c xs ys ≤ 2 * ((xs.length : Int) + ys.length)
  | [], ys => by rw [ed_nil_l]; simp
  | x :: xs, ys => by
    have := ed_lip_r (c := c) x xs ys
    have := ed_most (c := c) xs ys
    simp only [List.length_cons]; omega
theorem edl_most (xs ys : List Nat) : edl xs ys ≤ 2 * ((xs.length : Int) + ys.length) := by
  have := ed_most (c := cst) xs.reverse ys.reverse
  simpa [edl] using this
abbrev ConM (prog : Program) (w : World) (loose : List Str) (mean : ExcName → Option Value) (mg mb : Str → Option Value) (f : Addr) (news : List (Addr × Obj)) (vs : List Value) (R : Value → Prop) : Prop :=
  ∀ (dp un : Nat) (gd : Option (List Code)) (cn : Str) (cs : Scope) (a : Addr) (ccd : Value) (cl : List (Str × Addr)) (outer : List Env) (A₀ : Around) (base h₀ : Heap) (L : Addr) (m : Str → Option Value) (s : Shared) (Q E : Value → Shared → Prop),
    Below A₀ base outer h₀ → Fr h₀ L s.heap m → (Mine.hd.heap_39 w.params).In h₀ → News h₀ L s.heap news → Top Mine.hd.view_39 loose mean mg mb h₀ → cs.kind = .function →
    dp + 20 < recursionLimit → un + 200 < cLine → (∀ v h' tk', R v → Fr h₀ L h' m → News h₀ L h' news → Q v { s with heap := h', toks := tk' }) →
      wpAny (model prog w) (ktrTop dp un gd cn cs L a ccd cl outer) (call (.ref f) vs) Q E s
local macro_rules | `(tactic| k_steps) => `(tactic| repeat' ((fail_if_success (with_reducible show Sealed _)); first | (k_unfold; (try dsimp only)) | ((fail_if_success (with_reducible show wpAny _ _ (call (Value.ref _) _ _) _ _ _)); (first | walk1 | (dsimp only; walk1))) | (leave1; walk_say "STEP leave1"; try dsimp only) | fail "no step"))
theorem far_call {prog : Program} {w : World} {loose mean mg mb} (news) (xs zs : List Nat) (c : Int) (ta tb tc : Tok) (ha : xs.length ≤ 40) (hb : zs.length ≤ 40) (hab : xs.length + zs.length ≤ 50) :
    ConM prog w loose mean mg mb 93 news [.str (S xs) ta, .str (S zs) tb, .int c tc] (fun v => v = .bool true) := by
  intro dp un gd cn cs aF ccd cl outer A₀ base h₀ L m s Q E B₀ F₀ X₀ N₀ T₀ hcs hdp hun hret
  refine wpAny_call ?_
  k_dflt cell_enter
  rename_i g1 L1 h1 FG1 F1 N1 B1 X1 T1
  replace F1 : Fr g1 L1 h1 (fun y => List.lookup y [(Str.ofString "bound", .int c tc), (Str.ofString "other", .str (S zs) tb), (Str.ofString "data", .str (S xs) ta)]) := F1
  k_steps
  refine' (least_call _ _ _ _ _ ha hb) _ _ _ _ _ _ _ _ _ _ _ _ _ _ _ _ _ ?zB ?zF ?zX ?zN ?zT ?zC ?zd ?zu ?zR
  case zB => k_asm
  case zF => k_asm
  case zX => k_asm
  case zN => k_asm
  case zT => k_asm
  case zC => exact rfl
  case zd => dsimp only; omega
  case zu => dsimp only; omega
  case zR =>
  intro t2 h2 tk2 F2 N2
  dsimp only
  k_steps
  rename Fr _ _ _ _ => F3
  rename News _ _ _ _ => N3
  refine' (lev_call _ _ _ _ _ _ _ hb ha) _ _ _ _ _ _ _ _ _ _ _ _ _ _ _ _ _ ?zB ?zF ?zX ?zN ?zT ?zC ?zd ?zu ?zR
  case zB => k_asm
  case zF => k_asm
  case zX => k_asm
  case zN => k_asm
  case zT => k_asm
  case zC => exact rfl
  case zd => dsimp only; omega
  case zu => dsimp only; omega
  case zR =>
  rintro v4 h4 tk4 ⟨i4, t4, rfl, r4⟩ F4 N4
  dsimp only
  k_steps
  refine' (lev_call _ _ _ _ _ _ _ ha hb) _ _ _ _ _ _ _ _ _ _ _ _ _ _ _ _ _ ?zB ?zF ?zX ?zN ?zT ?zC ?zd ?zu ?zR
  case zB => k_asm
  case zF => k_asm
  case zX => k_asm
  case zN => k_asm
  case zT => k_asm
  case zC => exact rfl
  case zd => dsimp only; omega
  case zu => dsimp only; omega
  case zR =>
  rintro v5 h5 tk5 ⟨i5, t5, rfl, r5⟩ F5 N5
  have e5 : i5 = edl xs zs := (LevRel.edl_le r5).1 (by have := edl_most xs zs; omega)
  have e4 := LevRel.edl_le r4
  rw [edl_symm zs xs] at e4
  dsimp only
  k_steps
  · rename edl xs zs ≤ c => hc
    refine hret _ _ _ ?_ (by assumption) (by assumption)
    rw [e4.1 hc]; simp
  · rename ¬ edl xs zs ≤ c => hc
    refine hret _ _ _ ?_ (by assumption) (by assumption)
    have := e4.2 (by omega)
    simp [this]
  · rename i5 ≠ edl xs zs => hc
    exact absurd e5 hc
end Mine
end

section
open PySem PySem.W PyProof.Rows PySem.Calls
set_option maxRecDepth 100000
set_option maxHeartbeats 8000000
namespace Mine
theorem fill9 : PySem.Challenge.rw_nq0030_01.prog = PySem.Challenge.rw_nq0030_01.prog ∧ Mine.hd.heap_39 = Mine.hd.heap_39 := by w_top off; k_fill; exact ⟨rfl, rfl⟩
local macro_rules | `(tactic| k_steps) => `(tactic| repeat' ((fail_if_success (with_reducible show Sealed _)); (fail_if_success (with_reducible show InvEndN _ _ _ _ _ _ _)); first | (k_unfold; (try dsimp only)) | ((fail_if_success (with_reducible show wpAny _ _ (call (Value.ref _) _ _) _ _ _)); (fail_if_success (with_reducible show wpAny _ _ (exec (Stmt.For _ _ _ _ _) _) _ _ _)); (fail_if_success (with_reducible show wpAny _ _ (pyIter _) _ _ _)); (fail_if_success (with_reducible show wpAny _ _ (call (Value.builtin "list.append") _ _) _ _ _)); (fail_if_success (with_reducible show wpAny _ _ (call (Value.builtin "str.join") _ _) _ _ _)); (fail_if_success (with_reducible show wpAny _ _ (call (Value.builtin "sum") _ _) _ _ _)); (first | walk1 | (dsimp only; walk1))) | (leave1; walk_say "STEP leave1"; try dsimp only) | fail "no step"))
theorem sum_le (ts : List Str) (h : ∀ t ∈ ts, t.length ≤ 1) : (ts.map (·.length)).sum ≤ ts.length := by
  induction ts with
  | nil => simp
  | cons t r ih =>
    have a := h t (.head _)
    have b := ih (fun q hq => h q (.tail _ hq))
    simp only [List.map_cons, List.sum_cons, List.length_cons]; omega
theorem join_le (ts : List Str) (h : ∀ t ∈ ts, t.length ≤ 1) : (Txt.join (Str.ofString "") ts).length ≤ ts.length := by
  have e : (Txt.join (Str.ofString "") ts).length = (ts.map (·.length)).sum + (ts.length - 1) * (Str.ofString "").length := size_glued _ _
  have z : (Str.ofString "").length = 0 := by decide +kernel
  rw [e, z]
  have := sum_le ts h
  omega
theorem item_pos {prog : Program} {w : World} {A : Around} {E : Value → Shared → Prop} {s : Shared} {value slice : PySem.Expr} {l : Addr} {items : Array Value} {k : Int} {u : Tok} {x : Value} {Q : Value → Shared → Prop} (hl : s.heap.IsList l items)
    (h0 : 0 ≤ k) (hfit : k < 2 ^ 63) (hx : items[k.toNat]? = some x) (h : Q x s)
    (hs : subscripted slice false (.ref l) (.int k u) = operate [.ref l, .int k u] (getItem (.ref l) (.int k u)) := by with_unfolding_all rfl) :
    wpAny (model prog w) A (subscriptTail value slice (.ref l) (.int k u)) Q E s :=
  tail_any hl.typeIs slot_list_getitem.lookup (wpAny_getItem_list hl h0 hfit hx h) hs
theorem item_three {prog : Program} {w : World} {A : Around} {E : Value → Shared → Prop} {s : Shared} {value slice : PySem.Expr} {l : Addr} {a b c : Str} {ta tb tc : Tok} {k : Int} {u : Tok} {Q : Value → Shared → Prop} (hl : s.heap.IsList l #[.str a ta, .str b tb, .str c tc])
    (h0 : 0 ≤ k) (h3 : k < 3) (la : a.length = 2) (lb : b.length = 2) (lc : c.length = 2) (h : ∀ sv tv, sv.length = 2 → Q (.str sv tv) s)
    (hs : subscripted slice false (.ref l) (.int k u) = operate [.ref l, .int k u] (getItem (.ref l) (.int k u)) := by with_unfolding_all rfl) :
    wpAny (model prog w) A (subscriptTail value slice (.ref l) (.int k u)) Q E s := by
  have : k = 0 ∨ k = 1 ∨ k = 2 := by omega
  rcases this with rfl | rfl | rfl
  · exact item_pos hl h0 (by decide) rfl (h a ta la) hs
  · exact item_pos hl h0 (by decide) rfl (h b tb lb) hs
  · exact item_pos hl h0 (by decide) rfl (h c tc lc) hs
theorem data_call {prog : Program} {w : World} {loose mean mg mb} (news) (l : Addr) (vs : List Value) (ns : List Int) (c : Nat) (hmem : (l, listOf vs.toArray c) ∈ news) (hI : IntsAre vs ns) (hn : ns.length ≤ 6) :
    ConM prog w loose mean mg mb 76 news [.ref l] (fun v => ∃ xs t, v = .str (S xs) t ∧ xs.length ≤ 9) := by
  intro dp un gd cn cs aF ccd cl outer A₀ base h₀ L m s Q E B₀ F₀ X₀ N₀ T₀ hcs hdp hun hret
  refine wpAny_call ?_
  k_dflt cell_enter
  rename_i g1 L1 h1 FG1 F1 N1 B1 X1 T1
  replace F1 : Fr g1 L1 h1 (fun y => List.lookup y [(Str.ofString "script", .ref l)]) := F1
  k_steps
  rename Fr _ _ _ _ => F2
  rename News _ _ _ _ => N2
  refine For_invV g1 rfl rfl ?_
  k_steps
  rename ∀ p ∈ news, _ => l1
  obtain ⟨D, hD, F2', N2', l1'⟩ : ∃ D : Addr, (∀ p ∈ news, p.1 < D) ∧ Fr g1 L1 _ (fun y => if y = Str.ofString "signs" then some (Value.ref D) else List.lookup y [(Str.ofString "script", Value.ref l)]) ∧ News g1 L1 _ ((D, listOf [].toArray 0) :: news) ∧ True := ⟨_, l1, F2, N2, trivial⟩
  clear F2 N2 l1 l1'
  refine kst_listL (nn := c) (σ := List Value × Nat) (fun c => (D, listOf c.1.toArray c.2) :: news) (fun _ => []) (fun _ => True) [] (fun pre c => ∃ ts : List Str, StrsAre c.1 ts ∧ ts.length = pre.length ∧ ∀ t ∈ ts, t.length ≤ 1) ([], 0)
    rfl (fun _ => .tail _ hmem) hI F2' N2' trivial (fun p hp => (nomatch hp)) ⟨[], .nil, rfl, fun _ h => (nomatch h)⟩ ?turn ?done
  case turn =>
    rintro ⟨us, cnt⟩ pre post n t u h tk' own hns hnm hoff - ⟨ts, hS, hl, h1⟩ F3 N3
    dsimp only at *
    replace F3 : Fr g1 L1 h (fun y => if y = Str.ofString "x" then some (.int n t) else if y = Str.ofString "signs" then some (Value.ref D) else List.lookup y [(Str.ofString "script", Value.ref l)]) := F3
    have hpre : pre.length < 6 := by rw [hns] at hn; simp at hn; omega
    have hDn : ∀ p ∈ news ++ own, p.1 ≠ D := by
      intro p hp
      rcases List.mem_append.mp hp with hp | hp
      · exact Nat.ne_of_lt (hD p hp)
      · exact hoff p hp D (by simp)
    k_steps
    · refine append_K F3 (news := (D, listOf us.toArray cnt) :: (news ++ own)) N3 (Upd.head hDn) ?_ (by rw [List.size_toArray, sizeLine_eq, hS.len_eq, hl]; omega)
      intro h4 F4 N4
      dsimp only
      k_steps
      rw [List.push_toArray] at N4
      refine kst_end (us ++ [Value.str ⟨#[((n.fdiv 6).fmod 55296).toNat]⟩ (tk' + 1 + 1 + 1 + 1 + 1 + 1 + 1)], cnt + 1) F4 N4 ?hn1 ?ho1 rfl trivial (fun p hp => (nomatch hp)) ?hr1 ?hp1
      case hn1 =>
        intro p hp
        rcases List.mem_cons.mp hp with rfl | hp
        · exact .head _
        · exact .tail _ (List.mem_append_left _ hp)
      case ho1 => exact fun p hp => .tail _ (List.mem_append_right _ hp)
      case hr1 =>
        intro z hz _ _
        simp only [if_neg hz]
      case hp1 =>
        refine ⟨ts ++ [_], hS.append' (.cons _ _ .nil), by simp [hl], fun q hq => ?_⟩
        rcases List.mem_append.mp hq with hq | hq
        · exact h1 q hq
        · rw [List.mem_singleton.mp hq]
          simp [Str.length]
    · refine append_K F3 (news := (D, listOf us.toArray cnt) :: (news ++ own)) N3 (Upd.head hDn) ?_ (by rw [List.size_toArray, sizeLine_eq, hS.len_eq, hl]; omega)
      intro h4 F4 N4
      dsimp only
      k_steps
      rw [List.push_toArray] at N4
      refine kst_end (us ++ [Value.str (Txt.item (Str.ofString "..\r\na") (n.fmod 6)) (tk' + 1 + 1 + 1 + 1 + 1 + 1)], cnt + 1) F4 N4 ?hn2 ?ho2 rfl trivial (fun p hp => (nomatch hp)) ?hr2 ?hp2
      case hn2 =>
        intro p hp
        rcases List.mem_cons.mp hp with rfl | hp
        · exact .head _
        · exact .tail _ (List.mem_append_left _ hp)
      case ho2 => exact fun p hp => .tail _ (List.mem_append_right _ hp)
      case hr2 =>
        intro z hz _ _
        simp only [if_neg hz]
      case hp2 =>
        refine ⟨ts ++ [_], hS.append' (.cons _ _ .nil), by simp [hl], fun q hq => ?_⟩
        rcases List.mem_append.mp hq with hq | hq
        · exact h1 q hq
        · rw [List.mem_singleton.mp hq]
          omega
  case done =>
    rintro ⟨us, cnt⟩ u h tk' - ⟨ts, hS, hl, h1⟩ F3 N3
    dsimp only at *
    replace F3 : Fr g1 L1 h (fun y => if y = Str.ofString "x" then u y else if y = Str.ofString "signs" then some (Value.ref D) else List.lookup y [(Str.ofString "script", Value.ref l)]) := F3
    k_steps
    refine sumK rfl F3 N3 (PySem.IsL.isList (N3 _ (.tail _ hmem)).1) hI ?_
    intro h4 tk4 t4 F4 N4
    dsimp only
    k_steps
    refine join_list (PySem.IsL.isList (N4 _ (.head _)).1) (by simpa using hS) ?hok ?_
    case hok =>
      have := sum_le ts h1
      have z : (Str.ofString "").length = 0 := by decide +kernel
      rw [z]; omega
    intro t5 k5
    have hj := join_le ts h1
    generalize Txt.join (Str.ofString "") ts = jt at hj
    have hj' : jt.length ≤ 6 := by omega
    dsimp only
    k_steps
    rename Fr _ _ _ _ => F5
    rename News _ _ _ _ => N5
    refine sumK rfl F5 N5 (PySem.IsL.isList (N5 _ (.tail _ (.tail _ hmem))).1) hI ?_
    intro h6 tk6 t6 F6 N6
    dsimp only
    k_steps
    have hb0 : 0 ≤ ns.sum.fmod 3 ∧ ns.sum.fmod 3 < 3 := by
      rw [Int.fmod_eq_emod_of_nonneg _ (by decide)]
      exact ⟨Int.emod_nonneg _ (by decide), Int.emod_lt_of_pos _ (by decide)⟩
    refine item_three (PySem.IsL.isList (N6 _ (.head _)).1) hb0.1 hb0.2 (by decide +kernel) (by decide +kernel) (by decide +kernel) ?_
    intro sv tv hsl
    dsimp only
    k_steps
    refine hret _ _ _ ⟨(Txt.item (Str.ofString ".a") (ns.sum.fmod 2) ++ jt ++ sv).cps.toList, _, by rw [← S_of], ?_⟩ (by assumption) ?_
    · have e : (Txt.item (Str.ofString ".a") (ns.sum.fmod 2) ++ jt ++ sv).cps.toList.length = (Txt.item (Str.ofString ".a") (ns.sum.fmod 2) ++ jt ++ sv).length := by simp [Str.length]
      rw [e]
      omega
    · rename News _ _ _ _ => N7
      exact fun p hp => N7 p (.tail _ (.tail _ hp))
end Mine
end

section
open PySem PySem.W PyProof.Rows PySem.Calls PySem.StrLaws PySem.Builtin PySem.Builtin.Str
set_option maxRecDepth 100000
set_option maxHeartbeats 8000000
namespace Mine
/-- a plain reading of «each pattern by z» and of how often it stands -/
structure Reads (pat z : List Nat) (R : List Nat → List Nat) (C : List Nat → Nat) : Prop where
  nil : R [] = [] ∧ C [] = 0
  hit : ∀ r, R (pat ++ r) = z ++ R r ∧ C (pat ++ r) = 1 + C r
  miss : ∀ c r, (c :: r).take pat.length ≠ pat → R (c :: r) = c :: R r ∧ C (c :: r) = C r
section
variable {pat z xs : List Nat} {R : List Nat → List Nat} {C : List Nat → Nat}
theorem at_iff (hp : 1 ≤ pat.length) (k : Nat) : At (S xs) (S pat) (S xs).length k ↔ (k < xs.length ∧ (xs.drop k).take pat.length = pat) := by
  unfold At
  rw [subAt_eq, S_cps, S_cps, S_len, S_len, beq_iff_eq]
  constructor
  · rintro ⟨h1, h2⟩; exact ⟨by omega, h2⟩
  · rintro ⟨h1, h2⟩
    refine ⟨?_, h2⟩
    have := congrArg List.length h2
    simp at this
    omega
theorem reads_skip (Rd : Reads pat z R C) (hp : 1 ≤ pat.length) : ∀ (k a c : Nat), a + k = c → c ≤ xs.length → (∀ q, a ≤ q → q < c → ¬ At (S xs) (S pat) (S xs).length q) →
    R (xs.drop a) = (xs.drop a).take (c - a) ++ R (xs.drop c) ∧ C (xs.drop a) = C (xs.drop c) := by
  intro k
  induction k with
  | zero => intro a c e _ _; have : a = c := by omega
            subst this; simp
  | succ k ih =>
    intro a c e hc hq
    have ha : a < xs.length := by omega
    have hn := hq a (Nat.le_refl _) (by omega)
    rw [at_iff hp] at hn
    have hm := Rd.miss (xs.getD a 0) (xs.drop (a + 1)) (fun q => hn ⟨ha, by rw [drop_at ha]; exact q⟩)
    have i := ih (a + 1) c (by omega) hc (fun q h1 h2 => hq q (by omega) h2)
    rw [take_sub_succ ha (by omega), drop_at ha, hm.1, hm.2, i.1, i.2]
    exact ⟨rfl, rfl⟩
theorem strSub_S (a b : Nat) : strSub (S xs) a b = S ((xs.drop a).take (b - a)) := by
  rw [S_of (strSub (S xs) a b), strSub_toList, S_cps]
theorem reads_chain (Rd : Reads pat z R C) (hp : 1 ≤ pat.length) : ∀ (cuts : List Nat) (a f : Nat), ChainG (S xs) (S pat) (S xs).length a cuts f → (∀ k, f ≤ k → ¬ At (S xs) (S pat) (S xs).length k) → a ≤ xs.length →
    Str.join (S z) (partsFrom (S xs) (S pat).length a cuts) = S (R (xs.drop a)) ∧ cuts.length = C (xs.drop a)
  | [], a, f, h, hn, ha => by
    have e : f = a := h
    subst e
    have sk := reads_skip (xs := xs) Rd hp (xs.length - f) f xs.length (by omega) (Nat.le_refl _) (fun q h1 _ => hn q h1)
    rw [List.drop_length, Rd.nil.1, Rd.nil.2, List.append_nil] at sk
    refine ⟨?_, by rw [sk.2]; rfl⟩
    show strSub (S xs) f (S xs).length = _
    rw [strSub_S, S_len, sk.1]
  | c :: r, a, f, h, hn, ha => by
    obtain ⟨h1, h2, h3, h4⟩ := h
    have h2' := (at_iff hp c).mp h2
    have hc2 : c + pat.length ≤ xs.length := by have := h2.1; rw [S_len, S_len] at this; exact this
    have sk := reads_skip (xs := xs) Rd hp (c - a) a c (by omega) (by omega) h3
    have hd : xs.drop c = pat ++ xs.drop (c + pat.length) := by
      conv => lhs; rw [← List.take_append_drop pat.length (xs.drop c)]
      rw [h2'.2, List.drop_drop]
    have ht := Rd.hit (xs.drop (c + pat.length))
    rw [S_len] at h4
    have i := reads_chain Rd hp r (c + pat.length) f h4 hn hc2
    obtain ⟨p, q, hpq⟩ := partsFrom_ne (S xs) (S pat).length (c + pat.length) r
    constructor
    · show Str.join (S z) (strSub (S xs) a c :: partsFrom (S xs) (S pat).length (c + (S pat).length) r) = _
      rw [S_len] at hpq ⊢
      rw [S_len] at i
      have e : Str.join (S z) (strSub (S xs) a c :: partsFrom (S xs) pat.length (c + pat.length) r) = strSub (S xs) a c ++ S z ++ Str.join (S z) (partsFrom (S xs) pat.length (c + pat.length) r) := by
        rw [hpq]; rfl
      rw [e, i.1, strSub_S, S_app, S_app, sk.1, hd, ht.1, List.append_assoc]
    · rw [sk.2, hd, ht.2, ← i.2, List.length_cons]; omega
theorem replace_S (Rd : Reads pat z R C) (hp : 1 ≤ pat.length) : Txt.replace (S xs) (S pat) (S z) = S (R xs) := by
  obtain ⟨f, hG, hn⟩ := occ_tight (S xs) (S pat) (by rw [S_len]; exact hp)
  have k := reads_chain Rd hp _ 0 f hG hn (Nat.zero_le _)
  rw [List.drop_zero] at k
  unfold Txt.replace
  have h0 : ((S pat).length == 0) = false := by rw [S_len]; simp; intro e; rw [e] at hp; simp at hp
  rw [h0, Bool.false_and, Bool.or_false]
  cases he : (occurrences (S xs) (S pat) 0 (S xs).length ((S xs).length + 1)).isEmpty
  · rw [if_neg Bool.false_ne_true, glued_eq_join, partsBetween_eq, k.1]
  · rw [if_pos rfl]
    have e : occurrences (S xs) (S pat) 0 (S xs).length ((S xs).length + 1) = [] := List.isEmpty_iff.mp he
    rw [e] at k
    have := k.1
    change strSub (S xs) 0 (S xs).length = _ at this
    rw [strSub_S, S_len] at this
    rw [← this, List.drop_zero, List.take_of_length_le (by omega)]
theorem count_S (Rd : Reads pat z R C) (hp : 1 ≤ pat.length) : Txt.count (S xs) (S pat) = (C xs : Int) := by
  obtain ⟨f, hG, hn⟩ := occ_tight (S xs) (S pat) (by rw [S_len]; exact hp)
  have k := reads_chain Rd hp _ 0 f hG hn (Nat.zero_le _)
  rw [List.drop_zero] at k
  unfold Txt.count
  rw [k.2]
end
/-- one sign by another -/
def rep1 (a b : Nat) (xs : List Nat) : List Nat := xs.map fun c => if c = a then b else c
def cnt1 (a : Nat) (xs : List Nat) : Nat := (xs.filter (· == a)).length
theorem reads_1 (a b : Nat) : Reads [a] [b] (rep1 a b) (cnt1 a) where
  nil := ⟨rfl, rfl⟩
  hit r := by simp [rep1, cnt1]; omega
  miss c r h := by
    have : c ≠ a := fun e => h (by simp [e])
    simp [rep1, cnt1, this]
/-- both signs of a line end by one -/
def rep2 : List Nat → List Nat
  | [] => []
  | [c] => [c]
  | c :: d :: r => if c = 13 ∧ d = 10 then 10 :: rep2 r else c :: rep2 (d :: r)
def cnt2 : List Nat → Nat
  | [] => 0
  | [_] => 0
  | c :: d :: r => if c = 13 ∧ d = 10 then 1 + cnt2 r else cnt2 (d :: r)
theorem reads_2 : Reads [13, 10] [10] rep2 cnt2 where
  nil := ⟨rfl, rfl⟩
  hit r := by simp [rep2, cnt2]
  miss c r h := by
    cases r with
    | nil => exact ⟨rfl, rfl⟩
    | cons d r =>
      have : ¬ (c = 13 ∧ d = 10) := fun e => h (by simp [e])
      simp only [rep2, cnt2, if_neg this]
      exact ⟨trivial, trivial⟩
/-- the rows between the line feeds -/
def splitL : List Nat → List (List Nat)
  | [] => [[]]
  | c :: r => if c = 10 then [] :: splitL r else match splitL r with
    | [] => [[c]]
    | p :: q => (c :: p) :: q
theorem splitL_ne : ∀ xs, splitL xs ≠ []
  | [] => by simp [splitL]
  | c :: r => by
    rw [splitL]
    split
    · simp
    · split <;> simp
theorem splitL_free : ∀ p : List Nat, 10 ∉ p → splitL p = [p]
  | [], _ => rfl
  | c :: r, h => by
    have h1 : c ≠ 10 := fun e => h (by simp [e])
    rw [splitL, if_neg h1, splitL_free r (fun m => h (.tail _ m))]
theorem splitL_app : ∀ (p ys : List Nat), 10 ∉ p → splitL (p ++ 10 :: ys) = p :: splitL ys
  | [], ys, _ => by simp [splitL]
  | c :: r, ys, h => by
    have h1 : c ≠ 10 := fun e => h (by simp [e])
    rw [List.cons_append, splitL, if_neg h1, splitL_app r ys (fun m => h (.tail _ m))]
theorem splitL_join : ∀ ps : List (List Nat), ps ≠ [] → (∀ p ∈ ps, 10 ∉ p) → splitL (joinL [10] ps) = ps
  | [], h, _ => absurd rfl h
  | [p], _, h => splitL_free p (h p (.head _))
  | p :: q :: r, _, h => by
    rw [joinL, List.append_assoc]
    show splitL (p ++ 10 :: joinL [10] (q :: r)) = _
    rw [splitL_app p _ (h p (.head _)), splitL_join (q :: r) (by simp) (fun x hx => h x (.tail _ hx))]
theorem split_S (ys : List Nat) : Txt.split (S ys) (S [10]) = (splitL ys).map S := by
  have hf := split_free (S ys) 10
  have hj := join_split (S ys) ⟨#[10]⟩
  have hne : Txt.split (S ys) ⟨#[10]⟩ ≠ [] := by
    unfold Txt.split
    split
    · simp
    · split
      · simp
      · rw [partsBetween_eq]
        obtain ⟨p, r, e⟩ := partsFrom_ne (S ys) (⟨#[10]⟩ : Str).length 0 (occurrences (S ys) ⟨#[10]⟩ 0 (S ys).length ((S ys).length + 1))
        rw [e]; simp
  show Txt.split (S ys) ⟨#[10]⟩ = _
  generalize Txt.split (S ys) ⟨#[10]⟩ = ps at hf hj hne
  have e1 : ps = (ps.map (fun p => p.cps.toList)).map S := by
    rw [List.map_map]
    conv => lhs; rw [← List.map_id ps]
    apply List.map_congr_left
    intro p _
    exact S_of p
  have e2 : Str.join (S [10]) ((ps.map (fun p => p.cps.toList)).map S) = S (joinL [10] (ps.map (fun p => p.cps.toList))) := by
    rw [← join_S]
    exact (glued_eq_join _ _).symm
  have e3 : joinL [10] (ps.map (fun p => p.cps.toList)) = ys := by
    rw [← S_inj, ← e2, ← e1]
    exact hj
  rw [e1, ← e3, splitL_join]
  · simpa using hne
  · intro p hp
    obtain ⟨q, hq, rfl⟩ := List.mem_map.mp hp
    exact hf q hq
end Mine
end

section
open PySem PySem.W PyProof.Rows PySem.Calls
set_option maxRecDepth 100000
set_option maxHeartbeats 8000000
namespace Mine
def norm (xs : List Nat) : List Nat := rep1 13 10 (rep2 xs)
def rowsOf (xs : List Nat) : List (List Nat) := splitL (norm xs)
def exp10 : List Nat → List Nat
  | [] => []
  | c :: r => if c = 10 then 13 :: 10 :: exp10 r else c :: exp10 r
def isDot (r : List Nat) : Bool := r.take 1 == [46]
def dotRow (r : List Nat) : List Nat := if isDot r = true then 46 :: r else r
theorem norm_nil : norm [] = [] := rfl
theorem norm_cons (c : Nat) (r : List Nat) : norm (c :: r) = if c = 13 then 10 :: norm (dropLF r) else c :: norm r := by
  unfold norm
  by_cases h : c = 13
  · subst h
    rw [if_pos rfl]
    cases r with
    | nil => rfl
    | cons d r =>
      by_cases h2 : d = 10
      · subst h2
        rw [rep2, if_pos ⟨rfl, rfl⟩, dropLF, if_pos rfl]
        rfl
      · rw [rep2, if_neg (fun q => h2 q.2), dropLF, if_neg h2]
        rfl
  · rw [if_neg h]
    cases r with
    | nil => simp [rep1, rep2, h]
    | cons d r =>
      rw [rep2, if_neg (fun q => h q.1)]
      simp [rep1, h]
theorem fix_exp : ∀ (n : Nat) (xs : List Nat), xs.length ≤ n → fixE xs = exp10 (norm xs) := by
  intro n
  induction n with
  | zero => intro xs h; have : xs = [] := List.length_eq_zero_iff.mp (by omega); subst this; rw [fixE_nil, norm_nil]; rfl
  | succ n ih =>
    intro xs h
    cases xs with
    | nil => rw [fixE_nil, norm_nil]; rfl
    | cons c r =>
      simp only [List.length_cons] at h
      have l1 := dropLF_le r
      rw [fixE_cons, norm_cons]
      by_cases h1 : c = 13
      · rw [if_pos h1, if_pos h1, exp10, if_pos rfl, ih _ (by omega)]
      · rw [if_neg h1, if_neg h1, exp10]
        by_cases h2 : c = 10
        · rw [if_pos h2, if_pos h2, ih _ (by omega)]
        · rw [if_neg h2, if_neg h2, ih _ (by omega)]
theorem joinL_cons (sep x : List Nat) {r : List (List Nat)} (h : r ≠ []) : joinL sep (x :: r) = x ++ sep ++ joinL sep r := by
  cases r with
  | nil => exact absurd rfl h
  | cons y r => rfl
theorem joinL_push (sep : List Nat) (c : Nat) (p : List Nat) (q : List (List Nat)) : joinL sep ((c :: p) :: q) = c :: joinL sep (p :: q) := by
  cases q with
  | nil => rfl
  | cons y r => rfl
theorem exp_join : ∀ ys, joinL [13, 10] (splitL ys) = exp10 ys
  | [] => rfl
  | c :: r => by
    have ih := exp_join r
    rw [splitL, exp10]
    by_cases h : c = 10
    · rw [if_pos h, if_pos h, joinL_cons _ _ (splitL_ne r), ih]; rfl
    · rw [if_neg h, if_neg h]
      cases e : splitL r with
      | nil => exact absurd e (splitL_ne r)
      | cons p q => rw [e] at ih; dsimp only; rw [joinL_push, ih]
theorem fixed_eq (xs : List Nat) : joinL [13, 10] (rowsOf xs) = fixE xs := by
  rw [rowsOf, exp_join, fix_exp _ xs (Nat.le_refl _)]
theorem dot_join : ∀ ys, dotE true (exp10 ys) = joinL [13, 10] ((splitL ys).map dotRow) ∧ ∀ p q, splitL ys = p :: q → dotE false (exp10 ys) = joinL [13, 10] (p :: q.map dotRow)
  | [] => by
    refine ⟨rfl, fun p q h => ?_⟩
    simp [splitL] at h
    obtain ⟨rfl, rfl⟩ := h
    rfl
  | c :: r => by
    obtain ⟨i1, i2⟩ := dot_join r
    by_cases h : c = 10
    · have e : ∀ b, dotE b (exp10 (c :: r)) = 13 :: 10 :: dotE true (exp10 r) := by
        intro b
        rw [exp10, if_pos h, dotE, if_neg (fun q => by simp at q), dotE, if_neg (fun q => by simp at q)]
        rfl
      have es : splitL (c :: r) = [] :: splitL r := by rw [splitL, if_pos h]
      have hne : (splitL r).map dotRow ≠ [] := by simp [splitL_ne]
      rw [es]
      refine ⟨?_, fun p q hpq => ?_⟩
      · rw [e, i1, List.map_cons, joinL_cons _ _ hne]
        rfl
      · obtain ⟨rfl, rfl⟩ : [] = p ∧ splitL r = q := by simpa using hpq
        rw [e, i1, joinL_cons _ _ hne]
        rfl
    · cases es : splitL r with
      | nil => exact absurd es (splitL_ne r)
      | cons p q =>
        have e2 := i2 p q es
        have es2 : splitL (c :: r) = (c :: p) :: q := by rw [splitL, if_neg h, es]
        have hx : exp10 (c :: r) = c :: exp10 r := by rw [exp10, if_neg h]
        have hc : (c == 10) = false := by simp [h]
        rw [es2, hx]
        refine ⟨?_, fun p' q' hpq => ?_⟩
        · rw [dotE]
          by_cases h46 : c = 46
          · rw [if_pos ⟨rfl, h46⟩, e2, List.map_cons]
            have : dotRow (c :: p) = 46 :: 46 :: p := by simp [dotRow, isDot, h46]
            rw [this, joinL_push, joinL_push]
          · rw [if_neg (fun q => h46 q.2), hc, e2, List.map_cons]
            have : dotRow (c :: p) = c :: p := by simp [dotRow, isDot, h46]
            rw [this, joinL_push]
        · obtain ⟨rfl, rfl⟩ : c :: p = p' ∧ q = q' := by simpa using hpq
          rw [dotE, if_neg (fun q => by simp at q), hc, e2, joinL_push]
theorem sent_eq (xs : List Nat) : joinL [13, 10] ((rowsOf xs).map dotRow) = dotE true (fixE xs) := by
  rw [rowsOf, ← (dot_join (norm xs)).1, fix_exp _ xs (Nat.le_refl _)]
theorem ends_eq : ∀ (n : Nat) (xs : List Nat), xs.length ≤ n → cnt1 13 xs + cnt1 10 xs + xs.length = (fixE xs).length + 2 * cnt2 xs := by
  intro n
  induction n with
  | zero => intro xs h; have : xs = [] := List.length_eq_zero_iff.mp (by omega); subst this; rw [fixE_nil]; rfl
  | succ n ih =>
    intro xs h
    have k1 : ∀ a c r, cnt1 a (c :: r) = (if c = a then 1 else 0) + cnt1 a r := by
      intro a c r
      unfold cnt1
      rw [List.filter_cons]
      by_cases e : c = a
      · simp [e]; omega
      · simp [e]
    cases xs with
    | nil => rw [fixE_nil]; rfl
    | cons c r =>
      simp only [List.length_cons] at h
      rw [fixE_cons, k1, k1]
      by_cases h1 : c = 13
      · subst h1
        rw [if_pos rfl, if_pos rfl, if_neg (by decide)]
        cases r with
        | nil => simp [dropLF, fixE_nil, cnt1, cnt2]
        | cons d r =>
          simp only [List.length_cons] at h
          by_cases h2 : d = 10
          · subst h2
            rw [dropLF, if_pos rfl, k1, k1, if_neg (by decide), if_pos rfl, cnt2, if_pos ⟨rfl, rfl⟩]
            have := ih r (by omega)
            simp only [List.length_cons]; omega
          · rw [dropLF, if_neg h2, cnt2, if_neg (fun q => h2 q.2)]
            have := ih (d :: r) (by simp only [List.length_cons]; omega)
            simp only [List.length_cons] at this ⊢; omega
      · have e2 : cnt2 (c :: r) = cnt2 r := by
          cases r with
          | nil => rfl
          | cons d r => rw [cnt2, if_neg (fun q => h1 q.1)]
        have := ih r (by omega)
        rw [if_neg h1, if_neg h1, e2]
        by_cases h2 : c = 10
        · rw [if_pos h2, if_pos h2]; simp only [List.length_cons]; omega
        · rw [if_neg h2, if_neg h2]; simp only [List.length_cons]; omega
theorem dot_len (b : Bool) : ∀ ys : List Nat, (dotE b ys).length ≤ 2 * ys.length := by
  intro ys
  induction ys generalizing b with
  | nil => simp [dotE]
  | cons c r ih =>
    rw [dotE]
    split
    · have := ih false; simp only [List.length_cons]; omega
    · have := ih (c == 10); simp only [List.length_cons]; omega
theorem joinL_len (sep : List Nat) : ∀ ps qs : List (List Nat), ps.length = qs.length → (joinL sep ps).length + (qs.map List.length).sum = (joinL sep qs).length + (ps.map List.length).sum
  | [], [], _ => rfl
  | [p], [q], _ => by simp [joinL]; omega
  | p :: p2 :: r, q :: q2 :: t, h => by
    have ih := joinL_len sep (p2 :: r) (q2 :: t) (by simpa using h)
    simp only [joinL, List.length_append, List.map_cons, List.sum_cons] at ih ⊢
    omega
  | [], q :: t, h => by simp at h
  | p :: r, [], h => by simp at h
  | [p], q :: q2 :: t, h => by simp at h
  | p :: p2 :: r, [q], h => by simp at h
theorem dots_eq (xs : List Nat) : (dotE true (fixE xs)).length = (fixE xs).length + ((rowsOf xs).filter isDot).length := by
  rw [← sent_eq, ← fixed_eq]
  have h := joinL_len [13, 10] ((rowsOf xs).map dotRow) (rowsOf xs) (by simp)
  have k : ∀ l : List (List Nat), ((l.map dotRow).map List.length).sum = (l.map List.length).sum + (l.filter isDot).length := by
    intro l
    induction l with
    | nil => rfl
    | cons p r ih =>
      simp only [List.map_cons, List.sum_cons, List.filter_cons]
      rw [ih]
      by_cases hd : isDot p = true
      · rw [if_pos hd, dotRow, if_pos hd]; simp only [List.length_cons]; omega
      · rw [if_neg hd, dotRow, if_neg hd]; omega
  rw [k] at h
  omega
theorem sub_fix : ∀ (n : Nat) (xs : List Nat), xs.length ≤ n → List.Sublist xs (fixE xs) := by
  intro n
  induction n with
  | zero => intro xs h; have : xs = [] := List.length_eq_zero_iff.mp (by omega); subst this; exact List.nil_sublist _
  | succ n ih =>
    intro xs h
    cases xs with
    | nil => exact List.nil_sublist _
    | cons c r =>
      simp only [List.length_cons] at h
      rw [fixE_cons]
      by_cases h1 : c = 13
      · rw [if_pos h1, h1]
        cases r with
        | nil => exact (List.nil_sublist _).cons_cons 13
        | cons d r =>
          simp only [List.length_cons] at h
          rw [dropLF]
          by_cases h2 : d = 10
          · rw [if_pos h2, h2]
            exact ((ih r (by omega)).cons_cons 10).cons_cons 13
          · rw [if_neg h2]
            exact ((ih (d :: r) (by simp only [List.length_cons]; omega)).cons 10).cons_cons 13
      · rw [if_neg h1]
        by_cases h2 : c = 10
        · rw [if_pos h2, h2]
          exact ((ih r (by omega)).cons_cons 10).cons 13
        · rw [if_neg h2]
          exact (ih r (by omega)).cons_cons c
theorem sub_dot (b : Bool) : ∀ ys : List Nat, List.Sublist ys (dotE b ys) := by
  intro ys
  induction ys generalizing b with
  | nil => exact List.nil_sublist _
  | cons c r ih =>
    rw [dotE]
    split
    · rename_i h
      rw [h.2]
      exact ((ih false).cons 46).cons_cons 46
    · exact (ih _).cons_cons c
/-- both askings of a way that only puts in -/
theorem way_1 {xs zs : List Nat} {v : Int} (hs : List.Sublist xs zs) (hl : zs.length ≤ 50) (h : LevRel xs zs 100 v) : v = 2 * ((zs.length : Int) - xs.length) := by
  have e := edl_sub hs
  rw [← e]
  exact (LevRel.edl_le h).1 (by omega)
theorem way_2 {xs zs : List Nat} {c v1 v2 : Int} (hs : List.Sublist xs zs) (h1 : LevRel zs xs c v1) (h2 : ToldRel xs zs c v2) : v1 = v2 := by
  have hle := hs.length_le
  have e : edl zs xs = 2 * ((zs.length : Int) - xs.length) := by rw [edl_symm]; exact edl_sub hs
  by_cases ho : OneAt xs zs
  · rw [h2.1 (.inl ho)]
    obtain ⟨k, hk, hz⟩ := ho
    rw [LevRel.piece h1 (u := xs.take k) (t := xs.drop k) (by simp) hz]
    have := congrArg List.length hz
    simp at this
    simp
    omega
  · by_cases hc : 2 * ((zs.length : Int) - xs.length) ≤ c
    · rw [h2.1 (.inr hc), ← e]
      exact (LevRel.edl_le h1).1 (by omega)
    · rw [h2.2 (fun q => q.elim ho hc)]
      refine LevRel.pieces h1 (fun u m t ha hb => ho ⟨u.length, ?_, ?_⟩) hle (by omega)
      · rw [ha]; simp
      · have lm : m.length = zs.length - xs.length := by rw [ha, hb]; simp; omega
        have e1 : xs.take u.length = u := by rw [ha]; simp
        have e2 : xs.drop u.length = t := by rw [ha]; simp
        have e3 : (zs.drop u.length).take (zs.length - xs.length) = m := by
          rw [← lm, hb, List.append_assoc]; simp
        rw [e1, e2, e3]; exact hb
end Mine
end

section
open PySem
namespace Mine
theorem runs_toks {M : Model} {Γ : Ctx} {p : Pos} {t : Sem Fin} {fs : List Frame} {s : Shared} {e : End} {s' : Shared} (h : Runs M Γ p t fs s e s') : s.toks ≤ s'.toks := by
  induction h <;> ((try simp only [Shared.setGen] at *); omega)
theorem wakes_toks {M : Model} {Γ : Ctx} {p : Pos} {g : Nat} {r : Resume} {s : Shared} {res : GenResult} {s' : Shared} (h : Wakes M Γ p g r s res s') : s.toks ≤ s'.toks := by
  unfold Wakes at h
  split at h
  · exact h.elim
  · split at h
    · obtain ⟨e₁, s₁, hr, _, _, rfl⟩ := h
      have k := runs_toks hr; exact k
    · obtain ⟨_, rfl⟩ := h; exact Nat.le_refl _
    · obtain ⟨_, rfl⟩ := h; exact Nat.le_refl _
  · obtain ⟨e₁, s₁, hr, _, _, rfl⟩ := h
    have k := runs_toks hr; exact k
  · obtain ⟨_, rfl⟩ := h; exact Nat.le_refl _
  · obtain ⟨_, rfl⟩ := h; exact Nat.le_refl _
theorem wp_toks {α : Type} (M : Model) (Γ : Ctx) (t : Sem α) (n : Nat) : ∀ (Q : α → Pos → Shared → Prop) (E : Value → Pos → Shared → Prop) (p : Pos) (s : Shared), n ≤ s.toks → Sem.wp M Γ t Q E p s →
    Sem.wp M Γ t (fun a p s' => n ≤ s'.toks ∧ Q a p s') E p s := by
  induction t with
  | pure a => intro Q E p s hn h; simp only [Sem.wp] at h ⊢; exact ⟨hn, h⟩
  | raise e => intro Q E p s hn h; simp only [Sem.wp] at h ⊢; exact h
  | unsupported _ => intro Q E p s hn h; simp only [Sem.wp] at h
  | finish _ => intro Q E p s hn h; simp only [Sem.wp] at h
  | rule _ k ih => intro Q E p s hn h; simp only [Sem.wp] at h ⊢; exact ih _ _ _ _ _ hn h
  | «at» p' k ih => intro Q E p s hn h; simp only [Sem.wp] at h ⊢; exact ih _ _ _ _ _ hn h
  | load a _ k ih => intro Q E p s hn h; simp only [Sem.wp] at h ⊢; obtain ⟨o, ho, h⟩ := h; exact ⟨o, ho, ih _ _ _ _ _ hn h⟩
  | update a _ f k ih => intro Q E p s hn h; simp only [Sem.wp] at h ⊢; exact ⟨h.1, ih _ _ _ _ _ hn h.2⟩
  | loadIfAlive a k ih => intro Q E p s hn h; simp only [Sem.wp] at h ⊢; exact ih _ _ _ _ _ hn h
  | point _ k ih => intro Q E p s hn h; simp only [Sem.wp] at h ⊢; exact ih _ _ _ _ _ hn h
  | register _ _ => intro Q E p s hn h; simp only [Sem.wp] at h
  | alloc o k ih => intro Q E p s hn h; simp only [Sem.wp] at h ⊢; exact ih _ _ _ _ _ hn h
  | fresh k ih => intro Q E p s hn h; simp only [Sem.wp] at h ⊢; exact ih _ _ _ _ _ (Nat.le_succ_of_le hn) h
  | ask k ih => intro Q E p s hn h; simp only [Sem.wp] at h ⊢; exact ih _ _ _ _ _ hn h
  | choose src m k ih => intro Q E p s hn h; simp only [Sem.wp] at h ⊢; exact ⟨h.1, ih _ _ _ _ _ hn h.2⟩
  | os q _ k ih => intro Q E p s hn h; simp only [Sem.wp] at h ⊢; exact ih _ _ _ _ _ hn h
  | call c h' _ _ k ih =>
    intro Q E p s hn h; simp only [Sem.wp] at h ⊢
    obtain ⟨r, s', hr, h⟩ := h
    exact ⟨r, s', hr, ih _ _ _ _ _ (Nat.le_trans hn (runs_toks hr)) h⟩
  | handled own k ih => intro Q E p s hn h; simp only [Sem.wp] at h ⊢; exact ih _ _ _ _ _ hn h
  | genState g k ih => intro Q E p s hn h; simp only [Sem.wp] at h ⊢; obtain ⟨o, ho, h⟩ := h; exact ⟨o, ho, ih _ _ _ _ _ hn h⟩
  | newGen c k ih => intro Q E p s hn h; simp only [Sem.wp] at h ⊢; exact ih _ _ _ _ _ hn h
  | resume g r _ k ih =>
    intro Q E p s hn h; simp only [Sem.wp] at h ⊢
    obtain ⟨r', s', hr, h⟩ := h
    exact ⟨r', s', hr, ih _ _ _ _ _ (Nat.le_trans hn (wakes_toks hr)) h⟩
  | yield _ _ _ _ => intro Q E p s hn h; simp only [Sem.wp] at h
  | stack k ih => intro Q E p s hn h; simp only [Sem.wp] at h ⊢; exact ih _ _ _ _ _ hn h
  | fork _ _ => intro Q E p s hn h; simp only [Sem.wp] at h
  | thread k ih => intro Q E p s hn h; simp only [Sem.wp] at h ⊢; exact ih _ _ _ _ _ hn h
  | await _ _ _ _ _ => intro Q E p s hn h; simp only [Sem.wp] at h
theorem any_toks {α : Type} {M : Model} {A : Around} {t : Sem α} {Q : α → Shared → Prop} {E : Value → Shared → Prop} {s : Shared}
    (h : wpAny M A t (fun a s' => s.toks ≤ s'.toks → Q a s') E s) : wpAny M A t Q E s := fun Γ p hΓ =>
  Sem.wp_mono M Γ t (fun _ _ _ h => h.2 h.1) (fun _ _ _ h => h) p s (wp_toks M Γ t s.toks _ _ p s (Nat.le_refl _) (h Γ p hΓ))
theorem pos_toks {α : Type} {M : Model} {A : Around} {t : Sem α} {Q : α → Shared → Prop} {E : Value → Shared → Prop} {h : Heap} {g : Array GenState} {d} {os} {n : Nat}
    (H : ∀ k : Nat, 0 < k → wpAny M A t Q E ⟨h, g, d, k, os⟩) : wpAny M A t Q E ⟨h, g, d, n + 1, os⟩ := H _ (Nat.succ_pos _)
end Mine
end

section
open PySem PySem.W PyProof.Rows PySem.Calls
set_option maxRecDepth 100000
set_option maxHeartbeats 8000000
namespace Mine
theorem nl_S : Str.ofString "\n" = S [10] := by decide +kernel
theorem cr_S : Str.ofString "\r" = S [13] := by decide +kernel
theorem dot_S : Str.ofString "." = S [46] := by decide +kernel
theorem a_S : Str.ofString "a" = S [97] := by decide +kernel
theorem bigA_S : Str.ofString "A" = S [65] := by decide +kernel
theorem rep2_len (xs : List Nat) : (rep2 xs).length ≤ xs.length := by
  fun_induction rep2 xs <;> (simp only [List.length_cons, List.length_nil] at *; omega)
theorem rep1_len (a b : Nat) (xs : List Nat) : (rep1 a b xs).length = xs.length := by simp [rep1]
section
variable {prog : Program} {w : World} {A : Around} {E : Value → Shared → Prop} {s : Shared} {h₀ : Heap} {L : Addr} {m : PySem.Str → Option Value} {news : List (Addr × Obj)} {xs : List Nat} {t : Tok} {u v : Nat} {Q : Value → Shared → Prop}
theorem rep_crlf (hu : 0 < u) (hv : u < v) (hx : xs.length ≤ 40) (hq : ∀ t' k, s.toks ≤ k → Q (.str (S (rep2 xs)) t') { s with toks := k }) :
    wpAny (model prog w) A (call (.builtin "str.replace") [.str (S xs) t, .str (Str.ofString "\r\n") u, .str (Str.ofString "\n") v]) Q E s := by
  refine any_toks ?_
  rw [crlf_S, nl_S]
  refine SC.replaceW (Nat.ne_of_gt hu) (Nat.ne_of_gt (Nat.lt_trans hu hv)) (Nat.ne_of_lt hv) (by decide +kernel) (by rw [S_len]; omega) (by decide +kernel) ?_
  intro t' k
  rw [replace_S reads_2 (by decide)]
  exact hq t' k
theorem rep_cr (hu : 0 < u) (hv : u < v) (hx : xs.length ≤ 40) (hq : ∀ t' k, s.toks ≤ k → Q (.str (S (rep1 13 10 xs)) t') { s with toks := k }) :
    wpAny (model prog w) A (call (.builtin "str.replace") [.str (S xs) t, .str (Str.ofString "\r") u, .str (Str.ofString "\n") v]) Q E s := by
  refine any_toks ?_
  rw [cr_S, nl_S]
  refine SC.replaceW (Nat.ne_of_gt hu) (Nat.ne_of_gt (Nat.lt_trans hu hv)) (Nat.ne_of_lt hv) (by decide +kernel) (by rw [S_len]; omega) (by decide +kernel) ?_
  intro t' k
  rw [replace_S (reads_1 13 10) (by decide)]
  exact hq t' k
theorem rep_a (hu : 0 < u) (hv : u < v) (hx : xs.length ≤ 40) (hq : ∀ t' k, s.toks ≤ k → Q (.str (S (rep1 97 65 xs)) t') { s with toks := k }) :
    wpAny (model prog w) A (call (.builtin "str.replace") [.str (S xs) t, .str (Str.ofString "a") u, .str (Str.ofString "A") v]) Q E s := by
  refine any_toks ?_
  rw [a_S, bigA_S]
  refine SC.replaceW (Nat.ne_of_gt hu) (Nat.ne_of_gt (Nat.lt_trans hu hv)) (Nat.ne_of_lt hv) (by decide +kernel) (by rw [S_len]; omega) (by decide +kernel) ?_
  intro t' k
  rw [replace_S (reads_1 97 65) (by decide)]
  exact hq t' k
theorem split_call (hF : Fr h₀ L s.heap m) (hN : News h₀ L s.heap news) (hx : xs.length ≤ 40)
    (h : ∀ D l h' k, s.toks ≤ k → StrsAre (strValues l) ((splitL xs).map S) → Fr h₀ L h' m → News h₀ L h' ((D, listOf (strValues l).toArray 0) :: news) → (∀ p ∈ news, p.1 < D) → Q (.ref D) { s with heap := h', toks := k }) :
    wpAny (model prog w) A (call (.builtin "str.split") [.str (S xs) t, .str (Str.ofString "\n") u]) Q E s := by
  refine any_toks ?_
  rw [nl_S]
  refine KSpl.split1 hF hN (by decide +kernel) ?_ (by rw [S_len, sizeLine_eq]; omega)
  intro D l h' k e a F N l1 hk
  rw [e, split_S] at a
  exact h D l h' k hk a F N l1
theorem cnt_cr (hq : Q (.int (cnt1 13 xs : Nat) s.toks) { s with toks := s.toks + 1 }) :
    wpAny (model prog w) A (call (.builtin "str.count") [.str (S xs) t, .str (Str.ofString "\r") u]) Q E s := by
  refine SC.count ?_
  rw [cr_S, count_S (reads_1 13 10) (by decide)]
  exact hq
theorem cnt_nl (hq : Q (.int (cnt1 10 xs : Nat) s.toks) { s with toks := s.toks + 1 }) :
    wpAny (model prog w) A (call (.builtin "str.count") [.str (S xs) t, .str (Str.ofString "\n") u]) Q E s := by
  refine SC.count ?_
  rw [nl_S, count_S (reads_1 10 13) (by decide)]
  exact hq
theorem cnt_crlf (hq : Q (.int (cnt2 xs : Nat) s.toks) { s with toks := s.toks + 1 }) :
    wpAny (model prog w) A (call (.builtin "str.count") [.str (S xs) t, .str (Str.ofString "\r\n") u]) Q E s := by
  refine SC.count ?_
  rw [crlf_S, count_S reads_2 (by decide)]
  exact hq
def Ext (h h' : Heap) : Prop := ∀ b o, h.get? b = some o → h'.get? b = some o
theorem slice_leaf {value slice : Expr} {x : Str} {j : Int} {uj : Tok} {s : Shared} (hn : s.heap.Ns L m) (hsz : x.length ≤ 1000)
    (h : ∀ h' t' k, Ext s.heap h' → h'.Ns L m → Q (.str (Txt.slice x none (some j)) t') { s with heap := h', toks := k })
    (hs : subscripted slice false (.str x t) (.ref s.heap.objs.size) = operate [.ref s.heap.objs.size, .str x t] (getItem (.str x t) (.ref s.heap.objs.size)) := by with_unfolding_all rfl)
    (ht : ∀ r, letTemporaryGo value (.str x t) r = pure () := by intro _; with_unfolding_all rfl) :
    wpAny (model prog w) A (subscriptTail value slice (.str x t) (.ref s.heap.objs.size)) Q E { s with heap := s.heap.push { cls := .type "slice", data := .fields #[.none, .int j uj, .none] } } :=
  tail_of_ItemOn (SBH.sliceItem_ns (P := fun h' => Ext s.heap h' ∧ h'.Ns L m) (fun _ ob k => ⟨fun b o e => Heap.get?_push_of_some ob (k.1 b o e), k.2.push ob⟩) ⟨fun _ _ e => e, hn⟩ (fun h' t' k p => h h' t' k p.1 p.2) (by rw [sizeLine_eq]; omega)) hs ht
theorem sum_len (c : Nat) : ∀ l : List (List Nat), (∀ r ∈ l, r.length ≤ c) → ((l.map S).map (·.length)).sum ≤ c * l.length
  | [], _ => by simp
  | r :: q, h => by
    have k := sum_len c q fun r' hr' => h r' (.tail _ hr')
    have k1 := h r (.head _)
    simp only [List.map_cons, List.sum_cons, List.length_cons, S_len, Nat.mul_add] at k ⊢
    omega
theorem join_rows {D : Addr} {ys : List Value} {l : List (List Nat)} (hl : s.heap.IsList D ys.toArray) (hi : StrsAre ys (l.map S)) (hc : ∀ r ∈ l, r.length ≤ 10) (hn : l.length ≤ 10)
    (h : ∀ t' k, Q (.str (S (joinL [13, 10] l)) t') { s with toks := k }) : wpAny (model prog w) A (call (.builtin "str.join") [.str (Str.ofString "\r\n") t, .ref D]) Q E s := by
  refine join_list hl (by simpa using hi) ?_ ?_
  · have k := sum_len 10 l hc
    have k2 : (Str.ofString "\r\n").length = 2 := by decide +kernel
    rw [k2, List.length_map]
    omega
  · intro t' k
    rw [crlf_S, join_S]
    exact h t' k
def pzd (a : Str) : Bool := Txt.slice a none (some 1) == Str.ofString "."
theorem pzd_S (r : List Nat) : pzd (S r) = isDot r := by
  unfold pzd isDot
  rw [sl_to (by decide), dot_S]
  have e : (1 : Int).toNat = 1 := rfl
  rw [e, Bool.eq_iff_iff, beq_iff_eq, beq_iff_eq, S_inj]
theorem dots_len (l : List (List Nat)) : ((l.map S).filter pzd).length = (l.filter isDot).length := by
  induction l with
  | nil => rfl
  | cons r q ih =>
    rw [List.map_cons, List.filter_cons, List.filter_cons, pzd_S]
    split <;> simp only [List.length_cons, ih]
def dotStr (a : Str) : Str := if pzd a = true then Str.ofString "." ++ a else a
theorem dotStr_S (r : List Nat) : dotStr (S r) = S (dotRow r) := by
  unfold dotStr dotRow
  rw [pzd_S]
  split
  · rw [dot_S, S_app]; rfl
  · rfl
theorem dotRow_len (r : List Nat) : (dotRow r).length ≤ r.length + 1 := by
  unfold dotRow; split <;> simp
theorem ne_two {a b : Addr} {x y : Str} {t1 t2 t3 t4 : Tok} (hl : s.heap.IsList a #[.str x t1, .str y t2]) (hl' : s.heap.IsList b #[.str x t3, .str y t4]) (hu : A.units < cLine) (h : Q (.bool false) s) :
    wpAny (model prog w) A (compareOp .NotEq (.ref a) (.ref b)) Q E s := by
  have k := PySem.SeqAt.RcNeAt.lists (A := A) (s := s) (e := fun _ => true) hl hl' rfl hu (by
    intro j h1 h2
    match j, h1 with
    | 0, _ => have := PySem.SeqAt.EqAt.str_str (A := A.in1) (s := s) x t1 x t3; rw [beq_self_eq_true] at this; exact this
    | 1, _ => have := PySem.SeqAt.EqAt.str_str (A := A.in1) (s := s) y t2 y t4; rw [beq_self_eq_true] at this; exact this)
  exact k prog w E Q h
theorem ne_same {a b : Int} {t u : Tok} (e : a = b) (h : Q (.bool false) s) : wpAny (model prog w) A (compareOp .NotEq (.int a t) (.int b u)) Q E s := by
  refine PyProof.Rows.ne_int ?_
  rw [e, bne_self_eq_false]
  exact h
theorem ends_cnt (xs : List Nat) : Txt.count (S xs) (Str.ofString "\r") + Txt.count (S xs) (Str.ofString "\n") - 2 * Txt.count (S xs) (Str.ofString "\r\n") = ((fixE xs).length : Int) - xs.length := by
  rw [cr_S, nl_S, crlf_S, count_S (reads_1 13 10) (by decide), count_S (reads_1 10 13) (by decide), count_S reads_2 (by decide)]
  have := ends_eq _ xs (Nat.le_refl _)
  omega
theorem last_S (ys : List Nat) : ∃ zs, Txt.slice (S ys) none (some (-1)) ++ Str.ofString "z" = S zs ∧ zs.length ≤ ys.length + 1 := by
  have hl := PyProof.Txt.length_slice_le (S ys) none (some (-1))
  generalize Txt.slice (S ys) none (some (-1)) = q at hl
  rw [S_len] at hl
  refine ⟨q.cps.toList ++ [122], ?_, ?_⟩
  · have e : Str.ofString "z" = S [122] := by decide +kernel
    have e2 : q = S q.cps.toList := by cases q; simp [S]
    rw [e, ← S_app, ← e2]
  · have : q.length = q.cps.toList.length := by simp [Str.length]
    simp only [List.length_append, List.length_cons, List.length_nil]
    omega
end
end Mine
end

section
open PySem PySem.W PyProof.Rows PySem.Calls
set_option maxRecDepth 100000
set_option maxHeartbeats 8000000
namespace Mine
theorem fillA : PySem.Challenge.rw_nq0030_01.prog = PySem.Challenge.rw_nq0030_01.prog ∧ Mine.hd.heap_39 = Mine.hd.heap_39 := by k_fill; exact ⟨rfl, rfl⟩
theorem splitL_len : ∀ ys : List Nat, (splitL ys).length ≤ ys.length + 1
  | [] => by simp [splitL]
  | c :: r => by
    have h := splitL_len r
    rw [splitL]
    split
    · simp only [List.length_cons]; omega
    · split <;> simp_all only [List.length_cons, List.length_nil] <;> omega
theorem splitL_item : ∀ (ys r : List Nat), r ∈ splitL ys → r.length ≤ ys.length
  | [], r, h => by simp [splitL] at h; subst h; exact Nat.le_refl _
  | c :: q, r, h => by
    rw [splitL] at h
    split at h
    · rcases List.mem_cons.mp h with rfl | h
      · exact Nat.zero_le _
      · have := splitL_item q r h; simp only [List.length_cons]; omega
    · split at h
      · rename_i e; exact absurd e (splitL_ne q)
      · rename_i p q' e
        rcases List.mem_cons.mp h with rfl | h
        · have := splitL_item q p (by rw [e]; exact .head _); simp only [List.length_cons]; omega
        · have := splitL_item q r (by rw [e]; exact .tail _ h); simp only [List.length_cons]; omega
theorem rows_item (xs r : List Nat) (h : r ∈ rowsOf xs) : r.length ≤ xs.length := by
  have k := splitL_item _ _ h
  have k' : (norm xs).length ≤ xs.length := by rw [norm, rep1_len]; exact rep2_len xs
  omega
theorem rows_len (xs : List Nat) : (rowsOf xs).length ≤ xs.length + 1 := by
  have h := splitL_len (norm xs)
  have k : (norm xs).length ≤ xs.length := by rw [norm, rep1_len]; exact rep2_len xs
  rw [rowsOf]; omega
local macro_rules | `(tactic| k_steps) => `(tactic| repeat' ((fail_if_success (with_reducible show Sealed _)); (fail_if_success (with_reducible show SeqLeaf (Carried _ (PyData.str (dotStr _)) ∧ _))); (fail_if_success (with_reducible show InvEndN _ _ _ _ _ _ _)); (fail_if_success (with_reducible show KCiNo _ _ _ _)); (fail_if_success (with_reducible show wpAny _ _ (pyIter _) (CompPost _ _ _ _ _ _ _ _ _) _ _)); first | (k_unfold; (try dsimp only)) | ((fail_if_success (with_reducible show wpAny _ _ (call (Value.ref _) _ _) _ _ _)); (fail_if_success (with_reducible show wpAny _ _ (compareOp CmpOp.NotEq (Value.int _ _) (Value.int _ _)) _ _ _)); (fail_if_success (with_reducible show wpAny _ _ (subscriptTail _ _ (Value.str _ _) (Value.ref _)) _ _ _)); (fail_if_success (with_reducible show wpAny _ _ (call (Value.builtin "str.join") _ _) _ _ _)); (fail_if_success (with_reducible show wpAny _ _ (call (Value.builtin "str.replace") _ _) _ _ _)); (fail_if_success (with_reducible show wpAny _ _ (call (Value.builtin "str.split") _ _) _ _ _)); (fail_if_success (with_reducible show wpAny _ _ (call (Value.builtin "len") _ _) _ _ _)); (fail_if_success (with_reducible show wpAny _ _ (compareOp CmpOp.NotEq (Value.ref _) (Value.ref _)) _ _ _)); (fail_if_success (with_reducible show wpAny _ _ (execs (Stmt.For _ _ _ _ _ :: _) _) _ _ _)); (fail_if_success (with_reducible show wpAny _ _ (pyIter _) _ _ _)); (first | walk1 | (dsimp only; walk1))) | (leave1; walk_say "STEP leave1"; try dsimp only) | fail "no step"))
theorem law_holds : PySem.Challenge.rw_nq0030_01.Holds := by
  refine Mine.hd ?_
  w_on
  w_strict (k_go0; (all_goals try k_fold))
  k_steps
  refine any_toks ?_
  rename News _ _ _ _ => N2
  rename IntsAre _ (List.take 6 _) => I2
  refine' (data_call _ _ _ _ _ (.head _) I2 (by simp; omega)) _ _ _ _ _ _ _ _ _ _ _ _ _ _ _ _ _ ?zB ?zF ?zX ?zN ?zT ?zC ?zd ?zu ?zR
  case zB => k_asm
  case zF => k_asm
  case zX => k_asm
  case zN => k_asm
  case zT => k_asm
  case zC => exact rfl
  case zd => exact Nat.lt_of_lt_of_le (by decide) (Nat.le_refl _)
  case zu => exact Nat.lt_of_lt_of_le (by decide) (Nat.le_refl _)
  case zR =>
  rintro v3 h3 tk3 ⟨xs, t3, rfl, hxs⟩ F3 N3
  have hlx : (S xs).length = xs.length := S_len xs
  dsimp only
  intro htk
  replace htk : 0 < tk3 := Nat.lt_of_lt_of_le (Nat.succ_pos _) htk
  walk1
  dsimp only
  generalize hz : tk3 + 1 = tkz
  replace htk : 0 < tkz := hz ▸ Nat.succ_pos _
  k_steps
  refine rep_crlf htk (Nat.lt_succ_self _) (by omega) ?_
  intro t4 tk4 hk4
  replace hk4 : 0 < tk4 := Nat.lt_of_lt_of_le (Nat.succ_pos _) hk4
  have hl4 := rep2_len xs
  dsimp only
  k_steps
  refine rep_cr hk4 (Nat.lt_succ_self _) (by omega) ?_
  intro t5 tk5 hk5
  have hl5 := rep1_len 13 10 (rep2 xs)
  rw [show rep1 13 10 (rep2 xs) = norm xs from rfl] at hl5 ⊢
  dsimp only
  k_steps
  refine split_call (by k_asm) (by k_asm) (by omega) ?_
  intro D6 l6 h6 k6 hk6 A6 F6 N6 l1
  rw [show splitL (norm xs) = rowsOf xs from rfl] at A6
  k_lt l1
  have hrl := rows_len xs
  dsimp only
  k_steps
  rename Fr _ _ _ _ => Fq
  rename News _ _ _ _ => Nq
  refine' srcC_listDW (vs := strValues l6) (as := (rowsOf xs).map S) (K := ItemKind.str) (pz := pzd) (d := PyData.str) ?hh ?hl ?hi ?F ?N ?g1 ?g2 ?g3 ?hsz
  case hh => with_unfolding_all rfl
  case hl => exact News.isList Nq (.head _)
  case hi => exact StrsAre.areOf A6
  case F => exact Fq
  case N => exact Nq
  case hsz => rw [List.length_map, sizeLine_eq]; omega
  case g1 =>
    intro C a v s₂ m₂ E' hm hk hn hx htk
    obtain ⟨t', rfl⟩ := ItemKind.str_is hk
    obtain ⟨r, hr, rfl⟩ := List.mem_map.mp hm
    have hrr := rows_item xs r hr
    have hla : (S r).length = r.length := S_len r
    refine wpAny_leafK ?_
    k_steps
    refine slice_leaf (s := ⟨_, _, _, _, _⟩) hn (by omega) ?_
    intro h8 t8 k8 hE8 hn8
    dsimp only
    k_steps
  case g2 =>
    intro C a v s₂ m₂ E' hm hk hp hn hx htk
    obtain ⟨t', rfl⟩ := ItemKind.str_is hk
    refine wpAny_leafK ?_
    k_steps
  case g3 =>
  intro D7 ys7 h7 k7 F7 N7 hD7 L7 P7 C7
  have S7 := CarriedAll.strsOf C7
  have hl7 : ys7.toArray.size = ((rowsOf xs).filter isDot).length := by rw [List.size_toArray, S7.length, List.map_id', dots_len]
  have hl8 : ((rowsOf xs).filter isDot).length ≤ (rowsOf xs).length := List.length_filter_le ..
  dsimp only
  k_steps
  refine len_list L7 (by rw [hl7]; omega) ?_
  rw [hl7]
  dsimp only
  k_steps
  refine join_rows (News.isList (by k_asm) (.head _)) A6 (fun r hr => Nat.le_trans (rows_item xs r hr) (by omega)) (by omega) ?_
  intro t9 k9
  rw [fixed_eq]
  dsimp only
  k_steps
  rename Fr _ _ _ _ => Fr2
  rename News _ _ _ _ => Nr2
  refine' srcC_listDW (vs := strValues l6) (as := (rowsOf xs).map S) (K := ItemKind.str) (pz := fun _ => true) (d := fun a => PyData.str (dotStr a)) ?hh ?hl ?hi ?F ?N ?g1 ?g2 ?g3 ?hsz
  case hh => with_unfolding_all rfl
  case hl => exact News.isList Nr2 (.head _)
  case hi => exact StrsAre.areOf A6
  case F => exact Fr2
  case N => exact Nr2
  case hsz => rw [List.length_map, sizeLine_eq]; omega
  case g1 =>
    intro C a v s₂ m₂ E' hm hk hn hx htk
    refine wpAny_leafK ?_
    k_steps
  case g2 =>
    intro C a v s₂ m₂ E' hm hk hp hn hx htk
    obtain ⟨t', rfl⟩ := ItemKind.str_is hk
    obtain ⟨r, hr, rfl⟩ := List.mem_map.mp hm
    have hrr := rows_item xs r hr
    have hla : (S r).length = r.length := S_len r
    refine wpAny_leafK ?_
    k_steps
    refine slice_leaf (s := ⟨_, _, _, _, _⟩) hn (by omega) ?_
    intro h8 t8 k8 hE8 hn8
    dsimp only
    k_steps
    · rename _ = true => hq
      refine ⟨?_, _, _, rfl, hE8⟩
      rw [show dotStr (S r) = Str.ofString "." ++ S r from if_pos hq]
      exact .str _ _
    · rename _ = false => hq
      refine ⟨?_, _, _, rfl, hE8⟩
      rw [show dotStr (S r) = S r from if_neg (by intro h; have := h.symm.trans hq; cases this)]
      exact .str _ _
  case g3 =>
  intro D10 ys10 h10 k10 F10 N10 hD10 L10 P10 C10
  have S10 : StrsAre ys10 (((rowsOf xs).map dotRow).map S) := by
    have e : ((List.map S (rowsOf xs)).filter fun _ => true).map (fun a => PyData.str (dotStr a)) = (((rowsOf xs).map dotRow).map S).map PyData.str := by
      rw [List.filter_eq_self.mpr (fun _ _ => rfl), List.map_map, List.map_map, List.map_map]
      refine List.map_congr_left fun r _ => ?_
      show PyData.str (dotStr (S r)) = PyData.str (S (dotRow r))
      rw [dotStr_S]
    rw [e] at C10
    have k := CarriedAll.strsOf C10
    rw [List.map_id'] at k
    exact k
  dsimp only
  k_steps
  refine join_rows L10 S10 (fun r hr => by obtain ⟨r', hr', rfl⟩ := List.mem_map.mp hr; have := dotRow_len r'; have := rows_item xs r' hr'; omega) (by rw [List.length_map]; omega) ?_
  intro t11 k11
  rw [sent_eq]
  dsimp only
  k_steps
  refine' (fix_call _ _ _ (by omega)) _ _ _ _ _ _ _ _ _ _ _ _ _ _ _ _ _ ?zB ?zF ?zX ?zN ?zT ?zC ?zd ?zu ?zR
  case zB => k_asm
  case zF => k_asm
  case zX => k_asm
  case zN => k_asm
  case zT => k_asm
  case zC => exact rfl
  case zd => exact Nat.lt_of_lt_of_le (by decide) (Nat.le_refl _)
  case zu => exact Nat.lt_of_lt_of_le (by decide) (Nat.le_refl _)
  case zR =>
  intro t12 h12 tk12 F12 N12
  dsimp only
  k_steps
  refine' (quote_call _ _ _ (by omega)) _ _ _ _ _ _ _ _ _ _ _ _ _ _ _ _ _ ?zB ?zF ?zX ?zN ?zT ?zC ?zd ?zu ?zR
  case zB => k_asm
  case zF => k_asm
  case zX => k_asm
  case zN => k_asm
  case zT => k_asm
  case zC => exact rfl
  case zd => exact Nat.lt_of_lt_of_le (by decide) (Nat.le_refl _)
  case zu => exact Nat.lt_of_lt_of_le (by decide) (Nat.le_refl _)
  case zR =>
  intro t13 h13 tk13 F13 N13
  dsimp only
  k_steps
  rename News _ _ _ _ => N14
  refine ne_two (PySem.IsL.isList (N14 _ (.tail _ (.head _))).1) (PySem.IsL.isList (N14 _ (.head _)).1) (by show callerA.units + 3 < cLine; decide) ?_
  dsimp only
  k_steps
  dsimp only
  refine pos_toks ?_
  intro tkp hpos
  refine wpAny_execs_cons ?_
  refine any_toks ?_
  walk1
  k_steps
  walk1
  k_steps
  have hfix : (fixE xs).length ≤ 18 := by have := fixE_len _ xs (Nat.le_refl _); omega
  have hsent : (dotE true (fixE xs)).length ≤ 36 := by have := dot_len true (fixE xs); omega
  have hends := ends_cnt xs
  have hdots := dots_eq xs
  have s1 : List.Sublist xs (fixE xs) := sub_fix _ xs (Nat.le_refl _)
  have s2 : List.Sublist (fixE xs) (dotE true (fixE xs)) := sub_dot true _
  have s3 := s1.trans s2
  have l1' := s1.length_le
  have l2' := s2.length_le
  refine' (lev_call _ _ _ _ _ _ _ (by omega) (by omega)) _ _ _ _ _ _ _ _ _ _ _ _ _ _ _ _ _ ?zB ?zF ?zX ?zN ?zT ?zC ?zd ?zu ?zR
  case zB => k_asm
  case zF => k_asm
  case zX => k_asm
  case zN => k_asm
  case zT => k_asm
  case zC => exact rfl
  case zd => exact Nat.lt_of_lt_of_le (by decide) (Nat.le_refl _)
  case zu => exact Nat.lt_of_lt_of_le (by decide) (Nat.le_refl _)
  case zR =>
  rintro v h tk ⟨ia, ta, rfl, ra⟩ Fa Na
  have ea := way_1 s1 (by omega) ra
  (try dsimp only)
  k_steps
  refine ne_same (by rw [ea]; omega) ?_
  (try dsimp only)
  k_steps
  refine' (lev_call _ _ _ _ _ _ _ (by omega) (by omega)) _ _ _ _ _ _ _ _ _ _ _ _ _ _ _ _ _ ?zB ?zF ?zX ?zN ?zT ?zC ?zd ?zu ?zR
  case zB => k_asm
  case zF => k_asm
  case zX => k_asm
  case zN => k_asm
  case zT => k_asm
  case zC => exact rfl
  case zd => exact Nat.lt_of_lt_of_le (by decide) (Nat.le_refl _)
  case zu => exact Nat.lt_of_lt_of_le (by decide) (Nat.le_refl _)
  case zR =>
  rintro v h tk ⟨ib, tb, rfl, rb⟩ Fb Nb
  (try dsimp only)
  k_steps
  refine' (told_call _ _ _ _ _ _ _ (by omega) (by omega)) _ _ _ _ _ _ _ _ _ _ _ _ _ _ _ _ _ ?zB ?zF ?zX ?zN ?zT ?zC ?zd ?zu ?zR
  case zB => k_asm
  case zF => k_asm
  case zX => k_asm
  case zN => k_asm
  case zT => k_asm
  case zC => exact rfl
  case zd => exact Nat.lt_of_lt_of_le (by decide) (Nat.le_refl _)
  case zu => exact Nat.lt_of_lt_of_le (by decide) (Nat.le_refl _)
  case zR =>
  rintro v h tk ⟨ic, tc, rfl, rc⟩ Fc Nc
  (try dsimp only)
  k_steps
  refine ne_same (way_2 s1 rb rc) ?_
  clear ea ra rb rc
  (try dsimp only)
  k_steps
  refine' (lev_call _ _ _ _ _ _ _ (by omega) (by omega)) _ _ _ _ _ _ _ _ _ _ _ _ _ _ _ _ _ ?zB ?zF ?zX ?zN ?zT ?zC ?zd ?zu ?zR
  case zB => k_asm
  case zF => k_asm
  case zX => k_asm
  case zN => k_asm
  case zT => k_asm
  case zC => exact rfl
  case zd => exact Nat.lt_of_lt_of_le (by decide) (Nat.le_refl _)
  case zu => exact Nat.lt_of_lt_of_le (by decide) (Nat.le_refl _)
  case zR =>
  rintro v h tk ⟨ia, ta, rfl, ra⟩ Fa Na
  have ea := way_1 s2 (by omega) ra
  (try dsimp only)
  k_steps
  refine ne_same (by rw [ea]; omega) ?_
  (try dsimp only)
  k_steps
  refine' (lev_call _ _ _ _ _ _ _ (by omega) (by omega)) _ _ _ _ _ _ _ _ _ _ _ _ _ _ _ _ _ ?zB ?zF ?zX ?zN ?zT ?zC ?zd ?zu ?zR
  case zB => k_asm
  case zF => k_asm
  case zX => k_asm
  case zN => k_asm
  case zT => k_asm
  case zC => exact rfl
  case zd => exact Nat.lt_of_lt_of_le (by decide) (Nat.le_refl _)
  case zu => exact Nat.lt_of_lt_of_le (by decide) (Nat.le_refl _)
  case zR =>
  rintro v h tk ⟨ib, tb, rfl, rb⟩ Fb Nb
  (try dsimp only)
  k_steps
  refine' (told_call _ _ _ _ _ _ _ (by omega) (by omega)) _ _ _ _ _ _ _ _ _ _ _ _ _ _ _ _ _ ?zB ?zF ?zX ?zN ?zT ?zC ?zd ?zu ?zR
  case zB => k_asm
  case zF => k_asm
  case zX => k_asm
  case zN => k_asm
  case zT => k_asm
  case zC => exact rfl
  case zd => exact Nat.lt_of_lt_of_le (by decide) (Nat.le_refl _)
  case zu => exact Nat.lt_of_lt_of_le (by decide) (Nat.le_refl _)
  case zR =>
  rintro v h tk ⟨ic, tc, rfl, rc⟩ Fc Nc
  (try dsimp only)
  k_steps
  refine ne_same (way_2 s2 rb rc) ?_
  clear ea ra rb rc
  (try dsimp only)
  k_steps
  refine' (lev_call _ _ _ _ _ _ _ (by omega) (by omega)) _ _ _ _ _ _ _ _ _ _ _ _ _ _ _ _ _ ?zB ?zF ?zX ?zN ?zT ?zC ?zd ?zu ?zR
  case zB => k_asm
  case zF => k_asm
  case zX => k_asm
  case zN => k_asm
  case zT => k_asm
  case zC => exact rfl
  case zd => exact Nat.lt_of_lt_of_le (by decide) (Nat.le_refl _)
  case zu => exact Nat.lt_of_lt_of_le (by decide) (Nat.le_refl _)
  case zR =>
  rintro v h tk ⟨ia, ta, rfl, ra⟩ Fa Na
  have ea := way_1 s3 (by omega) ra
  (try dsimp only)
  k_steps
  refine ne_same (by rw [ea]; omega) ?_
  (try dsimp only)
  k_steps
  refine' (lev_call _ _ _ _ _ _ _ (by omega) (by omega)) _ _ _ _ _ _ _ _ _ _ _ _ _ _ _ _ _ ?zB ?zF ?zX ?zN ?zT ?zC ?zd ?zu ?zR
  case zB => k_asm
  case zF => k_asm
  case zX => k_asm
  case zN => k_asm
  case zT => k_asm
  case zC => exact rfl
  case zd => exact Nat.lt_of_lt_of_le (by decide) (Nat.le_refl _)
  case zu => exact Nat.lt_of_lt_of_le (by decide) (Nat.le_refl _)
  case zR =>
  rintro v h tk ⟨ib, tb, rfl, rb⟩ Fb Nb
  (try dsimp only)
  k_steps
  refine' (told_call _ _ _ _ _ _ _ (by omega) (by omega)) _ _ _ _ _ _ _ _ _ _ _ _ _ _ _ _ _ ?zB ?zF ?zX ?zN ?zT ?zC ?zd ?zu ?zR
  case zB => k_asm
  case zF => k_asm
  case zX => k_asm
  case zN => k_asm
  case zT => k_asm
  case zC => exact rfl
  case zd => exact Nat.lt_of_lt_of_le (by decide) (Nat.le_refl _)
  case zu => exact Nat.lt_of_lt_of_le (by decide) (Nat.le_refl _)
  case zR =>
  rintro v h tk ⟨ic, tc, rfl, rc⟩ Fc Nc
  (try dsimp only)
  k_steps
  refine ne_same (way_2 s3 rb rc) ?_
  clear ea ra rb rc
  (try dsimp only)
  k_steps
  refine rep_a (Nat.lt_of_lt_of_le hpos (by assumption)) (Nat.lt_succ_self _) (by omega) ?_
  intro t20 k20 hk20
  have hlr : (S (rep1 97 65 (dotE true (fixE xs)))).length ≤ 36 := by rw [S_len, rep1_len]; omega
  (try dsimp only)
  k_steps
  walk1
  have hls := PyProof.Txt.length_slice_le (S (rep1 97 65 (dotE true (fixE xs)))) none (some (-1))
  have hls2 : (Txt.slice (S (rep1 97 65 (dotE true (fixE xs)))) none (some (-1))).length ≤ 36 := Nat.le_trans hls hlr
  (try dsimp only)
  k_steps
  obtain ⟨zs, hz, hzl⟩ := last_S (rep1 97 65 (dotE true (fixE xs)))
  rw [rep1_len] at hzl
  rw [hz]
  refine' (far_call _ _ _ _ _ _ _ (by omega) (by omega) (by omega)) _ _ _ _ _ _ _ _ _ _ _ _ _ _ _ _ _ ?zB ?zF ?zX ?zN ?zT ?zC ?zd ?zu ?zR
  case zB => k_asm
  case zF => k_asm
  case zX => k_asm
  case zN => k_asm
  case zT => k_asm
  case zC => exact rfl
  case zd => exact Nat.lt_of_lt_of_le (by decide) (Nat.le_refl _)
  case zu => exact Nat.lt_of_lt_of_le (by decide) (Nat.le_refl _)
  case zR =>
  rintro v h tk rfl Fz Nz
  (try dsimp only)
  k_steps
  first | (k_end; kc_close) | wrow_close
end Mine
end

theorem PySem.Challenge.cw_nq0030_01_holds : PySem.Challenge.rw_nq0030_01.Holds := by
  exact Mine.law_holds
