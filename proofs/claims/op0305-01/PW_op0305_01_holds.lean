import PyProof.Rows.All
import Wide.All
import OpenK.AllK
import Wide.FinOn
import PySem.Challenge.RW_op0305_01
open PySem PySem.W PyProof.Rows PySem.Calls PySem.Spec
set_option Elab.async false
set_option maxRecDepth 100000
set_option maxHeartbeats 8000000
namespace Mine
open_top hd for PySem.Challenge.rw_op0305_01

/- 1. the plain law: the merge, its invariant, the rounds -/
def sldGo (x : Int) (xs : List Int) (f : List Int → List Int × List Int) : List Int → List Int × List Int
  | [] => (x :: xs, [])
  | y :: ys => if x < y then (x :: (f (y :: ys)).1, (f (y :: ys)).2) else if y < x then ((sldGo x xs f ys).1, y :: (sldGo x xs f ys).2) else f ys
def sld : List Int → List Int → List Int × List Int
  | [], ys => ([], ys)
  | x :: xs, ys => sldGo x xs (sld xs) ys
theorem sld_cons (x y : Int) (xs ys : List Int) : sld (x :: xs) (y :: ys) = if x < y then (x :: (sld xs (y :: ys)).1, (sld xs (y :: ys)).2) else if y < x then ((sld (x :: xs) ys).1, y :: (sld (x :: xs) ys).2) else sld xs ys := rfl

def Inc (xs : List Int) : Prop := ∀ i : Nat, ∀ a b, xs[i]? = some a → xs[i + 1]? = some b → a < b

def Inv (xs ys : List Int) (i j : Int) (ms vs : List Int) : Prop :=
  sld xs ys = (ms ++ (sld (xs.drop i.toNat) (ys.drop j.toNat)).1, vs ++ (sld (xs.drop i.toNat) (ys.drop j.toNat)).2)

theorem drop_at {xs : List Int} {i : Int} (h0 : 0 ≤ i) (h1 : i < xs.length) : xs.drop i.toNat = xs.getD i.toNat 0 :: xs.drop (i + 1).toNat := by
  have h2 : i.toNat < xs.length := by omega
  have e : (i + 1).toNat = i.toNat + 1 := by omega
  rw [e, List.drop_eq_getElem_cons h2]
  simp [List.getD, h2]

theorem inv_start (xs ys : List Int) : Inv xs ys 0 0 [] [] := by
  simp [Inv]

theorem inv_lt {xs ys ms vs : List Int} {i j : Int} (h : Inv xs ys i j ms vs) (hi0 : 0 ≤ i) (hi1 : i < xs.length) (hj0 : 0 ≤ j) (hj1 : j < ys.length)
    (hl : xs.getD i.toNat 0 < ys.getD j.toNat 0) : Inv xs ys (i + 1) j (ms ++ [xs.getD i.toNat 0]) vs := by
  unfold Inv at h ⊢
  rw [h, drop_at hi0 hi1, drop_at hj0 hj1, sld_cons, if_pos hl]
  simp

theorem inv_gt {xs ys ms vs : List Int} {i j : Int} (h : Inv xs ys i j ms vs) (hi0 : 0 ≤ i) (hi1 : i < xs.length) (hj0 : 0 ≤ j) (hj1 : j < ys.length)
    (hl : ys.getD j.toNat 0 < xs.getD i.toNat 0) : Inv xs ys i (j + 1) ms (vs ++ [ys.getD j.toNat 0]) := by
  unfold Inv at h ⊢
  rw [h, drop_at hi0 hi1, drop_at hj0 hj1, sld_cons, if_neg (by omega), if_pos hl]
  simp

theorem inv_eq {xs ys ms vs : List Int} {i j : Int} (h : Inv xs ys i j ms vs) (hi0 : 0 ≤ i) (hi1 : i < xs.length) (hj0 : 0 ≤ j) (hj1 : j < ys.length)
    (hl : xs.getD i.toNat 0 = ys.getD j.toNat 0) : Inv xs ys (i + 1) (j + 1) ms vs := by
  unfold Inv at h ⊢
  rw [h, drop_at hi0 hi1, drop_at hj0 hj1, sld_cons, if_neg (by omega), if_neg (by omega)]

theorem sld_nil (xs : List Int) : sld xs [] = (xs, []) := by
  cases xs <;> rfl

theorem inv_done {xs ys ms vs : List Int} {i j : Int} (h : Inv xs ys i j ms vs) (hd : (xs.length : Int) ≤ i ∨ (ys.length : Int) ≤ j) :
    sld xs ys = (ms ++ xs.drop i.toNat, vs ++ ys.drop j.toNat) := by
  unfold Inv at h
  rw [h]
  rcases hd with hd | hd
  · have e : xs.drop i.toNat = [] := List.drop_eq_nil_of_le (by omega)
    rw [e]; rfl
  · have e : ys.drop j.toNat = [] := List.drop_eq_nil_of_le (by omega)
    rw [e, sld_nil]

theorem inc_ne {xs : List Int} (h : Inc xs) {k : Int} (h0 : 0 ≤ k) (h1 : k + 1 < xs.length) : xs.getD (k + 1).toNat 0 ≠ xs.getD k.toNat 0 := by
  have e : (k + 1).toNat = k.toNat + 1 := by omega
  have h2 : k.toNat + 1 < xs.length := by omega
  have h3 : k.toNat < xs.length := by omega
  have := h k.toNat xs[k.toNat] xs[k.toNat + 1] (by simp [h3]) (by simp [h2])
  rw [e]
  simp only [List.getD, h2, h3, List.getElem?_eq_getElem, Option.getD_some]
  omega

theorem last_at {xs : List Int} {i : Int} (h0 : 0 ≤ i) (h1 : i + 1 = xs.length) : xs.getLast? = some (xs.getD i.toNat 0) := by
  have e : xs.length - 1 = i.toNat := by omega
  have h2 : i.toNat < xs.length := by omega
  rw [List.getLast?_eq_getElem?, e]
  simp [List.getD, h2]

theorem last_ne {xs ys : List Int} {i j : Int} (h : xs.getLast? ≠ ys.getLast?) (hi0 : 0 ≤ i) (hi1 : i + 1 = xs.length) (hj0 : 0 ≤ j) (hj1 : j + 1 = ys.length) :
    xs.getD i.toNat 0 ≠ ys.getD j.toNat 0 := by
  rw [last_at hi0 hi1, last_at hj0 hj1] at h
  exact fun e => h (by rw [e])

/-! the rounds: `okAt st n l` is what the law asks of the round n + 1 upon the list l; `run` asks it of all rounds to come -/
def start : List Int := [1, 2, 3, 4, 5, 6, 7, 8, 9, 10, 11, 12, 13, 14, 15, 16, 17, 18, 19]
def incB : List Int → Bool
  | x :: y :: r => decide (x < y) && incB (y :: r)
  | _ => true
def other (st : Int) (n : Nat) (l : List Int) : Int := l.headD 0 + st * ((n : Int) + 1)
def bey (b : Int) : List Int := if b < 20 then [] else [b]
def rt (st : Int) (n : Nat) (l : List Int) : Int :=
  if (2 * l.headD 0 - (2 - st) * ((n : Int) + 1) + 1) * (2 * l.headD 0 - (2 - st) * ((n : Int) + 1) + 1) ≤ (st * st + 4) * ((n : Int) + 1) * ((n : Int) + 1) then 2 * l.headD 0 - (2 - st) * ((n : Int) + 1) + 1 else 2 * l.headD 0 - (2 - st) * ((n : Int) + 1)
def okAt (st : Int) (n : Nat) (l : List Int) : Bool :=
  incB l && decide (l.headD 0 < other st n l) && decide (l.length < 20) && decide (l.getLast? ≠ some (other st n l))
    && decide (sld l [l.headD 0, other st n l] = ((sld l [l.headD 0, other st n l]).1, bey (other st n l)))
    && decide (sld [l.headD 0, other st n l] l = (bey (other st n l), (sld l [l.headD 0, other st n l]).1))
    && decide (l.headD 0 = Int.fdiv ((2 - st) * ((n : Int) + 1) + rt st n l) 2) && decide (0 ≤ rt st n l) && decide (rt st n l * rt st n l ≤ (st * st + 4) * ((n : Int) + 1) * ((n : Int) + 1))
    && decide ((st * st + 4) * ((n : Int) + 1) * ((n : Int) + 1) < (rt st n l + 1) * (rt st n l + 1)) && decide (n < 19)
def run (st : Int) : Nat → Nat → List Int → Bool
  | 0, _, l => l.isEmpty
  | f + 1, n, l => l.isEmpty || (okAt st n l && run st f (n + 1) (sld l [l.headD 0, other st n l]).1)
theorem run1 : run 1 20 0 start = true := by decide +kernel
theorem run2 : run 2 20 0 start = true := by decide +kernel
theorem run3 : run 3 20 0 start = true := by decide +kernel
theorem run4 : run 4 20 0 start = true := by decide +kernel
theorem run5 : run 5 20 0 start = true := by decide +kernel
theorem run6 : run 6 20 0 start = true := by decide +kernel
theorem run7 : run 7 20 0 start = true := by decide +kernel
theorem run_all {st : Int} (h1 : 1 ≤ st) (h2 : st ≤ 7) : run st 20 0 start = true := by
  have : st = 1 ∨ st = 2 ∨ st = 3 ∨ st = 4 ∨ st = 5 ∨ st = 6 ∨ st = 7 := by omega
  rcases this with rfl | rfl | rfl | rfl | rfl | rfl | rfl
  · exact run1
  · exact run2
  · exact run3
  · exact run4
  · exact run5
  · exact run6
  · exact run7
theorem incB_inc : ∀ {l : List Int}, incB l = true → Inc l
  | [], _ => by intro i a b h; simp at h
  | [x], _ => by intro i a b _ h; simp at h
  | x :: y :: r, h => by
    simp only [incB, Bool.and_eq_true, decide_eq_true_eq] at h
    intro i a b ha hb
    cases i with
    | zero => simp at ha hb; omega
    | succ i => exact incB_inc h.2 i a b (by simpa using ha) (by simpa using hb)
theorem inc_two {a b : Int} (h : a < b) : Inc [a, b] := incB_inc (by simp [incB, h])
structure Ok (st : Int) (n : Nat) (l : List Int) : Prop where
  inc : Inc l
  lt : l.headD 0 < other st n l
  len : l.length < 20
  last : l.getLast? ≠ [l.headD 0, other st n l].getLast?
  one : (sld l [l.headD 0, other st n l]).2 = bey (other st n l)
  two : sld [l.headD 0, other st n l] l = (bey (other st n l), (sld l [l.headD 0, other st n l]).1)
  least : ∀ r : Int, 0 ≤ r → r * r ≤ (st * st + 4) * ((n : Int) + 1) * ((n : Int) + 1) → (st * st + 4) * ((n : Int) + 1) * ((n : Int) + 1) < (r + 1) * (r + 1) → l.headD 0 = Int.fdiv ((2 - st) * ((n : Int) + 1) + r) 2
  few : n < 19
theorem sq_lt {a b : Int} (ha : 0 ≤ a) (h : a * a < (b + 1) * (b + 1)) (hb : 0 ≤ b) : a ≤ b := by
  apply Int.not_lt.mp
  intro q
  have h1 : (b + 1) * (b + 1) ≤ a * a := Int.mul_le_mul (by omega) (by omega) (by omega) ha
  omega
theorem sq_one {r R N : Int} (h0 : 0 ≤ r) (h1 : r * r ≤ N) (h2 : N < (r + 1) * (r + 1)) (g0 : 0 ≤ R) (g1 : R * R ≤ N) (g2 : N < (R + 1) * (R + 1)) : r = R := by
  have a := sq_lt h0 (Int.lt_of_le_of_lt h1 g2) g0
  have b := sq_lt g0 (Int.lt_of_le_of_lt g1 h2) h0
  omega
theorem ok_of {st : Int} {n : Nat} {l : List Int} (h : okAt st n l = true) : Ok st n l := by
  simp only [okAt, Bool.and_eq_true, decide_eq_true_eq] at h
  obtain ⟨⟨⟨⟨⟨⟨⟨⟨⟨⟨h1, h2⟩, h3⟩, h4⟩, h5⟩, h6⟩, h7⟩, h8⟩, h9⟩, h10⟩, h11⟩ := h
  refine ⟨incB_inc h1, h2, h3, by simpa using h4, by rw [h5], h6, fun r r0 r1 r2 => ?_, h11⟩
  rw [sq_one r0 r1 r2 h8 h9 h10]
  exact h7
theorem run_step {st : Int} {f n : Nat} {l : List Int} (h : run st f n l = true) (hl : l ≠ []) : ∃ f', f = f' + 1 ∧ Ok st n l ∧ run st f' (n + 1) (sld l [l.headD 0, other st n l]).1 = true := by
  cases f with
  | zero => exact absurd (by simpa [run] using h) hl
  | succ f =>
    have he : l.isEmpty = false := by cases l with
      | nil => exact absurd rfl hl
      | cons => rfl
    simp only [run, he, Bool.false_or, Bool.and_eq_true] at h
    exact ⟨f, rfl, ok_of h.1, h.2⟩
theorem num_lt {st k : Int} (h1 : 1 ≤ st) (h2 : st ≤ 7) (k0 : 0 ≤ k) (k1 : k ≤ 19) : 0 ≤ (st * st + 4) * k * k ∧ (st * st + 4) * k * k < 100000 := by
  have a : k * k ≤ 19 * 19 := Int.mul_le_mul k1 k1 k0 (by omega)
  have b : 0 ≤ k * k := Int.mul_nonneg k0 k0
  rw [Int.mul_assoc]
  have : st = 1 ∨ st = 2 ∨ st = 3 ∨ st = 4 ∨ st = 5 ∨ st = 6 ∨ st = 7 := by omega
  generalize k * k = q at a b
  rcases this with rfl | rfl | rfl | rfl | rfl | rfl | rfl <;> omega
theorem root_lt {r N : Int} (h0 : 0 ≤ r) (h : r * r ≤ N) (hN : N < 100000) : r < 100000 := by
  apply Int.not_le.mp
  intro q
  have h1 : 100000 * 100000 ≤ r * r := Int.mul_le_mul q q (by omega) h0
  omega
theorem num_up {st : Int} {n : Nat} (h1 : 1 ≤ st) : (st * st + 4) * (n : Int) * (n : Int) ≤ (st * st + 4) * ((n : Int) + 1) * ((n : Int) + 1) := by
  have a : 0 ≤ st * st + 4 := by have := Int.mul_nonneg (show 0 ≤ st by omega) (show 0 ≤ st by omega); omega
  have b : (st * st + 4) * (n : Int) ≤ (st * st + 4) * ((n : Int) + 1) := Int.mul_le_mul_of_nonneg_left (by omega) a
  exact Int.mul_le_mul b (by omega) (by omega) (Int.mul_nonneg a (by omega))

/- 2. the contract of sorted_list_difference -/
section
structure Halt (P : Prop) : Prop where
  out : P
structure LS where
  i : Int
  ti : Tok
  j : Int
  tj : Tok
  us : List Value
  nu : Nat
  ms : List Int
  ws : List Value
  nw : Nat
  vs : List Int

section
variable {prog : Program} {w : World} {A : Around} {E : Value → Shared → Prop} {s : Shared} {h₀ : Heap} {L l : Addr} {nw : List (Addr × Obj)} {us : List Value} {n : Nat} {xs : List Int} {k : Int} {u : Tok} {Q : Value → Shared → Prop}
theorem item_in {value slice : PySem.Expr} (N : News h₀ L s.heap nw) (hm : (l, W.listOf us.toArray n) ∈ nw) (hi : IntsAre us xs) (h0 : 0 ≤ k) (h1 : k < xs.length) (h2 : xs.length < 1000)
    (hs : subscripted slice false (.ref l) (.int k u) = operate [.ref l, .int k u] (getItem (.ref l) (.int k u)))
    (h : ∀ t, Q (.int (xs.getD k.toNat 0) t) s) : wpAny (model prog w) A (subscriptTail value slice (.ref l) (.int k u)) Q E s := by
  have hlt : k.toNat < xs.length := by omega
  obtain ⟨t, hx⟩ := hi.get k.toNat xs[k.toNat] (by simp [hlt])
  have hl : s.heap.IsList l us.toArray := ⟨_, (N _ hm).1, rfl, n, rfl⟩
  refine tail_any hl.typeIs slot_list_getitem.lookup (wpAny_getItem_list hl h0 (by omega) (by simpa using hx) ?_) hs
  have e : xs[k.toNat] = xs.getD k.toNat 0 := by simp [List.getD, hlt]
  rw [e]
  exact h t
theorem item_out {value slice : PySem.Expr} (hA : A.handled = none) (N : News h₀ L s.heap nw) (hm : (l, W.listOf us.toArray n) ∈ nw) (hi : IntsAre us xs) (h1 : (xs.length : Int) ≤ k) (h2 : k < 1000)
    (hs : subscripted slice false (.ref l) (.int k u) = operate [.ref l, .int k u] (getItem (.ref l) (.int k u)))
    (hE : ∀ h' tk e, Heap.NewExc s.heap h' e "IndexError" → E (.ref e) { s with heap := h', toks := tk }) : wpAny (model prog w) A (subscriptTail value slice (.ref l) (.int k u)) Q E s := by
  have hl : s.heap.IsList l us.toArray := ⟨_, (N _ hm).1, rfl, n, rfl⟩
  have e : (us.toArray.size : Int) = xs.length := by simp [hi.length]
  exact item_outK hA hl (.inr (by rw [e]; exact h1)) (by omega) (by omega) hE hs
end

section
variable {prog : Program} {w : World} {A : Around} {E : Value → Shared → Prop} {s : Shared} {h₀ : Heap} {L l D b : Addr} {m : Str → Option Value} {nw : List (Addr × Obj)} {us ws : List Value} {n n2 : Nat} {xs : List Int} {k : Int} {u : Tok} {Q : Value → Shared → Prop}
theorem slice_from {value slice : PySem.Expr} (F : Fr h₀ L s.heap m) (N : News h₀ L s.heap nw) (hm : (l, W.listOf us.toArray n) ∈ nw) (hi : IntsAre us xs) (h0 : 0 ≤ k) (h2 : xs.length < 1000)
    (hs : subscripted slice false (.ref l) (.ref s.heap.objs.size) = operate [.ref s.heap.objs.size, .ref l] (getItem (.ref l) (.ref s.heap.objs.size))) (ht : ∀ r, letTemporaryGo value (.ref l) r = pure ())
    (h : ∀ D zs h', Fr h₀ L h' m → News h₀ L h' ((D, W.listOf (List.toArray zs) 0) :: nw) → (∀ p ∈ nw, p.1 < D) → IntsAre zs (xs.drop k.toNat) → zs.length ≤ xs.length → Q (.ref D) { s with heap := h' }) :
    wpAny (model prog w) A (subscriptTail value slice (.ref l) (.ref s.heap.objs.size)) Q E { s with heap := s.heap.push { cls := .type "slice", data := .fields #[.int k u, .none, .none] } } := by
  have hl : s.heap.IsList l us.toArray := ⟨_, (N _ hm).1, rfl, n, rfl⟩
  refine kmk_slice_ints F N hl (.int _ _) .none hi (kmk_from hi h0) rfl (fun D zs h' F' N' l1 hz _ hc => h D zs h' F' N' l1 hz (by rw [hz.length]; exact hc)) hs ht ?_
  rw [List.size_toArray, hi.length, PySem.sizeLine_eq]
  omega
theorem append_in {nx : List (Addr × Obj)} {x : Value} (F : Fr h₀ L s.heap m) (N : News h₀ L s.heap nw) (U : Upd D (W.listOf us.toArray n) (W.listOf (us ++ [x]).toArray (n + 1)) nw nx) (hz : us.length < 1000)
    (h : ∀ h', Fr h₀ L h' m → News h₀ L h' nx → Q .none { s with heap := h' }) : wpAny (model prog w) A (call (.builtin "list.append") [.ref D, x]) Q E s :=
  append_K (its := us.toArray) (n := n) F N (by rw [List.push_toArray]; exact U) h (by rw [List.size_toArray, PySem.sizeLine_eq]; omega)
theorem extend_in {nx : Nat → List (Addr × Obj)} (F : Fr h₀ L s.heap m) (N : News h₀ L s.heap nw) (hb : (b, W.listOf ws.toArray n2) ∈ nw) (U : ∀ k, Upd D (W.listOf us.toArray n) (W.listOf (us ++ ws).toArray k) nw (nx k)) (hz : us.length + ws.length < 1000)
    (h : ∀ h' k, Fr h₀ L h' m → News h₀ L h' (nx k) → Q .none { s with heap := h' }) : wpAny (model prog w) A (call (.builtin "list.extend") [.ref D, .ref b]) Q E s := by
  have hd : ¬(!us.toArray.isEmpty && Builtin.List.listTooLong (us.toArray.size + ws.toArray.size)) = true := by
    have : Builtin.List.listTooLong (us.toArray.size + ws.toArray.size) = false := by
      simp only [List.size_toArray]
      unfold Builtin.List.listTooLong
      simp only [PySem.sizeLine_eq, decide_eq_false_iff_not]
      omega
    rw [this]; simp
  by_cases e : ws = []
  · subst e
    refine kxn_extend (n := n) F N hb rfl (news' := nx n) ?_ hd (by simp only [PySem.sizeLine_eq]; omega) (by simp only [List.size_toArray, PySem.sizeLine_eq]; omega) (h · n)
    have := U n
    rw [List.append_nil] at this
    exact this
  · refine kl_extend F N hb rfl ?_ (by simpa using U (n + 1)) hd (by simp only [PySem.sizeLine_eq]; omega) (by simp only [List.size_toArray, PySem.sizeLine_eq]; omega) (h · (n + 1))
    intro q
    exact e (List.length_eq_zero_iff.mp q)
end
section
variable {M : Model} {A : Around} {E : Value → Shared → Prop} {s : Shared} {h₀ : Heap} {L a e : Addr} {m : Str → Option Value} {name : Str} {scope : Scope} {cd : Value} {X : String} {nw : List (Addr × Obj)} {fl : Value}
theorem held_again {Q : Unit → Shared → Prop} (H : TT.HeldN h₀ L s.heap m e X nw) (k : Q () s) : wpAny M A (noteFrame (.ref e) (envOf name scope L a cd)) Q E s := noted_again H.held fun _ _ => k
theorem held_store {x : Str} {v : Value} {Q : Unit → Shared → Prop} (H : TT.HeldNA h₀ L s.heap m e X nw fl)
    (k : ∀ h', TT.HeldNA h₀ L h' (fun y => if y = x then some v else m y) e X nw fl → Q () { s with heap := h', toks := s.toks + 1 })
    (hk : scope.kind = .function) (hl : (envOf name scope L a cd).kindOf x = some .local) :
    wpAny M A (storeName (envOf name scope L a cd) x v) Q E s :=
  wpAny_storeName_local hl H.held.fr.ns (fun h' hn hs => k h' ⟨H.held.set hn hs, H.made.set hs, fun ob vs tb e1 => H.apart ob vs tb ((hs.2 _ H.held.ne).symm.trans e1)⟩)
    (by show (scope.kind == .class || (scope.kind == .module && L != mainGlobals)) = false; rw [hk]; rfl)
theorem held_pass {α : Type} {what : String} {Q : α → Shared → Prop} (H : TT.HeldNA h₀ L s.heap m e X nw fl)
    (k : ∀ h', TT.HeldN h₀ L h' m e X nw → E (.ref e) { s with heap := h' }) :
    wpAny M A (PySem.passOn what (.ref e) (envOf name scope L a cd)) Q E s := by
  obtain ⟨⟨F, ⟨ob, vs, tb, otb, tvs, he, hcls, hd, h1, htb, htd, h3, htbL, htbe, htb0⟩, hf⟩, N, hap⟩ := H
  have hsz : 3 < tvs.size := (Array.getElem?_eq_some_iff.mp h3).1
  have happ := hap ob vs tb he hd h1
  obtain ⟨oL, esL, epL, hL, hLd, hLk, hLf⟩ := F.ns
  have flight : ∀ (K : Unit → Shared → Prop), (∀ h', TT.HeldN h₀ L h' m e X nw → K () { s with heap := h' }) → wpAny M A (setFlight (.ref e) (envOf name scope L a cd).frame) K E s := by
    intro K hK
    unfold setFlight
    refine wpAny_bind (wpAny_field he hd h1 ?_)
    rw [if_pos (show (Value.ref tb != Value.none) = true from by simp)]
    show wpAny M A (setField (.ref tb) 3 (rawInt L)) K E s
    refine wpAny_setField htb htd hsz ?_
    have he' := (Heap.get?_update_ne s.heap _ _ (Obj.mapFields (·.setIfInBounds 3 (rawInt L))) htbe.symm).trans he
    refine hK _ ⟨⟨⟨⟨oL, esL, epL, (Heap.get?_update_ne _ _ _ _ htbL.symm).trans hL, hLd, hLk, hLf⟩, fun b o hb => (Heap.get?_update_ne _ _ _ _ (fun q => by rw [q, htb0] at hb; cases hb)).trans (F.keep b o hb), F.above⟩,
      ⟨ob, vs, tb, _, _, he', hcls, hd, h1, Heap.get?_update_self _ htb (Obj.isFreed_of_fields (Obj.data_mapFields htd _)), Obj.data_mapFields htd _, by simp [Array.getElem?_setIfInBounds, hsz], htbL, htbe, htb0⟩, hf⟩,
      fun p hp => ⟨(Heap.get?_update_ne _ _ _ _ (happ p hp)).trans (N p hp).1, (N p hp).2⟩, ?_⟩
    intro ob' vs' tb' e1 e2 e3 p hp
    rw [he'] at e1
    obtain rfl := Option.some.inj e1
    exact hap ob vs' tb' he e2 e3 p hp
  unfold PySem.passOn
  refine wpAny_bind (wpAny_field he hd h1 ?_)
  rw [if_neg (show ¬ ((Value.ref tb == Value.none) = true) from by simp)]
  first
    | exact wpAny_bind (wpAny_pure (wpAny_bind (flight _ fun h' H' => wpAny_throw (k h' H'))))
    | exact wpAny_bind (flight _ fun h' H' => wpAny_throw (k h' H'))
end
theorem sld_exit {h₀ : Heap} {L L' t d1 d2 lm lu : Addr} {m m' : Str → Option Value} {oL : Obj} {sl : Array (Option Value)} {s' : Shared} {news : List (Addr × Obj)} {P : Prop} {z1 z2 us ws tt : List Value} {n1 n2 k1 k2 : Nat}
    (C : TI.Caller h₀ L m oL) (F : Fr h₀ L' s'.heap m')
    (N : News h₀ L' s'.heap ((t, ({ cls := .type "tuple", data := .seq tt.toArray } : Obj)) :: (d2, W.listOf z2.toArray n2) :: (d1, W.listOf z1.toArray n1) :: (lu, W.listOf ws.toArray k2) :: (lm, W.listOf us.toArray k1) :: (news ++ [(L, { oL with slots := sl })])))
    (hne : ∀ p ∈ news, p.1 ≠ L)
    (k : Fr h₀ L s'.heap m → News h₀ L s'.heap ((t, ({ cls := .type "tuple", data := .seq tt.toArray } : Obj)) :: (lu, W.listOf ws.toArray k2) :: (lm, W.listOf us.toArray k1) :: news) → P) : TI.LeaveI s' P := by
  have hL : s'.heap.get? L = some { oL with slots := sl } := (N (L, { oL with slots := sl }) (by simp)).1
  have off : ∀ (b : Addr) (c : Value) (x : Array Value) (n : Nat), s'.heap.get? b = some { cls := c, data := .seq x n } → b ≠ L := by
    intro b c x n hb q
    obtain ⟨es, ep, hd⟩ := C.dict
    rw [q, hL] at hb
    have hb' := Option.some.inj hb
    have : ({ oL with slots := sl } : Obj).data = .dict es ep := hd
    rw [hb'] at this
    cases this
  refine TLg.leave_back (new := (t, _) :: (d2, _) :: (d1, _) :: (lu, _) :: (lm, _) :: news) C F N (TLgL.allNe_of fun p hp => ?_) fun F' N' => k F' fun p hp => N' p ?_
  · have hp' := (N p (by simp only [List.mem_cons, List.mem_append] at hp ⊢; rcases hp with h | h | h | h | h | h <;> simp [h])).1
    simp only [List.mem_cons] at hp
    rcases hp with rfl | rfl | rfl | rfl | rfl | hp
    · exact off _ _ _ _ hp'
    · exact off _ _ _ _ hp'
    · exact off _ _ _ _ hp'
    · exact off _ _ _ _ hp'
    · exact off _ _ _ _ hp'
    · exact hne p hp
  · simp only [List.mem_cons] at hp ⊢
    rcases hp with h | h | h | h <;> simp [h]
local macro_rules | `(tactic| walk_at "subscriptTail Name Name ref int") => `(tactic| (k_here; (with_reducible show wpAny _ _ (subscriptTail _ _ (Value.ref _) (Value.int _ _)) _ _ _); (first
  | (with_unfolding_all refine' item_in ?k1 ?k2 ?k3 ?k4 ?k5 ?k6 ?k7 ?_; (case k1 => k_asm); (case k2 => (repeat (first | assumption | exact List.mem_append_left _ (by assumption) | exact List.Mem.head _ | apply List.Mem.tail))); (case k3 => assumption); (case k4 => omega); (case k5 => omega); (case k6 => omega); (case k7 => with_unfolding_all rfl); k_whole; intro _)
  | (with_unfolding_all refine' item_out ?k0 ?k1 ?k2 ?k3 ?k4 ?k5 ?k7 ?_; (case k0 => rfl); (case k1 => k_asm); (case k2 => (repeat (first | assumption | exact List.mem_append_left _ (by assumption) | exact List.Mem.head _ | apply List.Mem.tail))); (case k3 => assumption); (case k4 => omega); (case k5 => omega); (case k7 => with_unfolding_all rfl); k_whole; intro _ _ _ _))))
local macro_rules | `(tactic| walk_at "exec While Compare cons nil") => `(tactic| (k_here; k_dflt (refine whl_start 1 ?_)))
local macro_rules | `(tactic| walk_at "WhlIf") => `(tactic| (refine WhlIf.no (by (refine beq_false_of_ne ?_; assumption)) ?_))
theorem ne_app {news : List (Addr × Obj)} {L l : Addr} {o : Obj} (h : ∀ p ∈ news, p.1 ≠ l) (hL : l ≠ L) : ∀ p ∈ news ++ [(L, o)], p.1 ≠ l := fun p hp => by
  rcases List.mem_append.mp hp with hp | hp
  · exact h p hp
  · rw [List.mem_singleton.mp hp]
    exact hL.symm
local macro_rules | `(tactic| k_all) => `(tactic| exact ne_app (by assumption) (by assumption))
local macro_rules | `(tactic| size_fits) => `(tactic| ((simp only [List.size_toArray, PySem.sizeLine_eq]); omega))
local macro_rules | `(tactic| walk_at "exec While Constant cons nil") => `(tactic| (k_here; refine Halt.out ?_))


section
variable {prog : Program} {w : World} {A : Around} {E : Value → Shared → Prop} {s' : Shared} {h₀ h : Heap} {L L' a ac e : Addr} {m m' : Str → Option Value} {oL : Obj} {cn name : Str} {cs scope : Scope} {ccd cd : Value} {X : String} {news : List (Addr × Obj)} {p1 p2 : Addr × Obj} {Q : Unit → Shared → Prop}
theorem note_new (Fs : TI.Frs [envOf cn cs L ac ccd] [(L, oL)]) (hx : Heap.NewExc h s'.heap e X) (F : Fr h₀ L' h m') (N : News h₀ L' h (p1 :: p2 :: (news ++ [(L, oL)]))) (h1 : p1.1 ≠ L) (h2 : p2.1 ≠ L) (hne : ∀ p ∈ news, p.1 ≠ L)
    (k : ∀ h' sl, TI.Frs [envOf cn cs L ac ccd] [(L, { oL with slots := sl })] → TT.HeldN h₀ L' h' m' e X (p1 :: p2 :: (news ++ [(L, { oL with slots := sl })])) → Q () { s' with heap := h' }) (hk : scope.kind = .function) :
    wpAny (model prog w) ((callerA.deeper (envOf cn cs L ac ccd)).deeper (envOf name scope L' a cd)) (noteFrame (.ref e) (envOf name scope L' a cd)) Q E s' :=
  TLg.noted_new1 (new := p1 :: p2 :: news) rfl Fs hx F N (TLgL.allNe_of fun p hp => by
    rcases List.mem_cons.mp hp with rfl | hp
    · exact h1
    · rcases List.mem_cons.mp hp with rfl | hp
      · exact h2
      · exact hne p hp) (fun h' sl Fs' H => k h' sl Fs' H) hk
end
local macro_rules | `(tactic| walk_at "noteFrame ref") => `(tactic| (k_here; (with_reducible rename Heap.NewExc _ _ _ _ => tiX'); k_dflt (refine note_new (by assumption) tiX' (by assumption) (by assumption) (by assumption) (by assumption) (by assumption) ?_ rfl); clear tiX'; intro h' sl' tiF' tiH'; have tiHH' := TT.HeldNA.held tiH'))

local macro_rules | `(tactic| walk_at "subscriptTail Name Slice ref ref") => `(tactic| (k_here; (with_reducible show wpAny _ _ (subscriptTail _ (PySem.Expr.Slice _ none none _) (Value.ref _) (Value.ref _)) _ _ _); k_dflt (refine' slice_from ?F ?N ?m ?i ?o ?z ?s ?t ?_; (case F => k_asm); (case N => k_asm); (case m => (repeat (first | assumption | exact List.mem_append_left _ (by assumption) | exact List.Mem.head _ | apply List.Mem.tail))); (case i => assumption); (case o => omega); (case z => omega); (case s => with_unfolding_all rfl); (case t => kmk_pure)); intro D' zs' h' F' N' l1 hI' hC'; (try k_lt l1); (try k_sweep)))
local macro_rules | `(tactic| walk_at "call builtin:list.extend") => `(tactic| (k_here; (with_reducible show wpAny _ _ (call (Value.builtin _) [Value.ref _, Value.ref _]) _ _ _); k_dflt (refine' extend_in ?F ?N ?b ?U ?z ?_; (case F => k_asm); (case N => k_asm); (case b => k_mem); (case U => (intro k9; k_upd)); (case z => ((try simp only [List.length_append, List.length_cons, List.length_nil]); omega))); intro h' k' F' N'; (try dsimp only at N'); (try k_sweep)))
local macro_rules | `(tactic| walk_at "call builtin:list.append") => `(tactic| (k_here; (with_reducible show wpAny _ _ (call (Value.builtin _) [Value.ref _, _]) _ _ _); k_dflt (refine' append_in ?F ?N ?U ?z ?_; (case F => k_asm); (case N => k_asm); (case U => k_upd); (case z => omega)); intro h' F' N'; (try k_sweep)))
local macro_rules | `(tactic| walk_at "notedBy") => `(tactic| (refine (show PassesOwn _ _ _ _ from (by first | passes_own | with_unfolding_all passes_own)) _ _ ?_))
local macro_rules | `(tactic| walk_at "And") => `(tactic| (refine ⟨ref_ne_byPass _, ?_⟩))
local macro_rules | `(tactic| walk_at "noteFrame ref") => `(tactic| (k_here; (with_reducible rename TT.HeldNA _ _ _ _ _ _ _ _ => tiH'); k_dflt (refine held_again tiH' ?_)))
local macro_rules | `(tactic| walk_at "storeName") => `(tactic| (k_here; (with_reducible rename TT.HeldNA _ _ _ _ _ _ _ _ => tiH'); k_dflt (refine held_store tiH' ?_ rfl rfl); clear tiH'; intro h' tiH'; have F' := tiH'.held.fr; have N' := tiH'.made; (try k_sweep)))
local macro_rules | `(tactic| walk_at "setFlight ref") => `(tactic| (k_here; (with_reducible rename TT.HeldNA _ _ _ _ _ _ _ _ => tiH'); refine TT.HeldNA.land tiH' ?_; clear tiH'; (try (with_reducible rename HeldAt _ _ _ _ _ _ _ => ttH; clear ttH)); intro h' tiH'; have tiHH' := TT.HeldNA.held tiH'; have F' := tiH'.held.fr; have N' := tiH'.made))
local macro_rules | `(tactic| walk_at "passOn") => `(tactic| (k_here; (with_reducible rename TT.HeldNA _ _ _ _ _ _ _ _ => tiH'); k_dflt (refine held_pass tiH' ?_); clear tiH'; intro h' tiH'))

section
variable {prog : Program} {w : World} {A : Around} {E : Value → Shared → Prop} {Q : Flow → Shared → Prop} {s : Shared} {env : Env} {h₀ : Heap} {L L' lm lu : Addr} {m₀ : Str → Option Value} {oL : Obj} {news : List (Addr × Obj)} {xs ys : List Int} {tk1 tk2 : Tok}
theorem sld_while {test : PySem.Expr} {body : List Stmt} {pos : Pos} (F : Fr h₀ L' s.heap m₀) (N : News h₀ L' s.heap ((lu, W.listOf #[] 0) :: (lm, W.listOf #[] 0) :: (news ++ [(L, oL)])))
    (l1 : ∀ p ∈ news ++ [(L, oL)], p.1 < lm) (l2 : lm < lu ∧ AllLt lu (news ++ [(L, oL)])) (hi : m₀ (Str.ofString "i") = some (.int 0 tk1)) (hj : m₀ (Str.ofString "j") = some (.int 0 tk2)) (hp1 : 0 < xs.length) (hp2 : 0 < ys.length)
    (turn : (∀ p ∈ news, p.1 ≠ lm) → (∀ p ∈ news, p.1 ≠ lu) → lm ≠ L → lu ≠ L → @LT.lt Nat _ lm lu → ∀ (c : LS) (u : Str → Option Value) h tk, IntsAre c.us c.ms ∧ IntsAre c.ws c.vs →
      0 ≤ c.i ∧ c.i < xs.length ∧ 0 ≤ c.j ∧ c.j < ys.length ∧ c.us.length ≤ c.i ∧ c.ws.length ≤ c.j ∧ Inv xs ys c.i c.j c.ms c.vs →
      Fr h₀ L' h (kstB (fun z => if [Str.ofString "e", Str.ofString "a"].contains z then u z else m₀ z) [(Str.ofString "i", .int c.i c.ti), (Str.ofString "j", .int c.j c.tj)]) →
      News h₀ L' h ((lu, W.listOf c.ws.toArray c.nw) :: (lm, W.listOf c.us.toArray c.nu) :: (news ++ [(L, oL)])) →
      wpAny (model prog w) A (isTrue test env (eval test env)) (fun b s₂ =>
        if b = true then wpAny (model prog w) A (execs body env) (KswPost h₀ L' s (fun c : LS => (lu, W.listOf c.ws.toArray c.nw) :: (lm, W.listOf c.us.toArray c.nu) :: (news ++ [(L, oL)]))
          (fun c => [(Str.ofString "i", .int c.i c.ti), (Str.ofString "j", .int c.j c.tj)]) (fun c => IntsAre c.us c.ms ∧ IntsAre c.ws c.vs) [Str.ofString "e", Str.ofString "a"] m₀
          (fun c => 0 ≤ c.i ∧ c.i < xs.length ∧ 0 ≤ c.j ∧ c.j < ys.length ∧ c.us.length ≤ c.i ∧ c.ws.length ≤ c.j ∧ Inv xs ys c.i c.j c.ms c.vs) (fun c => (xs.length - c.i.toNat) + (ys.length - c.j.toNat)) Q c) E s₂ else Q .next s₂) E { s with heap := h, toks := tk })
    (hE : PassesOwn (model prog w) A env E) : wpAny (model prog w) A (exec (.While test body [] pos) env) Q E s := by
  have hnm : ∀ p ∈ news, p.1 ≠ lm := fun p hp => Nat.ne_of_lt (l1 p (List.mem_append_left _ hp))
  have hnu : ∀ p ∈ news, p.1 ≠ lu := fun p hp => Nat.ne_of_lt (ktn_ltOf l2.2 p (List.mem_append_left _ hp))
  have hmL : lm ≠ L := fun q => Nat.ne_of_lt (l1 (L, oL) (List.mem_append_right _ (.head _))) q.symm
  have huL : lu ≠ L := fun q => Nat.ne_of_lt (ktn_ltOf l2.2 (L, oL) (List.mem_append_right _ (.head _))) q.symm
  have hmu : @LT.lt Nat _ lm lu := l2.1
  exact ksw_while (fun c : LS => (lu, W.listOf c.ws.toArray c.nw) :: (lm, W.listOf c.us.toArray c.nu) :: (news ++ [(L, oL)]))
     (fun c => [(Str.ofString "i", .int c.i c.ti), (Str.ofString "j", .int c.j c.tj)])
     (fun c => IntsAre c.us c.ms ∧ IntsAre c.ws c.vs)
     [Str.ofString "e", Str.ofString "a"]
     (fun c => 0 ≤ c.i ∧ c.i < xs.length ∧ 0 ≤ c.j ∧ c.j < ys.length ∧ c.us.length ≤ c.i ∧ c.ws.length ≤ c.j ∧ Inv xs ys c.i c.j c.ms c.vs)
     (fun c => (xs.length - c.i.toNat) + (ys.length - c.j.toNat))
     ⟨0, tk1, 0, tk2, [], 0, [], [], 0, []⟩ F N ⟨.nil, .nil⟩ (List.forall_mem_cons.mpr ⟨hi, List.forall_mem_cons.mpr ⟨hj, fun _ h => nomatch h⟩⟩)
     ⟨Int.le_refl 0, (by show (0 : Int) < _; omega), Int.le_refl 0, (by show (0 : Int) < _; omega), Int.le_refl 0, Int.le_refl 0, inv_start xs ys⟩
     (turn hnm hnu hmL huL hmu) hE
end
theorem sld_call {w : World} {mean : ExcName → Option Value} {mg mb : Str → Option Value} {h₀ : Heap} {L a la lb : Addr} {m : Str → Option Value} {news : List (Addr × Obj)} {s : Shared} {us ws : List Value} {n1 n2 : Nat} {xs ys : List Int}
    {cn : Str} {cs : Scope} {ccd : Value} {Q E : Value → Shared → Prop}
    (X : (hd.heap_39 w.params).In h₀) (T : Top hd.view_39 (looseW hd.view_39 []) mean mg mb h₀) (F : Fr h₀ L s.heap m) (N : News h₀ L s.heap news) (hk : cs.kind = .function)
    (ha : (la, W.listOf us.toArray n1) ∈ news) (hx : IntsAre us xs) (hb : (lb, W.listOf ws.toArray n2) ∈ news) (hy : IntsAre ws ys)
    (hl1 : xs.length < 100) (hl2 : ys.length < 100) (hp1 : 0 < xs.length) (hp2 : 0 < ys.length) (hI1 : Inc xs) (hI2 : Inc ys) (hla : xs.getLast? ≠ ys.getLast?)
    (hret : ∀ h' tk' t lm lu us' ws' k1 k2, Fr h₀ L h' m → News h₀ L h' ((t, ({ cls := .type "tuple", data := .seq #[.ref lm, .ref lu] } : Obj)) :: (lu, W.listOf ws'.toArray k2) :: (lm, W.listOf us'.toArray k1) :: news) →
      IntsAre us' (sld xs ys).1 → IntsAre ws' (sld xs ys).2 → Q (.ref t) { s with heap := h', toks := tk' }) :
    wpAny (model Challenge.rw_op0305_01.row.prog w) (callerA.deeper (envOf cn cs L a ccd)) (call (.ref 21) [.ref la, .ref lb]) Q E s := by
  w_top off
  revert X
  k_fill
  intro X
  refine wpAny_call ?_
  k_dflt (refine TLgL.code_def F X N T (by rfl) (by k_is) (by k_is) (by k_room) (BindsTo.of_eq rfl) (locs rfl) ?_ hk)
  intro oL h₁ C Fs hne F₁ N₁
  clear F N
  dsimp only
  k_fold
  k_steps
  refine Halt.mk ?_
  refine' sld_while (xs := xs) (ys := ys) (by assumption) (by assumption) (by assumption) (by assumption) (by rfl) (by rfl) hp1 hp2 ?kt ?kE
  case kE => first | passes_own | with_unfolding_all passes_own
  case kt =>
    intro hnm hnu hmL huL hmu c u h tk hf hp F N
    obtain ⟨i, ti, j, tj, us1, nu, ms, ws1, nw, vs⟩ := c
    obtain ⟨hf1, hf2⟩ := hf
    obtain ⟨hi0, hi1, hj0, hj1, hui, hwj, hinv⟩ := hp
    dsimp only [kstB] at *
    have c1 : (i + 1 < xs.length ∧ xs.getD (i + 1).toNat 0 ≠ xs.getD i.toNat 0) ∨ i + 1 = xs.length := by
      by_cases hc : i + 1 < xs.length
      · exact .inl ⟨hc, inc_ne hI1 hi0 hc⟩
      · exact .inr (by omega)
    have c2 : (j + 1 < ys.length ∧ ys.getD (j + 1).toNat 0 ≠ ys.getD j.toNat 0) ∨ j + 1 = ys.length := by
      by_cases hc : j + 1 < ys.length
      · exact .inl ⟨hc, inc_ne hI2 hj0 hc⟩
      · exact .inr (by omega)
    rcases Int.lt_trichotomy (xs.getD i.toNat 0) (ys.getD j.toNat 0) with hlt | heq | hgt
    · clear c2
      have hinv' := inv_lt hinv hi0 hi1 hj0 hj1 hlt
      rcases c1 with ⟨c11, c12⟩ | c1
      · k_steps
        refine ksw_end ⟨i + 1, _, j, _, us1 ++ [_], _, ms ++ [_], ws1, nw, vs⟩ (by assumption) (by assumption) (fun p hp => hp) ⟨IntsAre.append hf1 (.cons _ _ .nil), hf2⟩ (List.forall_mem_cons.mpr ⟨rfl, List.forall_mem_cons.mpr ⟨rfl, fun _ h => nomatch h⟩⟩) (by ksw_same) ⟨by dsimp only; omega, by dsimp only; omega, by dsimp only; omega, by dsimp only; omega, by simp; omega, by dsimp only; omega, hinv'⟩ (by dsimp only; omega)
      · k_steps
        have e := inv_done hinv' (.inl (by omega))
        refine sld_exit C (by assumption) (by assumption) hne (fun F N => hret _ _ _ _ _ _ _ _ _ F N ?_ ?_)
        · rw [e]; exact IntsAre.append (IntsAre.append hf1 (.cons _ _ .nil)) (by assumption)
        · rw [e]; exact IntsAre.append hf2 (by assumption)
    · have hinv' := inv_eq hinv hi0 hi1 hj0 hj1 heq
      rcases c1 with ⟨c11, c12⟩ | c1
      · rcases c2 with ⟨c21, c22⟩ | c2
        · k_steps
          refine ksw_end ⟨i + 1, _, j + 1, _, us1, nu, ms, ws1, nw, vs⟩ (by assumption) (by assumption) (fun p hp => hp) ⟨hf1, hf2⟩ (List.forall_mem_cons.mpr ⟨rfl, List.forall_mem_cons.mpr ⟨rfl, fun _ h => nomatch h⟩⟩) (by ksw_same) ⟨by dsimp only; omega, by dsimp only; omega, by dsimp only; omega, by dsimp only; omega, by dsimp only; omega, by dsimp only; omega, hinv'⟩ (by dsimp only; omega)
        · k_steps
          have e := inv_done hinv' (.inr (by omega))
          refine sld_exit C (by assumption) (by assumption) hne (fun F N => hret _ _ _ _ _ _ _ _ _ F N ?_ ?_)
          · rw [e]; exact IntsAre.append hf1 (by assumption)
          · rw [e]; exact IntsAre.append hf2 (by assumption)
      · rcases c2 with ⟨c21, c22⟩ | c2
        · k_steps
          have e := inv_done hinv' (.inl (by omega))
          refine sld_exit C (by assumption) (by assumption) hne (fun F N => hret _ _ _ _ _ _ _ _ _ F N ?_ ?_)
          · rw [e]; exact IntsAre.append hf1 (by assumption)
          · rw [e]; exact IntsAre.append hf2 (by assumption)
        · exact absurd heq (last_ne hla hi0 c1 hj0 c2)
    · clear c1
      have hinv' := inv_gt hinv hi0 hi1 hj0 hj1 hgt
      rcases c2 with ⟨c21, c22⟩ | c2
      · k_steps
        refine ksw_end ⟨i, _, j + 1, _, us1, nu, ms, ws1 ++ [_], _, vs ++ [_]⟩ (by assumption) (by assumption) (fun p hp => hp) ⟨hf1, IntsAre.append hf2 (.cons _ _ .nil)⟩ (List.forall_mem_cons.mpr ⟨rfl, List.forall_mem_cons.mpr ⟨rfl, fun _ h => nomatch h⟩⟩) (by ksw_same) ⟨by dsimp only; omega, by dsimp only; omega, by dsimp only; omega, by dsimp only; omega, by dsimp only; omega, by simp; omega, hinv'⟩ (by dsimp only; omega)
      · k_steps
        have e := inv_done hinv' (.inr (by omega))
        refine sld_exit C (by assumption) (by assumption) hne (fun F N => hret _ _ _ _ _ _ _ _ _ F N ?_ ?_)
        · rw [e]; exact IntsAre.append hf1 (by assumption)
        · rw [e]; exact IntsAre.append (IntsAre.append hf2 (.cons _ _ .nil)) (by assumption)
end

/- 3. the contract of _law_root -/
structure Halt3 (P : Prop) : Prop where
  out : P
theorem sq_two (y : Int) : y ^ Int.toNat 2 = y * y := by
  show y ^ 2 = y * y
  rw [Int.pow_succ, Int.pow_succ, Int.pow_zero, Int.one_mul]
theorem le_sq {y : Int} (h : 1 ≤ y) : y ≤ y * y := by
  have := Int.mul_le_mul_of_nonneg_left h (show 0 ≤ y by omega)
  rw [Int.mul_one] at this
  exact this
section
local macro_rules | `(tactic| walk_at "exec While Compare cons nil") => `(tactic| (k_here; refine Halt3.out ?_))
theorem root_call {w : World} {mean : ExcName → Option Value} {mg mb : Str → Option Value} {h₀ : Heap} {L a : Addr} {m : Str → Option Value} {news : List (Addr × Obj)} {s : Shared} {n r : Int} {t1 t2 : Tok}
    {cn : Str} {cs : Scope} {ccd : Value} {Q E : Value → Shared → Prop}
    (X : (hd.heap_39 w.params).In h₀) (T : Top hd.view_39 (looseW hd.view_39 []) mean mg mb h₀) (F : Fr h₀ L s.heap m) (N : News h₀ L s.heap news) (hk : cs.kind = .function)
    (hr0 : 0 ≤ r) (hr1 : r < 100000) (hn0 : 0 ≤ n) (hn1 : n < 100000)
    (hret : ∀ h' tk' t r', Fr h₀ L h' m → News h₀ L h' news → r ≤ r' → (r' = r ∨ r' * r' ≤ n) → n < (r' + 1) * (r' + 1) → Q (.int r' t) { s with heap := h', toks := tk' }) :
    wpAny (model Challenge.rw_op0305_01.row.prog w) (callerA.deeper (envOf cn cs L a ccd)) (call (.ref 28) [.int n t1, .int r t2]) Q E s := by
  w_top off
  revert X
  k_fill
  intro X
  refine wpAny_call ?_
  k_dflt (refine TLgL.code_def F X N T (by rfl) (by k_is) (by k_is) (by k_room) (BindsTo.of_eq rfl) (locs rfl) ?_ hk)
  intro oL h₁ C Fs hne F₁ N₁
  clear F N
  dsimp only
  k_fold
  k_steps
  refine Halt3.mk ?_
  refine' ksw_while (fun _ : Int × Tok => news ++ [(L, oL)])
     (fun c => [(Str.ofString "root", .int c.1 c.2)])
     (fun c => True)
     []
     (fun c => r ≤ c.1 ∧ c.1 < 100000 ∧ (c.1 = r ∨ c.1 * c.1 ≤ n))
     (fun c => (n - c.1).toNat)
     ⟨r, t2⟩ (by assumption) (by assumption) trivial ?kk ?kp ?kt ?kE
  case kk => exact List.forall_mem_cons.mpr ⟨rfl, fun _ h => nomatch h⟩
  case kp => exact ⟨Int.le_refl _, hr1, .inl rfl⟩
  case kE => first | passes_own | with_unfolding_all passes_own
  case kt =>
    intro c u h tk hf hp F N
    obtain ⟨x, tx⟩ := c
    obtain ⟨hx0, hx1, hx2⟩ := hp
    dsimp only [kstB] at *
    k_steps
    · rename (x + 1) ^ Int.toNat 2 ≤ n => hq
      rw [sq_two] at hq
      have h1 := le_sq (show 1 ≤ x + 1 by omega)
      refine ksw_end ⟨x + 1, _⟩ (by assumption) (by assumption) (fun p hp => hp) trivial (List.forall_mem_cons.mpr ⟨rfl, fun _ h => nomatch h⟩) (by ksw_same) ⟨by dsimp only; omega, by dsimp only; omega, .inr hq⟩ (by dsimp only; omega)
    · rename ¬ (x + 1) ^ Int.toNat 2 ≤ n => hq
      rw [sq_two] at hq
      refine TLg.leave_back (new := news) C F N (TLgL.allNe_of hne) fun F N => hret _ _ _ _ F N hx0 hx2 (by omega)
end

/- 4. the law -/
structure Halt4 (P : Prop) : Prop where
  out : P
structure MarkL : Prop where
structure WS where
  l : Addr
  us : List Value
  nn : Nat
  xs : List Int
  r : Int
  tr : Tok
  k : Int
  tk : Tok
  f : Nat
  n : Nat
theorem root_next {st : Int} {q : Nat} {xs : List Int} {r r' : Int} (ok : Ok st q xs) (h1 : 1 ≤ st) (hr0 : 0 ≤ r) (hr1 : r * r ≤ (st * st + 4) * (q : Int) * (q : Int)) (a : r ≤ r')
    (b : r' = r ∨ r' * r' ≤ (st * st + 4) * ((q : Int) + 1) * ((q : Int) + 1)) (c : (st * st + 4) * ((q : Int) + 1) * ((q : Int) + 1) < (r' + 1) * (r' + 1)) :
    0 ≤ r' ∧ r' * r' ≤ (st * st + 4) * ((q : Int) + 1) * ((q : Int) + 1) ∧ xs.headD 0 = Int.fdiv ((2 - st) * ((q : Int) + 1) + r') 2 := by
  have h0 : 0 ≤ r' := by omega
  have hb : r' * r' ≤ (st * st + 4) * ((q : Int) + 1) * ((q : Int) + 1) := by
    rcases b with rfl | b
    · exact Int.le_trans hr1 (num_up h1)
    · exact b
  exact ⟨h0, hb, ok.least r' h0 hb c⟩
section
variable {prog : Program} {w : World} {A : Around} {E : Value → Shared → Prop} {s : Shared} {h₀ : Heap} {L l : Addr} {nw : List (Addr × Obj)} {us : List Value} {n : Nat} {xs : List Int} {u : Tok} {Q : Value → Shared → Prop}
theorem item_head {value slice : PySem.Expr} (N : News h₀ L s.heap nw) (hm : (l, W.listOf us.toArray n) ∈ nw) (hi : IntsAre us xs) (h1 : xs ≠ [])
    (hs : subscripted slice false (.ref l) (.int 0 u) = operate [.ref l, .int 0 u] (getItem (.ref l) (.int 0 u)))
    (h : ∀ t, Q (.int (xs.headD 0) t) s) : wpAny (model prog w) A (subscriptTail value slice (.ref l) (.int 0 u)) Q E s := by
  have hl : s.heap.IsList l us.toArray := ⟨_, (N _ hm).1, rfl, n, rfl⟩
  cases xs with
  | nil => exact absurd rfl h1
  | cons x r =>
    obtain ⟨t, hx⟩ := hi.get 0 x rfl
    exact tail_any hl.typeIs slot_list_getitem.lookup (wpAny_getItem_list hl (Int.le_refl 0) (by decide) (by simpa using hx) (h t)) hs
end
section
variable {prog : Program} {w : World} {A : Around} {E : Value → Shared → Prop} {s : Shared} {h₀ : Heap} {L p p' a b c d : Addr} {nw : List (Addr × Obj)} {us1 us2 us3 us4 : List Value} {n1 n2 n3 n4 m1 m2 : Nat} {xs ys : List Int} {Q : Value → Shared → Prop}
theorem ne_same (N : News h₀ L s.heap nw) (ha : (a, W.listOf us1.toArray n1) ∈ nw) (ia : IntsAre us1 xs) (hb : (b, W.listOf us2.toArray n2) ∈ nw) (ib : IntsAre us2 xs) (hu : A.units + 64 < cLine) (h : Q (.bool false) s) :
    wpAny (model prog w) A (compareOp .NotEq (.ref a) (.ref b)) Q E s :=
  ne_intsK ⟨_, (N _ ha).1, rfl, n1, rfl⟩ ia ⟨_, (N _ hb).1, rfl, n2, rfl⟩ ib hu (by simpa using h)
theorem pair_shaped (xs ys : List Int) : SeqAt.shaped (.tuple [.list (xs.map PyData.int), .list (ys.map PyData.int)]) = true := by
  simp [SeqAt.shaped, PyData.canLay0, PyData.canLayAll0, PyData.depth, PyData.depthAll, ke_canLayAll0, ke_depthAll]
theorem ne_pair (N : News h₀ L s.heap nw) (hp : (p, ({ cls := .type "tuple", data := .seq #[.ref a, .ref b] m1 } : Obj)) ∈ nw) (hp' : (p', ({ cls := .type "tuple", data := .seq #[.ref c, .ref d] m2 } : Obj)) ∈ nw)
    (ha : (a, W.listOf us1.toArray n1) ∈ nw) (ia : IntsAre us1 xs) (hb : (b, W.listOf us2.toArray n2) ∈ nw) (ib : IntsAre us2 ys) (hc : (c, W.listOf us3.toArray n3) ∈ nw) (ic : IntsAre us3 xs) (hd : (d, W.listOf us4.toArray n4) ∈ nw) (id : IntsAre us4 ys)
    (hu : A.units + 64 < cLine) (h : Q (.bool false) s) : wpAny (model prog w) A (compareOp .NotEq (.ref p) (.ref p')) Q E s := by
  have ra := reads_of_ints (h := s.heap) ⟨_, (N _ ha).1, rfl, n1, rfl⟩ ia
  have rb := reads_of_ints (h := s.heap) ⟨_, (N _ hb).1, rfl, n2, rfl⟩ ib
  have rc := reads_of_ints (h := s.heap) ⟨_, (N _ hc).1, rfl, n3, rfl⟩ ic
  have rd := reads_of_ints (h := s.heap) ⟨_, (N _ hd).1, rfl, n4, rfl⟩ id
  refine ne_dataH (reads_tuple_at (N _ hp).1 rfl rfl (.cons ra (.cons rb .nil))) (reads_tuple_at (N _ hp').1 rfl rfl (.cons rc (.cons rd .nil))) (pair_shaped xs ys) (pair_shaped xs ys) hu ?_
  simp only [PyData.eqv, PyData.eqvAll, ked_eqvAll, decide_true, Bool.and_true, Bool.not_true]
  exact h
end
structure MarkC : Prop where
section
local macro_rules | `(tactic| walk_at "compareOp NotEq ref ref") => `(tactic| (k_here; (with_reducible rename MarkC => mkC); refine Halt4.out ?_))
local macro_rules | `(tactic| walk_at "call ref") => `(tactic| (k_here; refine Halt4.out ?_))
local macro_rules | `(tactic| walk_at "subscriptTail Name Constant ref int") => `(tactic| (k_here; (with_reducible show wpAny _ _ (subscriptTail _ _ (Value.ref _) (Value.int _ _)) _ _ _); (with_unfolding_all refine' item_head ?k1 ?k2 ?k3 ?k4 ?k7 ?_; (case k1 => k_asm); (case k2 => (repeat (first | assumption | exact List.Mem.head _ | apply List.Mem.tail))); (case k3 => assumption); (case k4 => assumption); (case k7 => with_unfolding_all rfl); k_whole; intro _)))
local macro_rules | `(tactic| walk_at "call type:list") => `(tactic| (k_here; (with_reducible rename MarkL => mkL); clear mkL; refine Halt4.out ?_))
local macro_rules | `(tactic| walk_at "exec For Name BinOp cons nil") => `(tactic| (k_here; (rename Fr _ _ _ _ => lF'); (with_unfolding_all refine' For_invVF lF' ?k1 ?k2 ?_; (case k1 => exact rfl); (case k2 => exact rfl); k_whole)))
local macro_rules | `(tactic| walk_at "pyIter ref") => `(tactic| (k_here; refine Halt4.out ?_))
local macro_rules | `(tactic| walk_at "exec While Compare cons nil") => `(tactic| (k_here; refine Halt4.out ?_))
theorem t1 : PySem.Challenge.rw_op0305_01.Holds := hd (by
  w_strict (
    k_go0; (all_goals try k_fold); k_steps
    refine Halt4.mk ?_
    rename Fr _ _ _ _ => F'
    rename News _ _ _ _ => N'
    rename IntsAre _ ([0] ++ _) => hI'
    refine iter_invNL (fun _ _ nx => nx = _) (by rfl) (by exact List.Mem.head _) hI' F' N' rfl ?_ ?_
    · intro i n t m₁ nx h tk own hn ha hoff hin hnx F N
      have mkL : MarkL := ⟨⟩
      k_steps
      refine Halt4.mk ?_
      walk1
      k_made
      k_steps
      refine Halt4.mk ?_
      rename IntsAre _ (List.map _ (rangeInts 1 1 _)) => hI0
      rename Fr _ _ _ _ => F'
      rename News _ _ _ _ => N'
      have hst1 : 1 ≤ 1 + n.fmod 7 := by have := fmod_lo n (show (0:Int) < 7 by decide); omega
      have hst2 : 1 + n.fmod 7 ≤ 7 := by have := fmod_hi n (show (0:Int) < 7 by decide); omega
      generalize 1 + n.fmod 7 = st at F' hst1 hst2
      refine' ksw_while (fun c : WS => (c.l, W.listOf c.us.toArray c.nn) :: (nx ++ own))
        (fun c => [(Str.ofString "left", .ref c.l), (Str.ofString "root", .int c.r c.tr), (Str.ofString "k", .int c.k c.tk)])
        (fun c => IntsAre c.us c.xs)
        [Str.ofString "least", Str.ofString "other", Str.ofString "stood", Str.ofString "beyond"]
        (fun c => c.k = (c.n : Int) ∧ run st c.f c.n c.xs = true ∧ 0 ≤ c.r ∧ c.r * c.r ≤ (st * st + 4) * c.k * c.k)
        (fun c => c.f)
        ⟨_, _, _, start, 0, _, 0, _, 20, 0⟩ F' N' (by exact hI0) (List.forall_mem_cons.mpr ⟨rfl, List.forall_mem_cons.mpr ⟨rfl, List.forall_mem_cons.mpr ⟨rfl, fun _ h => nomatch h⟩⟩⟩) ⟨rfl, run_all hst1 hst2, Int.le_refl 0, by simp⟩ ?kt ?kE
      case kE => first | passes_own | with_unfolding_all passes_own
      case kt =>
        clear F' N' hI0
        intro c u h tk hf hp F N
        obtain ⟨l, us, nn, xs, r, tr, k, tkk, f, q⟩ := c
        obtain ⟨hk, hrun, hr0, hr1⟩ := hp
        dsimp only [kstB] at *
        subst hk
        by_cases hxs : xs = []
        · subst hxs
          k_steps
          exact InvEndN.intro (by assumption) (by assumption) ⟨hin, hnx⟩ ha (fun p hp => .tail _ (.tail _ (List.mem_append_left _ hp))) (fun p hp => .tail _ (.tail _ (List.mem_append_right _ hp)))
        · obtain ⟨f', hf', ok, hrun'⟩ := run_step hrun hxs
          have hq := ok.few
          obtain ⟨hN0, hN1⟩ := num_lt (k := (q : Int) + 1) hst1 hst2 (by omega) (by omega)
          have hrl := root_lt hr0 (Int.le_trans hr1 (num_up hst1)) hN1
          have hlen := ok.len
          have hpos : 0 < xs.length := List.length_pos_iff.mpr hxs
          k_steps
          refine Halt4.mk ?_
          refine root_call (by assumption) (by assumption) (by assumption) (by assumption) rfl hr0 hrl hN0 hN1 ?_
          intro h' tk' t' r' F' N' a' b' c'
          obtain ⟨g0, g1, g2⟩ := root_next ok hst1 hr0 hr1 a' b' c'
          dsimp only
          k_steps
          refine Halt4.mk ?_
          refine sld_call (xs := xs) (ys := [xs.headD 0, xs.headD 0 + st * ((q : Int) + 1)]) (by assumption) (by assumption) (by assumption) (by assumption) rfl (by repeat (first | assumption | exact List.Mem.head _ | apply List.Mem.tail)) hf (.head _) (.cons _ _ (.cons _ _ .nil)) (by omega) (by simp) hpos (by simp) ok.inc (inc_two ok.lt) ok.last ?_
          intro h1' tk1' p1' lm lu us1 ws1 k1 k2 F1' N1' hm1 hu1
          rw [show (sld xs [xs.headD 0, xs.headD 0 + st * ((q : Int) + 1)]).2 = bey (other st q xs) from ok.one] at hu1
          dsimp only
          k_steps
          refine Halt4.mk ?_
          refine sld_call (xs := [xs.headD 0, xs.headD 0 + st * ((q : Int) + 1)]) (ys := xs) (by assumption) (by assumption) (by assumption) (by assumption) rfl (.head _) (.cons _ _ (.cons _ _ .nil)) (by repeat (first | assumption | exact List.Mem.head _ | apply List.Mem.tail)) hf (by simp) (by omega) (by simp) hpos (inc_two ok.lt) ok.inc ok.last.symm ?_
          intro h2' tk2' p2' lm2 lu2 us2 ws2 k3 k4 F2' N2' hm2 hu2
          rw [show sld [xs.headD 0, xs.headD 0 + st * ((q : Int) + 1)] xs = (bey (other st q xs), (sld xs [xs.headD 0, other st q xs]).1) from ok.two] at hm2 hu2
          dsimp only at hm2 hu2
          have hu2' : IntsAre ws2 (sld xs [xs.headD 0, xs.headD 0 + st * ((q : Int) + 1)]).1 := hu2
          clear hu2
          have mkC : MarkC := ⟨⟩
          dsimp only
          k_steps
          refine Halt4.mk ?_
          refine ne_pair (by assumption) (by repeat (first | exact List.Mem.head _ | apply List.Mem.tail)) (List.Mem.head _) (by repeat (first | exact List.Mem.head _ | apply List.Mem.tail)) hm2 (by repeat (first | exact List.Mem.head _ | apply List.Mem.tail)) hu2' (by repeat (first | exact List.Mem.head _ | apply List.Mem.tail)) hu1 (by repeat (first | exact List.Mem.head _ | apply List.Mem.tail)) hm1 (by ke_room) ?_
          dsimp only
          k_steps
          · refine Halt4.mk ?_
            rename _ < (20 : Int) => hb
            rw [show bey (other st q xs) = [] from if_pos hb] at hu1
            refine ne_same (by assumption) (by repeat (first | exact List.Mem.head _ | apply List.Mem.tail)) hu1 (List.Mem.head _) .nil (by ke_room) ?_
            dsimp only
            k_steps
            refine ksw_end ⟨lm, us1, k1, (sld xs [xs.headD 0, other st q xs]).1, r', _, (q : Int) + 1, _, f', q + 1⟩ (by assumption) (by assumption) ?_ hm1 (List.forall_mem_cons.mpr ⟨rfl, List.forall_mem_cons.mpr ⟨rfl, List.forall_mem_cons.mpr ⟨rfl, fun _ h => nomatch h⟩⟩⟩) (by ksw_same) ⟨by simp, hrun', g0, g1⟩ (by dsimp only; omega)
            intro p hp
            rcases List.mem_cons.mp hp with rfl | hp
            · repeat (first | exact List.Mem.head _ | apply List.Mem.tail)
            · repeat (first | exact hp | apply List.Mem.tail)
          · refine Halt4.mk ?_
            rename ¬ _ < (20 : Int) => hb
            rw [show bey (other st q xs) = [other st q xs] from if_neg hb] at hu1
            refine ne_same (by assumption) (by repeat (first | exact List.Mem.head _ | apply List.Mem.tail)) hu1 (List.Mem.head _) (.cons _ _ .nil) (by ke_room) ?_
            dsimp only
            k_steps
            refine ksw_end ⟨lm, us1, k1, (sld xs [xs.headD 0, other st q xs]).1, r', _, (q : Int) + 1, _, f', q + 1⟩ (by assumption) (by assumption) ?_ hm1 (List.forall_mem_cons.mpr ⟨rfl, List.forall_mem_cons.mpr ⟨rfl, List.forall_mem_cons.mpr ⟨rfl, fun _ h => nomatch h⟩⟩⟩) (by ksw_same) ⟨by simp, hrun', g0, g1⟩ (by dsimp only; omega)
            intro p hp
            rcases List.mem_cons.mp hp with rfl | hp
            · repeat (first | exact List.Mem.head _ | apply List.Mem.tail)
            · repeat (first | exact hp | apply List.Mem.tail)
    · intro m₁ nx h tk hin hnx F N
      k_steps))
end
end Mine

theorem PySem.Challenge.cw_op0305_01_holds : PySem.Challenge.rw_op0305_01.Holds :=
  Mine.t1
