import PyProof.Rows.All
import Wide.All
import OpenK.AllK
import Wide.FinOn
import PySem.Challenge.RW_mg0039_01
set_option Elab.async false
set_option maxRecDepth 100000
set_option maxHeartbeats 8000000
namespace Mine
/-- Python's < on two lists of ints -/
def lexI : List Int → List Int → Bool
  | _, [] => false
  | [], _ :: _ => true
  | a :: r, b :: t => if a = b then lexI r t else decide (a < b)
theorem lexI_irrefl : ∀ xs : List Int, lexI xs xs = false
  | [] => rfl
  | a :: r => by simp [lexI, lexI_irrefl r]
theorem lexI_trans : ∀ {xs ys zs : List Int}, lexI xs ys = true → lexI ys zs = true → lexI xs zs = true
  | _, _, [], _, h => by simp [lexI] at h
  | _, [], _ :: _, h, _ => by simp [lexI] at h
  | [], _ :: _, _ :: _, _, _ => rfl
  | a :: r, b :: t, c :: u, h1, h2 => by
    simp only [lexI] at h1 h2 ⊢
    by_cases hab : a = b
    · subst hab
      simp only [if_true] at h1
      by_cases hac : a = c
      · subst hac; simp only [if_true] at h2 ⊢; exact lexI_trans h1 h2
      · simp only [if_neg hac] at h2 ⊢; exact h2
    · simp only [if_neg hab, decide_eq_true_eq] at h1
      by_cases hbc : b = c
      · subst hbc; simp only [if_neg hab, decide_eq_true_eq]; exact h1
      · simp only [if_neg hbc, decide_eq_true_eq] at h2
        rw [if_neg (by omega)]; simp; omega
theorem lexI_total : ∀ (xs ys : List Int), lexI xs ys = false → lexI ys xs = false → xs = ys
  | [], [], _, _ => rfl
  | [], _ :: _, h, _ => by simp [lexI] at h
  | _ :: _, [], _, h => by simp [lexI] at h
  | a :: r, b :: t, h1, h2 => by
    simp only [lexI] at h1 h2
    by_cases hab : a = b
    · subst hab
      simp only [if_true] at h1 h2
      rw [lexI_total r t h1 h2]
    · simp only [if_neg hab, if_neg (Ne.symm hab), decide_eq_false_iff_not] at h1 h2
      omega
theorem lexI_asymm {xs ys : List Int} (h : lexI xs ys = true) : lexI ys xs = false := by
  cases h' : lexI ys xs with
  | false => rfl
  | true => have := lexI_trans h h'; rw [lexI_irrefl] at this; cases this
/-- what lies in the heap: the sum, the place, the row of numbers -/
structure It where
  c : Int
  p : Int
  ns : List Int
def itLt (x y : It) : Bool := if x.c = y.c then (if x.p = y.p then lexI x.ns y.ns else decide (x.p < y.p)) else decide (x.c < y.c)
theorem itLt_irrefl (x : It) : itLt x x = false := by simp [itLt, lexI_irrefl]
theorem itLt_trans {x y z : It} (h1 : itLt x y = true) (h2 : itLt y z = true) : itLt x z = true := by
  obtain ⟨c, p, ns⟩ := x
  obtain ⟨c', p', ns'⟩ := y
  obtain ⟨c'', p'', ns''⟩ := z
  unfold itLt at *
  dsimp only at *
  by_cases a1 : c = c'
  · subst a1
    by_cases a2 : c = c''
    · subst a2
      simp only [if_true] at h1 h2 ⊢
      by_cases b1 : p = p'
      · subst b1
        by_cases b2 : p = p''
        · subst b2; simp only [if_true] at h1 h2 ⊢; exact lexI_trans h1 h2
        · simp only [if_neg b2] at h2 ⊢; exact h2
      · simp only [if_neg b1, decide_eq_true_eq] at h1
        by_cases b2 : p' = p''
        · subst b2; simp only [if_neg b1, decide_eq_true_eq]; exact h1
        · simp only [if_neg b2, decide_eq_true_eq] at h2
          rw [if_neg (by omega)]; simp; omega
    · simp only [if_neg a2] at h2 ⊢; exact h2
  · simp only [if_neg a1, decide_eq_true_eq] at h1
    by_cases a2 : c' = c''
    · subst a2; simp only [if_neg a1, decide_eq_true_eq]; exact h1
    · simp only [if_neg a2, decide_eq_true_eq] at h2
      rw [if_neg (by omega)]; simp; omega
theorem itLt_asymm {x y : It} (h : itLt x y = true) : itLt y x = false := by
  cases h' : itLt y x with
  | false => rfl
  | true => have := itLt_trans h h'; rw [itLt_irrefl] at this; cases this
theorem itLt_total {x y : It} (h1 : itLt x y = false) (h2 : itLt y x = false) : x = y := by
  unfold itLt at *
  obtain ⟨c, p, ns⟩ := x
  obtain ⟨c', p', ns'⟩ := y
  simp only at h1 h2
  by_cases a : c = c'
  · subst a
    simp only [if_true] at h1 h2
    by_cases b : p = p'
    · subst b
      simp only [if_true] at h1 h2
      rw [lexI_total _ _ h1 h2]
    · simp only [if_neg b, if_neg (Ne.symm b), decide_eq_false_iff_not] at h1 h2
      omega
  · simp only [if_neg a, if_neg (Ne.symm a), decide_eq_false_iff_not] at h1 h2
    omega
/-- not less, onwards -/
theorem itGe_trans {x y z : It} (h1 : itLt x y = false) (h2 : itLt y z = false) : itLt x z = false := by
  cases h : itLt x z with
  | false => rfl
  | true =>
    cases h3 : itLt y x with
    | true => have := itLt_trans h3 h; rw [h2] at this; cases this
    | false => have e := itLt_total h1 h3; subst e; rw [h] at h2; cases h2
theorem itLt_of_lt_ge {x y z : It} (h1 : itLt x y = true) (h2 : itLt z y = false) : itLt z x = false := by
  cases h : itLt z x with
  | false => rfl
  | true => have := itLt_trans h h1; rw [h2] at this; cases this
end Mine
namespace Mine
def it0 : It := ⟨0, 0, []⟩
def gk (ks : List It) (i : Nat) : It := ks.getD i it0
theorem gk_set (ks : List It) (i j : Nat) (x : It) (h : i < ks.length) : gk (ks.set i x) j = if i = j then x else gk ks j := by
  unfold gk
  rw [List.getD_eq_getElem?_getD, List.getD_eq_getElem?_getD, List.getElem?_set]
  split
  · simp [h]
  · rfl
def IsHeap (ks : List It) : Prop := ∀ i, 0 < i → i < ks.length → itLt (gk ks i) (gk ks ((i - 1) / 2)) = false
def DownInv (ks : List It) (pos : Nat) : Prop :=
  (∀ i, 0 < i → i < ks.length → i ≠ pos → itLt (gk ks i) (gk ks ((i - 1) / 2)) = false) ∧
  (0 < pos → ∀ j, 0 < j → j < ks.length → (j - 1) / 2 = pos → itLt (gk ks j) (gk ks ((pos - 1) / 2)) = false)
def UpInv (ks : List It) (pos : Nat) : Prop :=
  (∀ i, 0 < i → i < ks.length → i ≠ pos → (i - 1) / 2 ≠ pos → itLt (gk ks i) (gk ks ((i - 1) / 2)) = false) ∧
  (0 < pos → ∀ j, 0 < j → j < ks.length → (j - 1) / 2 = pos → itLt (gk ks j) (gk ks ((pos - 1) / 2)) = false)
theorem down_root {ks : List It} (h : DownInv ks 0) : IsHeap ks := fun i h0 hl => h.1 i h0 hl (by omega)
theorem down_brk {ks : List It} {pos : Nat} (h : DownInv ks pos) (hb : itLt (gk ks pos) (gk ks ((pos - 1) / 2)) = false) : IsHeap ks := fun i h0 hl => by
  by_cases e : i = pos
  · subst e; exact hb
  · exact h.1 i h0 hl e
theorem down_step {ks : List It} {pos : Nat} (h : DownInv ks pos) (hp : 0 < pos) (hl : pos < ks.length) (hlt : itLt (gk ks pos) (gk ks ((pos - 1) / 2)) = true) :
    DownInv ((ks.set pos (gk ks ((pos - 1) / 2))).set ((pos - 1) / 2) (gk ks pos)) ((pos - 1) / 2) := by
  have hpp : (pos - 1) / 2 < pos := by omega
  generalize hq : (pos - 1) / 2 = q at *
  have hql : q < ks.length := by omega
  have G : ∀ j, gk ((ks.set pos (gk ks q)).set q (gk ks pos)) j = if q = j then gk ks pos else if pos = j then gk ks q else gk ks j := fun j => by
    rw [gk_set _ _ _ _ (by simpa using hql), gk_set _ _ _ _ hl]
  refine ⟨fun i h0 hi hne => ?_, fun hq0 j h0 hj hpar => ?_⟩
  · rw [G, G]
    simp only [List.length_set] at hi
    rw [if_neg (Ne.symm hne)]
    by_cases e : pos = i
    · subst e
      rw [if_pos rfl, hq, if_pos rfl]
      exact itLt_asymm hlt
    · rw [if_neg e]
      have hi1 := h.1 i h0 hi (Ne.symm e)
      by_cases e2 : q = (i - 1) / 2
      · rw [if_pos e2]
        rw [← e2] at hi1
        exact itLt_of_lt_ge hlt hi1
      · rw [if_neg e2]
        by_cases e3 : pos = (i - 1) / 2
        · rw [if_pos e3]
          have := h.2 hp i h0 hi e3.symm
          rw [hq] at this
          exact this
        · rw [if_neg e3]; exact hi1
  · simp only [List.length_set] at hj
    have hqq : itLt (gk ks q) (gk ks ((q - 1) / 2)) = false := h.1 q hq0 hql (by omega)
    rw [G, G, if_neg (show ¬ q = j by omega), if_neg (show ¬ q = (q - 1) / 2 by omega), if_neg (show ¬ pos = (q - 1) / 2 by omega)]
    by_cases e : pos = j
    · rw [if_pos e]; exact hqq
    · rw [if_neg e]
      have h1 := h.1 j h0 hj (Ne.symm e)
      rw [hpar] at h1
      exact itGe_trans h1 hqq
theorem up_done {ks : List It} {pos : Nat} (h : UpInv ks pos) (hl : ks.length ≤ 2 * pos + 1) : DownInv ks pos :=
  ⟨fun i h0 hi hne => h.1 i h0 hi hne (by omega), h.2⟩
theorem up_step {ks : List It} {pos c : Nat} (h : UpInv ks pos) (hc : c = 2 * pos + 1 ∨ c = 2 * pos + 2) (hl : c < ks.length)
    (hsib : ∀ d, d = 2 * pos + 1 ∨ d = 2 * pos + 2 → d < ks.length → itLt (gk ks d) (gk ks c) = false) :
    UpInv ((ks.set pos (gk ks c)).set c (gk ks pos)) c := by
  have hpl : pos < ks.length := by omega
  have hpar : (c - 1) / 2 = pos := by omega
  have G : ∀ j, gk ((ks.set pos (gk ks c)).set c (gk ks pos)) j = if c = j then gk ks pos else if pos = j then gk ks c else gk ks j := fun j => by
    rw [gk_set _ _ _ _ (by simpa using hl), gk_set _ _ _ _ hpl]
  refine ⟨fun i h0 hi hne hp => ?_, fun hq0 j h0 hj hp => ?_⟩
  · simp only [List.length_set] at hi
    rw [G, G, if_neg (Ne.symm hne), if_neg (Ne.symm hp)]
    by_cases e : pos = i
    · subst e
      rw [if_pos rfl, if_neg (show ¬ pos = (pos - 1) / 2 by omega)]
      exact h.2 h0 c (by omega) hl hpar
    · rw [if_neg e]
      by_cases e2 : pos = (i - 1) / 2
      · rw [if_pos e2]; exact hsib i (by omega) hi
      · rw [if_neg e2]; exact h.1 i h0 hi (Ne.symm e) (Ne.symm e2)
  · simp only [List.length_set] at hj
    rw [G, G, if_neg (show ¬ c = j by omega), if_neg (show ¬ pos = j by omega), if_neg (show ¬ c = (c - 1) / 2 by omega), hpar, if_pos rfl]
    have := h.1 j h0 hj (by omega) (by omega)
    rw [hp] at this
    exact this
/-- a heap's last goes off, and what was last stands at the root -/
theorem up_start {ks : List It} {x : It} {n : Nat} (h : IsHeap ks) (hn : ks.length = n + 1) : UpInv ((ks.take n).set 0 x) 0 := by
  refine ⟨fun i h0 hi hne hp => ?_, fun h0 => absurd h0 (by omega)⟩
  simp only [List.length_set, List.length_take] at hi
  have T : ∀ j, j < n → gk (ks.take n) j = gk ks j := fun j hj => by
    unfold gk; rw [List.getD_eq_getElem?_getD, List.getD_eq_getElem?_getD, List.getElem?_take, if_pos hj]
  rw [gk_set _ _ _ _ (by simp; omega), gk_set _ _ _ _ (by simp; omega), if_neg (Ne.symm hne), if_neg (Ne.symm hp), T _ (by omega), T _ (by omega)]
  exact h i h0 (by omega)
theorem down_start {ks : List It} {x : It} (h : IsHeap ks) : DownInv (ks ++ [x]) ks.length := by
  have T : ∀ j, j < ks.length → gk (ks ++ [x]) j = gk ks j := fun j hj => by
    unfold gk; rw [List.getD_eq_getElem?_getD, List.getD_eq_getElem?_getD, List.getElem?_append_left hj]
  refine ⟨fun i h0 hi hne => ?_, fun h0 j hj0 hj hp => absurd hp (by simp at hj; omega)⟩
  simp only [List.length_append, List.length_cons, List.length_nil] at hi
  rw [T _ (by omega), T _ (by omega)]
  exact h i h0 (by omega)
/-- the root is least -/
theorem heap_least {ks : List It} (h : IsHeap ks) : ∀ n i, i ≤ n → i < ks.length → itLt (gk ks i) (gk ks 0) = false
  | 0, i, hi, _ => by rw [show i = 0 by omega]; exact itLt_irrefl _
  | n + 1, i, hi, hl => by
    by_cases e : i = 0
    · subst e; exact itLt_irrefl _
    · exact itGe_trans (h i (by omega) hl) (heap_least h n ((i - 1) / 2) (by omega) (by omega))
theorem isHeap_nil : IsHeap [] := fun i _ hl => absurd hl (by simp)
theorem isHeap_one (x : It) : IsHeap [x] := fun i h0 hl => by simp at hl; omega
end Mine
namespace Mine
/-- the number of the piece from p on of length k, if it is one -/
structure GoodT (T : Nat → Nat → Option Int) (n : Nat) : Prop where
  pos : ∀ p k x, T p k = some x → 1 ≤ k ∧ k ≤ 3 ∧ p + k ≤ n ∧ 0 < x
  one : ∀ p, p < n → ∃ x, T p 1 = some x
inductive Way (T : Nat → Nat → Option Int) : Nat → List Int → Prop
  | nil : Way T 0 []
  | snoc {p k : Nat} {ns : List Int} {x : Int} : Way T p ns → T p k = some x → Way T (p + k) (ns ++ [x])
inductive Cut (T : Nat → Nat → Option Int) (n : Nat) : Nat → List Int → Prop
  | nil : Cut T n n []
  | cons {p k : Nat} {ns : List Int} {x : Int} : T p k = some x → Cut T n (p + k) ns → Cut T n p (x :: ns)
section
variable {T : Nat → Nat → Option Int} {n : Nat}
theorem way_cut {p : Nat} {ns : List Int} (h : Way T p ns) : ∀ {ms : List Int}, Cut T n p ms → Cut T n 0 (ns ++ ms) := by
  induction h with
  | nil => intro ms h; simpa using h
  | snoc _ hx ih => intro ms h; rw [List.append_assoc]; exact ih (.cons hx h)
theorem cut_way {p : Nat} {ms : List Int} (h : Cut T n p ms) : ∀ {ns : List Int}, Way T p ns → Way T n (ns ++ ms) := by
  induction h with
  | nil => intro ns h; simpa using h
  | @cons p k ms x hx _ ih =>
    intro ns h
    have := ih (.snoc h hx)
    rwa [List.append_assoc] at this
theorem way_iff {ns : List Int} : Way T n ns ↔ Cut T n 0 ns :=
  ⟨fun h => by have := way_cut h Cut.nil; simpa using this, fun h => by have := cut_way h Way.nil; simpa using this⟩
theorem way_pos (g : GoodT T n) {p : Nat} {ns : List Int} (h : Way T p ns) : ∀ y ∈ ns, 0 < y := by
  induction h with
  | nil => intro y hy; cases hy
  | snoc _ hx ih =>
    intro y hy
    rcases List.mem_append.mp hy with h | h
    · exact ih y h
    · rw [List.mem_singleton.mp h]; exact (g.pos _ _ _ hx).2.2.2
theorem way_le (g : GoodT T n) {p : Nat} {ns : List Int} (h : Way T p ns) : p ≤ n := by
  cases h with
  | nil => omega
  | snoc _ hx => exact (g.pos _ _ _ hx).2.2.1
theorem cut_some (g : GoodT T n) : ∀ j p, p + j = n → ∃ ns, Cut T n p ns
  | 0, p, h => ⟨[], by have : p = n := by omega
                       subst this; exact .nil⟩
  | j + 1, p, h => by
    obtain ⟨x, hx⟩ := g.one p (by omega)
    obtain ⟨ns, hn⟩ := cut_some g j (p + 1) (by omega)
    exact ⟨x :: ns, .cons hx hn⟩
theorem way_some (g : GoodT T n) : ∃ ns, Way T n ns := by
  obtain ⟨ns, h⟩ := cut_some g n 0 (by omega)
  exact ⟨ns, way_iff.mpr h⟩
end
def itOf (p : Nat) (ns : List Int) : It := ⟨ns.sum, p, ns⟩
theorem sum_nonneg : ∀ {ns : List Int}, (∀ y ∈ ns, 0 < y) → 0 ≤ ns.sum
  | [], _ => by simp
  | a :: r, h => by
    have := sum_nonneg (ns := r) (fun y hy => h y (.tail _ hy))
    have := h a (.head _)
    rw [List.sum_cons]; omega
theorem lex_snoc : ∀ {ns ms : List Int} {x : Int}, (∀ y ∈ ns, 0 < y) → (∀ y ∈ ms, 0 < y) → ns.sum = ms.sum → lexI ns ms = false → lexI (ns ++ [x]) (ms ++ [x]) = false
  | [], [], x, _, _, _, _ => lexI_irrefl _
  | [], b :: t, x, _, hm, hs, _ => by
    have := sum_nonneg (ns := t) (fun y hy => hm y (.tail _ hy))
    have := hm b (.head _)
    rw [List.sum_cons] at hs; simp at hs; omega
  | a :: r, [], x, hn, _, hs, _ => by
    have := sum_nonneg (ns := r) (fun y hy => hn y (.tail _ hy))
    have := hn a (.head _)
    rw [List.sum_cons] at hs; simp at hs; omega
  | a :: r, b :: t, x, hn, hm, hs, h => by
    show lexI (a :: (r ++ [x])) (b :: (t ++ [x])) = false
    simp only [lexI] at h ⊢
    by_cases e : a = b
    · rw [if_pos e] at h ⊢
      exact lex_snoc (fun y hy => hn y (.tail _ hy)) (fun y hy => hm y (.tail _ hy)) (by rw [List.sum_cons, List.sum_cons] at hs; omega) h
    · rw [if_neg e] at h ⊢; exact h
theorem itOf_snoc {p q : Nat} {ns ms : List Int} {x : Int} (hn : ∀ y ∈ ns, 0 < y) (hm : ∀ y ∈ ms, 0 < y) (h : itLt (itOf p ns) (itOf p ms) = false) : itLt (itOf q (ns ++ [x])) (itOf q (ms ++ [x])) = false := by
  unfold itOf itLt at *
  dsimp only at *
  simp only [List.sum_append, List.sum_cons, List.sum_nil, if_true] at *
  by_cases e : ns.sum = ms.sum
  · rw [if_pos e] at h
    rw [if_pos (by omega)]
    exact lex_snoc hn hm e h
  · rw [if_neg e] at h
    rw [if_neg (by omega)]
    simp at h ⊢
    omega
theorem itOf_cons {p q : Nat} {ns ms : List Int} {x : Int} (h : itLt (itOf p ns) (itOf p ms) = false) : itLt (itOf q (x :: ns)) (itOf q (x :: ms)) = false := by
  unfold itOf itLt at *
  dsimp only at *
  simp only [List.sum_cons, if_true, lexI] at *
  by_cases e : ns.sum = ms.sum
  · rw [if_pos e] at h
    rw [if_pos (by omega)]
    exact h
  · rw [if_neg e] at h
    rw [if_neg (by omega)]
    simp at h ⊢
    omega
theorem itOf_at {p q : Nat} {ns ms : List Int} (h : itLt (itOf p ns) (itOf p ms) = false) : itLt (itOf q ns) (itOf q ms) = false := by
  unfold itOf itLt at *
  dsimp only at *
  simp only [if_true] at *
  exact h
def Best (T : Nat → Nat → Option Int) (p : Nat) (ns : List Int) : Prop := Way T p ns ∧ ∀ ms, Way T p ms → itLt (itOf p ms) (itOf p ns) = false
def BestC (T : Nat → Nat → Option Int) (n p : Nat) (ns : List Int) : Prop := Cut T n p ns ∧ ∀ ms, Cut T n p ms → itLt (itOf 0 ms) (itOf 0 ns) = false
section
variable {T : Nat → Nat → Option Int} {n : Nat}
theorem best_eq {ns ms : List Int} (h : Best T n ns) (h' : BestC T n 0 ms) : ns = ms := by
  have a := itOf_at (q := 0) (h.2 ms (way_iff.mpr h'.1))
  have b := h'.2 ns (way_iff.mp h.1)
  have := itLt_total a b
  have e := congrArg It.ns this
  exact e.symm
theorem bestC_nil (g : GoodT T n) : BestC T n n [] := by
  refine ⟨.nil, fun ms h => ?_⟩
  cases h with
  | nil => exact itLt_irrefl _
  | cons hx _ => have := g.pos _ _ _ hx; omega
/-- the least of what begins with a piece and goes on by the best from there on -/
theorem bestC_step (g : GoodT T n) {p : Nat} {bs : Nat → List Int} {w : List Int} (hp : p < n) (hb : ∀ q, p < q → q ≤ n → BestC T n q (bs q))
    (hw : ∃ k x, T p k = some x ∧ w = x :: bs (p + k)) (hm : ∀ k x, T p k = some x → itLt (itOf 0 (x :: bs (p + k))) (itOf 0 w) = false) : BestC T n p w := by
  obtain ⟨k, x, hx, rfl⟩ := hw
  have hk := g.pos _ _ _ hx
  refine ⟨.cons hx (hb _ (by omega) (by omega)).1, fun ms h => ?_⟩
  cases h with
  | nil => omega
  | @cons _ j r y hy hr =>
    have hj := g.pos _ _ _ hy
    exact itGe_trans (itOf_cons ((hb _ (by omega) (by omega)).2 r hr)) (hm j y hy)
/-- what holds between the turns -/
structure DInv (T : Nat → Nat → Option Int) (n : Nat) (H : List It) (G : List Nat) (before : Int) : Prop where
  items : ∀ y ∈ H, ∃ p ns, y = itOf p ns ∧ Way T p ns
  start : itOf 0 [] ∈ H ∨ 0 ∈ G
  gone : ∀ q ∈ G, ∃ ms, Best T q ms ∧ ∀ k x, T q k = some x → itOf (q + k) (ms ++ [x]) ∈ H ∨ q + k ∈ G
  gn : ∀ q ∈ G, q < n
  bef : ∀ y ∈ H, before ≤ y.c
theorem dinv_start : DInv T n [itOf 0 []] [] 0 where
  items := fun y hy => ⟨0, [], List.mem_singleton.mp hy, .nil⟩
  start := .inl (.head _)
  gone := fun q hq => nomatch hq
  gn := fun q hq => nomatch hq
  bef := fun y hy => by rw [List.mem_singleton.mp hy]; exact Int.le_refl _
theorem itLt_c {x y : It} (h : itLt x y = false) : y.c ≤ x.c := by
  unfold itLt at h
  by_cases e : x.c = y.c
  · omega
  · rw [if_neg e] at h; simp at h; exact h
theorem dinv_reach (g : GoodT T n) {H : List It} {G : List Nat} {b : Int} (I : DInv T n H G b) {p : Nat} {ns : List Int} (h : Way T p ns) :
    p ∈ G ∨ ∃ y ∈ H, (y.p = p ∧ itLt (itOf p ns) y = false) ∨ y.c < ns.sum := by
  induction h with
  | nil =>
    rcases I.start with h | h
    · exact .inr ⟨_, h, .inl ⟨rfl, itLt_irrefl _⟩⟩
    · exact .inl h
  | @snoc p k ns x hw hx ih =>
    have hk := g.pos _ _ _ hx
    rcases ih with h | ⟨y, hy, h⟩
    · obtain ⟨ms, hb, he⟩ := I.gone p h
      rcases he k x hx with e | e
      · exact .inr ⟨_, e, .inl ⟨rfl, itOf_snoc (way_pos g hw) (way_pos g hb.1) (hb.2 ns hw)⟩⟩
      · exact .inl e
    · refine .inr ⟨y, hy, .inr ?_⟩
      rw [List.sum_append]
      simp only [List.sum_cons, List.sum_nil]
      rcases h with h | h
      · have := itLt_c h.2
        simp only [itOf] at this
        omega
      · omega
theorem dinv_some (g : GoodT T n) {H : List It} {G : List Nat} {b : Int} (I : DInv T n H G b) : H ≠ [] := by
  obtain ⟨ns, h⟩ := way_some g
  rcases dinv_reach g I h with h | ⟨y, hy, _⟩
  · have := I.gn _ h; omega
  · intro e; rw [e] at hy; cases hy
theorem dinv_best (g : GoodT T n) {H : List It} {G : List Nat} {b : Int} (I : DInv T n H G b) {p : Nat} {ns : List Int} (hw : Way T p ns) (hl : ∀ y ∈ H, itLt y (itOf p ns) = false) (hp : p ∉ G) : Best T p ns := by
  refine ⟨hw, fun ms hm => ?_⟩
  rcases dinv_reach g I hm with h | ⟨y, hy, h⟩
  · exact absurd h hp
  · rcases h with h | h
    · exact itGe_trans h.2 (hl y hy)
    · have := itLt_c (hl y hy)
      simp only [itOf] at this ⊢
      unfold itLt
      dsimp only
      rw [if_neg (by omega)]
      simp; omega
theorem dinv_seen {H H' : List It} {G : List Nat} {b : Int} (I : DInv T n H G b) {p : Nat} {ns : List Int} (hl : ∀ y ∈ H, itLt y (itOf p ns) = false) (hm : ∀ y, y ∈ H ↔ y = itOf p ns ∨ y ∈ H') (hp : p ∈ G) : DInv T n H' G ns.sum where
  items := fun y hy => I.items y ((hm y).mpr (.inr hy))
  start := by
    rcases I.start with h | h
    · rcases (hm _).mp h with e | e
      · have := congrArg It.p e; simp only [itOf] at this
        have : p = 0 := by omega
        exact .inr (this ▸ hp)
      · exact .inl e
    · exact .inr h
  gone := fun q hq => by
    obtain ⟨ms, hb, he⟩ := I.gone q hq
    refine ⟨ms, hb, fun k x hx => ?_⟩
    rcases he k x hx with h | h
    · rcases (hm _).mp h with e | e
      · have := congrArg It.p e; simp only [itOf] at this
        have : q + k = p := by omega
        exact .inr (this ▸ hp)
      · exact .inl e
    · exact .inr h
  gn := I.gn
  bef := fun y hy => itLt_c (hl y ((hm y).mpr (.inr hy)))
theorem dinv_new (g : GoodT T n) {H H' H'' : List It} {G : List Nat} {b : Int} (I : DInv T n H G b) {p : Nat} {ns : List Int} (hw : Way T p ns) (hl : ∀ y ∈ H, itLt y (itOf p ns) = false) (hm : ∀ y, y ∈ H ↔ y = itOf p ns ∨ y ∈ H') (hp : p ∉ G) (hpn : p < n)
    (he : ∀ y, y ∈ H'' ↔ y ∈ H' ∨ ∃ k x, T p k = some x ∧ y = itOf (p + k) (ns ++ [x])) : DInv T n H'' (G ++ [p]) ns.sum where
  items := fun y hy => by
    rcases (he y).mp hy with h | ⟨k, x, hx, e⟩
    · exact I.items y ((hm y).mpr (.inr h))
    · exact ⟨_, _, e, .snoc hw hx⟩
  start := by
    rcases I.start with h | h
    · rcases (hm _).mp h with e | e
      · have := congrArg It.p e; simp only [itOf] at this
        have : p = 0 := by omega
        exact .inr (by simp [this])
      · exact .inl ((he _).mpr (.inl e))
    · exact .inr (by simp [h])
  gone := fun q hq => by
    rcases List.mem_append.mp hq with hq | hq
    · obtain ⟨ms, hb, hx'⟩ := I.gone q hq
      refine ⟨ms, hb, fun k x hx => ?_⟩
      rcases hx' k x hx with h | h
      · rcases (hm _).mp h with e | e
        · have := congrArg It.p e; simp only [itOf] at this
          have : q + k = p := by omega
          exact .inr (by simp [this])
        · exact .inl ((he _).mpr (.inl e))
      · exact .inr (by simp [h])
    · rw [List.mem_singleton.mp hq]
      exact ⟨ns, dinv_best g I hw hl hp, fun k x hx => .inl ((he _).mpr (.inr ⟨k, x, hx, rfl⟩))⟩
  gn := fun q hq => by
    rcases List.mem_append.mp hq with hq | hq
    · exact I.gn q hq
    · rw [List.mem_singleton.mp hq]; exact hpn
  bef := fun y hy => by
    rcases (he y).mp hy with h | ⟨k, x, hx, e⟩
    · exact itLt_c (hl y ((hm y).mpr (.inr h)))
    · have := (g.pos _ _ _ hx).2.2.2
      rw [e]
      simp only [itOf, List.sum_append, List.sum_cons, List.sum_nil]
      omega
end
/-- how many ends are not gone yet -/
def left (n : Nat) (G : List Nat) : Nat := (List.range n).countP fun q => !G.contains q
theorem countP_less {P P' : Nat → Bool} {p : Nat} (h : ∀ q, P' q = true → P q = true) (hp : P p = true) (hp' : P' p = false) : ∀ {l : List Nat}, p ∈ l → l.countP P' < l.countP P
  | a :: r, hm => by
    have hle : r.countP P' ≤ r.countP P := List.countP_mono_left fun x _ => h x
    rw [List.countP_cons, List.countP_cons]
    rcases List.mem_cons.mp hm with e | e
    · subst e
      rw [hp, hp']
      simp; omega
    · have := countP_less h hp hp' e
      cases h1 : P' a with
      | true => rw [h a h1]; simp; omega
      | false => simp; split <;> omega
theorem left_less {n p : Nat} {G : List Nat} (hp : p ∉ G) (hn : p < n) : left n (G ++ [p]) < left n G := by
  refine countP_less (p := p) (fun q h => ?_) ?_ ?_ (List.mem_range.mpr hn)
  · simp at h ⊢; exact h.1
  · simpa using hp
  · simp
theorem left_le (n : Nat) (G : List Nat) : left n G ≤ n := by
  have := List.countP_le_length (p := fun q => !G.contains q) (l := List.range n)
  simpa [left] using this
end Mine
open PySem PySem.W PyProof.Rows
namespace Mine
set_option maxHeartbeats 8000000 in
open_top hd for PySem.Challenge.rw_mg0039_01
end Mine
section
namespace Mine
open PySem.SeqAt PySem.MeetsSeq PySem.MeetsSeq2 PySem.MeetsSeq3
open PySem.AutoSeq1 (wpAny_loadPart')
/-- the lexicographic test: k pairs from place i on; e: equal there, l: less there; m, n: the sizes -/
def lexAt (e l : Nat → Bool) (m n : Nat) : Nat → Nat → Bool
  | 0, _ => decide (m < n)
  | k + 1, i => if e i then lexAt e l m n k (i + 1) else l i
def RcLtAt (A : Around) (s : Shared) (y x : Value) (b : Bool) : Prop :=
  ∀ (prog : Program) (w : World) (E : Value → Shared → Prop) (Q : Value → Shared → Prop), Q (.bool b) s → wpAny (model prog w) A (richCompare .Lt y x) Q E s
theorem lt_loopAt (l b : Addr) (items items2 : Array Value) (n n2 : Nat) (dd dd2 : Option Addr) (sl sl2 : Array (Option Value)) (e lt : Nat → Bool) (k : Nat) :
    ∀ i : Nat, min items.size items2.size - i = k → Meets (Builtin.«list.__eq__.loop» ⟨[.ref l, .ref b, rawInt i, rawInt 0], []⟩)
      (fun A R s => s.heap.get? l = some { cls := .type "list", dict := dd, data := .seq items n, slots := sl } ∧ s.heap.get? b = some { cls := .type "list", dict := dd2, data := .seq items2 n2, slots := sl2 } ∧
        (∀ j (h1 : j < items.size) (h2 : j < items2.size), EqAt A.in1 s items[j] items2[j] (e j)) ∧
        (∀ j (h1 : j < items.size) (h2 : j < items2.size), e j = false → RcLtAt A.in1 s items[j] items2[j] (lt j)) ∧
        R (.ok (.ret (.bool (lexAt e lt items.size items2.size k i)))) s) := by
  induction k with
  | zero =>
    intro i hk prog w A R s h
    obtain ⟨hp, g, d, tk, os⟩ := s; obtain ⟨hl, hb, he, hlt, h⟩ := h
    wp_walk using wpAny_loadPart' hl, wpAny_loadPart' hb
    have hz : items[((i : Nat) : Int).toNat]? = none ∨ items2[((i : Nat) : Int).toNat]? = none := by
      rcases Nat.le_or_ge items.size items2.size with hh | hh
      · left; simp; omega
      · right; simp; omega
    split
    · rename_i x y hxy
      exfalso
      simp only [Prod.mk.injEq] at hxy
      rcases hz with hz | hz
      · rw [hz] at hxy; exact absurd hxy.1 (by simp)
      · rw [hz] at hxy; exact absurd hxy.2 (by simp)
    · wp_walk using wpAny_loadPart' hl, wpAny_loadPart' hb
      exact h
  | succ k ih =>
    intro i hk prog w A R s h
    obtain ⟨hp, g, d, tk, os⟩ := s; obtain ⟨hl, hb, he, hlt, h⟩ := h
    wp_walk using wpAny_loadPart' hl, wpAny_loadPart' hb
    have hlt1 : i < items.size := by omega
    have hlt2 : i < items2.size := by omega
    have hi1 : items[((i : Nat) : Int).toNat]? = some items[i] := by simp [hlt1]
    have hi2 : items2[((i : Nat) : Int).toNat]? = some items2[i] := by simp [hlt2]
    have hc : ((i : Int) + 1) = ((i + 1 : Nat) : Int) := by push_cast; rfl
    rw [hi1, hi2]
    refine wpAny_bind (he i hlt1 hlt2 prog w _ _ ?_)
    cases hb' : e i with
    | true =>
      simp only [lexAt, hb', if_true] at h
      wp_walk
      rw [hc]
      exact ⟨plainId_quiet plain_eq_loop _, codeAny_builtin entry_eq_loop (by
        rw [Around.under_plainId plain_eq_loop _]
        exact ih (i + 1) (by omega) prog w A R _ ⟨hl, hb, he, hlt, h⟩)⟩
    | false =>
      simp only [lexAt, hb', Bool.false_eq_true, if_false] at h
      wp_walk using wpAny_loadPart' hl, wpAny_loadPart' hb
      rw [hi1, hi2]
      refine wpAny_bind (hlt i hlt1 hlt2 hb' prog w _ _ ?_)
      wp_walk
      exact h
theorem list_ltAt (l b : Addr) (items items2 : Array Value) (n n2 : Nat) (dd dd2 : Option Addr) (sl sl2 : Array (Option Value)) (e lt : Nat → Bool) :
    Meets (Builtin.«list.__lt__» ⟨[.ref l, .ref b], []⟩)
      (fun A R s => s.heap.get? l = some { cls := .type "list", dict := dd, data := .seq items n, slots := sl } ∧ s.heap.get? b = some { cls := .type "list", dict := dd2, data := .seq items2 n2, slots := sl2 } ∧
        (∀ j (h1 : j < items.size) (h2 : j < items2.size), EqAt A.in1 s items[j] items2[j] (e j)) ∧
        (∀ j (h1 : j < items.size) (h2 : j < items2.size), e j = false → RcLtAt A.in1 s items[j] items2[j] (lt j)) ∧
        R (.ok (.ret (.bool (lexAt e lt items.size items2.size (min items.size items2.size) 0)))) s) := by
  intro prog w A R s h
  obtain ⟨hp, g, d, tk, os⟩ := s; obtain ⟨hl, hb, he, hlt, h⟩ := h
  have f3 := AutoSeq1.sub_list_list
  wp_walk using wpAny_loadPart' hl, wpAny_loadPart' hb
  exact ⟨plainId_quiet plain_eq_loop _, codeAny_builtin entry_eq_loop (by
    rw [Around.under_plainId plain_eq_loop _]
    exact lt_loopAt l b items items2 n n2 dd dd2 sl sl2 e lt _ 0 rfl prog w A R _ ⟨hl, hb, he, hlt, by simpa using h⟩)⟩
theorem tuple_ltAt (l b : Addr) (items items2 : Array Value) (n n2 : Nat) (dd dd2 : Option Addr) (sl sl2 : Array (Option Value)) (e lt : Nat → Bool) :
    Meets (Builtin.«tuple.__lt__» ⟨[.ref l, .ref b], []⟩)
      (fun A R s => s.heap.get? l = some { cls := .type "tuple", dict := dd, data := .seq items n, slots := sl } ∧ s.heap.get? b = some { cls := .type "tuple", dict := dd2, data := .seq items2 n2, slots := sl2 } ∧
        (∀ j (h1 : j < items.size) (h2 : j < items2.size), EqAt A.in1 s items[j] items2[j] (e j)) ∧
        (∀ j (h1 : j < items.size) (h2 : j < items2.size), e j = false → RcLtAt A.in1 s items[j] items2[j] (lt j)) ∧
        R (.ok (.ret (.bool (lexAt e lt items.size items2.size (min items.size items2.size) 0)))) s) :=
  .of_wp fun prog w A R s h => by
    obtain ⟨hp, g, d, tk, os⟩ := s; obtain ⟨hl, hb, he, hlt, h⟩ := h
    have f2 := AutoSeq1.sub_tuple_tuple
    have hZ : (items.toList.zip items2.toList).length = min items.size items2.size := by simp
    wp_walk using wpAny_loadPart' hl, wpAny_loadPart' hb, wpAny_forIn_list _ (fun rest b s' => b.1 = none ∧ s' = ⟨hp, g, d, tk, os⟩ ∧ ∃ i, rest = (items.toList.zip items2.toList).drop i ∧
      R (.ok (.ret (.bool (lexAt e lt items.size items2.size (min items.size items2.size - i) i)))) ⟨hp, g, d, tk, os⟩) _
    case turn =>
      rintro ⟨y, x⟩ rest b s' ⟨hb', rfl, i, hz, hR⟩
      have hlt' : i < (items.toList.zip items2.toList).length := by
        rcases Nat.lt_or_ge i (items.toList.zip items2.toList).length with h' | h'
        · exact h'
        · rw [List.drop_of_length_le h'] at hz; cases hz
      have hm : i < min items.size items2.size := hZ ▸ hlt'
      have h1 : i < items.size := Nat.lt_of_lt_of_le hm (Nat.min_le_left _ _)
      have h2 : i < items2.size := Nat.lt_of_lt_of_le hm (Nat.min_le_right _ _)
      rw [List.drop_eq_getElem_cons hlt'] at hz
      injection hz with hyx hrest
      have hy : y = items[i] := by have := congrArg Prod.fst hyx; simpa using this
      have hx : x = items2[i] := by have := congrArg Prod.snd hyx; simpa using this
      subst hy hx
      have hk : min items.size items2.size - i = (min items.size items2.size - (i + 1)) + 1 := by omega
      rw [hk] at hR
      refine wpAny_bind (he i h1 h2 prog w _ _ ?_)
      cases hy : e i with
      | true =>
        simp only [lexAt, hy, if_true] at hR
        wp_walk
        exact ⟨rfl, rfl, i + 1, hrest, hR⟩
      | false =>
        simp only [lexAt, hy, Bool.false_eq_true, if_false] at hR
        simp only [Bool.not_false, if_true]
        refine wpAny_bind (wpAny_rule ?_)
        refine wpAny_bind (hlt i h1 h2 hy prog w _ _ ?_)
        wp_walk
        exact ⟨_, rfl, hR⟩
    case fin =>
      rintro ⟨b1, b2⟩ s' ⟨hb', rfl, i, hz, hR⟩
      simp only at hb'
      subst hb'
      have hge : min items.size items2.size ≤ i := by
        rcases Nat.lt_or_ge i (items.toList.zip items2.toList).length with h' | h'
        · rw [List.drop_eq_getElem_cons h'] at hz; cases hz
        · exact hZ ▸ h'
      have hk : min items.size items2.size - i = 0 := by omega
      rw [hk] at hR
      wp_walk
      exact ⟨_, rfl, by simpa [Builtin.Tuple.tupleCompareSizes, lexAt] using hR⟩
    case h =>
      exact ⟨rfl, rfl, 0, rfl, by simpa using h⟩
section
variable {A : Around} {s : Shared}
theorem RcLtAt.lists {l b : Addr} {items items2 : Array Value} {e lt : Nat → Bool} (hl : s.heap.IsList l items) (hb : s.heap.IsList b items2) (hu : A.units < cLine)
    (he : ∀ j (h1 : j < items.size) (h2 : j < items2.size), EqAt A.in1 s items[j] items2[j] (e j))
    (hlt : ∀ j (h1 : j < items.size) (h2 : j < items2.size), e j = false → RcLtAt A.in1 s items[j] items2[j] (lt j)) :
    RcLtAt A s (.ref l) (.ref b) (lexAt e lt items.size items2.size (min items.size items2.size) 0) := fun prog w E Q h => by
  obtain ⟨⟨cls, dd, data, sl⟩, ho, hc, n, hd⟩ := id hl
  obtain ⟨⟨cls2, dd2, data2, sl2⟩, ho2, hc2, n2, hd2⟩ := id hb
  simp only at hc hd hc2 hd2
  subst hc hd hc2 hd2
  exact richCompare_meets_room (op := .Lt) ⟨_, ho, rfl⟩ ⟨_, ho2, rfl⟩ F.slot_list_lt F.entry_list_lt (F.args_list_lt_2 _ _) (list_ltAt l b items items2 n n2 dd dd2 sl sl2 e lt)
    ⟨ho, ho2, he, hlt, ⟨(fun x => nomatch x), h⟩⟩ hu
theorem RcLtAt.tuples {l b : Addr} {items items2 : Array Value} {e lt : Nat → Bool} (hl : s.heap.IsTuple l items) (hb : s.heap.IsTuple b items2) (hu : A.units < cLine)
    (he : ∀ j (h1 : j < items.size) (h2 : j < items2.size), EqAt A.in1 s items[j] items2[j] (e j))
    (hlt : ∀ j (h1 : j < items.size) (h2 : j < items2.size), e j = false → RcLtAt A.in1 s items[j] items2[j] (lt j)) :
    RcLtAt A s (.ref l) (.ref b) (lexAt e lt items.size items2.size (min items.size items2.size) 0) := fun prog w E Q h => by
  obtain ⟨⟨cls, dd, data, sl⟩, ho, hc, n, hd⟩ := id hl
  obtain ⟨⟨cls2, dd2, data2, sl2⟩, ho2, hc2, n2, hd2⟩ := id hb
  simp only at hc hd hc2 hd2
  subst hc hd hc2 hd2
  exact richCompare_meets_room (op := .Lt) ⟨_, ho, rfl⟩ ⟨_, ho2, rfl⟩ F.slot_tuple_lt F.entry_tuple_lt (F.args_tuple_lt_2 _ _) (tuple_ltAt l b items items2 n n2 dd dd2 sl sl2 e lt)
    ⟨ho, ho2, he, hlt, ⟨(fun x => nomatch x), h⟩⟩ hu
theorem RcLtAt.int_int (a : Int) (t : Tok) (b : Int) (u : Tok) : RcLtAt A s (.int a t) (.int b u) (decide (a < b)) := fun _ _ _ _ h => PyProof.Rows.lt_int h
end
end Mine
end
section
namespace Mine
open PySem.SeqAt PySem.MeetsSeq PySem.MeetsSeq2 PySem.MeetsSeq3
theorem ints_at : ∀ {vs : List Value} {ns : List Int}, IntsAre vs ns → ∀ j (h : j < vs.length), ∃ t, vs[j] = .int (ns.getD j 0) t
  | _, _, .nil, j, h => absurd h (by simp)
  | _, _, .cons n t r, 0, h => ⟨t, by simp⟩
  | _, _, .cons n t r, j + 1, h => by
    obtain ⟨u, e⟩ := ints_at r j (by simpa using h)
    exact ⟨u, by simpa using e⟩
theorem ints_uniq : ∀ {vs : List Value} {ns ms : List Int}, IntsAre vs ns → IntsAre vs ms → ns = ms
  | _, _, _, .nil, .nil => rfl
  | _, _, _, .cons n t r, .cons _ _ r' => by rw [ints_uniq r r']
theorem isList_uniq {h : Heap} {l : Addr} {xs ys : List Value} (h1 : h.IsList l xs.toArray) (h2 : h.IsList l ys.toArray) : xs = ys := by
  obtain ⟨o, ho, _, n, hd⟩ := h1
  obtain ⟨o', ho', _, n', hd'⟩ := h2
  rw [ho] at ho'; cases ho'
  rw [hd] at hd'
  injection hd' with e _
  simpa using e
theorem all_eq : ∀ (ns ms : List Int), ns.length = ms.length → ((List.range ns.length).all fun j => ns.getD j 0 == ms.getD j 0) = decide (ns = ms)
  | [], [], _ => rfl
  | a :: r, b :: t, h => by
    have ih := all_eq r t (by simpa using h)
    rw [List.length_cons, List.range_succ_eq_map, List.all_cons, List.all_map]
    have e : ((fun j => (a :: r).getD j 0 == (b :: t).getD j 0) ∘ Nat.succ) = fun j => r.getD j 0 == t.getD j 0 := by
      funext j; simp
    rw [e, ih]
    by_cases h1 : a = b <;> by_cases h2 : r = t <;> simp [h1, h2]
  | [], _ :: _, h => by simp at h
  | _ :: _, [], h => by simp at h
theorem lexAt_ints : ∀ (ns ms : List Int) (e l : Nat → Bool) (m n k : Nat), (∀ j, e (k + j) = (ns.getD j 0 == ms.getD j 0)) → (∀ j, l (k + j) = decide (ns.getD j 0 < ms.getD j 0)) → (decide (m < n) = decide (ns.length < ms.length)) →
    lexAt e l m n (min ns.length ms.length) k = lexI ns ms
  | [], [], e, l, m, n, k, _, _, hd => by simp [lexAt, lexI, hd]
  | [], _ :: _, e, l, m, n, k, _, _, hd => by simp [lexAt, lexI]; simpa using hd
  | _ :: _, [], e, l, m, n, k, _, _, hd => by simp [lexAt, lexI]; simpa using hd
  | a :: r, b :: t, e, l, m, n, k, he, hl, hd => by
    have ih := lexAt_ints r t e l m n (k + 1) (fun j => by have := he (j + 1); rw [← Nat.add_assoc, Nat.add_right_comm] at this; simpa using this) (fun j => by have := hl (j + 1); rw [← Nat.add_assoc, Nat.add_right_comm] at this; simpa using this) (by simpa using hd)
    have h0 : min (a :: r).length (b :: t).length = min r.length t.length + 1 := by simp only [List.length_cons]; omega
    have e0 := he 0
    have l0 := hl 0
    simp only [Nat.add_zero, List.getD_cons_zero] at e0 l0
    rw [h0]
    simp only [lexAt, lexI, ih, e0, l0]
    by_cases h : a = b <;> simp [h]
section
variable {A : Around} {s : Shared}
theorem eqAt_ints {a b : Addr} {xs ys : List Value} {ns ms : List Int} (ha : s.heap.IsList a xs.toArray) (hb : s.heap.IsList b ys.toArray) (hi : IntsAre xs ns) (hj : IntsAre ys ms) (hu : A.units < cLine) :
    EqAt A s (.ref a) (.ref b) (decide (ns = ms)) := by
  by_cases hab : a = b
  · subst hab
    have e := isList_uniq ha hb
    subst e
    rw [decide_eq_true (ints_uniq hi hj)]
    exact EqAt.same _
  · refine EqAt.of_refs hab ?_
    have l1 := hi.length
    have l2 := hj.length
    by_cases hsz : ns.length = ms.length
    · rw [← all_eq ns ms hsz]
      have := RcAt.lists (A := A) (e := fun j => ns.getD j 0 == ms.getD j 0) ha hb (by simp; omega) hu (fun j h1 h2 => by
        obtain ⟨t, e1⟩ := ints_at hi j (by simpa using h1)
        obtain ⟨u, e2⟩ := ints_at hj j (by simpa using h2)
        simp only [List.getElem_toArray, e1, e2]
        exact EqAt.int_int _ _ _ _)
      have e : xs.toArray.size = ns.length := by simp; omega
      rw [e] at this
      exact this
    · rw [decide_eq_false (fun e => hsz (by rw [e]))]
      exact RcAt.lists_lengths ha hb (by simp; omega) hu
theorem ltAt_ints {a b : Addr} {xs ys : List Value} {ns ms : List Int} (ha : s.heap.IsList a xs.toArray) (hb : s.heap.IsList b ys.toArray) (hi : IntsAre xs ns) (hj : IntsAre ys ms) (hu : A.units < cLine) :
    RcLtAt A s (.ref a) (.ref b) (lexI ns ms) := by
  have l1 := hi.length
  have l2 := hj.length
  have := RcLtAt.lists (A := A) (e := fun j => ns.getD j 0 == ms.getD j 0) (lt := fun j => decide (ns.getD j 0 < ms.getD j 0)) ha hb hu (fun j h1 h2 => by
      obtain ⟨t, e1⟩ := ints_at hi j (by simpa using h1)
      obtain ⟨u, e2⟩ := ints_at hj j (by simpa using h2)
      simp only [List.getElem_toArray, e1, e2]
      exact EqAt.int_int _ _ _ _) (fun j h1 h2 _ => by
      obtain ⟨t, e1⟩ := ints_at hi j (by simpa using h1)
      obtain ⟨u, e2⟩ := ints_at hj j (by simpa using h2)
      simp only [List.getElem_toArray, e1, e2]
      exact RcLtAt.int_int _ _ _ _)
  have e1 : xs.toArray.size = ns.length := by simp; omega
  have e2 : ys.toArray.size = ms.length := by simp; omega
  rw [e1, e2, lexAt_ints ns ms _ _ _ _ 0 (fun j => by simp) (fun j => by simp) rfl] at this
  exact this
end
/-- a value that is a tuple of a sum, a place and a list of ints -/
def ItemAt (h : Heap) (v : Value) (x : It) : Prop :=
  ∃ (a : Addr) (t1 t2 : Tok) (l : Addr) (vs : List Value), v = .ref a ∧ h.IsTuple a #[.int x.c t1, .int x.p t2, .ref l] ∧ h.IsList l vs.toArray ∧ IntsAre vs x.ns
theorem ItemAt.keeps {h h' : Heap} {v : Value} {x : It} (k : h.StaysIn h') (H : ItemAt h v x) : ItemAt h' v x := by
  obtain ⟨a, t1, t2, l, vs, e, ht, hl, hi⟩ := H
  exact ⟨a, t1, t2, l, vs, e, stays_tup k ht, stays_list k hl, hi⟩
theorem lt_item {prog : Program} {w : World} {A : Around} {E : Value → Shared → Prop} {s : Shared} {Q : Value → Shared → Prop} {v u : Value} {x y : It} (hv : ItemAt s.heap v x) (hw : ItemAt s.heap u y) (hu : A.units + 8 < cLine)
    (h : Q (.bool (itLt x y)) s) : wpAny (model prog w) A (compareOp .Lt v u) Q E s := by
  obtain ⟨a, t1, t2, l, vs, rfl, ht, hl, hi⟩ := hv
  obtain ⟨b, u1, u2, l', us, rfl, ht', hl', hi'⟩ := hw
  refine cmp_ofLt ?_
  have R := RcLtAt.tuples (A := A) (e := fun j => match j with | 0 => x.c == y.c | 1 => x.p == y.p | _ => decide (x.ns = y.ns))
    (lt := fun j => match j with | 0 => decide (x.c < y.c) | 1 => decide (x.p < y.p) | _ => lexI x.ns y.ns) ht ht' (by omega) (fun j h1 h2 => by
      match j, h1 with
      | 0, _ => exact EqAt.int_int _ _ _ _
      | 1, _ => exact EqAt.int_int _ _ _ _
      | 2, _ => exact eqAt_ints hl hl' hi hi' (by simp; omega)) (fun j h1 h2 _ => by
      match j, h1 with
      | 0, _ => exact RcLtAt.int_int _ _ _ _
      | 1, _ => exact RcLtAt.int_int _ _ _ _
      | 2, _ => exact ltAt_ints hl hl' hi hi' (by simp; omega))
  have e : lexAt (fun j => match j with | 0 => x.c == y.c | 1 => x.p == y.p | _ => decide (x.ns = y.ns)) (fun j => match j with | 0 => decide (x.c < y.c) | 1 => decide (x.p < y.p) | _ => lexI x.ns y.ns) 3 3 3 0 = itLt x y := by
    simp only [lexAt, itLt, beq_iff_eq, decide_eq_true_eq]
    by_cases h1 : x.c = y.c <;> by_cases h2 : x.p = y.p <;> by_cases h3 : x.ns = y.ns <;> simp [h1, h2, h3, lexI_irrefl]
  exact R prog w E Q (by
    have e' : min (#[Value.int x.c t1, Value.int x.p t2, Value.ref l] : Array Value).size (#[Value.int y.c u1, Value.int y.p u2, Value.ref l'] : Array Value).size = 3 := rfl
    rw [e']
    show Q (.bool (lexAt _ _ 3 3 3 0)) s
    rw [e]; exact h)
end Mine
end
namespace Mine
theorem fill0 : PySem.Challenge.rw_mg0039_01.foot = 4 ∧ ∀ P, hd.heap_39 P = hd.heap_39 P := by
  k_fill
  exact ⟨rfl, fun _ => rfl⟩
/-- a def's body, entered: nothing but its own frame, the one list D (if any) is free to change -/
theorem enterM {prog : Program} {w : World} {A : Around} {s : Shared} {h₀ : Heap} {K : Frag} {p : Program} {loose : List Str} {mean : ExcName → Option Value} {mg mb : Str → Option Value} {Q E : Value → Shared → Prop}
    {name qual : Str} {params : Arguments} {body : List Stmt} {scope : Scope} {dV kV doc pm cdv ct oc : Value} {an od : Option Addr} {osl : Array (Option Value)} {f D : Addr} {oD : Obj} {args : List Value} {binds : List (Str × Value)}
    (X : K.In h₀) (T : Top p loose mean mg mb h₀) (st : h₀.StaysIn s.heap) (hD : s.heap.get? D = some oD) (hno : h₀.get? D = none)
    (ho : K.lookup f = some ⟨oc, od, .func (fnOf name qual params body scope dV kV doc pm an cdv ct), osl⟩) (hcd : codeIn K cdv qual = true) (hroom : A.depth < recursionLimit)
    (hbind : BindsTo s (fnOf name qual params body scope dV kV doc pm an cdv ct) ⟨args, []⟩ binds) (hloc : ∀ y ∈ binds, scope.names.lookup y.1 = some .local)
    (h : ∀ g L h₁, g = s.heap.hide D → K.In g → Top p loose mean mg mb g → Fr g L h₁ (fun y => binds.reverse.lookup y) → News g L h₁ [(D, oD)] →
      wpAny (model prog w) (A.deeper (envOf qual scope L f cdv)) (execs body (envOf qual scope L f cdv))
        (fun fl s' => Q (match fl with | .ret v => v | _ => .none) s') (fun _ _ => False) { s with heap := h₁, toks := s.toks + binds.length })
    (hco : scope.isCoroutine = false := by rfl) (hgen : scope.isGenerator = false := by rfl) (hk : scope.kind = .function := by rfl)
    (hcell : ∀ x ∈ scope.names, x.2 ≠ .cell := by decide) : wpAny (model prog w) A (call (.ref f) args) Q E s := by
  refine wpAny_call ?_
  have stg : h₀.StaysIn (s.heap.hide D) := fun b o e => (Heap.hide_ne s.heap (fun q : b = D => by rw [q, hno] at e; cases e)).trans (st b o e)
  refine codeAny_call_def (fd := fnOf name qual params body scope dV kV doc pm an cdv ct) (body := body) (binds := binds) hroom (st _ _ (X _ _ ho)) rfl (T.nolimit.keeps st) (codeRec_of (X.keeps st) hcd) rfl hbind hcell hloc (fun h₁ hns hk₁ => ?_) hco hgen hk
  refine wpAny_mono (h (s.heap.hide D) s.heap.objs.size h₁ rfl (X.keeps stg) (T.keeps stg)
    ⟨hns, fun b o e => hk₁ b o (Heap.of_hide e), Nat.le_of_eq (Heap.hide_size _ _)⟩ (fun p hp => ?_)) (fun _ _ q => q) (fun _ _ q => q.elim)
  rw [List.mem_singleton.mp hp]
  exact ⟨hk₁ _ _ hD, Nat.ne_of_lt (Heap.lt_size hD), Heap.hide_self _ _⟩
section
variable {prog : Program} {w : World} {A : Around} {E : Value → Shared → Prop} {s : Shared} {h₀ : Heap} {L D : Addr} {m : Str → Option Value} {rest news : List (Addr × Obj)} {vs : List Value} {n : Nat} {k : Int} {t u : Tok} {v : Value}
theorem itemL {value slice : PySem.Expr} {Q : Value → Shared → Prop} (N : News h₀ L s.heap news) (hm : (D, listOf vs.toArray n) ∈ news) (h0 : 0 ≤ k) (h1 : k.toNat < vs.length) (hfit : k < 2 ^ 63) (h : Q (vs.getD k.toNat .none) s)
    (hs : subscripted slice false (.ref D) (.int k u) = operate [.ref D, .int k u] (getItem (.ref D) (.int k u)) := by with_unfolding_all rfl) :
    wpAny (model prog w) A (subscriptTail value slice (.ref D) (.int k u)) Q E s :=
  have hl : s.heap.IsList D vs.toArray := PySem.IsL.isList (n := n) (N _ hm).1
  tail_any hl.typeIs slot_list_getitem.lookup (wpAny_getItem_list hl h0 hfit (by simp [h1]) h) hs
theorem par_eq {q : Nat} (h : 0 < q) : ((q : Int) - 1).fdiv (2 ^ Int.toNat 1) = (((q - 1) / 2 : Nat) : Int) := by
  have e : ((q : Int) - 1) = ((q - 1 : Nat) : Int) := by omega
  have e2 : ((2 : Int) ^ Int.toNat 1) = 2 := by decide
  rw [e, e2, Int.fdiv_eq_ediv_of_nonneg _ (by decide)]
  omega
theorem setL {Q : Unit → Shared → Prop} (F : Fr h₀ L s.heap m) (N : News h₀ L s.heap ((D, listOf vs.toArray n) :: rest)) (hne : ∀ p ∈ rest, p.1 ≠ D) (h0 : 0 ≤ k) (h1 : k.toNat < vs.length) (hfit : k < 2 ^ 63)
    (h : ∀ h', Fr h₀ L h' m → News h₀ L h' ((D, listOf (vs.set k.toNat v).toArray n) :: rest) → Q () { s with heap := h' }) :
    wpAny (model prog w) A (setItem (.ref D) (.int k t) v) Q E s := by
  have z := N (D, listOf vs.toArray n) (.head _)
  refine ki_setAt z.1 h0 hfit (by simp; omega) (h _ (F.change (Heap.SameBut.update ..) z.2.1 z.2.2) (ki_turn (pre := []) (post := rest) _ N (fun _ hp => nomatch hp) hne ?_ ?_))
  · show vs.toArray.setIfInBounds k.toNat v = (vs.set k.toNat v).toArray
    apply Array.toList_inj.mp
    simp
  · simp
end
theorem gk_map {key : Value → It} {l : List Value} {i : Nat} (h : i < l.length) : gk (l.map key) i = key l[i] := by
  unfold gk
  rw [List.getD_eq_getElem?_getD, List.getElem?_map, List.getElem?_eq_getElem h]
  rfl
theorem sift_turn {key : Value → It} {vs cur : List Value} {nv par : Value} {q : Nat} (hdi : DownInv ((cur.set q nv).map key) q) (hperm : (cur.set q nv).Perm vs) (hlen : cur.length = vs.length) (hq : q < vs.length) (hq0 : 0 < q)
    (hpp : (q - 1) / 2 < cur.length) (hpar : cur[(q - 1) / 2] = par) (hlt : itLt (key nv) (key par) = true) :
    (cur.set q par).length = vs.length ∧ (q - 1) / 2 < vs.length ∧ ((cur.set q par).set ((q - 1) / 2) nv).Perm vs ∧ DownInv (((cur.set q par).set ((q - 1) / 2) nv).map key) ((q - 1) / 2) := by
  have hne : q ≠ (q - 1) / 2 := by omega
  have g1 : (cur.set q nv)[(q - 1) / 2]'(by simpa using hpp) = par := by rw [List.getElem_set_ne hne]; exact hpar
  have g2 : (cur.set q nv)[q]'(by simp; omega) = nv := by rw [List.getElem_set_self]
  have e : (cur.set q par).set ((q - 1) / 2) nv = ((cur.set q nv).set q ((cur.set q nv)[(q - 1) / 2]'(by simpa using hpp))).set ((q - 1) / 2) ((cur.set q nv)[q]'(by simp; omega)) := by
    rw [g1, g2, List.set_set]
  refine ⟨by simpa using hlen, by omega, ?_, ?_⟩
  · rw [e]
    exact (List.set_set_perm (by simp; omega) (by simpa using hpp)).trans hperm
  · have k1 : gk ((cur.set q nv).map key) q = key nv := by rw [gk_map (by simp; omega), g2]
    have k2 : gk ((cur.set q nv).map key) ((q - 1) / 2) = key par := by rw [gk_map (by simpa using hpp), g1]
    have := down_step hdi hq0 (by simp; omega) (by rw [k1, k2]; exact hlt)
    rw [k1, k2, List.map_set, List.set_set] at this
    rw [List.map_set, List.map_set]
    exact this
theorem sift_brk {key : Value → It} {vs cur : List Value} {nv par : Value} {q : Nat} (hdi : DownInv ((cur.set q nv).map key) q) (hlen : cur.length = vs.length) (hq : q < vs.length) (hq0 : 0 < q)
    (hpp : (q - 1) / 2 < cur.length) (hpar : cur[(q - 1) / 2] = par) (hlt : itLt (key nv) (key par) = false) : IsHeap ((cur.set q nv).map key) := by
  have hne : q ≠ (q - 1) / 2 := by omega
  refine down_brk hdi ?_
  rw [gk_map (by simp; omega), gk_map (by simpa using hpp), List.getElem_set_self, List.getElem_set_ne hne, hpar]
  exact hlt
section
variable {prog : Program} {w : World} {A : Around} {s : Shared} {h₀ : Heap} {p : Program} {loose : List Str} {mean : ExcName → Option Value} {mg mb : Str → Option Value} {Q E : Value → Shared → Prop}
theorem siftdown_call {D : Addr} {vs : List Value} {n pos : Nat} {t u : Tok} (key : Value → It) (X : (hd.heap_39 w.params).In h₀) (T : Top p loose mean mg mb h₀) (st : h₀.StaysIn s.heap) (hD : s.heap.get? D = some (listOf vs.toArray n)) (hno : h₀.get? D = none)
    (hroom : A.depth + 10 < recursionLimit) (hu : A.units + 100 < cLine) (hpos : pos < vs.length) (hsm : vs.length < 2 ^ 30) (hit : ∀ v ∈ vs, ItemAt (s.heap.hide D) v (key v)) (hinv : DownInv (vs.map key) pos)
    (hQ : ∀ (vs' : List Value) (h' : Heap) (tk' : Nat), vs'.Perm vs → IsHeap (vs'.map key) → (s.heap.hide D).StaysIn h' → h'.get? D = some (listOf vs'.toArray n) → Q .none { s with heap := h', toks := tk' }) :
    wpAny (model prog w) A (call (.ref 35) [.ref D, .int 0 t, .int pos u]) Q E s := by
  w_top off
  refine' enterM (binds := [(Str.ofString "heap", .ref D), (Str.ofString "startpos", .int 0 t), (Str.ofString "pos", .int pos u)]) X T st hD hno ?k6 ?k7 (by omega) ?k9 ?kB ?_ ?c2 ?c3 ?c4 ?c5
  (case k6 => k_is); (case k7 => k_is); (case k9 => exact BindsTo.of_eq rfl); (case c5 => decide); (case kB => exact locs rfl); (case c2 => exact rfl); (case c3 => exact rfl); (case c4 => exact rfl)
  intro g L h₁ hg X' T' F' N'
  rw [← hg] at hit hQ
  repeat' walk1
  refine itemL N' (.head _) (by omega) (by omega) (by omega) ?_
  repeat' ((fail_if_success (with_reducible show wpAny _ _ (exec (Stmt.While _ _ _ _) _) _ _ _)); walk1)
  rename_i h₂ F₂ N₂
  have hnv : vs.getD ((pos : Int)).toNat .none = vs[pos] := by simp [hpos]
  rw [hnv] at F₂
  generalize hnv' : vs[pos] = nv at *
  refine ksw_while (σ := List Value × Nat × Tok) (fun c => [(D, listOf c.1.toArray n)]) (fun c => [(Str.ofString "pos", .int c.2.1 c.2.2)]) (fun _ => True) [Str.ofString "parentpos", Str.ofString "parent"]
    (fun c => c.1.length = vs.length ∧ c.2.1 < vs.length ∧ (c.1.set c.2.1 nv).Perm vs ∧ DownInv ((c.1.set c.2.1 nv).map key) c.2.1) (fun c => c.2.1) (vs, pos, u) F₂ N₂ trivial ?_ ?_ ?_ (by intro _ _ h; exact h.elim)
  · kst_all
  · refine ⟨rfl, hpos, ?_, ?_⟩
    · rw [← hnv', List.set_getElem_self]
    · rw [← hnv', List.set_getElem_self]; exact hinv
  · rintro ⟨cur, q, tq⟩ U h₃ tk₃ - ⟨hlen, hq, hperm, hdi⟩ F₃ N₃
    dsimp only at F₃ N₃ hlen hq hperm hdi ⊢
    repeat' walk1
    · rename_i hq0 h₄ F₄ N₄
      have hq0' : 0 < q := by omega
      rw [par_eq hq0'] at F₄ ⊢
      have hpp : (q - 1) / 2 < cur.length := by omega
      refine itemL N₄ (.head _) (by omega) (by rw [Int.toNat_natCast]; exact hpp) (by omega) ?_
      repeat' walk1
      rename_i h₅ F₅ N₅
      have hgd : cur.getD (((q - 1) / 2 : Nat) : Int).toNat .none = cur[(q - 1) / 2] := by rw [Int.toNat_natCast, List.getD_eq_getElem?_getD, List.getElem?_eq_getElem hpp]; rfl
      rw [hgd] at F₅ ⊢
      generalize hpar : cur[(q - 1) / 2] = par at *
      have hnvm : nv ∈ vs := hnv' ▸ List.getElem_mem hpos
      have hparm : par ∈ vs := hperm.mem_iff.mp (by
        rw [← hpar]
        have := List.getElem_mem (l := cur.set q nv) (n := (q - 1) / 2) (by simpa using hpp)
        rwa [List.getElem_set_ne (by omega)] at this)
      refine lt_item ((hit _ hnvm).keeps F₅.keep) ((hit _ hparm).keeps F₅.keep) (by rw [units_deeper]; omega) ?_
      repeat' walk1
      · rename_i hlt
        refine setL F₅ N₅ (fun _ hp => nomatch hp) (by omega) (by rw [Int.toNat_natCast]; omega) (by omega) ?_
        rw [Int.toNat_natCast]
        intro h₆ F₆ N₆
        repeat' ((fail_if_success (with_reducible show KswEnd _ _ _ _ _ _ _ _ _ _ _ _)); walk1)
        rename_i h₇ F₇ N₇
        refine' ksw_end (cur.set q par, (q - 1) / 2, ?tk) F₇ N₇ ?hn trivial ?hk ?hr ?hp ?hm
        case hk => kst_all
        case hn => exact fun p hp => hp
        case hr =>
          intro z h2 h3
          have h2' : z ≠ Str.ofString "pos" := h2 _ (.head _)
          have h3' : z ≠ Str.ofString "parentpos" ∧ z ≠ Str.ofString "parent" := by simpa using h3
          simp [kstB, h2', h3'.1, h3'.2]
        case hm => exact (show (q - 1) / 2 < q by omega)
        case hp => exact sift_turn hdi hperm hlen hq hq0' hpp hpar hlt
      · rename_i hlt
        refine setL F₅ N₅ (fun _ hp => nomatch hp) (by omega) (by rw [Int.toNat_natCast]; omega) (by omega) ?_
        rw [Int.toNat_natCast]
        intro h₆ F₆ N₆
        repeat' walk1
        exact hQ _ _ _ hperm (sift_brk hdi hlen hq hq0' hpp hpar hlt) F₆.keep (N₆ _ (.head _)).1
    · rename_i hq0
      refine setL F₃ N₃ (fun _ hp => nomatch hp) (by omega) (by rw [Int.toNat_natCast]; omega) (by omega) ?_
      rw [Int.toNat_natCast]
      intro h₆ F₆ N₆
      repeat' walk1
      have e0 : q = 0 := by omega
      subst e0
      exact hQ _ _ _ hperm (down_root hdi) F₆.keep (N₆ _ (.head _)).1
end
end Mine
namespace Mine
/-- a call has changed D alone -/
theorem fr_over {g h h' : Heap} {L D : Addr} {m : Str → Option Value} (F : Fr g L h m) (hne : L ≠ D) (hno : g.get? D = none) (k : (h.hide D).StaysIn h') : Fr g L h' m := by
  obtain ⟨oL, a1, a2, hL, a3⟩ := F.ns
  refine ⟨⟨oL, a1, a2, k _ _ ((Heap.hide_ne h hne).trans hL), a3⟩, fun b o e => ?_, F.above⟩
  exact k _ _ ((Heap.hide_ne h (fun q : b = D => by rw [q, hno] at e; cases e)).trans (F.keep b o e))
theorem sup_turn {key : Value → It} {vs cur : List Value} {nv cv : Value} {q c : Nat} (hui : UpInv ((cur.set q nv).map key) q) (hperm : (cur.set q nv).Perm vs) (hlen : cur.length = vs.length) (hc : c = 2 * q + 1 ∨ c = 2 * q + 2)
    (hcl : c < cur.length) (hcv : cur[c] = cv) (hsib : ∀ d, d = 2 * q + 1 ∨ d = 2 * q + 2 → ∀ hd : d < cur.length, itLt (key cur[d]) (key cv) = false) :
    (cur.set q cv).length = vs.length ∧ c < vs.length ∧ ((cur.set q cv).set c nv).Perm vs ∧ UpInv (((cur.set q cv).set c nv).map key) c := by
  have hne : q ≠ c := by omega
  have hql : q < cur.length := by omega
  have g1 : (cur.set q nv)[c]'(by simpa using hcl) = cv := by rw [List.getElem_set_ne hne]; exact hcv
  have g2 : (cur.set q nv)[q]'(by simpa using hql) = nv := by rw [List.getElem_set_self]
  have e : (cur.set q cv).set c nv = ((cur.set q nv).set q ((cur.set q nv)[c]'(by simpa using hcl))).set c ((cur.set q nv)[q]'(by simpa using hql)) := by
    rw [g1, g2, List.set_set]
  refine ⟨by simpa using hlen, by omega, ?_, ?_⟩
  · rw [e]
    exact (List.set_set_perm (by simpa using hql) (by simpa using hcl)).trans hperm
  · have k1 : gk ((cur.set q nv).map key) q = key nv := by rw [gk_map (by simpa using hql), g2]
    have k2 : gk ((cur.set q nv).map key) c = key cv := by rw [gk_map (by simpa using hcl), g1]
    have := up_step hui hc (by simpa using hcl) (fun d hd hdl => by
      have hdl' : d < cur.length := by simpa using hdl
      rw [k2, gk_map (by simpa using hdl'), List.getElem_set_ne (by omega)]
      exact hsib d hd hdl')
    rw [k1, k2, List.map_set, List.set_set] at this
    rw [List.map_set, List.map_set]
    exact this
section
variable {prog : Program} {w : World} {A : Around} {E : Value → Shared → Prop} {s : Shared} {h₀ : Heap} {L D : Addr} {m : Str → Option Value} {rest news : List (Addr × Obj)} {vs : List Value} {n : Nat} {k : Int} {t u : Tok} {v : Value}
theorem lenL {Q : Value → Shared → Prop} (N : News h₀ L s.heap news) (hm : (D, listOf vs.toArray n) ∈ news) (hfit : vs.length < 2 ^ 30) (h : ∀ t tk, Q (.int vs.length t) { s with toks := tk }) :
    wpAny (model prog w) A (call (.builtin "len") [.ref D]) Q E s :=
  have hl : s.heap.IsList D vs.toArray := PySem.IsL.isList (n := n) (N _ hm).1
  len_list hl (by simp only [List.size_toArray]; omega) (by simpa using h _ _)
end
section
variable {prog : Program} {w : World} {A : Around} {s : Shared} {h₀ : Heap} {p : Program} {loose : List Str} {mean : ExcName → Option Value} {mg mb : Str → Option Value} {Q E : Value → Shared → Prop}
theorem siftup_call {D : Addr} {vs : List Value} {n : Nat} {t : Tok} (key : Value → It) (X : (hd.heap_39 w.params).In h₀) (T : Top p loose mean mg mb h₀) (st : h₀.StaysIn s.heap) (hD : s.heap.get? D = some (listOf vs.toArray n)) (hno : h₀.get? D = none)
    (hroom : A.depth + 20 < recursionLimit) (hu : A.units + 200 < cLine) (hpos : 0 < vs.length) (hsm : vs.length < 2 ^ 30) (hit : ∀ v ∈ vs, ItemAt (s.heap.hide D) v (key v)) (hinv : UpInv (vs.map key) 0)
    (hQ : ∀ (vs' : List Value) (h' : Heap) (tk' : Nat), vs'.Perm vs → IsHeap (vs'.map key) → (s.heap.hide D).StaysIn h' → h'.get? D = some (listOf vs'.toArray n) → Q .none { s with heap := h', toks := tk' }) :
    wpAny (model prog w) A (call (.ref 42) [.ref D, .int 0 t]) Q E s := by
  w_top off
  refine' enterM (binds := [(Str.ofString "heap", .ref D), (Str.ofString "pos", .int 0 t)]) X T st hD hno ?k6 ?k7 (by omega) ?k9 ?kB ?_ ?c2 ?c3 ?c4 ?c5
  (case k6 => k_is); (case k7 => k_is); (case k9 => exact BindsTo.of_eq rfl); (case c5 => decide); (case kB => exact locs rfl); (case c2 => exact rfl); (case c3 => exact rfl); (case c4 => exact rfl)
  intro g L h₁ hg X' T' F' N'
  rw [← hg] at hit hQ
  repeat' walk1
  refine lenL N' (.head _) hsm ?_
  intro t₁ tk₁
  repeat' walk1
  refine itemL ‹News _ _ _ _› (.head _) (by omega) (by omega) (by omega) ?_
  repeat' ((fail_if_success (with_reducible show wpAny _ _ (exec (Stmt.While _ _ _ _) _) _ _ _)); walk1)
  rename_i h₂ F₂ N₂
  have hnv : vs.getD ((0 : Int)).toNat .none = vs[0] := by simp [hpos]
  rw [hnv] at F₂
  generalize hnv' : vs[0] = nv at *
  obtain ⟨tc₀, F₂⟩ : ∃ tc₀, Fr g L h₂ (fun y => if y = Str.ofString "childpos" then some (Value.int (2 * 0 + 1) tc₀) else if y = Str.ofString "newitem" then some nv else if y = Str.ofString "startpos" then some (Value.int 0 t) else
    if y = Str.ofString "endpos" then some (Value.int vs.length t₁) else List.lookup y [(Str.ofString "heap", Value.ref D), (Str.ofString "pos", Value.int 0 t)].reverse) := ⟨_, F₂⟩
  refine ksw_while (σ := List Value × Nat × Tok × Tok) (fun c => [(D, listOf c.1.toArray n)]) (fun c => [(Str.ofString "pos", .int c.2.1 c.2.2.1), (Str.ofString "childpos", .int (2 * (c.2.1 : Int) + 1) c.2.2.2)]) (fun _ => True) [Str.ofString "rightpos"]
    (fun c => c.1.length = vs.length ∧ c.2.1 < vs.length ∧ (c.1.set c.2.1 nv).Perm vs ∧ UpInv ((c.1.set c.2.1 nv).map key) c.2.1) (fun c => vs.length - c.2.1) (vs, 0, t, tc₀) F₂ N₂ trivial ?_ ?_ ?_ (by intro _ _ h; exact h.elim)
  · kst_all
  · refine ⟨rfl, hpos, ?_, ?_⟩
    · rw [← hnv', List.set_getElem_self]
    · rw [← hnv', List.set_getElem_self]; exact hinv
  · rintro ⟨cur, q, tq, tc⟩ U h₃ tk₃ - ⟨hlen, hq, hperm, hui⟩ F₃ N₃
    dsimp only at F₃ N₃ hlen hq hperm hui ⊢
    repeat' walk1
    · rename_i hc0 h₄ F₄ N₄ hr0
      have hl1 : 2 * q + 1 < cur.length := by omega
      have hl2 : 2 * q + 2 < cur.length := by omega
      refine itemL N₄ (.head _) (by omega) (by omega) (by omega) ?_
      have hga : cur.getD (2 * (q : Int) + 1).toNat .none = cur[2 * q + 1] := by rw [show (2 * (q : Int) + 1).toNat = 2 * q + 1 by omega, List.getD_eq_getElem?_getD, List.getElem?_eq_getElem hl1]; rfl
      rw [hga]
      repeat' walk1
      refine itemL N₄ (.head _) (by omega) (by omega) (by omega) ?_
      have hgb : cur.getD (2 * (q : Int) + 1 + 1).toNat .none = cur[2 * q + 2] := by rw [show (2 * (q : Int) + 1 + 1).toNat = 2 * q + 2 by omega, List.getD_eq_getElem?_getD, List.getElem?_eq_getElem hl2]; rfl
      rw [hgb]
      have hmem : ∀ d (hd : d < cur.length), d ≠ q → cur[d] ∈ vs := fun d hd hne => hperm.mem_iff.mp (by
        have := List.getElem_mem (l := cur.set q nv) (n := d) (by simpa using hd)
        rwa [List.getElem_set_ne (by omega)] at this)
      refine lt_item ((hit _ (hmem _ hl1 (by omega))).keeps F₄.keep) ((hit _ (hmem _ hl2 (by omega))).keeps F₄.keep) (by rw [units_deeper]; omega) ?_
      repeat' walk1
      · have hlt : itLt (key cur[2 * q + 1]) (key cur[2 * q + 2]) = true := by assumption
        have F₅ := F₄; have N₅ := N₄; clear F₄ N₄
        obtain ⟨c, hcn⟩ : ∃ c : Nat, (c : Int) = 2 * (q : Int) + 1 := ⟨(2 * (q : Int) + 1).toNat, by omega⟩
        rw [← hcn] at F₅ ⊢
        have hcl : c < cur.length := by omega
        refine itemL N₅ (.head _) (by omega) (by omega) (by omega) ?_
        have hgc : cur.getD (c : Int).toNat .none = cur[c] := by rw [Int.toNat_natCast, List.getD_eq_getElem?_getD, List.getElem?_eq_getElem hcl]; rfl
        rw [hgc]
        generalize hcv : cur[c] = cv at *
        repeat' walk1
        refine setL F₅ N₅ (fun _ hp => nomatch hp) (by omega) (by rw [Int.toNat_natCast]; omega) (by omega) ?_
        rw [Int.toNat_natCast]
        intro h₆ F₆ N₆
        repeat' ((fail_if_success (with_reducible show KswEnd _ _ _ _ _ _ _ _ _ _ _ _)); walk1)
        rename_i h₇ F₇ N₇
        refine' ksw_end (cur.set q cv, c, ?tkA1, ?tkB1) F₇ N₇ ?hn trivial ?hk ?hr ?hp ?hm
        case hk => kst_all
        case hn => exact fun p hp => hp
        case hr =>
          intro z h2 h3
          have h2' : z ≠ Str.ofString "pos" := h2 _ (.head _)
          have h2'' : z ≠ Str.ofString "childpos" := h2 _ (.tail _ (.head _))
          have h3' : z ≠ Str.ofString "rightpos" := by simpa using h3
          simp [kstB, h2', h2'', h3']
        case hm => exact (show vs.length - c < vs.length - q by omega)
        case hp =>
          have R := sup_turn (c := c) hui hperm hlen (by omega) hcl hcv (fun d hd hdl => by
                    by_cases e : d = c
                    · subst e; rw [hcv]; exact itLt_irrefl _
                    · obtain rfl : d = 2 * q + 2 := (by omega)
                      obtain rfl : c = 2 * q + 1 := (by omega)
                      rw [← hcv]; exact itLt_asymm hlt)
          exact R
      · have hlt : itLt (key cur[2 * q + 1]) (key cur[2 * q + 2]) = false := by assumption
        rename Fr _ _ _ _ => F₅; rename News _ _ _ _ => N₅
        skip
        obtain ⟨c, hcn⟩ : ∃ c : Nat, (c : Int) = 2 * (q : Int) + 1 + 1 := ⟨(2 * (q : Int) + 1 + 1).toNat, by omega⟩
        rw [← hcn] at F₅ ⊢
        have hcl : c < cur.length := by omega
        refine itemL N₅ (.head _) (by omega) (by omega) (by omega) ?_
        have hgc : cur.getD (c : Int).toNat .none = cur[c] := by rw [Int.toNat_natCast, List.getD_eq_getElem?_getD, List.getElem?_eq_getElem hcl]; rfl
        rw [hgc]
        generalize hcv : cur[c] = cv at *
        repeat' walk1
        refine setL F₅ N₅ (fun _ hp => nomatch hp) (by omega) (by rw [Int.toNat_natCast]; omega) (by omega) ?_
        rw [Int.toNat_natCast]
        intro h₆ F₆ N₆
        repeat' ((fail_if_success (with_reducible show KswEnd _ _ _ _ _ _ _ _ _ _ _ _)); walk1)
        rename_i h₇ F₇ N₇
        refine' ksw_end (cur.set q cv, c, ?tkA2, ?tkB2) F₇ N₇ ?hn trivial ?hk ?hr ?hp ?hm
        case hk => kst_all
        case hn => exact fun p hp => hp
        case hr =>
          intro z h2 h3
          have h2' : z ≠ Str.ofString "pos" := h2 _ (.head _)
          have h2'' : z ≠ Str.ofString "childpos" := h2 _ (.tail _ (.head _))
          have h3' : z ≠ Str.ofString "rightpos" := by simpa using h3
          simp [kstB, h2', h2'', h3']
        case hm => exact (show vs.length - c < vs.length - q by omega)
        case hp =>
          have R := sup_turn (c := c) hui hperm hlen (by omega) hcl hcv (fun d hd hdl => by
                    by_cases e : d = c
                    · subst e; rw [hcv]; exact itLt_irrefl _
                    · obtain rfl : d = 2 * q + 1 := (by omega)
                      obtain rfl : c = 2 * q + 2 := (by omega)
                      rw [← hcv]; exact hlt)
          exact R
    · rename Fr _ _ _ _ => F₅; rename News _ _ _ _ => N₅
      skip
      obtain ⟨c, hcn⟩ : ∃ c : Nat, (c : Int) = 2 * (q : Int) + 1 := ⟨(2 * (q : Int) + 1).toNat, by omega⟩
      rw [← hcn] at F₅ ⊢
      have hcl : c < cur.length := by omega
      refine itemL N₅ (.head _) (by omega) (by omega) (by omega) ?_
      have hgc : cur.getD (c : Int).toNat .none = cur[c] := by rw [Int.toNat_natCast, List.getD_eq_getElem?_getD, List.getElem?_eq_getElem hcl]; rfl
      rw [hgc]
      generalize hcv : cur[c] = cv at *
      repeat' walk1
      refine setL F₅ N₅ (fun _ hp => nomatch hp) (by omega) (by rw [Int.toNat_natCast]; omega) (by omega) ?_
      rw [Int.toNat_natCast]
      intro h₆ F₆ N₆
      repeat' ((fail_if_success (with_reducible show KswEnd _ _ _ _ _ _ _ _ _ _ _ _)); walk1)
      rename_i h₇ F₇ N₇
      refine' ksw_end (cur.set q cv, c, ?tkA3, ?tkB3) F₇ N₇ ?hn trivial ?hk ?hr ?hp ?hm
      case hk => kst_all
      case hn => exact fun p hp => hp
      case hr =>
        intro z h2 h3
        have h2' : z ≠ Str.ofString "pos" := h2 _ (.head _)
        have h2'' : z ≠ Str.ofString "childpos" := h2 _ (.tail _ (.head _))
        have h3' : z ≠ Str.ofString "rightpos" := by simpa using h3
        simp [kstB, h2', h2'', h3']
      case hm => exact (show vs.length - c < vs.length - q by omega)
      case hp =>
        have R := sup_turn (c := c) hui hperm hlen (by omega) hcl hcv (fun d hd hdl => by obtain rfl : d = c := (by omega); rw [hcv]; exact itLt_irrefl _)
        exact R
    · rename_i hc0
      have hnL : L ≠ D := fun e => (N₃ _ (.head _)).2.1 e.symm
      refine setL F₃ N₃ (fun _ hp => nomatch hp) (by omega) (by rw [Int.toNat_natCast]; omega) (by omega) ?_
      rw [Int.toNat_natCast]
      intro h₆ F₆ N₆
      repeat' ((fail_if_success (with_reducible show wpAny _ _ (call (Value.ref _) _) _ _ _)); walk1)
      have hu9 : DownInv ((cur.set q nv).map key) q := up_done hui (by simp; omega)
      refine siftdown_call key X' T' F₆.keep (N₆ _ (.head _)).1 (N₆ _ (.head _)).2.2 (by show A.depth + 1 + 10 < recursionLimit; omega) (by rw [units_deeper]; omega) (by simp; omega) (by simp; omega) (fun v hv => (hit v (hperm.mem_iff.mp hv)).keeps (fun b o e => (Heap.hide_ne _ (fun q : b = D => by rw [q, (N₆ _ (.head _)).2.2] at e; cases e)).trans (F₆.keep b o e))) hu9 ?_
      intro vs' h₇ tk₇ hp' hh' hst hD'
      have F₇ := fr_over F₆ hnL (N₆ _ (.head _)).2.2 hst
      repeat' walk1
      exact hQ _ _ _ (hp'.trans hperm) hh' F₇.keep hD'
end
end Mine
namespace Mine
theorem kl_last_app : ∀ (p : List Value) (y : Value), kl_last (p ++ [y]) = some (p, y)
  | [], _ => rfl
  | x :: r, y => by
    show (match kl_last (r ++ [y]) with | some (p, y) => some (x :: p, y) | none => some ([], x)) = _
    rw [kl_last_app r y]
theorem gets_hide {g h : Heap} {D : Addr} (hno : g.get? D = none) (k : ∀ b o, g.get? b = some o → h.get? b = some o) : g.StaysIn (h.hide D) :=
  fun b o e => (Heap.hide_ne _ (fun q : b = D => by rw [q, hno] at e; cases e)).trans (k b o e)
theorem pop_perm {r vs' : List Value} {x y : Value} (h : vs'.Perm (y :: r)) : (x :: vs').Perm (x :: r ++ [y]) := by
  refine List.Perm.cons x (h.trans ?_)
  exact (List.perm_append_singleton y r).symm
section
variable {prog : Program} {w : World} {A : Around} {s : Shared} {h₀ : Heap} {p : Program} {loose : List Str} {mean : ExcName → Option Value} {mg mb : Str → Option Value} {Q E : Value → Shared → Prop}
theorem heappush_call {D : Addr} {vs : List Value} {n : Nat} {v : Value} (key : Value → It) (X : (hd.heap_39 w.params).In h₀) (T : Top p loose mean mg mb h₀) (st : h₀.StaysIn s.heap) (hD : s.heap.get? D = some (listOf vs.toArray n)) (hno : h₀.get? D = none)
    (hroom : A.depth + 20 < recursionLimit) (hu : A.units + 200 < cLine) (hsm : vs.length < 2 ^ 20) (hit : ∀ v ∈ vs, ItemAt (s.heap.hide D) v (key v)) (hiv : ItemAt (s.heap.hide D) v (key v)) (hinv : IsHeap (vs.map key))
    (hQ : ∀ (vs' : List Value) (n' : Nat) (h' : Heap) (tk' : Nat), vs'.Perm (vs ++ [v]) → IsHeap (vs'.map key) → (s.heap.hide D).StaysIn h' → h'.get? D = some (listOf vs'.toArray n') → Q .none { s with heap := h', toks := tk' }) :
    wpAny (model prog w) A (call (.ref 21) [.ref D, v]) Q E s := by
  w_top off
  refine' enterM (binds := [(Str.ofString "heap", .ref D), (Str.ofString "item", v)]) X T st hD hno ?k6 ?k7 (by omega) ?k9 ?kB ?_ ?c2 ?c3 ?c4 ?c5
  (case k6 => k_is); (case k7 => k_is); (case k9 => exact BindsTo.of_eq rfl); (case c5 => decide); (case kB => exact locs rfl); (case c2 => exact rfl); (case c3 => exact rfl); (case c4 => exact rfl)
  intro g L h₁ hg X' T' F' N'
  rw [← hg] at hit hQ hiv
  repeat' walk1
  refine lenL ‹News _ _ _ _› (.head _) (by simp; omega) ?_
  intro t₁ tk₁
  rename Fr _ _ _ _ => F₂; rename News _ _ _ _ => N₂
  repeat' ((fail_if_success (with_reducible show wpAny _ _ (call (Value.ref _) _) _ _ _)); walk1)
  have hnL : L ≠ D := fun e => (N₂ _ (.head _)).2.1 e.symm
  have hlen : ((vs ++ [v]).length : Int) - 1 = (vs.length : Nat) := by simp
  rw [hlen]
  have hgD := (N₂ _ (.head _)).2.2
  refine siftdown_call key X' T' F₂.keep (N₂ _ (.head _)).1 hgD (by show A.depth + 1 + 10 < recursionLimit; omega) (by rw [units_deeper]; omega) (by simp) (by simp; omega)
    (fun v' hv => ItemAt.keeps (gets_hide hgD F₂.keep) (by
      rcases List.mem_append.mp hv with h | h
      · exact hit _ h
      · rw [List.mem_singleton.mp h]; exact hiv)) (by
      rw [List.map_append]
      have := down_start (x := key v) hinv
      rw [List.length_map] at this
      exact this) ?_
  intro vs' h₇ tk₇ hp' hh' hst hD'
  have F₇ := fr_over F₂ hnL hgD hst
  repeat' walk1
  exact hQ _ _ _ _ hp' hh' F₇.keep hD'
theorem heappop_call {D : Addr} {vs : List Value} {n : Nat} (key : Value → It) (X : (hd.heap_39 w.params).In h₀) (T : Top p loose mean mg mb h₀) (st : h₀.StaysIn s.heap) (hD : s.heap.get? D = some (listOf vs.toArray n)) (hno : h₀.get? D = none)
    (hroom : A.depth + 40 < recursionLimit) (hu : A.units + 400 < cLine) (h0 : 0 < vs.length) (hsm : vs.length < 2 ^ 20) (hit : ∀ v ∈ vs, ItemAt (s.heap.hide D) v (key v)) (hinv : IsHeap (vs.map key))
    (hQ : ∀ (vs' : List Value) (n' : Nat) (h' : Heap) (tk' : Nat), (vs[0] :: vs').Perm vs → IsHeap (vs'.map key) → (s.heap.hide D).StaysIn h' → h'.get? D = some (listOf vs'.toArray n') → Q vs[0] { s with heap := h', toks := tk' }) :
    wpAny (model prog w) A (call (.ref 28) [.ref D]) Q E s := by
  w_top off
  refine' enterM (binds := [(Str.ofString "heap", .ref D)]) X T st hD hno ?k6 ?k7 (by omega) ?k9 ?kB ?_ ?c2 ?c3 ?c4 ?c5
  (case k6 => k_is); (case k7 => k_is); (case k9 => exact BindsTo.of_eq rfl); (case c5 => decide); (case kB => exact locs rfl); (case c2 => exact rfl); (case c3 => exact rfl); (case c4 => exact rfl)
  intro g L h₁ hg X' T' F' N'
  rw [← hg] at hit hQ
  repeat' walk1
  obtain ⟨ini, last, rfl⟩ : ∃ ini last, vs = ini ++ [last] := ⟨vs.dropLast, vs.getLast (by intro e; rw [e] at h0; cases h0), (List.dropLast_concat_getLast _).symm⟩
  have hl1 : (ini ++ [last]).length = ini.length + 1 := by simp
  refine kl_pop F' N' (p := ini) (y := last) (kl_last_app ini last) (.head (fun _ hp => nomatch hp)) (by show (ini ++ [last]).length ≤ sizeLine; unfold sizeLine; omega) ?_
  intro h₂ F₂ N₂
  repeat' ((fail_if_success (with_reducible show wpAny _ _ (truthy _) _ _ _)); walk1)
  rename Fr _ _ _ _ => F₃; rename News _ _ _ _ => N₃
  have hnL : L ≠ D := fun e => (N₃ _ (.head _)).2.1 e.symm
  have hgD := (N₃ _ (.head _)).2.2
  refine wpAny_truthy_list (PySem.IsL.isList (n := n + 1) (N₃ _ (.head _)).1) (by simp only [List.size_toArray]; omega) ?_
  cases ini with
  | nil =>
    dsimp only [List.isEmpty_toArray, List.isEmpty_nil, Bool.not_true]
    repeat' walk1
    exact hQ [] _ _ _ (.refl _) isHeap_nil F₃.keep (N₃ _ (.head _)).1
  | cons x r =>
    dsimp only [List.isEmpty_toArray, List.isEmpty_cons, Bool.not_false]
    repeat' walk1
    · exact absurd (show (x :: r).toArray.isEmpty = true by assumption) (by simp)
    rename_i h₄ F₄ N₄
    have hlr : r.length + 1 < 2 ^ 20 := by simp at hsm; omega
    refine siftup_call key X' T' F₄.keep (N₄ _ (.head _)).1 hgD (by show A.depth + 1 + 20 < recursionLimit; omega) (by rw [units_deeper]; omega) (by simp) (by simp; omega)
      (fun v' hv => ItemAt.keeps (gets_hide hgD F₄.keep) (hit _ (by
        rcases List.mem_cons.mp hv with h | h
        · rw [h]; simp
        · simp [h]))) (by
        have := up_start (x := key last) (n := (x :: r).length) hinv (by simp)
        rw [List.map_append, List.take_append_of_le_length (by simp), List.take_of_length_le (by simp)] at this
        exact this) ?_
    intro vs' h₇ tk₇ hp' hh' hst hD'
    have F₇ := fr_over F₄ hnL hgD hst
    repeat' walk1
    exact hQ _ _ _ _ (pop_perm hp') hh' F₇.keep hD'
end
end Mine
namespace Mine
/-- the table's rows: a sign row, its mark, its number, that one's mark -/
def tokRows : List (Str × Tok × Int × Tok) := [
  (Str.ofString "!", 331, 54, 327),
  (Str.ofString "!=", 333, 28, 275),
  (Str.ofString "%", 335, 24, 267),
  (Str.ofString "%=", 337, 40, 299),
  (Str.ofString "&", 339, 19, 257),
  (Str.ofString "&=", 341, 41, 301),
  (Str.ofString "(", 343, 7, 233),
  (Str.ofString ")", 345, 8, 235),
  (Str.ofString "*", 347, 16, 251),
  (Str.ofString "**", 349, 35, 289),
  (Str.ofString "**=", 351, 46, 311),
  (Str.ofString "*=", 353, 38, 295),
  (Str.ofString "+", 355, 14, 247),
  (Str.ofString "+=", 357, 36, 291),
  (Str.ofString ",", 359, 12, 243),
  (Str.ofString "-", 361, 15, 249),
  (Str.ofString "-=", 363, 37, 293),
  (Str.ofString "->", 365, 51, 321),
  (Str.ofString ".", 367, 23, 265),
  (Str.ofString "...", 369, 52, 323),
  (Str.ofString "/", 371, 17, 253),
  (Str.ofString "//", 373, 47, 313),
  (Str.ofString "//=", 375, 48, 315),
  (Str.ofString "/=", 377, 39, 297),
  (Str.ofString ":", 379, 11, 241),
  (Str.ofString ":=", 381, 53, 325),
  (Str.ofString ";", 383, 13, 245),
  (Str.ofString "<", 385, 20, 259),
  (Str.ofString "<<", 387, 33, 285),
  (Str.ofString "<<=", 389, 44, 307),
  (Str.ofString "<=", 391, 29, 277),
  (Str.ofString "=", 393, 22, 263),
  (Str.ofString "==", 395, 27, 273),
  (Str.ofString ">", 397, 21, 261),
  (Str.ofString ">=", 399, 30, 279),
  (Str.ofString ">>", 400, 34, 287),
  (Str.ofString ">>=", 401, 45, 309),
  (Str.ofString "@", 402, 49, 317),
  (Str.ofString "@=", 403, 50, 319),
  (Str.ofString "[", 404, 9, 237),
  (Str.ofString "]", 405, 10, 239),
  (Str.ofString "^", 406, 32, 283),
  (Str.ofString "^=", 407, 43, 305),
  (Str.ofString "{", 408, 25, 269),
  (Str.ofString "|", 409, 18, 255),
  (Str.ofString "|=", 410, 42, 303),
  (Str.ofString "}", 411, 26, 271),
  (Str.ofString "~", 412, 31, 281)]
def tokTab : List (Str × Int) := tokRows.map fun r => (r.1, r.2.2.1)
def entsOf (P : Params) (rows : List (Str × Tok × Int × Tok)) : List DictEntry := rows.map fun r => ⟨PyData.keyHash P r.1, .str r.1 r.2.1, .int r.2.2.1 r.2.2.2⟩
theorem ents_at (P : Params) : (hd.heap_39 P).lookup 43 = some { cls := .type "dict", data := .dict (entsOf P tokRows).toArray 48 } := rfl
theorem ents_pairs {prog : Program} {w : World} : ∀ rows : List (Str × Tok × Int × Tok), Pairs (strKind prog w) (entsOf w.params rows) (rows.map fun r => (r.1, Value.int r.2.2.1 r.2.2.2))
  | [] => .nil
  | r :: rs => .cons (by show Value.isStrOf r.1 (.str r.1 r.2.1) = true; simp [Value.isStrOf]) rfl (ents_pairs rs)
theorem ents_flat : ∀ rows : List (Str × Tok × Int × Tok), PyProof.V.FlatPairs PyData.str (rows.map fun r => (r.1, Value.int r.2.2.1 r.2.2.2)) (kdpD (rows.map fun r => (r.1, r.2.2.1)))
  | [] => .nil
  | r :: rs => .cons (PyProof.V.Flat.int _ _) (ents_flat rs)
theorem tok_nodup : (tokRows.map (·.1)).Nodup := by decide +kernel
theorem tok_tab {prog : Program} {w : World} {h : Heap} (X : (hd.heap_39 w.params).In h) : StrTab prog w h 43 (kdpD tokTab) := by
  refine ⟨rfl, tokRows.map fun r => (r.1, Value.int r.2.2.1 r.2.2.2), ⟨_, (entsOf w.params tokRows).toArray, 48, X _ _ (ents_at _), ⟨rfl, rfl, rfl⟩, rfl, ?_, ?_, ?_⟩, ents_flat _⟩
  · intro e he
    simp only [List.mem_toArray, entsOf, List.mem_map] at he
    obtain ⟨r, _, rfl⟩ := he
    exact ⟨r.1, by show Value.isStrOf r.1 (.str r.1 r.2.1) = true; simp [Value.isStrOf], rfl⟩
  · exact ents_pairs _
  · rw [List.map_map]; exact tok_nodup
end Mine
open PySem.Spec
namespace Mine
/-- a def's body, entered: nothing but its own frame is free to change -/
theorem enterP {prog : Program} {w : World} {A : Around} {s : Shared} {h₀ : Heap} {K : Frag} {p : Program} {loose : List Str} {mean : ExcName → Option Value} {mg mb : Str → Option Value} {Q E : Value → Shared → Prop}
    {name qual : Str} {params : Arguments} {body : List Stmt} {scope : Scope} {dV kV doc pm cdv ct oc : Value} {an od : Option Addr} {osl : Array (Option Value)} {f : Addr} {args : List Value} {binds : List (Str × Value)}
    (X : K.In h₀) (T : Top p loose mean mg mb h₀) (st : h₀.StaysIn s.heap)
    (ho : K.lookup f = some ⟨oc, od, .func (fnOf name qual params body scope dV kV doc pm an cdv ct), osl⟩) (hcd : codeIn K cdv qual = true) (hroom : A.depth < recursionLimit)
    (hbind : BindsTo s (fnOf name qual params body scope dV kV doc pm an cdv ct) ⟨args, []⟩ binds) (hloc : ∀ y ∈ binds, scope.names.lookup y.1 = some .local)
    (h : ∀ g L h₁, g = s.heap → K.In g → Top p loose mean mg mb g → Fr g L h₁ (fun y => binds.reverse.lookup y) → News g L h₁ [] →
      wpAny (model prog w) (A.deeper (envOf qual scope L f cdv)) (execs body (envOf qual scope L f cdv))
        (fun fl s' => Q (match fl with | .ret v => v | _ => .none) s') (fun _ _ => False) { s with heap := h₁, toks := s.toks + binds.length })
    (hco : scope.isCoroutine = false := by rfl) (hgen : scope.isGenerator = false := by rfl) (hk : scope.kind = .function := by rfl)
    (hcell : ∀ x ∈ scope.names, x.2 ≠ .cell := by decide) : wpAny (model prog w) A (call (.ref f) args) Q E s := by
  refine wpAny_call ?_
  refine codeAny_call_def (fd := fnOf name qual params body scope dV kV doc pm an cdv ct) (body := body) (binds := binds) hroom (st _ _ (X _ _ ho)) rfl (T.nolimit.keeps st) (codeRec_of (X.keeps st) hcd) rfl hbind hcell hloc (fun h₁ hns hk₁ => ?_) hco hgen hk
  exact wpAny_mono (h s.heap s.heap.objs.size h₁ rfl (X.keeps st) (T.keeps st) ⟨hns, hk₁, Nat.le_refl _⟩ News.nil) (fun _ _ q => q) (fun _ _ q => q.elim)
/-- the number of the piece of the text from p on of length k -/
def tokT (text : Str) (p k : Nat) : Option Int :=
  if 1 ≤ k ∧ k ≤ 3 ∧ p + k ≤ text.length then (if kdpHas tokTab (Txt.slice text (some (p : Int)) (some ((p : Int) + (k : Int)))) then some (kdpLook tokTab (Txt.slice text (some (p : Int)) (some ((p : Int) + (k : Int)))) 0) else none) else none
def tup3 (c : Int) (t1 : Tok) (p : Int) (t2 : Tok) (l : Addr) : Obj := { cls := .type "tuple", data := .seq #[.int c t1, .int p t2, .ref l] }
/-- an item by the ledger -/
def ItemIn (news : List (Addr × Obj)) (v : Value) (x : It) : Prop :=
  ∃ (a : Addr) (t1 t2 : Tok) (l : Addr) (us : List Value) (n : Nat), v = .ref a ∧ (a, tup3 x.c t1 x.p t2 l) ∈ news ∧ (l, listOf us.toArray n) ∈ news ∧ IntsAre us x.ns
theorem ItemIn.mono {news news' : List (Addr × Obj)} {v : Value} {x : It} (hs : ∀ p ∈ news, p ∈ news') (h : ItemIn news v x) : ItemIn news' v x := by
  obtain ⟨a, t1, t2, l, us, n, e, h1, h2, hi⟩ := h
  exact ⟨a, t1, t2, l, us, n, e, hs _ h1, hs _ h2, hi⟩
theorem isTup_of {h : Heap} {a : Addr} {its : Array Value} {n : Nat} (e : h.get? a = some { cls := .type "tuple", data := .seq its n }) : h.IsTuple a its := ⟨_, e, rfl, n, rfl⟩
theorem ItemIn.at {news : List (Addr × Obj)} {v : Value} {x : It} {g h : Heap} {L D : Addr} (N : News g L h news) (hD : ∀ p ∈ news, p.1 ≠ D) (H : ItemIn news v x) : ItemAt (h.hide D) v x := by
  obtain ⟨a, t1, t2, l, us, n, e, h1, h2, hi⟩ := H
  exact ⟨a, t1, t2, l, us, e, isTup_of (n := 0) ((Heap.hide_ne h (hD _ h1)).trans (N _ h1).1), PySem.IsL.isList (n := n) ((Heap.hide_ne h (hD _ h2)).trans (N _ h2).1), hi⟩
theorem news_over {g h h' : Heap} {L D : Addr} {o o' : Obj} {rest : List (Addr × Obj)} (N : News g L h ((D, o) :: rest)) (hne : ∀ p ∈ rest, p.1 ≠ D) (k : (h.hide D).StaysIn h') (hD : h'.get? D = some o') : News g L h' ((D, o') :: rest) := by
  intro p hp
  rcases List.mem_cons.mp hp with e | hp
  · rw [e]; exact ⟨hD, (N _ (.head _)).2⟩
  · exact ⟨k _ _ ((Heap.hide_ne h (hne p hp)).trans (N p (.tail _ hp)).1), (N p (.tail _ hp)).2⟩
theorem ne_same {prog : Program} {w : World} {A : Around} {E : Value → Shared → Prop} {s : Shared} {Q : Value → Shared → Prop} {a : Addr} {its : Array Value} (ht : s.heap.IsTuple a its) (hu : A.units < cLine) (h : Q (.bool false) s) :
    wpAny (model prog w) A (compareOp .NotEq (.ref a) (.ref a)) Q E s := by
  have R := PySem.SeqAt.RcNeAt.tuples (A := A) (e := fun _ => true) ht ht hu (fun j _ _ => PySem.SeqAt.EqAt.same _)
  refine cmp_ofNotEq (R prog w E Q ?_)
  have e : ((List.range (min its.size its.size)).all fun _ => true) = true := List.all_eq_true.mpr fun _ _ => rfl
  rw [e]
  simpa using h
theorem heap_min {x : It} {r : List It} (h : IsHeap (x :: r)) : ∀ y ∈ x :: r, itLt y x = false := fun y hy => by
  obtain ⟨i, hi, rfl⟩ := List.getElem_of_mem hy
  have := heap_least h i i (Nat.le_refl _) hi
  unfold gk at this
  rw [List.getD_eq_getElem?_getD, List.getElem?_eq_getElem hi] at this
  exact this
theorem any_cast (q : Nat) : ∀ GN : List Nat, ((GN.map fun q : Nat => (q : Int)).any fun x => x == (q : Int)) = GN.contains q
  | [] => rfl
  | b :: r => by
    rw [List.map_cons, List.any_cons, any_cast q r, List.contains_cons]
    congr 1
    rw [Bool.eq_iff_iff]
    simp only [beq_iff_eq]
    omega
/-- what holds between the turns of the inner loop -/
def LJ (T : Nat → Nat → Option Int) (q : Nat) (ns : List Int) (D G : Addr) (oG : Obj) (H₀ : List It) (n₀ : Nat) (tl : List (Addr × Obj)) (m₀ : Str → Option Value) (i : Nat) (m : Str → Option Value) (nx : List (Addr × Obj)) : Prop :=
  ∃ (vs : List Value) (nv : Nat) (tl' : List (Addr × Obj)) (key : Value → It), nx = (D, listOf vs.toArray nv) :: (G, oG) :: tl' ∧ (∀ p ∈ tl, p ∈ tl') ∧ (∀ p ∈ tl', p.1 ≠ D ∧ p.1 ≠ G) ∧ (∀ v ∈ vs, ItemIn tl' v (key v)) ∧ IsHeap (vs.map key) ∧
    (∀ y, y ∈ vs.map key ↔ y ∈ H₀ ∨ ∃ k x, k ≤ i ∧ T q k = some x ∧ y = itOf (q + k) (ns ++ [x])) ∧ vs.length ≤ n₀ + i ∧ ∀ z, z ≠ Str.ofString "size" → z ≠ Str.ofString "number" → m z = m₀ z
theorem frame_turn {g h : Heap} {L l D : Addr} {mr m₁ : Str → Option Value} {q c k : Int} {t1 t2 t tt : Tok} {text : Str} (F : Fr g L h (fun y => if y = Str.ofString "size" then some (.int k t) else m₁ y))
    (hm : ∀ z, z ≠ Str.ofString "size" → z ≠ Str.ofString "number" → m₁ z = mr z) (e1 : mr (Str.ofString "numbers") = some (.ref l)) (e2 : mr (Str.ofString "at") = some (.int q t2)) (e3 : mr (Str.ofString "before") = some (.int c t1))
    (e4 : mr (Str.ofString "heap") = some (.ref D)) (e5 : mr (Str.ofString "text") = some (.str text tt)) :
    Fr g L h (fun y => if y = Str.ofString "size" then some (.int k t) else if y = Str.ofString "numbers" then some (.ref l) else if y = Str.ofString "at" then some (.int q t2) else if y = Str.ofString "before" then some (.int c t1) else
      if y = Str.ofString "heap" then some (.ref D) else if y = Str.ofString "text" then some (.str text tt) else m₁ y) := by
  have e : (fun y => if y = Str.ofString "size" then some (.int k t) else if y = Str.ofString "numbers" then some (.ref l) else if y = Str.ofString "at" then some (.int q t2) else if y = Str.ofString "before" then some (.int c t1) else
      if y = Str.ofString "heap" then some (.ref D) else if y = Str.ofString "text" then some (.str text tt) else m₁ y) = fun y => if y = Str.ofString "size" then some (.int k t) else m₁ y := by
    funext y
    by_cases h0 : y = Str.ofString "size"
    · simp only [if_pos h0]
    simp only [if_neg h0]
    by_cases h1 : y = Str.ofString "numbers"
    · subst h1; rw [if_pos rfl, hm _ (by decide) (by decide), e1]
    rw [if_neg h1]
    by_cases h2 : y = Str.ofString "at"
    · subst h2; rw [if_pos rfl, hm _ (by decide) (by decide), e2]
    rw [if_neg h2]
    by_cases h3 : y = Str.ofString "before"
    · subst h3; rw [if_pos rfl, hm _ (by decide) (by decide), e3]
    rw [if_neg h3]
    by_cases h4 : y = Str.ofString "heap"
    · subst h4; rw [if_pos rfl, hm _ (by decide) (by decide), e4]
    rw [if_neg h4]
    by_cases h5 : y = Str.ofString "text"
    · subst h5; rw [if_pos rfl, hm _ (by decide) (by decide), e5]
    rw [if_neg h5]
  rw [e]
  exact F
theorem allLt_all {d : Nat} : ∀ {l : List (Addr × Obj)}, AllLt d l → ∀ p ∈ l, p.1 < d
  | [], _, p, hp => nomatch hp
  | q :: r, h, p, hp => by
    rcases List.mem_cons.mp hp with e | hp
    · rw [e]; exact h.1
    · exact allLt_all h.2 p hp
theorem frame_back {l D : Addr} {mr m₁ : Str → Option Value} {q c : Int} {t1 t2 tt : Tok} {text : Str}
    (hm : ∀ z, z ≠ Str.ofString "size" → z ≠ Str.ofString "number" → m₁ z = mr z) (e1 : mr (Str.ofString "numbers") = some (.ref l)) (e2 : mr (Str.ofString "at") = some (.int q t2)) (e3 : mr (Str.ofString "before") = some (.int c t1))
    (e4 : mr (Str.ofString "heap") = some (.ref D)) (e5 : mr (Str.ofString "text") = some (.str text tt)) (y : Str) (hz1 : y ≠ Str.ofString "size") (hz2 : y ≠ Str.ofString "number") :
    (if y = Str.ofString "numbers" then some (.ref l) else if y = Str.ofString "at" then some (.int q t2) else if y = Str.ofString "before" then some (.int c t1) else
      if y = Str.ofString "heap" then some (.ref D) else if y = Str.ofString "text" then some (.str text tt) else m₁ y) = mr y := by
  by_cases h1 : y = Str.ofString "numbers"
  · rw [if_pos h1, h1, e1]
  rw [if_neg h1]
  by_cases h2 : y = Str.ofString "at"
  · rw [if_pos h2, h2, e2]
  rw [if_neg h2]
  by_cases h3 : y = Str.ofString "before"
  · rw [if_pos h3, h3, e3]
  rw [if_neg h3]
  by_cases h4 : y = Str.ofString "heap"
  · rw [if_pos h4, h4, e4]
  rw [if_neg h4]
  by_cases h5 : y = Str.ofString "text"
  · rw [if_pos h5, h5, e5]
  rw [if_neg h5]
  exact hm y hz1 hz2
theorem way_len {T : Nat → Nat → Option Int} {n p : Nat} {ns : List Int} (g : GoodT T n) (h : Way T p ns) : ns.length ≤ p := by
  induction h with
  | nil => exact Nat.le_refl _
  | snoc _ hx ih => have := g.pos _ _ _ hx; simp; omega
theorem tokT_some {text : Str} {q i : Nat} (h3 : i + 1 ≤ 3) (hl : q + (i + 1) ≤ text.length) (hh : kdpHas tokTab (Txt.slice text (some (q : Int)) (some ((q : Int) + (1 + (i : Int))))) = true) :
    tokT text q (i + 1) = some (kdpLook tokTab (Txt.slice text (some (q : Int)) (some ((q : Int) + (1 + (i : Int))))) 0) := by
  have e : (((i + 1 : Nat) : Int)) = 1 + (i : Int) := by omega
  unfold tokT
  rw [if_pos ⟨by omega, h3, hl⟩, e, if_pos hh]
theorem tokT_none {text : Str} {q i : Nat} (hh : kdpHas tokTab (Txt.slice text (some (q : Int)) (some ((q : Int) + (1 + (i : Int))))) = false) : tokT text q (i + 1) = none := by
  have e : (((i + 1 : Nat) : Int)) = 1 + (i : Int) := by omega
  unfold tokT
  rw [e, hh]
  simp
theorem push_map {key key₂ : Value → It} {vs vs₂ : List Value} {v : Value} {e : It} (hp : vs₂.Perm (vs ++ [v])) (hk : ∀ u ∈ vs, key₂ u = key u) (hv : key₂ v = e) (y : It) : y ∈ vs₂.map key₂ ↔ y ∈ vs.map key ∨ y = e := by
  simp only [List.mem_map, hp.mem_iff, List.mem_append, List.mem_singleton]
  constructor
  · rintro ⟨u, h | h, e'⟩
    · exact .inl ⟨u, h, by rw [← hk u h]; exact e'⟩
    · right; rw [← e', h, hv]
  · rintro (⟨u, h, e'⟩ | h)
    · exact ⟨u, .inl h, by rw [hk u h]; exact e'⟩
    · exact ⟨v, .inr rfl, by rw [h, hv]⟩
def keyAdd (key : Value → It) (a : Addr) (e : It) : Value → It
  | .ref b => if b = a then e else key (.ref b)
  | v => key v
theorem keyAdd_self (key : Value → It) (a : Addr) (e : It) : keyAdd key a e (.ref a) = e := by simp [keyAdd]
theorem keyAdd_old {key : Value → It} {a : Addr} {e : It} {tl : List (Addr × Obj)} {v : Value} {x : It} (h : ItemIn tl v x) (hlt : ∀ p ∈ tl, p.1 ≠ a) : keyAdd key a e v = key v := by
  obtain ⟨b, t1, t2, l, us, n, rfl, hm, _⟩ := h
  have := hlt _ hm
  simp only at this
  simp [keyAdd, this]
theorem lj_mem {T : Nat → Nat → Option Int} {q i : Nat} {ns : List Int} {H₀ H H' : List It} (h : ∀ y, y ∈ H ↔ y ∈ H₀ ∨ ∃ k x, k ≤ i ∧ T q k = some x ∧ y = itOf (q + k) (ns ++ [x]))
    (h' : ∀ y, y ∈ H' ↔ y ∈ H ∨ ∃ x, T q (i + 1) = some x ∧ y = itOf (q + (i + 1)) (ns ++ [x])) (y : It) : y ∈ H' ↔ y ∈ H₀ ∨ ∃ k x, k ≤ i + 1 ∧ T q k = some x ∧ y = itOf (q + k) (ns ++ [x]) := by
  rw [h', h]
  constructor
  · rintro ((h | ⟨k, x, hk, hx, e⟩) | ⟨x, hx, e⟩)
    · exact .inl h
    · exact .inr ⟨k, x, by omega, hx, e⟩
    · exact .inr ⟨i + 1, x, Nat.le_refl _, hx, e⟩
  · rintro (h | ⟨k, x, hk, hx, e⟩)
    · exact .inl (.inl h)
    · by_cases hk' : k ≤ i
      · exact .inl (.inr ⟨k, x, hk', hx, e⟩)
      · obtain rfl : k = i + 1 := by omega
        exact .inr ⟨x, hx, e⟩
structure FS where
  vs : List Value
  nv : Nat
  gs : List Value
  ng : Nat
  tl : List (Addr × Obj)
  bv : Int
  bt : Tok
  key : Value → It
  G : List Nat
def FS.led (D G : Addr) (c : FS) : List (Addr × Obj) := (D, listOf c.vs.toArray c.nv) :: (G, listOf c.gs.toArray c.ng) :: c.tl
structure FInv (T : Nat → Nat → Option Int) (n : Nat) (D G : Addr) (c : FS) : Prop where
  off : ∀ p ∈ c.tl, p.1 ≠ D ∧ p.1 ≠ G
  items : ∀ v ∈ c.vs, ItemIn c.tl v (c.key v)
  heap : IsHeap (c.vs.map c.key)
  gone : IntsAre c.gs (c.G.map fun q : Nat => (q : Int))
  inv : DInv T n (c.vs.map c.key) c.G c.bv
  few : c.vs.length + 4 * left n c.G ≤ 1 + 4 * n
  glen : c.G.length + left n c.G ≤ n
theorem finv_start {T : Nat → Nat → Option Int} {n : Nat} {D G a l : Addr} {t1 t2 tb : Tok} (hD : a ≠ D ∧ l ≠ D) (hG : a ≠ G ∧ l ≠ G) :
    FInv T n D G ⟨[.ref a], 0, [], 0, [(a, tup3 0 t1 0 t2 l), (l, listOf #[] 0)], 0, tb, fun _ => itOf 0 [], []⟩ where
  off := fun p hp => by
    rcases List.mem_cons.mp hp with e | hp
    · rw [e]; exact ⟨hD.1, hG.1⟩
    · rw [List.mem_singleton.mp hp]; exact ⟨hD.2, hG.2⟩
  items := fun v hv => ⟨a, t1, t2, l, [], 0, List.mem_singleton.mp hv, .head _, .tail _ (.head _), .nil⟩
  heap := isHeap_one _
  gone := .nil
  inv := dinv_start
  few := by have := left_le n []; show 1 + 4 * left n [] ≤ _; omega
  glen := by have := left_le n []; show 0 + left n [] ≤ _; omega
section
variable {prog : Program} {w : World} {A : Around} {s : Shared} {h₀ : Heap} {p : Program} {loose : List Str} {mean : ExcName → Option Value} {mg mb : Str → Option Value} {Q E : Value → Shared → Prop}
theorem first_call {text : Str} {tt : Tok} (X : (hd.heap_39 w.params).In h₀) (T : Top p loose mean mg mb h₀) (st : h₀.StaysIn s.heap)
    (hh : A.handled = none) (hroom : A.depth + 60 < recursionLimit) (hu : A.units + 600 < cLine) (hlen : text.length ≤ 100) (g₀ : GoodT (tokT text) text.length)
    (hQ : ∀ (a l : Addr) (tc : Tok) (vs : List Value) (ns : List Int) (n n' : Nat) (h' : Heap) (tk' : Nat), Best (tokT text) text.length ns → s.heap.StaysIn h' → h'.get? a = some { cls := .type "tuple", data := .seq #[.int ns.sum tc, .ref l] n } → h'.get? l = some (listOf vs.toArray n') → IntsAre vs ns →
      s.heap.get? a = none → s.heap.get? l = none → Q (.ref a) { s with heap := h', toks := tk' }) :
    wpAny (model prog w) A (call (.ref 66) [.str text tt]) Q E s := by
  w_top off
  refine' enterP (binds := [(Str.ofString "text", .str text tt)]) X T st ?k6 ?k7 (by omega) ?k9 ?kB ?_ ?c2 ?c3 ?c4 ?c5
  (case k6 => k_is); (case k7 => k_is); (case k9 => exact BindsTo.of_eq rfl); (case c5 => decide); (case kB => exact locs rfl); (case c2 => exact rfl); (case c3 => exact rfl); (case c4 => exact rfl)
  intro g L h₁ hg X' T' F' N'
  rw [← hg] at hQ
  repeat' ((fail_if_success (with_reducible show wpAny _ _ (exec (Stmt.While _ _ _ _) _) _ _ _)); walk1)
  rename_i tk0 l₀ hA la a₀ hB lb D hC lc hD' tk1 G hE ld hF h₂ F₂ N₂
  obtain ⟨tb₀, F₂⟩ : ∃ tb₀, Fr g L h₂ (fun y => if y = Str.ofString "before" then some (Value.int 0 tb₀) else if y = Str.ofString "gone" then some (Value.ref G) else if y = Str.ofString "heap" then some (Value.ref D) else
    List.lookup y [(Str.ofString "text", Value.str text tt)].reverse) := ⟨_, F₂⟩
  have hDG : D ≠ G := Nat.ne_of_lt ld.1
  have N₃ : News g L h₂ (FS.led D G ⟨[.ref a₀], 0, [], 0, [(a₀, tup3 0 tk0 0 (tk0 + 1) l₀), (l₀, listOf #[] 0)], 0, tb₀, fun _ => itOf 0 [], []⟩) := fun p hp => N₂ p (by
    simp only [FS.led, List.mem_cons, List.not_mem_nil, or_false] at hp
    rcases hp with h | h | h | h <;> rw [h] <;> simp [tup3])
  refine ksw_while (σ := FS) (FS.led D G) (fun c => [(Str.ofString "before", .int c.bv c.bt)]) (fun _ => True) [Str.ofString "top", Str.ofString "at", Str.ofString "numbers", Str.ofString "size", Str.ofString "number"]
    (FInv (tokT text) text.length D G) (fun c => c.vs.length + 4 * left text.length c.G) _ F₂ N₃ trivial ?_ (finv_start ⟨Nat.ne_of_lt lc.1, Nat.ne_of_lt lc.2⟩ ⟨Nat.ne_of_lt ld.2.1, Nat.ne_of_lt ld.2.2⟩) ?_ (by intro _ _ h; exact h.elim)
  · kst_all
  · clear N₂ N₃ F₂
    rintro ⟨vs, nv, gs, ng, tl, bv, bt, key, GN⟩ U h₃ tk₃ - I F₃ N₃
    dsimp only [FS.led] at F₃ N₃ ⊢
    repeat' walk1
    have hne : vs ≠ [] := fun e => dinv_some g₀ I.inv (by rw [e]; rfl)
    have hvl : 0 < vs.length := List.length_pos_iff.mpr hne
    have hfew := I.few
    dsimp only at hfew
    rename_i e₁ h₄ F₄ N₄ le₁
    refine cmp_ofNotEq (PySem.SeqAt.RcNeAt.lists_lengths (PySem.IsL.isList (n := nv) (N₄ _ (.tail _ (.head _))).1) (PySem.IsL.isList (n := 0) (N₄ _ (.head _)).1) (by simp; omega) (by rw [units_deeper]; omega) prog w _ _ ?_)
    have N₅ : News g L h₄ ((D, listOf vs.toArray nv) :: (G, listOf gs.toArray ng) :: tl) := fun p hp => N₄ p (.tail _ hp)
    clear N₄
    repeat' walk1
    refine itemL N₅ (.head _) (by omega) (by simpa using hvl) (by omega) ?_
    obtain ⟨v₀, vr, rfl⟩ : ∃ v₀ vr, vs = v₀ :: vr := List.exists_cons_of_ne_nil hne
    rw [show (v₀ :: vr).getD (Int.toNat 0) Value.none = v₀ from rfl]
    repeat' ((fail_if_success (with_reducible show wpAny _ _ (call (Value.ref _) _) _ _ _)); walk1)
    rename_i h₅ F₅ N₆
    have hLD : L ≠ D := fun e => (N₆ _ (.head _)).2.1 e.symm
    have hgD := (N₆ _ (.head _)).2.2
    have hoffD : ∀ p ∈ (G, listOf gs.toArray ng) :: tl, p.1 ≠ D := fun p hp => by
      rcases List.mem_cons.mp hp with e | hp
      · rw [e]; exact Ne.symm hDG
      · exact (I.off p hp).1
    have Ntl : News g L h₅ tl := fun p hp => N₆ p (.tail _ (.tail _ hp))
    refine heappop_call key X' T' F₅.keep (N₆ _ (.head _)).1 hgD (by show A.depth + 1 + 40 < recursionLimit; omega) (by rw [units_deeper]; omega) hvl (by omega) (fun v hv => (I.items v hv).at Ntl (fun p hp => (I.off p hp).1)) I.heap ?_
    intro vs' nv' h₆ tk₆ hperm hheap hst hD₆
    have F₆ := fr_over F₅ hLD hgD hst
    have N₇ := news_over N₆ hoffD hst hD₆
    clear Ntl
    obtain ⟨a, t1, t2, l, us, nu, ev, ha, hl, hus⟩ := I.items v₀ (.head _)
    obtain ⟨q, ns, ekey, hway⟩ := I.inv.items (key v₀) (.head _)
    dsimp only at ha hl hus
    rw [ekey] at ha hus
    subst ev
    rw [show (Value.ref a :: vr)[0] = Value.ref a from rfl]
    repeat' walk1
    refine ne_same (isTup_of (n := 0) (N₇ _ (.tail _ (.tail _ ha))).1) (by rw [units_deeper]; omega) ?_
    have N₈ : News g L h₆ ((a, { cls := .type "tuple", data := .seq #[.int ns.sum t1, .int (q : Int) t2, .ref l] }) :: (l, listOf us.toArray nu) :: (D, listOf vs'.toArray nv') :: (G, listOf gs.toArray ng) :: tl) := fun p hp => by
      rcases List.mem_cons.mp hp with e | hp
      · rw [e]; exact N₇ _ (.tail _ (.tail _ ha))
      · rcases List.mem_cons.mp hp with e | hp
        · rw [e]; exact N₇ _ (.tail _ (.tail _ hl))
        · exact N₇ _ hp
    clear N₆ N₇
    have hbef : bv ≤ ns.sum := by
      have := I.inv.bef (key (.ref a)) (.head _)
      rw [ekey] at this
      exact this
    repeat' walk1
    refine unpackN_ F₆ N₈ (News.isTup N₈ (.head _)) hh rfl rfl ?_
    intro h₇ F₇ N₉
    repeat' walk1
    have hmin : ∀ y ∈ (Value.ref a :: vr).map key, itLt y (itOf q ns) = false := by
      have := heap_min (x := key (.ref a)) (r := vr.map key) I.heap
      rw [ekey] at this
      rw [List.map_cons, ekey]
      exact this
    · rename_i hq _ dd h₈ F₈ N₁₀ _
      have hq' : q = text.length := by omega
      have hb : Best (tokT text) q ns := dinv_best g₀ I.inv hway hmin (fun h => by have := I.inv.gn q h; omega)
      rw [hq'] at hb
      exact hQ dd l t1 us ns _ nu h₈ _ hb F₈.keep (N₁₀ _ (.head _)).1 (N₁₀ _ (.tail _ (.tail _ (.head _)))).1 hus (N₁₀ _ (.head _)).2.2 (N₁₀ _ (.tail _ (.tail _ (.head _)))).2.2
    have hmin : ∀ y ∈ (Value.ref a :: vr).map key, itLt y (itOf q ns) = false := by
      have := heap_min (x := key (.ref a)) (r := vr.map key) I.heap
      rw [ekey] at this
      rw [List.map_cons, ekey]
      exact this
    rename_i h₈ F₈ N₁₀ hqn
    have hgone : IntsAre gs (GN.map fun q : Nat => (q : Int)) := I.gone
    have hpm : ∀ v, v ∈ Value.ref a :: vr ↔ v = Value.ref a ∨ v ∈ vs' := fun v => by rw [← hperm.mem_iff]; exact List.mem_cons
    have hkm : ∀ y, y ∈ (Value.ref a :: vr).map key ↔ y = itOf q ns ∨ y ∈ vs'.map key := fun y => by
      simp only [List.mem_map, hpm]
      constructor
      · rintro ⟨v, h | h, e⟩
        · left; rw [← e, h, ekey]
        · exact .inr ⟨v, h, e⟩
      · rintro (h | ⟨v, h, e⟩)
        · exact ⟨_, .inl rfl, by rw [h, ekey]⟩
        · exact ⟨v, .inr h, e⟩
    have hvl' : vs'.length + 1 = (Value.ref a :: vr).length := by have := hperm.length_eq; simpa using this
    refine notin_list_ints (PySem.IsL.isList (n := ng) (N₁₀ _ (.tail _ (.tail _ (.tail _ (.head _))))).1) hgone ?_
    rw [any_cast]
    cases hin : GN.contains q with
    | true =>
      have hin' : q ∈ GN := by simpa using hin
      rw [Bool.not_true]
      repeat' ((fail_if_success (with_reducible show KswEnd _ _ _ _ _ _ _ _ _ _ _ _)); walk1)
      refine' ksw_end (⟨vs', nv', gs, ng, tl, ns.sum, t1, key, GN⟩ : FS) F₈ N₁₀ ?hn trivial ?hk ?hr ?hp ?hm
      case hk => kst_all
      case hn => exact fun p hp => .tail _ (.tail _ hp)
      case hr =>
        intro z h2 h3
        have h2' : z ≠ Str.ofString "before" := h2 _ (.head _)
        simp only [List.contains_cons, List.contains_nil, Bool.or_false, Bool.or_eq_false_iff, beq_eq_false_iff_ne, ne_eq] at h3
        simp [kstB, h2', h3]
      case hm => exact (show vs'.length + 4 * left text.length GN < (Value.ref a :: vr).length + 4 * left text.length GN by omega)
      case hp => exact ⟨I.off, fun v hv => I.items v ((hpm v).mpr (.inr hv)), hheap, hgone, dinv_seen I.inv hmin hkm hin', (show vs'.length + 4 * left text.length GN ≤ 1 + 4 * text.length by omega), I.glen⟩
    | false =>
      have hin' : q ∉ GN := by simpa using hin
      have hqn' : q < text.length := by have := way_le g₀ hway; omega
      rw [Bool.not_false]
      have hgl := I.glen
      dsimp only at hgl
      have hgl2 : gs.length = GN.length := by have := hgone.length; simpa using this
      repeat' walk1
      have N₁₁ : News g L h₈ ((D, listOf vs'.toArray nv') :: (G, listOf gs.toArray ng) :: tl) := fun p hp => N₁₀ p (.tail _ (.tail _ hp))
      clear N₁₀
      refine append_K F₈ N₁₁ (.tail hDG (.head (fun p hp => (I.off p hp).2))) ?_ (by rw [List.size_toArray]; unfold sizeLine; omega)
      intro h₉ F₉ N₁₂
      rw [List.push_toArray] at N₁₂
      repeat' walk1
      rename Fr _ _ _ _ => F₉
      refine min_two_N hh F₉ N₁₂ ?_
      intro h₁₀ tk₁₀ F₁₀ N₁₃
      obtain ⟨M, hM, hM1⟩ : ∃ M : Nat, (if (text.length : Int) - (q : Int) < 3 then (text.length : Int) - (q : Int) else 3) = (M : Int) ∧ (1 ≤ M ∧ M ≤ 3 ∧ q + M ≤ text.length ∧ ∀ k, k ≤ 3 → q + k ≤ text.length → k ≤ M) := by
        by_cases h : (text.length : Int) - (q : Int) < 3
        · exact ⟨text.length - q, by rw [if_pos h]; omega, by omega, by omega, by omega, fun k _ _ => by omega⟩
        · exact ⟨3, by rw [if_neg h]; rfl, by omega, by omega, by omega, fun k _ _ => by omega⟩
      rw [hM]
      repeat' ((fail_if_success (with_reducible show wpAny _ _ (pyIter _) _ _ _)); walk1)
      rename_i h₁₁ tk₁₁ r1 r2 r3 hR F₁₁ N₁₄ hkeep
      obtain ⟨mr, F₁₁, e1, e2, e3, e4, e5, emr⟩ : ∃ mr, Fr g L h₁₁ mr ∧ mr (Str.ofString "numbers") = some (.ref l) ∧ mr (Str.ofString "at") = some (.int (q : Int) t2) ∧ mr (Str.ofString "before") = some (.int ns.sum t1) ∧ mr (Str.ofString "heap") = some (.ref D) ∧ mr (Str.ofString "text") = some (.str text tt) ∧
          ∀ z, z ≠ Str.ofString "before" → [Str.ofString "top", Str.ofString "at", Str.ofString "numbers", Str.ofString "size", Str.ofString "number"].contains z = false → mr z = (if z = Str.ofString "before" then some (Value.int 0 tb₀) else if z = Str.ofString "gone" then some (Value.ref G) else if z = Str.ofString "heap" then some (Value.ref D) else
            List.lookup z [(Str.ofString "text", Value.str text tt)].reverse) := ⟨_, F₁₁, rfl, rfl, rfl, rfl, rfl, by
        intro z h2' h3
        simp only [List.contains_cons, List.contains_nil, Bool.or_false, Bool.or_eq_false_iff, beq_eq_false_iff_ne, ne_eq] at h3
        simp [kstB, h2', h3]⟩
      refine tbr_invG (n := M) (LJ (tokT text) q ns D G (listOf (gs ++ [Value.int (q : Int) t2]).toArray (ng + 1)) (vs'.map key) vs'.length tl mr) hh hR (small_one (by omega) (by omega) (by omega) (by omega)) (by rw [rangeSize_nat]; omega) F₁₁ N₁₄ ?_ ?_ ?_
      · refine ⟨vs', nv', tl, key, rfl, fun p hp => hp, I.off, fun v hv => I.items v ((hpm v).mpr (.inr hv)), hheap, fun y => ⟨fun h => .inl h, fun h => ?_⟩, Nat.le_refl _, fun _ _ _ => rfl⟩
        rcases h with h | ⟨k, x, hk, hx, _⟩
        · exact h
        · have := (g₀.pos _ _ _ hx).1; omega
      · rintro i k t m₁ nx h₁₂ tk₁₂ own hk hown ⟨vs₁, nv₁, tl₁, key₁, rfl, hsub, hoff₁, hit₁, hheap₁, hmem₁, hlen₁, hm₁⟩ F₁₂ N₁₅
        have hk' : k = 1 + (i : Int) ∧ i < M := by
          have := List.getElem?_eq_some_iff.mp hk
          obtain ⟨hi, e⟩ := this
          rw [rangeKs_length] at hi
          refine ⟨?_, hi⟩
          rw [← e]; simp [rangeKs]
        obtain ⟨rfl, hiM⟩ := hk'
        have F₁₃ : Fr g L h₁₂ _ := frame_turn F₁₂ hm₁ e1 e2 e3 e4 e5
        clear F₁₂
        have N₁₆ : News g L h₁₂ ((l, listOf us.toArray nu) :: (D, listOf vs₁.toArray nv₁) :: (G, listOf (gs ++ [Value.int (q : Int) t2]).toArray (ng + 1)) :: (tl₁ ++ own)) := fun p hp => by
          rcases List.mem_cons.mp hp with e | hp
          · rw [e]; exact N₁₅ _ (.tail _ (.tail _ (List.mem_append_left _ (hsub _ hl))))
          · exact N₁₅ _ hp
        clear N₁₅
        repeat' ((fail_if_success (with_reducible show wpAny _ _ (call (Value.builtin "dict.get") _) _ _ _)); walk1)
        rename Fr _ _ _ _ => F₁₄
        refine kdp_get1 (tok_tab (X'.keeps F₁₄.keep)) ?_ ?_
        · intro hhas t₃
          repeat' ((fail_if_success (with_reducible show wpAny _ _ (call (Value.ref _) _) _ _ _)); walk1)
          have hT := tokT_some (text := text) (q := q) (i := i) (by omega) (by omega) hhas
          generalize kdpLook tokTab (Txt.slice text (some (q : Int)) (some ((q : Int) + (1 + (i : Int))))) 0 = x at *
          rename Fr _ _ _ _ => F₁₅; rename News _ _ _ _ => N₁₇
          have hus' : IntsAre us ns := hus
          have hwl := way_len g₀ hway
          refine kmk_add_ints F₁₅ N₁₇ (PySem.IsL.isList (n := nu) (N₁₇ _ (.tail _ (.head _))).1) (vs := us) (ws := [Value.int x t₃]) (PySem.IsL.isList (n := 0) (N₁₇ _ (.head _)).1) hus' (IntsAre.cons x t₃ .nil) ?_ (by simp only [List.length_cons, List.length_nil]; unfold sizeLine; omega)
          intro l₃ us₃ h₁₄ F₁₆ N₁₈ lt₂ hus₃
          repeat' ((fail_if_success (with_reducible show wpAny _ _ (call (Value.ref _) _) _ _ _)); walk1)
          rename_i a₂ h₁₅ F₁₇ N₁₉ lt₃
          have hltA : ∀ p ∈ tl₁ ++ own, p.1 < a₂ := allLt_all lt₃.2.2.2.2.2
          have hlt3 : ∀ p ∈ tl₁ ++ own, p.1 < l₃ := fun p hp => lt₂ p (.tail _ (.tail _ (.tail _ (.tail _ hp))))
          have eit : itOf (q + (i + 1)) (ns ++ [x]) = ⟨ns.sum + x, (q : Int) + (1 + (i : Int)), ns ++ [x]⟩ := by
            have e1 : (ns ++ [x]).sum = ns.sum + x := by simp
            have e2 : ((q + (i + 1) : Nat) : Int) = (q : Int) + (1 + (i : Int)) := by omega
            unfold itOf
            rw [e1, e2]
          obtain ⟨ta, tb, hn1⟩ : ∃ ta tb, h₁₅.get? a₂ = some (tup3 (ns.sum + x) ta ((q : Int) + (1 + (i : Int))) tb l₃) ∧ a₂ ≠ L ∧ g.get? a₂ = none := ⟨_, _, N₁₉ _ (.head _)⟩
          have N₂₀ : News g L h₁₅ ((D, listOf vs₁.toArray nv₁) :: (G, listOf (gs ++ [Value.int (q : Int) t2]).toArray (ng + 1)) :: (a₂, tup3 (ns.sum + x) ta ((q : Int) + (1 + (i : Int))) tb l₃) :: (l₃, listOf us₃.toArray 0) :: (tl₁ ++ own)) := fun p hp => by
            rcases List.mem_cons.mp hp with e | hp
            · rw [e]; exact N₁₉ _ (.tail _ (.tail _ (.tail _ (.tail _ (.head _)))))
            rcases List.mem_cons.mp hp with e | hp
            · rw [e]; exact N₁₉ _ (.tail _ (.tail _ (.tail _ (.tail _ (.tail _ (.head _))))))
            rcases List.mem_cons.mp hp with e | hp
            · rw [e]; exact hn1
            rcases List.mem_cons.mp hp with e | hp
            · rw [e]; exact N₁₉ _ (.tail _ (.head _))
            · exact N₁₉ _ (.tail _ (.tail _ (.tail _ (.tail _ (.tail _ (.tail _ hp))))))
          clear N₁₉
          have hDa : D < a₂ := lt₃.2.2.2.1
          have hGa : G < a₂ := lt₃.2.2.2.2.1
          have hDl : D < l₃ := lt₂ (D, listOf vs₁.toArray nv₁) (.tail _ (.tail _ (.head _)))
          have hGl : G < l₃ := lt₂ (G, listOf (gs ++ [Value.int (q : Int) t2]).toArray (ng + 1)) (.tail _ (.tail _ (.tail _ (.head _))))
          have hoff₂ : ∀ p ∈ (a₂, tup3 (ns.sum + x) ta ((q : Int) + (1 + (i : Int))) tb l₃) :: (l₃, listOf us₃.toArray 0) :: tl₁, p.1 ≠ D ∧ p.1 ≠ G := fun p hp => by
            rcases List.mem_cons.mp hp with e | hp
            · rw [e]; exact ⟨Nat.ne_of_gt hDa, Nat.ne_of_gt hGa⟩
            rcases List.mem_cons.mp hp with e | hp
            · rw [e]; exact ⟨Nat.ne_of_gt hDl, Nat.ne_of_gt hGl⟩
            · exact hoff₁ p hp
          have hoffD₂ : ∀ p ∈ (G, listOf (gs ++ [Value.int (q : Int) t2]).toArray (ng + 1)) :: (a₂, tup3 (ns.sum + x) ta ((q : Int) + (1 + (i : Int))) tb l₃) :: (l₃, listOf us₃.toArray 0) :: (tl₁ ++ own), p.1 ≠ D := fun p hp => by
            rcases List.mem_cons.mp hp with e | hp
            · rw [e]; exact Ne.symm hDG
            rcases List.mem_cons.mp hp with e | hp
            · rw [e]; exact Nat.ne_of_gt hDa
            rcases List.mem_cons.mp hp with e | hp
            · rw [e]; exact Nat.ne_of_gt hDl
            rcases List.mem_append.mp hp with hp | hp
            · exact (hoff₁ p hp).1
            · exact hown p hp _ (.head _)
          have Ntl₂ : News g L h₁₅ ((a₂, tup3 (ns.sum + x) ta ((q : Int) + (1 + (i : Int))) tb l₃) :: (l₃, listOf us₃.toArray 0) :: tl₁) := fun p hp => N₂₀ p (.tail _ (.tail _ (by
            rcases List.mem_cons.mp hp with e | hp
            · rw [e]; exact .head _
            rcases List.mem_cons.mp hp with e | hp
            · rw [e]; exact .tail _ (.head _)
            · exact .tail _ (.tail _ (List.mem_append_left _ hp)))))
          have hitn : ItemIn ((a₂, tup3 (ns.sum + x) ta ((q : Int) + (1 + (i : Int))) tb l₃) :: (l₃, listOf us₃.toArray 0) :: tl₁) (.ref a₂) (itOf (q + (i + 1)) (ns ++ [x])) :=
            ⟨a₂, ta, tb, l₃, us₃, 0, rfl, by rw [eit]; exact .head _, .tail _ (.head _), by rw [eit]; exact hus₃⟩
          have hito : ∀ v ∈ vs₁, ItemIn ((a₂, tup3 (ns.sum + x) ta ((q : Int) + (1 + (i : Int))) tb l₃) :: (l₃, listOf us₃.toArray 0) :: tl₁) v (key₁ v) := fun v hv => (hit₁ v hv).mono fun p hp => .tail _ (.tail _ hp)
          have hkold : ∀ v ∈ vs₁, keyAdd key₁ a₂ (itOf (q + (i + 1)) (ns ++ [x])) v = key₁ v := fun v hv => keyAdd_old (hit₁ v hv) fun p hp => Nat.ne_of_lt (hltA p (List.mem_append_left _ hp))
          have hkmap : vs₁.map (keyAdd key₁ a₂ (itOf (q + (i + 1)) (ns ++ [x]))) = vs₁.map key₁ := List.map_congr_left hkold
          refine heappush_call (keyAdd key₁ a₂ (itOf (q + (i + 1)) (ns ++ [x]))) X' T' F₁₇.keep (N₂₀ _ (.head _)).1 hgD (by show A.depth + 1 + 20 < recursionLimit; omega) (by rw [units_deeper]; omega) (by omega)
            (fun v hv => by rw [hkold v hv]; exact (hito v hv).at Ntl₂ (fun p hp => (hoff₂ p hp).1)) (by rw [keyAdd_self]; exact hitn.at Ntl₂ (fun p hp => (hoff₂ p hp).1)) (by rw [hkmap]; exact hheap₁) ?_
          intro vs₂ nv₂ h₁₆ tk₁₆ hperm₂ hheap₂ hst₂ hD₂
          have F₁₈ := fr_over F₁₇ hLD hgD hst₂
          have N₂₁ := news_over N₂₀ hoffD₂ hst₂ hD₂
          clear N₂₀ Ntl₂
          repeat' ((fail_if_success (with_reducible show TbEnd _ _ _ _ _ _)); walk1)
          refine ⟨_, _, _, _, (D, listOf vs₂.toArray nv₂) :: (G, listOf (gs ++ [Value.int (q : Int) t2]).toArray (ng + 1)) :: (a₂, tup3 (ns.sum + x) ta ((q : Int) + (1 + (i : Int))) tb l₃) :: (l₃, listOf us₃.toArray 0) :: tl₁, rfl, F₁₈, N₂₁, fun p hp => ?_, fun p hp => ?_, ?_, ?_⟩
          · rcases List.mem_cons.mp hp with e | hp
            · rw [e]; exact .head _
            rcases List.mem_cons.mp hp with e | hp
            · rw [e]; exact .tail _ (.head _)
            rcases List.mem_cons.mp hp with e | hp
            · rw [e]; exact .tail _ (.tail _ (.head _))
            rcases List.mem_cons.mp hp with e | hp
            · rw [e]; exact .tail _ (.tail _ (.tail _ (.head _)))
            · exact .tail _ (.tail _ (.tail _ (.tail _ (List.mem_append_left _ hp))))
          · exact .tail _ (.tail _ (.tail _ (.tail _ (List.mem_append_right _ hp))))
          · intro p hp r hr
            rcases List.mem_cons.mp hr with e | hr
            · rw [e]; exact hown p hp (D, listOf vs₁.toArray nv₁) (.head _)
            rcases List.mem_cons.mp hr with e | hr
            · rw [e]; exact hown p hp (G, _) (.tail _ (.head _))
            rcases List.mem_cons.mp hr with e | hr
            · rw [e]; exact Nat.ne_of_lt (hltA p (List.mem_append_right _ hp))
            rcases List.mem_cons.mp hr with e | hr
            · rw [e]; exact Nat.ne_of_lt (hlt3 p (List.mem_append_right _ hp))
            · exact hown p hp r (.tail _ (.tail _ hr))
          · refine ⟨vs₂, nv₂, _, keyAdd key₁ a₂ (itOf (q + (i + 1)) (ns ++ [x])), rfl, fun p hp => .tail _ (.tail _ (hsub p hp)), hoff₂, fun v hv => ?_, hheap₂, lj_mem hmem₁ (fun y => (push_map hperm₂ hkold (keyAdd_self _ _ _) y).trans ⟨?_, ?_⟩), ?_, ?_⟩
            · rcases List.mem_append.mp (hperm₂.mem_iff.mp hv) with h | h
              · rw [hkold v h]; exact hito v h
              · rw [List.mem_singleton.mp h, keyAdd_self]; exact hitn
            · rintro (h | h)
              · exact .inl h
              · exact .inr ⟨x, hT, h⟩
            · rintro (h | ⟨x', hx, e⟩)
              · exact .inl h
              · rw [hT] at hx; cases hx; exact .inr e
            · have := hperm₂.length_eq
              simp at this
              omega
            · intro z hz1 hz2
              dsimp only
              rw [if_neg hz2, if_neg hz1]
              exact frame_back hm₁ e1 e2 e3 e4 e5 z hz1 hz2
        · intro hhas
          repeat' ((fail_if_success (with_reducible show TbEnd _ _ _ _ _ _)); walk1)
          have hT := tokT_none (text := text) (q := q) (i := i) hhas
          rename Fr _ _ _ _ => F₁₅; rename News _ _ _ _ => N₁₇
          refine ⟨_, _, _, _, (D, listOf vs₁.toArray nv₁) :: (G, listOf (gs ++ [Value.int (q : Int) t2]).toArray (ng + 1)) :: tl₁, rfl, F₁₅, N₁₇, fun p hp => ?_, fun p hp => ?_, hown, ?_⟩
          · rcases List.mem_cons.mp hp with e | hp
            · rw [e]; exact .tail _ (.head _)
            rcases List.mem_cons.mp hp with e | hp
            · rw [e]; exact .tail _ (.tail _ (.head _))
            · exact .tail _ (.tail _ (.tail _ (List.mem_append_left _ hp)))
          · exact .tail _ (.tail _ (.tail _ (List.mem_append_right _ hp)))
          · refine ⟨vs₁, nv₁, tl₁, key₁, rfl, hsub, hoff₁, hit₁, hheap₁, lj_mem hmem₁ (fun y => ⟨fun h => .inl h, fun h => ?_⟩), by omega, ?_⟩
            · rcases h with h | ⟨x, hx, _⟩
              · exact h
              · rw [hT] at hx; cases hx
            · intro z hz1 hz2
              dsimp only
              rw [if_neg hz2, if_neg hz1]
              exact frame_back hm₁ e1 e2 e3 e4 e5 z hz1 hz2
      · rintro m₁ nx h₁₂ tk₁₂ ⟨vs₁, nv₁, tl₁, key₁, rfl, hsub, hoff₁, hit₁, hheap₁, hmem₁, hlen₁, hm₁⟩ F₁₂ N₁₅
        dsimp only
        repeat' ((fail_if_success (with_reducible show KswEnd _ _ _ _ _ _ _ _ _ _ _ _)); walk1)
        have hll := left_less hin' hqn'
        refine' ksw_end (⟨vs₁, nv₁, gs ++ [Value.int (q : Int) t2], ng + 1, tl₁, ns.sum, t1, key₁, GN ++ [q]⟩ : FS) F₁₂ N₁₅ ?hn trivial ?hk ?hr ?hp ?hm
        case hn => exact fun p hp => hp
        case hm => exact (show vs₁.length + 4 * left text.length (GN ++ [q]) < (Value.ref a :: vr).length + 4 * left text.length GN by omega)
        case hp =>
          refine ⟨hoff₁, hit₁, hheap₁, ?_, dinv_new g₀ I.inv hway hmin hkm hin' hqn' (fun y => (hmem₁ y).trans ⟨?_, ?_⟩), (show vs₁.length + 4 * left text.length (GN ++ [q]) ≤ 1 + 4 * text.length by omega), (show (GN ++ [q]).length + left text.length (GN ++ [q]) ≤ text.length by simp; omega)⟩
          · show IntsAre (gs ++ [Value.int (q : Int) t2]) ((GN ++ [q]).map fun q : Nat => (q : Int))
            rw [List.map_append]
            exact IntsAre.append hgone (.cons _ _ .nil)
          · rintro (h | ⟨k, x, _, hx, e⟩)
            · exact .inl h
            · exact .inr ⟨k, x, hx, e⟩
          · rintro (h | ⟨k, x, hx, e⟩)
            · exact .inl h
            · exact .inr ⟨k, x, hM1.2.2.2 k (g₀.pos _ _ _ hx).2.1 (g₀.pos _ _ _ hx).2.2.1, hx, e⟩
        case hk =>
          intro p hp
          rw [List.mem_singleton.mp hp]
          exact (hm₁ (Str.ofString "before") (by decide) (by decide)).trans e3
        case hr =>
          intro z h2 h3
          have h2' : z ≠ Str.ofString "before" := h2 _ (.head _)
          have h3' := h3
          simp only [List.contains_cons, List.contains_nil, Bool.or_false, Bool.or_eq_false_iff, beq_eq_false_iff_ne, ne_eq] at h3'
          exact (hm₁ z h3'.2.2.2.1 h3'.2.2.2.2).trans (emr z h2' h3)
end
end Mine
namespace Mine
def signCodes : List Nat := [33, 37, 38, 40, 41, 42, 43, 44, 45, 46, 47, 58, 59, 60, 61, 62, 64, 91, 93, 94, 123, 124, 125, 126]
theorem sign_tok : (signCodes.all fun c => kdpHas tokTab ⟨#[c]⟩) = true := by decide +kernel
theorem tok_range : (tokTab.all fun p => decide (0 < p.2) && decide (p.2 < 256)) = true := by decide +kernel
theorem look_range {k : Str} (h : kdpHas tokTab k = true) : 0 < kdpLook tokTab k 0 ∧ kdpLook tokTab k 0 < 256 := by
  unfold kdpLook
  cases e : tokTab.find? fun p => decide (p.1 = k) with
  | none =>
    have := List.find?_eq_none.mp e
    obtain ⟨p, hp, hq⟩ := List.any_eq_true.mp h
    exact absurd hq (this p hp)
  | some p =>
    have hp := List.all_eq_true.mp tok_range p (List.mem_of_find?_eq_some e)
    rw [Bool.and_eq_true, decide_eq_true_eq, decide_eq_true_eq] at hp
    exact hp
theorem tokT_range {text : Str} {p k : Nat} {x : Int} (h : tokT text p k = some x) : (1 ≤ k ∧ k ≤ 3 ∧ p + k ≤ text.length) ∧ 0 < x ∧ x < 256 := by
  unfold tokT at h
  by_cases h1 : 1 ≤ k ∧ k ≤ 3 ∧ p + k ≤ text.length
  · rw [if_pos h1] at h
    by_cases h2 : kdpHas tokTab (Txt.slice text (some (p : Int)) (some ((p : Int) + (k : Int)))) = true
    · rw [if_pos h2] at h
      cases h
      exact ⟨h1, look_range h2⟩
    · rw [if_neg h2] at h; cases h
  · rw [if_neg h1] at h; cases h
theorem slice_one {text : Str} {p : Nat} (h : p < text.cps.toList.length) : Txt.slice text (some (p : Int)) (some ((p : Int) + ((1 : Nat) : Int))) = ⟨#[text.cps.toList[p]]⟩ := by
  show StrLaws.sliceText text _ _ = _
  rw [StrLaws.sliceText_plain ⟨by omega, by omega, by omega⟩]
  have e1 : ((p : Int)).toNat = p := by omega
  have e2 : ((p : Int) + ((1 : Nat) : Int) - (p : Int)).toNat = 1 := by omega
  rw [e1, e2, List.drop_eq_getElem_cons h]
  rfl
theorem good_text {text : Str} (h : ∀ c ∈ text.cps.toList, c ∈ signCodes) : GoodT (tokT text) text.length where
  pos := fun p k x hx => by have := tokT_range hx; exact ⟨this.1.1, this.1.2.1, this.1.2.2, this.2.1⟩
  one := fun p hp => by
    have hp' : p < text.cps.toList.length := by simpa [Str.length] using hp
    have hs := List.all_eq_true.mp sign_tok _ (h _ (List.getElem_mem hp'))
    unfold tokT
    rw [if_pos ⟨Nat.le_refl _, by omega, by omega⟩, slice_one hp', if_pos hs]
    exact ⟨_, rfl⟩
theorem way_range {text : Str} {p : Nat} {ns : List Int} (h : Way (tokT text) p ns) : ∀ y ∈ ns, 0 < y ∧ y < 256 := by
  induction h with
  | nil => intro y hy; cases hy
  | snoc _ hx ih =>
    intro y hy
    rcases List.mem_append.mp hy with h | h
    · exact ih y h
    · rw [List.mem_singleton.mp h]; exact (tokT_range hx).2
theorem items_all : ((List.range 24).all fun n => signCodes.contains ((Txt.charAt (Str.ofString "!%&()*+,-./:;<=>@\x5b]^{|}~") (n : Int)).getD 0)) = true := by decide +kernel
theorem item_code (k : Int) : ∀ c ∈ (Txt.item (Str.ofString "!%&()*+,-./:;<=>@\x5b]^{|}~") (k.fmod 24)).cps.toList, c ∈ signCodes := by
  have h0 := Int.fmod_nonneg_of_pos k (show (0 : Int) < 24 by decide)
  have h1 := Int.fmod_lt_of_pos k (show (0 : Int) < 24 by decide)
  obtain ⟨n, hn⟩ : ∃ n : Nat, k.fmod 24 = (n : Int) := ⟨(k.fmod 24).toNat, by omega⟩
  rw [hn] at h1 ⊢
  intro c hc
  have hc' : c = (Txt.charAt (Str.ofString "!%&()*+,-./:;<=>@\x5b]^{|}~") (n : Int)).getD 0 := by simpa [Txt.item] using hc
  have := List.all_eq_true.mp items_all n (List.mem_range.mpr (by omega))
  rw [hc']
  simpa using this
theorem app_codes (a b : Str) : (a ++ b).cps.toList = a.cps.toList ++ b.cps.toList := by
  show (a.cps ++ b.cps).toList = _
  simp
theorem join_codes : ∀ (l : List Str) (c : Nat), c ∈ (Str.join (Str.ofString "") l).cps.toList → ∃ a ∈ l, c ∈ a.cps.toList
  | [], c, h => by simp [Str.join, Str.empty] at h
  | [a], c, h => ⟨a, .head _, h⟩
  | a :: b :: r, c, h => by
    have e : Str.join (Str.ofString "") (a :: b :: r) = a ++ Str.ofString "" ++ Str.join (Str.ofString "") (b :: r) := rfl
    have z : (Str.ofString "").cps.toList = [] := by decide
    rw [e, app_codes, app_codes, z, List.append_nil, List.mem_append] at h
    rcases h with h | h
    · exact ⟨a, .head _, h⟩
    · obtain ⟨d, hd, hc⟩ := join_codes (b :: r) c h
      exact ⟨d, .tail _ hd, hc⟩
def textOf (ks : List Int) : Str := Txt.join (Str.ofString "") (ks.map fun a => Txt.item (Str.ofString "!%&()*+,-./:;<=>@\x5b]^{|}~") (a.fmod 24)) ++ Str.ofString "**=->"
theorem tail_codes : ((Str.ofString "**=->").cps.toList.all fun c => signCodes.contains c) = true := by decide +kernel
theorem text_codes (ks : List Int) : ∀ c ∈ (textOf ks).cps.toList, c ∈ signCodes := by
  intro c hc
  unfold textOf at hc
  rw [app_codes, List.mem_append] at hc
  rcases hc with h | h
  · have h' : c ∈ (Builtin.Str.glued (Str.ofString "") (ks.map fun a => Txt.item (Str.ofString "!%&()*+,-./:;<=>@\x5b]^{|}~") (a.fmod 24))).cps.toList := h
    rw [StrLaws.glued_eq_join] at h'
    obtain ⟨a, ha, hca⟩ := join_codes _ _ h'
    obtain ⟨k, _, rfl⟩ := List.mem_map.mp ha
    exact item_code k c hca
  · simpa using List.all_eq_true.mp tail_codes c h
theorem item_len (k : Int) : (Txt.item (Str.ofString "!%&()*+,-./:;<=>@\x5b]^{|}~") (k.fmod 24)).length = 1 := rfl
theorem text_len (ks : List Int) : (textOf ks).length = ks.length + 5 := by
  have e : (textOf ks).length = (Txt.join (Str.ofString "") (ks.map fun a => Txt.item (Str.ofString "!%&()*+,-./:;<=>@\x5b]^{|}~") (a.fmod 24))).length + (Str.ofString "**=->").length := by
    unfold textOf
    show (_ ++ _ : Array Nat).size = _
    rw [Array.size_append]; rfl
  rw [e, KT.join_ones _ (fun a ha => by obtain ⟨b, hb, eb⟩ := List.mem_map.1 ha; rw [← eb]; exact item_len b), List.length_map]
  rfl
end Mine
namespace Mine
/-- the row of operators as told -/
def rowStrs : List Str := ["(", ")", "[", "]", ":", ",", ";", "+", "-", "*", "/", "|", "&", "<", ">", "=", ".", "%", "{", "}", "==", "!=", "<=", ">=", "~", "^", "<<", ">>", "**", "+=", "-=", "*=", "/=", "%=", "&=", "|=", "^=", "<<=", ">>=", "**=", "//", "//=", "@", "@=", "->", "...", ":=", "!"].map Str.ofString
theorem row_split : Txt.split (Str.ofString "( ) [ ] : , ; + - * / | & < > = . % { } == != <= >= ~ ^ << >> ** " ++ Str.ofString "+= -= *= /= %= &= |= ^= <<= >>= **= // //= @ @= -> ... := !") (Str.ofString " ") = rowStrs := by decide +kernel
theorem row_len : rowStrs.length = 48 := by decide +kernel
theorem row_all : (rowStrs.all fun p => kdpHas tokTab p && (kdpLook tokTab p 0 == 7 + (rowStrs.idxOf p : Int))) = true := by decide +kernel
theorem tok_all : (tokTab.all fun p => rowStrs.any (· == p.1)) = true := by decide +kernel
theorem row_has (p : Str) : rowStrs.any (· == p) = kdpHas tokTab p := by
  cases h : rowStrs.any (· == p) with
  | true =>
    obtain ⟨q, hq, e⟩ := List.any_eq_true.mp h
    have e' : q = p := by simpa using e
    have := List.all_eq_true.mp row_all q hq
    rw [Bool.and_eq_true] at this
    rw [← e']
    exact this.1.symm
  | false =>
    cases h' : kdpHas tokTab p with
    | false => rfl
    | true =>
      obtain ⟨q, hq, e⟩ := List.any_eq_true.mp h'
      have e' : q.1 = p := by simpa using e
      have := List.all_eq_true.mp tok_all q hq
      rw [e', h] at this
      cases this
theorem row_mem {p : Str} (h : kdpHas tokTab p = true) : p ∈ rowStrs := by
  rw [← row_has] at h
  obtain ⟨q, hq, e⟩ := List.any_eq_true.mp h
  have e' : q = p := by simpa using e
  exact e' ▸ hq
theorem row_look {p : Str} (h : kdpHas tokTab p = true) : 7 + (rowStrs.idxOf p : Int) = kdpLook tokTab p 0 := by
  have := List.all_eq_true.mp row_all p (row_mem h)
  rw [Bool.and_eq_true] at this
  exact (by simpa using this.2 : kdpLook tokTab p 0 = 7 + (rowStrs.idxOf p : Int)).symm
section
variable {prog : Program} {w : World} {A : Around} {s : Shared} {h₀ : Heap} {p : Program} {loose : List Str} {mean : ExcName → Option Value} {mg mb : Str → Option Value} {Q E : Value → Shared → Prop}
theorem row_call (X : (hd.heap_39 w.params).In h₀) (T : Top p loose mean mg mb h₀) (st : h₀.StaysIn s.heap) (hroom : A.depth + 60 < recursionLimit)
    (hQ : ∀ (a : Addr) (vs : List Value) (n : Nat) (h' : Heap) (tk' : Nat), StrsAre vs rowStrs → s.heap.StaysIn h' → h'.get? a = some (listOf vs.toArray n) → s.heap.get? a = none → Q (.ref a) { s with heap := h', toks := tk' }) :
    wpAny (model prog w) A (call (.ref 59) []) Q E s := by
  w_top off
  refine' enterP (binds := []) X T st ?k6 ?k7 (by omega) ?k9 ?kB ?_ ?c2 ?c3 ?c4 ?c5
  (case k6 => k_is); (case k7 => k_is); (case k9 => exact BindsTo.of_eq rfl); (case c5 => decide); (case kB => exact locs rfl); (case c2 => exact rfl); (case c3 => exact rfl); (case c4 => exact rfl)
  intro g L h₁ hg X' T' F' N'
  rw [← hg] at hQ
  repeat' walk1
  rename_i h₂ k₂ e₂ hs F₂ N₂ _
  rw [e₂, row_split] at hs
  exact hQ _ _ _ _ _ hs F₂.keep (N₂ _ (.head _)).1 (N₂ _ (.head _)).2.2
end
theorem strs_at : ∀ {vs : List Value} {ys : List Str}, StrsAre vs ys → ∀ j (h : j < vs.length) (h' : j < ys.length), ∃ t, vs[j] = .str ys[j] t
  | _, _, .nil, j, h, _ => absurd h (by simp)
  | _, _, .cons n t r, 0, h, _ => ⟨t, by simp⟩
  | _, _, .cons n t r, j + 1, h, h' => by
    obtain ⟨u, e⟩ := strs_at r j (by simpa using h) (by simpa using h')
    exact ⟨u, by simpa using e⟩
theorem strs_len : ∀ {vs : List Value} {ys : List Str}, StrsAre vs ys → vs.length = ys.length
  | _, _, .nil => rfl
  | _, _, .cons n t r => by simp [strs_len r]
section
variable {prog : Program} {w : World} {A : Around} {E : Value → Shared → Prop} {s : Shared}
theorem index_list_strs {l : Addr} {vs : List Value} {ys : List Str} {k : Str} {t : Tok} {Q : Value → Shared → Prop} (hl : s.heap.IsList l vs.toArray) (hi : StrsAre vs ys) (hsm : ys.length < 1000)
    (hk : k ∈ ys) (h : Q (.int (ys.idxOf k : Nat) s.toks) { s with toks := s.toks + 1 }) :
    wpAny (model prog w) A (call (.builtin "list.index") [.ref l, .str k t]) Q E s := by
  obtain ⟨⟨cls, dd, data, sl⟩, ho, hc, n, hd⟩ := id hl
  simp only at hc hd
  subst hc hd
  have hlen := strs_len hi
  have hj : ys.idxOf k < ys.length := List.idxOf_lt_length_iff.mpr hk
  refine call_meets PySem.F.slot_list_index ⟨_, ho, rfl⟩ PySem.F.entry_list_index (PySem.F.args_list_index_2 _ _)
    (PySem.SeqAt.list_indexAt l vs.toArray n dd sl (.str k t) (isStrOf k) (ys.idxOf k) (by simpa [hlen] using hj) (by omega) ?_ ?_) ⟨ho, fun y hy => (eq_isStrOf k t hi y (by simpa using hy)).at _ _, h⟩
  · obtain ⟨u, e⟩ := strs_at hi (ys.idxOf k) (by omega) hj
    show isStrOf k vs[ys.idxOf k] = true
    rw [e]
    simp [isStrOf]
  · intro j hjs hlt
    obtain ⟨u, e⟩ := strs_at hi j (by simpa using hjs) (by omega)
    show isStrOf k vs[j] = false
    rw [e]
    have hne : ys[j]'(by omega) ≠ k := fun hq => by
      have h1 := List.not_of_lt_findIdx (p := (· == k)) (xs := ys) (i := j) hlt
      simp [hq] at h1
    simp [isStrOf, hne]
end
/-- the list's min, the items compared as they lie -/
theorem best_of {bt : Nat → Nat → Bool} {key : Nat → It} (hb : ∀ i j, bt i j = itLt (key i) (key j)) : ∀ k, argBest bt k ≤ k ∧ ∀ j, j ≤ k → itLt (key j) (key (argBest bt k)) = false
  | 0 => ⟨Nat.le_refl _, fun j hj => by obtain rfl : j = 0 := by omega
                                        exact itLt_irrefl _⟩
  | k + 1 => by
    obtain ⟨h1, h2⟩ := best_of hb k
    cases h : bt (k + 1) (argBest bt k) with
    | true =>
      simp only [argBest, h, if_true]
      refine ⟨Nat.le_refl _, fun j hj => ?_⟩
      by_cases e : j = k + 1
      · subst e; exact itLt_irrefl _
      · rw [hb] at h; exact itLt_of_lt_ge h (h2 j (by omega))
    | false =>
      simp only [argBest, h, Bool.false_eq_true, if_false]
      refine ⟨by omega, fun j hj => ?_⟩
      by_cases e : j = k + 1
      · subst e; rw [← hb]; exact h
      · exact h2 j (by omega)
section
variable {prog : Program} {w : World} {A : Around} {R : Result → Shared → Prop} {l I S : Addr} {vs : List Value} {base : Heap}
theorem min_loop (hh : A.handled = none) (bt : Nat → Nat → Bool)
    (hcmp : ∀ i j vi vj (s : Shared) (Q E : Value → Shared → Prop), vs[i]? = some vi → vs[j]? = some vj → base.StaysIn s.heap → Q (.bool (bt i j)) s → wpAny (model prog w) A.in1 (richCompare .Lt vi vj) Q E s)
    (hI : base.get? I = none) (hS : base.get? S = none) (hl : base.IsList l vs.toArray) (hSI : S ≠ I) :
    ∀ (k j : Nat) (s : Shared) (vb : Value) (c : Nat), vs.length - (j + 1) = k → j + 1 ≤ vs.length → s.heap.IsListIter I l (j + 1) → base.StaysIn s.heap → vs[argBest bt j]? = some vb →
    s.heap.get? S = some { cls := .type "list", dict := none, data := .seq #[vb, vb] c, slots := #[] } →
    (∀ v h' tk, vs[argBest bt (vs.length - 1)]? = some v → base.StaysIn h' → R (.ok (.ret v)) { s with heap := h', toks := tk }) →
    codeAny (model prog w) A (.builtin "min.loop" ⟨[.ref I, .none, .ref S], []⟩) R s := by
  have hname : (toString "min" ++ toString ".loop" : String) = "min.loop" := by decide
  obtain ⟨ol, hol, _⟩ := id hl
  have hlI : l ≠ I := fun e => by rw [e, hI] at hol; cases hol
  have hlS : l ≠ S := fun e => by rw [e, hS] at hol; cases hol
  have W := Walks.list (prog := prog) (w := w) (A := A.in1) hh I l hlI vs.toArray
  have hsz : vs.toArray.size = vs.length := List.size_toArray ..
  have over : ∀ h h' : Heap, base.StaysIn h → (∀ b o, b ∉ [I] → h.get? b = some o → h'.get? b = some o) → base.StaysIn h' := fun h h' k1 k2 b o e =>
    k2 b o (fun hm => by rw [List.mem_singleton.mp hm, hI] at e; cases e) (k1 b o e)
  have overS : ∀ (h : Heap) (f : Obj → Obj), base.StaysIn h → base.StaysIn (h.update S f) := fun h f k1 b o e =>
    (Heap.get?_update_other _ _ (fun q : S = b => by rw [← q, hS] at e; cases e)).trans (k1 b o e)
  intro k
  induction k with
  | zero =>
    intro j s vb c hk hj hit hst hPb hSo hR
    have hin : j + 1 = vs.length := by omega
    refine codeAny_builtin PySem.F.entry_min_loop ?_
    rw [Around.under_plainId PySem.F.plain_min_loop _]
    show wpAny _ A.in1 (seqItems? (.ref S) >>= _) _ _ s
    refine wpAny_bind (wpAny_seqItems hSo rfl ?_)
    show wpAny _ A.in1 (tryCatch (pyNext (.ref I)) _ >>= _) _ _ s
    refine wpAny_bind (wpAny_tryCatch (W.done s _ _ ⟨by rw [hsz, ← hin]; exact hit, stays_list hst hl⟩ fun h' tk hk' => ?_))
    have hS' := hk' S _ (by simpa using hSI) hSo
    show wpAny _ A.in1 (updateSeq S (fun _ => #[]) >>= _) _ _ _
    refine wpAny_bind ?_
    refine wpAny_updateSeq hS' rfl (wpAny_bind (wpAny_letGo (wpAny_pure ?_)))
    exact hR vb _ tk (by rw [← hin]; exact hPb) (overS _ _ (over _ _ hst hk'))
  | succ k ih =>
    intro j s vb c hk hj hit hst hPb hSo hR
    have hlt : j + 1 < vs.length := by omega
    refine codeAny_builtin PySem.F.entry_min_loop ?_
    rw [Around.under_plainId PySem.F.plain_min_loop _]
    show wpAny _ A.in1 (seqItems? (.ref S) >>= _) _ _ s
    refine wpAny_bind (wpAny_seqItems hSo rfl ?_)
    show wpAny _ A.in1 (tryCatch (pyNext (.ref I)) _ >>= _) _ _ s
    refine wpAny_bind (wpAny_tryCatch (W.item (j + 1) s _ _ (by rw [hsz]; exact hlt) ⟨hit, stays_list hst hl⟩ fun v h' tk hP hst' hk' => ?_))
    have hv : vs[j + 1]? = some v := by simpa using hP
    have hS' := hk' S _ (by simpa using hSI) hSo
    have hst2 := over _ _ hst hk'
    show wpAny _ A.in1 (tryCatch (holding [v, v] (richCompare .Lt v vb >>= _)) _ >>= _) _ _ _
    refine wpAny_bind (wpAny_tryCatch (wpAny_holding (wpAny_bind (hcmp (j + 1) (argBest bt j) v vb _ _ _ hv hPb hst2 ?_))))
    refine wpAny_bind (wpAny_holding (wpAny_truthy_bool ?_))
    refine wpAny_bind (wpAny_letGo (wpAny_pure ?_))
    cases hb : bt (j + 1) (argBest bt j) with
    | true =>
      simp only [if_true]
      refine wpAny_bind ?_
      refine wpAny_updateSeq hS' rfl (wpAny_bind (wpAny_letGo ?_))
      rw [hname]
      refine wpAny_pure ⟨plainId_quiet PySem.F.plain_min_loop _, ih (j + 1) _ v _ (by omega) hlt ?_ (overS _ _ hst2) (by simp only [argBest, hb, if_true]; exact hv) (Heap.get?_update_self _ hS' rfl)
        fun v' h'' tk'' hP' hk'' => hR v' h'' tk'' hP' hk''⟩
      obtain ⟨oI, hoI, hoc, hod⟩ := hst'.1
      exact ⟨oI, (Heap.get?_update_other _ _ hSI).trans hoI, hoc, hod⟩
    | false =>
      simp only [Bool.false_eq_true, if_false]
      refine wpAny_bind (wpAny_letGo ?_)
      rw [hname]
      exact wpAny_pure ⟨plainId_quiet PySem.F.plain_min_loop _, ih (j + 1) _ vb c (by omega) hlt hst'.1 hst2 (by simp only [argBest, hb, Bool.false_eq_true, if_false]; exact hPb) hS' fun v' h'' tk'' hP' hk'' => hR v' h'' tk'' hP' hk''⟩
end
section
variable {prog : Program} {w : World} {A : Around} {E : Value → Shared → Prop} {s : Shared} {l : Addr} {vs : List Value}
theorem min_call {Q : Value → Shared → Prop} (key : Value → It) (hh : A.handled = none) (hl : s.heap.IsList l vs.toArray) (hne : 0 < vs.length)
    (hcmp : ∀ x y (s' : Shared), x ∈ vs → y ∈ vs → s.heap.StaysIn s'.heap → RcLtAt A.in1 s' x y (itLt (key x) (key y)))
    (hQ : ∀ v h' tk, v ∈ vs → (∀ u ∈ vs, itLt (key u) (key v) = false) → s.heap.StaysIn h' → Q v { s with heap := h', toks := tk }) :
    wpAny (model prog w) A (call (.builtin "min") [.ref l]) Q E s := by
  have hname : (toString "min" ++ toString ".loop" : String) = "min.loop" := by decide
  obtain ⟨ol, hol, _⟩ := id hl
  have hll : l < s.heap.objs.size := Heap.lt_size hol
  refine call_function_tree PySem.F.kind_min PySem.F.plain_min PySem.F.entry_min (PySem.F.args_min1 _) ?_
  show wpAny _ A.in1 (Builtin.Builtins.bindParams "min" ["key", "default"] 0 ⟨[], []⟩ >>= _) _ _ s
  refine wpAny_bind (wpAny_of_eq (show Builtin.Builtins.bindParams "min" ["key", "default"] 0 ⟨[], []⟩ = pure [none, none] from rfl) ?_)
  refine wpAny_bind (wpAny_pure ?_)
  refine wpAny_bind (wpAny_pyIter_list hl ?_)
  refine wpAny_bind (wpAny_newObj_type ?_)
  rw [hname]
  have hS : (s.heap.push { cls := .type "list_iterator", data := .fields #[.ref l, .int 0 0] }).objs.size = s.heap.objs.size + 1 := size_push' ..
  have zI : s.heap.get? s.heap.objs.size = none := Heap.get?_none_of_le (Nat.le_refl _)
  have zS : s.heap.get? (s.heap.push { cls := .type "list_iterator", data := .fields #[.ref l, .int 0 0] }).objs.size = none := Heap.get?_none_of_le (by rw [hS]; exact Nat.le_succ _)
  have hSI : (s.heap.push { cls := .type "list_iterator", data := .fields #[.ref l, .int 0 0] }).objs.size ≠ s.heap.objs.size := by rw [hS]; exact Nat.ne_of_gt (Nat.lt_succ_self _)
  have hlI : l ≠ s.heap.objs.size := Nat.ne_of_lt hll
  refine wpAny_pure ⟨plainId_quiet PySem.F.plain_min_loop _, ?_⟩
  generalize hbt : (fun i j => itLt (key (vs.getD i .none)) (key (vs.getD j .none))) = bt
  have hb : ∀ i j, bt i j = itLt (key (vs.getD i .none)) (key (vs.getD j .none)) := fun i j => by rw [← hbt]
  have W := Walks.list (prog := prog) (w := w) (A := A.in1) hh s.heap.objs.size l hlI vs.toArray
  have hsz : vs.toArray.size = vs.length := List.size_toArray ..
  have st0 : s.heap.StaysIn ((s.heap.push { cls := .type "list_iterator", data := .fields #[.ref l, .int 0 0] }).push { cls := .type "list", data := .seq #[] }) := fun b o e => Heap.get?_push_of_some _ (Heap.get?_push_of_some _ e)
  have gI : ((s.heap.push { cls := .type "list_iterator", data := .fields #[.ref l, .int 0 0] }).push { cls := .type "list", data := .seq #[] }).get? s.heap.objs.size = some { cls := .type "list_iterator", data := .fields #[.ref l, .int 0 0] } :=
    Heap.get?_push_of_some _ (Heap.get?_push_size _ rfl)
  have gS : ((s.heap.push { cls := .type "list_iterator", data := .fields #[.ref l, .int 0 0] }).push { cls := .type "list", data := .seq #[] }).get? (s.heap.push { cls := .type "list_iterator", data := .fields #[.ref l, .int 0 0] }).objs.size = some { cls := .type "list", data := .seq #[] } := Heap.get?_push_size _ rfl
  refine codeAny_builtin PySem.F.entry_min_loop ?_
  rw [Around.under_plainId PySem.F.plain_min_loop _]
  show wpAny _ A.in1 (seqItems? (.ref _) >>= _) _ _ _
  refine wpAny_bind (wpAny_seqItems gS rfl ?_)
  show wpAny _ A.in1 (tryCatch (pyNext (.ref s.heap.objs.size)) _ >>= _) _ _ _
  refine wpAny_bind (wpAny_tryCatch (W.item 0 _ _ _ (by rw [hsz]; exact hne) ⟨⟨_, gI, rfl, rfl⟩, stays_list st0 hl⟩ fun v h' tk' hP hst' hk' => ?_))
  have hv : vs[0]? = some v := by simpa using hP
  have hS' := hk' _ _ (by simpa using hSI) gS
  have st1 : s.heap.StaysIn h' := fun b o e => hk' b o (fun hm => by rw [List.mem_singleton.mp hm, zI] at e; cases e) (st0 b o e)
  show wpAny _ A.in1 (updateSeq _ (fun _ => #[v, v]) >>= _) _ _ _
  refine wpAny_bind ?_
  refine wpAny_updateSeq hS' rfl ?_
  rw [hname]
  refine wpAny_pure ⟨plainId_quiet PySem.F.plain_min_loop _, min_loop (base := s.heap) hh bt (fun i j vi vj s' Q' E' hi hj hst hq => ?_) zI zS hl hSI _ 0 _ v _ rfl hne ?_ ?_ hv (Heap.get?_update_self _ hS' rfl) fun v' h'' tk'' hP' hk'' => ?_⟩
  · have ei : vs.getD i .none = vi := by rw [List.getD_eq_getElem?_getD, hi]; rfl
    have ej : vs.getD j .none = vj := by rw [List.getD_eq_getElem?_getD, hj]; rfl
    have := hcmp vi vj s' (List.mem_of_getElem? hi) (List.mem_of_getElem? hj) hst prog w E' Q'
    rw [hb, ei, ej] at hq
    exact this hq
  · obtain ⟨oI, hoI, hoc, hod⟩ := hst'.1
    exact ⟨oI, (Heap.get?_update_other _ _ hSI).trans hoI, hoc, hod⟩
  · exact fun b o e => (Heap.get?_update_other _ _ (fun q : _ = b => by rw [← q, zS] at e; cases e)).trans (st1 b o e)
  · obtain ⟨b1, b2⟩ := best_of hb (vs.length - 1)
    refine hQ v' h'' tk'' (List.mem_of_getElem? hP') (fun u hu => ?_) hk''
    obtain ⟨j, hj, rfl⟩ := List.getElem_of_mem hu
    have := b2 j (by omega)
    rw [List.getD_eq_getElem?_getD, List.getD_eq_getElem?_getD, hP', List.getElem?_eq_getElem hj] at this
    exact this
end
end Mine
namespace Mine
/-- what the frame is known to hold, in ifs -/
def ifs : List (Str × Value) → (Str → Option Value) → Str → Option Value
  | [], m, y => m y
  | p :: r, m, y => if y = p.1 then some p.2 else ifs r m y
theorem ifs_eq {m : Str → Option Value} : ∀ {ps : List (Str × Value)}, (∀ p ∈ ps, m p.1 = some p.2) → ∀ y, ifs ps m y = m y
  | [], _, _ => rfl
  | p :: r, h, y => by
    show (if y = p.1 then some p.2 else ifs r m y) = m y
    by_cases e : y = p.1
    · rw [if_pos e, e]; exact (h p (.head _)).symm
    · rw [if_neg e]; exact ifs_eq (fun q hq => h q (.tail _ hq)) y
theorem fr_ifs0 {g h : Heap} {L : Addr} {m : Str → Option Value} (ps : List (Str × Value)) (F : Fr g L h m) (hk : ∀ p ∈ ps, m p.1 = some p.2) : Fr g L h (ifs ps m) := by
  have e : ifs ps m = m := by funext y; rw [ifs_eq hk]
  rw [e]; exact F
theorem fr_ifs {g h : Heap} {L : Addr} {m : Str → Option Value} {x : Str} {v : Value} (ps : List (Str × Value)) (F : Fr g L h (fun y => if y = x then some v else m y)) (hk : ∀ p ∈ ps, m p.1 = some p.2) :
    Fr g L h (fun y => if y = x then some v else ifs ps m y) := by
  have e : (fun y => if y = x then some v else ifs ps m y) = fun y => if y = x then some v else m y := by funext y; rw [ifs_eq hk]
  rw [e]; exact F
section
variable {prog : Program} {w : World} {A : Around} {E : Value → Shared → Prop} {s : Shared} {env : Env} {h₀ : Heap} {x : Str} {body : List Stmt} {Q : Flow → Shared → Prop}
/-- a loop over a range downwards, by an invariant -/
theorem tbr_invD {r : Addr} {a₀ b₀ : Int} {t₀ u₀ v₀ : Tok} {n : Nat} {m₀ : Str → Option Value} {news : List (Addr × Obj)} (J : Nat → (Str → Option Value) → List (Addr × Obj) → Prop)
    (hh : A.handled = none) (hr : IsRange s.heap r a₀ b₀ (-1) t₀ u₀ v₀) (hsmall : Builtin.Range.small a₀ b₀ (-1) = true) (hn : Builtin.Range.rangeSize a₀ b₀ (-1) = (n : Int)) (F : Fr h₀ env.locals s.heap m₀) (N : News h₀ env.locals s.heap news) (hj : J 0 m₀ news)
    (turn : ∀ i t m₁ nx h tk own, i < n → TbOff own nx → J i m₁ nx → Fr h₀ env.locals h (fun y => if y = x then some (.int (a₀ - (i : Int)) t) else m₁ y) → News h₀ env.locals h (nx ++ own) →
      wpAny (model prog w) A (execs body env) (TbPost h₀ env.locals (J (i + 1)) own { s with heap := h, toks := tk } Q) E { s with heap := h, toks := tk })
    (done : ∀ m₁ nx h tk, J n m₁ nx → Fr h₀ env.locals h m₁ → News h₀ env.locals h nx → Q .next { s with heap := h, toks := tk }) :
    wpAny (model prog w) A (pyIter (.ref r)) (fun it s₂ => LoopAtV prog w A h₀ env x body Q E it s₂) E s := by
  refine wpAny_pyIter_range hr hsmall ?_
  have W : Walks prog w A s.heap.objs.size [s.heap.objs.size] [s.heap.objs.size] n (fun i v => i < n ∧ ∃ t, v = .int (a₀ + i * (-1)) t)
      (fun i h => IsRangeIter h s.heap.objs.size (a₀ + (i : Nat) * (-1)) ((n : Int) - (i : Nat)) (-1)) := (Walks.range hh _ a₀ (-1) n).bound
  refine tbr_loop J W (fun _ h => h) (fun _ h => h) ?_ ?_ ?_ ?_ (by show IsRangeIter _ _ _ _ _; rw [hn]; simpa using Heap.get?_push_size _ rfl) (F.push _) (fun p hp => ⟨Heap.get?_push_of_some _ (N p hp).1, (N p hp).2⟩) hj ?_ ?_
  · intro i h hi b hb
    rw [List.mem_singleton.mp hb]
    exact ⟨_, hi⟩
  · intro hm
    exact absurd F.ns.lt ((List.mem_singleton.mp hm) ▸ Nat.lt_irrefl _)
  · intro b hb
    rw [List.mem_singleton.mp hb]
    exact next_is_new F
  · intro p hp hI
    exact absurd (Heap.lt_size (N p hp).1) ((List.mem_singleton.mp hI) ▸ Nat.lt_irrefl _)
  · rintro i v m₁ nx h tk own hi ⟨_, t, rfl⟩ hoff hJ F₁ N₁
    have e1 : a₀ + (i : Int) * (-1) = a₀ - (i : Int) := by omega
    rw [e1] at F₁
    exact turn i t m₁ nx h tk own hi hoff hJ F₁ N₁
  · exact done
end
def tup2 (c : Int) (t : Tok) (l : Addr) : Obj := { cls := .type "tuple", data := .seq #[.int c t, .ref l] }
/-- a pair by the ledger -/
def PairIn (news : List (Addr × Obj)) (v : Value) (ns : List Int) : Prop :=
  ∃ (a : Addr) (t : Tok) (l : Addr) (us : List Value) (n : Nat), v = .ref a ∧ (a, tup2 ns.sum t l) ∈ news ∧ (l, listOf us.toArray n) ∈ news ∧ IntsAre us ns
theorem PairIn.mono {news news' : List (Addr × Obj)} {v : Value} {ns : List Int} (hs : ∀ p ∈ news, p ∈ news') (h : PairIn news v ns) : PairIn news' v ns := by
  obtain ⟨a, t, l, us, n, e, h1, h2, hi⟩ := h
  exact ⟨a, t, l, us, n, e, hs _ h1, hs _ h2, hi⟩
def PairAt (h : Heap) (v : Value) (ns : List Int) : Prop :=
  ∃ (a : Addr) (t : Tok) (l : Addr) (us : List Value), v = .ref a ∧ h.IsTuple a #[.int ns.sum t, .ref l] ∧ h.IsList l us.toArray ∧ IntsAre us ns
theorem PairAt.keeps {h h' : Heap} {v : Value} {ns : List Int} (k : h.StaysIn h') (H : PairAt h v ns) : PairAt h' v ns := by
  obtain ⟨a, t, l, us, e, ht, hl, hi⟩ := H
  exact ⟨a, t, l, us, e, stays_tup k ht, stays_list k hl, hi⟩
theorem PairIn.at {news : List (Addr × Obj)} {v : Value} {ns : List Int} {g h : Heap} {L : Addr} (N : News g L h news) (H : PairIn news v ns) : PairAt h v ns := by
  obtain ⟨a, t, l, us, n, e, h1, h2, hi⟩ := H
  exact ⟨a, t, l, us, e, isTup_of (n := 0) (N _ h1).1, PySem.IsL.isList (n := n) (N _ h2).1, hi⟩
section
variable {A : Around} {s : Shared}
open PySem.SeqAt in
theorem lt_pair {v u : Value} {ns ms : List Int} (hv : PairAt s.heap v ns) (hw : PairAt s.heap u ms) (hu : A.units + 8 < cLine) : RcLtAt A s v u (itLt (itOf 0 ns) (itOf 0 ms)) := by
  obtain ⟨a, t1, l, vs, rfl, ht, hl, hi⟩ := hv
  obtain ⟨b, u1, l', us, rfl, ht', hl', hi'⟩ := hw
  have R := RcLtAt.tuples (A := A) (e := fun j => match j with | 0 => ns.sum == ms.sum | _ => decide (ns = ms))
    (lt := fun j => match j with | 0 => decide (ns.sum < ms.sum) | _ => lexI ns ms) ht ht' (by omega) (fun j h1 h2 => by
      match j, h1 with
      | 0, _ => exact EqAt.int_int _ _ _ _
      | 1, _ => exact eqAt_ints hl hl' hi hi' (by simp; omega)) (fun j h1 h2 _ => by
      match j, h1 with
      | 0, _ => exact RcLtAt.int_int _ _ _ _
      | 1, _ => exact ltAt_ints hl hl' hi hi' (by simp; omega))
  have e : lexAt (fun j => match j with | 0 => ns.sum == ms.sum | _ => decide (ns = ms)) (fun j => match j with | 0 => decide (ns.sum < ms.sum) | _ => lexI ns ms) 2 2 2 0 = itLt (itOf 0 ns) (itOf 0 ms) := by
    simp only [lexAt, itLt, itOf, beq_iff_eq, decide_eq_true_eq]
    by_cases h1 : ns.sum = ms.sum <;> by_cases h3 : ns = ms <;> simp [h1, h3, lexI_irrefl] <;> rfl
  rw [← e]
  exact R
end
/-- what holds between the turns of the outer loop -/
def LE (T : Nat → Nat → Option Int) (n : Nat) (Ed R : Addr) (oR : Obj) (m₀ : Str → Option Value) (i : Nat) (m : Str → Option Value) (nx : List (Addr × Obj)) : Prop :=
  ∃ (es : List Value) (ne : Nat) (tl : List (Addr × Obj)) (bs : Nat → List Int), nx = (Ed, listOf es.toArray ne) :: (R, oR) :: tl ∧ (∀ p ∈ tl, p.1 ≠ Ed ∧ p.1 ≠ R) ∧ es.length = i + 1 ∧
    (∀ j, j ≤ i → BestC T n (n - j) (bs (n - j)) ∧ PairIn tl (es.getD j .none) (bs (n - j))) ∧
    ∀ z, [Str.ofString "at", Str.ofString "ways", Str.ofString "size", Str.ofString "piece", Str.ofString "number", Str.ofString "cost", Str.ofString "numbers"].contains z = false → m z = m₀ z
/-- what holds between the turns of the inner loop -/
def LW (T : Nat → Nat → Option Int) (p : Nat) (bs : Nat → List Int) (W Ed R : Addr) (oE oR : Obj) (tl : List (Addr × Obj)) (m₀ : Str → Option Value) (i : Nat) (m : Str → Option Value) (nx : List (Addr × Obj)) : Prop :=
  ∃ (ws : List Value) (nw : Nat) (nws : List (Addr × Obj)) (key : Value → List Int), nx = (W, listOf ws.toArray nw) :: (Ed, oE) :: (R, oR) :: (nws ++ tl) ∧ (∀ q ∈ nws, q.1 ≠ W ∧ q.1 ≠ Ed ∧ q.1 ≠ R ∧ ∀ p ∈ tl, p.1 ≠ q.1) ∧
    (∀ v ∈ ws, PairIn nws v (key v)) ∧ (∀ y, y ∈ ws.map key ↔ ∃ k x, k ≤ i ∧ T p k = some x ∧ y = x :: bs (p + k)) ∧ ws.length ≤ i ∧
    ∀ z, [Str.ofString "size", Str.ofString "piece", Str.ofString "number", Str.ofString "cost", Str.ofString "numbers"].contains z = false → m z = m₀ z
end Mine
namespace Mine
def keyAddL (key : Value → List Int) (a : Addr) (e : List Int) : Value → List Int
  | .ref b => if b = a then e else key (.ref b)
  | v => key v
theorem keyAddL_self (key : Value → List Int) (a : Addr) (e : List Int) : keyAddL key a e (.ref a) = e := by simp [keyAddL]
theorem keyAddL_old {key : Value → List Int} {a : Addr} {e : List Int} {tl : List (Addr × Obj)} {v : Value} {x : List Int} (h : PairIn tl v x) (hlt : ∀ p ∈ tl, p.1 ≠ a) : keyAddL key a e v = key v := by
  obtain ⟨b, t, l, us, n, rfl, hm, _⟩ := h
  have := hlt _ hm
  simp only at this
  simp [keyAddL, this]
theorem push_mapL {key key₂ : Value → List Int} {vs : List Value} {v : Value} {e : List Int} (hk : ∀ u ∈ vs, key₂ u = key u) (hv : key₂ v = e) (y : List Int) : y ∈ (vs ++ [v]).map key₂ ↔ y ∈ vs.map key ∨ y = e := by
  rw [List.map_append, List.mem_append, List.map_congr_left hk, List.map_singleton, List.mem_singleton, hv]
theorem lw_mem {T : Nat → Nat → Option Int} {q i : Nat} {bs : Nat → List Int} {H H' : List (List Int)} (h : ∀ y, y ∈ H ↔ ∃ k x, k ≤ i ∧ T q k = some x ∧ y = x :: bs (q + k))
    (h' : ∀ y, y ∈ H' ↔ y ∈ H ∨ ∃ x, T q (i + 1) = some x ∧ y = x :: bs (q + (i + 1))) (y : List Int) : y ∈ H' ↔ ∃ k x, k ≤ i + 1 ∧ T q k = some x ∧ y = x :: bs (q + k) := by
  rw [h', h]
  constructor
  · rintro (⟨k, x, hk, hx, e⟩ | ⟨x, hx, e⟩)
    · exact ⟨k, x, by omega, hx, e⟩
    · exact ⟨i + 1, x, Nat.le_refl _, hx, e⟩
  · rintro ⟨k, x, hk, hx, e⟩
    by_cases hk' : k ≤ i
    · exact .inl ⟨k, x, hk', hx, e⟩
    · obtain rfl : k = i + 1 := by omega
      exact .inr ⟨x, hx, e⟩
theorem cut_len {T : Nat → Nat → Option Int} {n p : Nat} {ns : List Int} (g : GoodT T n) (h : Cut T n p ns) : ns.length + p ≤ n := by
  induction h with
  | nil => simp
  | cons hx _ ih => have := g.pos _ _ _ hx; simp; omega
/-- how many pieces are looked at (kept from the arithmetic till it is wanted) -/
structure MB (n q M : Nat) : Prop where
  all : 1 ≤ M ∧ M ≤ 3 ∧ q + M ≤ n ∧ ∀ k, k ≤ 3 → q + k ≤ n → k ≤ M
section
variable {prog : Program} {w : World} {A : Around} {s : Shared} {h₀ : Heap} {p : Program} {loose : List Str} {mean : ExcName → Option Value} {mg mb : Str → Option Value} {Q E : Value → Shared → Prop}
theorem cheapest_call {text : Str} {tt : Tok} (X : (hd.heap_39 w.params).In h₀) (T : Top p loose mean mg mb h₀) (st : h₀.StaysIn s.heap)
    (hh : A.handled = none) (hroom : A.depth + 80 < recursionLimit) (hu : A.units + 800 < cLine) (hlen : text.length ≤ 100) (g₀ : GoodT (tokT text) text.length)
    (hQ : ∀ (a l : Addr) (tc : Tok) (vs : List Value) (ns : List Int) (n n' : Nat) (h' : Heap) (tk' : Nat), BestC (tokT text) text.length 0 ns → s.heap.StaysIn h' → h'.get? a = some { cls := .type "tuple", data := .seq #[.int ns.sum tc, .ref l] n } → h'.get? l = some (listOf vs.toArray n') → IntsAre vs ns →
      Q (.ref a) { s with heap := h', toks := tk' }) :
    wpAny (model prog w) A (call (.ref 73) [.str text tt]) Q E s := by
  w_top off
  refine' enterP (binds := [(Str.ofString "text", .str text tt)]) X T st ?k6 ?k7 (by omega) ?k9 ?kB ?_ ?c2 ?c3 ?c4 ?c5
  (case k6 => k_is); (case k7 => k_is); (case k9 => exact BindsTo.of_eq rfl); (case c5 => decide); (case kB => exact locs rfl); (case c2 => exact rfl); (case c3 => exact rfl); (case c4 => exact rfl)
  intro g L h₁ hg X' T' F' N'
  rw [← hg] at hQ
  repeat' ((fail_if_success (with_reducible show wpAny _ _ (call (Value.ref _) _) _ _ _)); walk1)
  refine row_call X' T' F'.keep (by show A.depth + 1 + 60 < recursionLimit; omega) ?_
  intro R rs nr h₂ tk₂ hrs hst₂ hR hnR
  have F₂ : Fr g L h₂ _ := F'.grownK hst₂
  have N₂ : News g L h₂ [(R, listOf rs.toArray nr)] := fun p hp => by
    rw [List.mem_singleton.mp hp]
    refine ⟨hR, fun e => ?_, ?_⟩
    · obtain ⟨oL, _, _, hL, _⟩ := F'.ns
      have e' : R = L := e
      rw [e'] at hnR
      rw [hL] at hnR
      cases hnR
    · cases e : g.get? R with
      | none => rfl
      | some o => have := F'.keep _ _ e; rw [hnR] at this; cases this
  clear F' N'
  repeat' ((fail_if_success (with_reducible show wpAny _ _ (pyIter _) _ _ _)); walk1)
  rename_i l₀ hA lA D₀ hB lB Ed hC lC hD Fo No hE tkE t1 u1 v1 hIR F₃ N₃ hkeep
  obtain ⟨t₀, N₄⟩ : ∃ t₀, News g L hE ((Ed, listOf [Value.ref D₀].toArray 0) :: (R, listOf rs.toArray nr) :: [(D₀, tup2 0 t₀ l₀), (l₀, listOf ([] : List Value).toArray 0)]) := ⟨_, fun p hp => by
    rcases List.mem_cons.mp hp with e | hp
    · rw [e]; exact N₃ _ (.head _)
    rcases List.mem_cons.mp hp with e | hp
    · rw [e]; exact N₃ _ (.tail _ (.tail _ (.tail _ (.head _))))
    rcases List.mem_cons.mp hp with e | hp
    · rw [e]; exact N₃ _ (.tail _ (.head _))
    rcases List.mem_cons.mp hp with e | hp
    · rw [e]; exact N₃ _ (.tail _ (.tail _ (.head _)))
    · cases hp⟩
  clear N₃ No Fo
  obtain ⟨mr, F₃, e1, e2, e3⟩ : ∃ mr, Fr g L hE mr ∧ mr (Str.ofString "text") = some (.str text tt) ∧ mr (Str.ofString "row") = some (.ref R) ∧ mr (Str.ofString "ends") = some (.ref Ed) := ⟨_, F₃, rfl, rfl, rfl⟩
  have hER : Ed ≠ R := Nat.ne_of_gt lC.2.2
  refine tbr_invD (n := text.length) (LE (tokT text) text.length Ed R (listOf rs.toArray nr) mr) hh hIR (small_down (by omega) (by omega) (by omega) (by omega)) (by rw [rangeSize_downNat]; omega) F₃ N₄ ?_ ?_ ?_
  · refine ⟨[.ref D₀], 0, _, fun _ => [], rfl, fun p hp => ?_, rfl, fun j hj => ⟨?_, ?_⟩, fun _ _ => rfl⟩
    · rcases List.mem_cons.mp hp with e | hp
      · rw [e]; exact ⟨Nat.ne_of_lt lC.1, Nat.ne_of_gt lB.2⟩
      · rw [List.mem_singleton.mp hp]; exact ⟨Nat.ne_of_lt lC.2.1, Nat.ne_of_gt lA⟩
    · obtain rfl : j = 0 := by omega
      exact bestC_nil g₀
    · obtain rfl : j = 0 := by omega
      exact ⟨D₀, t₀, l₀, [], 0, rfl, .head _, .tail _ (.head _), .nil⟩
  · rintro i t m₁ nx h₄ tk₄ own hi hown ⟨es, ne, tl, bs, rfl, hoff, hel, hbs, hm₁⟩ F₄ N₅
    obtain ⟨q, hq, hqi⟩ : ∃ q : Nat, (text.length : Int) - 1 - (i : Int) = (q : Int) ∧ q + i + 1 = text.length := ⟨text.length - 1 - i, by omega, by omega⟩
    rw [hq] at F₄
    have hkn : ∀ p ∈ [(Str.ofString "text", Value.str text tt), (Str.ofString "row", .ref R), (Str.ofString "ends", .ref Ed)], m₁ p.1 = some p.2 := by
      intro p hp
      rcases List.mem_cons.mp hp with e | hp
      · rw [e]; exact (hm₁ (Str.ofString "text") (by decide)).trans e1
      rcases List.mem_cons.mp hp with e | hp
      · rw [e]; exact (hm₁ (Str.ofString "row") (by decide)).trans e2
      rcases List.mem_cons.mp hp with e | hp
      · rw [e]; exact (hm₁ (Str.ofString "ends") (by decide)).trans e3
      · cases hp
    have F₅ : Fr g L h₄ (fun y => if y = Str.ofString "at" then some (.int (q : Int) t) else if y = Str.ofString "text" then some (.str text tt) else if y = Str.ofString "row" then some (.ref R) else if y = Str.ofString "ends" then some (.ref Ed) else m₁ y) :=
      fr_ifs _ F₄ hkn
    have N₆ : News g L h₄ ((Ed, listOf es.toArray ne) :: (R, listOf rs.toArray nr) :: (tl ++ own)) := N₅
    clear F₄ N₅
    repeat' walk1
    rename_i W hF lW hG F₆ N₇
    refine min_two_N hh F₆ N₇ ?_
    intro h₅ tk₅ F₇ N₈
    clear F₆ N₇
    obtain ⟨M, hM, hM1⟩ : ∃ M : Nat, (if (text.length : Int) - (q : Int) < 3 then (text.length : Int) - (q : Int) else 3) = (M : Int) ∧ MB text.length q M := by
      by_cases h : (text.length : Int) - (q : Int) < 3
      · exact ⟨text.length - q, by rw [if_pos h]; omega, ⟨by omega, by omega, by omega, fun k _ _ => by omega⟩⟩
      · exact ⟨3, by rw [if_neg h]; rfl, ⟨by omega, by omega, by omega, fun k _ _ => by omega⟩⟩
    rw [hM]
    clear hM
    repeat' ((fail_if_success (with_reducible show wpAny _ _ (pyIter _) _ _ _)); walk1)
    rename_i h₆ tk₆ r1 r2 r3 hR₂ F₈ N₉ hkeep₂
    have hM1 := hM1.all
    obtain ⟨ms, F₈, c1, c2, c3, c4, c5, ems⟩ : ∃ ms, Fr g L h₆ ms ∧ ms (Str.ofString "text") = some (.str text tt) ∧ ms (Str.ofString "row") = some (.ref R) ∧ ms (Str.ofString "ends") = some (.ref Ed) ∧ ms (Str.ofString "ways") = some (.ref W) ∧ ms (Str.ofString "at") = some (.int (q : Int) t) ∧
        ∀ z, [Str.ofString "at", Str.ofString "ways", Str.ofString "size", Str.ofString "piece", Str.ofString "number", Str.ofString "cost", Str.ofString "numbers"].contains z = false → ms z = mr z := ⟨_, F₈, rfl, rfl, rfl, rfl, rfl, fun z hz => by
      have hz' := hz
      simp only [List.contains_cons, List.contains_nil, Bool.or_false, Bool.or_eq_false_iff, beq_eq_false_iff_ne, ne_eq] at hz'
      rw [if_neg hz'.2.1, if_neg hz'.1]
      exact (ifs_eq (ps := [(Str.ofString "text", .str text tt), (Str.ofString "row", .ref R), (Str.ofString "ends", .ref Ed)]) hkn z).trans (hm₁ z hz)⟩
    have hWE : W ≠ Ed := Nat.ne_of_gt lW.1
    have hWR : W ≠ R := Nat.ne_of_gt lW.2.1
    have hWl : ∀ p ∈ tl ++ own, p.1 < W := allLt_all lW.2.2
    refine tbr_invG (n := M) (LW (tokT text) q bs W Ed R (listOf es.toArray ne) (listOf rs.toArray nr) (tl ++ own) ms) hh hR₂ (small_one (by omega) (by omega) (by omega) (by omega)) (by rw [rangeSize_nat]; omega) F₈ N₉ ?_ ?_ ?_
    · refine ⟨[], 0, [], fun _ => [], rfl, (fun p hp => nomatch hp), (fun v hv => nomatch hv), fun y => ⟨(fun h => nomatch h), ?_⟩, Nat.le_refl _, fun _ _ => rfl⟩
      rintro ⟨k, x, hk, hx, _⟩
      have := (g₀.pos _ _ _ hx).1; omega
    · rintro i₂ k t₃ m₂ nx h₇ tk₇ own₂ hk hown₂ ⟨ws, nw, nws, key, rfl, hnw, hitw, hmemw, hlenw, hm₂⟩ F₉ N₁₀
      have hk' : k = 1 + (i₂ : Int) ∧ i₂ < M := by
        obtain ⟨hi, e⟩ := List.getElem?_eq_some_iff.mp hk
        rw [rangeKs_length] at hi
        refine ⟨?_, hi⟩
        rw [← e]; simp [rangeKs]
      obtain ⟨rfl, hiM⟩ := hk'
      have hkn₂ : ∀ p ∈ [(Str.ofString "text", Value.str text tt), (Str.ofString "row", .ref R), (Str.ofString "ends", .ref Ed), (Str.ofString "ways", .ref W), (Str.ofString "at", .int (q : Int) t)], m₂ p.1 = some p.2 := by
        intro p hp
        rcases List.mem_cons.mp hp with e | hp
        · rw [e]; exact (hm₂ (Str.ofString "text") (by decide)).trans c1
        rcases List.mem_cons.mp hp with e | hp
        · rw [e]; exact (hm₂ (Str.ofString "row") (by decide)).trans c2
        rcases List.mem_cons.mp hp with e | hp
        · rw [e]; exact (hm₂ (Str.ofString "ends") (by decide)).trans c3
        rcases List.mem_cons.mp hp with e | hp
        · rw [e]; exact (hm₂ (Str.ofString "ways") (by decide)).trans c4
        rcases List.mem_cons.mp hp with e | hp
        · rw [e]; exact (hm₂ (Str.ofString "at") (by decide)).trans c5
        · cases hp
      have F₁₀ : Fr g L h₇ (fun y => if y = Str.ofString "size" then some (.int (1 + (i₂ : Int)) t₃) else if y = Str.ofString "text" then some (.str text tt) else if y = Str.ofString "row" then some (.ref R) else if y = Str.ofString "ends" then some (.ref Ed) else
          if y = Str.ofString "ways" then some (.ref W) else if y = Str.ofString "at" then some (.int (q : Int) t) else m₂ y) := fr_ifs _ F₉ hkn₂
      have N₁₁ : News g L h₇ ((W, listOf ws.toArray nw) :: (Ed, listOf es.toArray ne) :: (R, listOf rs.toArray nr) :: (nws ++ (tl ++ own) ++ own₂)) := N₁₀
      clear F₉ N₁₀
      repeat' ((fail_if_success (with_reducible show wpAny _ _ (compareOp CmpOp.In _ _) _ _ _)); walk1)
      rename Fr _ _ _ _ => F₁₁; rename News _ _ _ _ => N₁₂
      refine in_list_strs (PySem.IsL.isList (n := nr) (N₁₂ _ (.tail _ (.tail _ (.head _)))).1) hrs ?_
      rw [row_has]
      cases hhas : kdpHas tokTab (Txt.slice text (some (q : Int)) (some ((q : Int) + (1 + (i₂ : Int))))) with
      | true =>
        repeat' ((fail_if_success (with_reducible show wpAny _ _ (call (Value.builtin "list.index") _) _ _ _)); walk1)
        refine index_list_strs (PySem.IsL.isList (n := nr) (N₁₂ _ (.tail _ (.tail _ (.head _)))).1) hrs (by rw [row_len]; omega) (row_mem hhas) ?_
        repeat' ((fail_if_success (with_reducible show wpAny _ _ (subscriptTail _ _ _ _) _ _ _)); walk1)
        rename Fr _ _ _ _ => F₁₂; rename News _ _ _ _ => N₁₃
        rw [row_look hhas] at F₁₂
        have hT := tokT_some (text := text) (q := q) (i := i₂) (by omega) (by omega) hhas
        generalize kdpLook tokTab (Txt.slice text (some (q : Int)) (some ((q : Int) + (1 + (i₂ : Int))))) 0 = x at *
        have hii : i₂ ≤ i := by omega
        have hej : (-(1 + (i₂ : Int)) + (es.length : Int)).toNat = i - i₂ := by omega
        refine kim_back (l := es) N₁₃ (.tail _ (.head _)) rfl rfl (by omega) (by omega) (by omega) (x := es.getD (i - i₂) .none) (by rw [hej, List.getD_eq_getElem?_getD, List.getElem?_eq_getElem (by omega)]; rfl) ?_
        obtain ⟨hbc, hpi⟩ := hbs (i - i₂) (by omega)
        rw [show text.length - (i - i₂) = q + (i₂ + 1) by omega] at hbc hpi
        generalize es.getD (i - i₂) .none = v₀ at *
        obtain ⟨a, ta, la, us, nu, rfl, ha, hl, hus⟩ := hpi
        have N₁₄ : News g L _ ((a, { cls := .type "tuple", data := .seq #[.int (bs (q + (i₂ + 1))).sum ta, .ref la] }) :: (la, listOf us.toArray nu) :: (W, listOf ws.toArray nw) :: (Ed, listOf es.toArray ne) :: (R, listOf rs.toArray nr) :: (nws ++ (tl ++ own) ++ own₂)) := fun p hp => by
          rcases List.mem_cons.mp hp with e | hp
          · rw [e]; exact N₁₃ _ (.tail _ (.tail _ (.tail _ (List.mem_append_left _ (List.mem_append_right _ (List.mem_append_left _ ha))))))
          rcases List.mem_cons.mp hp with e | hp
          · rw [e]; exact N₁₃ _ (.tail _ (.tail _ (.tail _ (List.mem_append_left _ (List.mem_append_right _ (List.mem_append_left _ hl))))))
          · exact N₁₃ _ hp
        clear N₁₃
        repeat' walk1
        refine unpackN_ F₁₂ N₁₄ (News.isTup N₁₄ (.head _)) hh rfl rfl ?_
        intro h₈ F₁₃ N₁₅
        clear F₁₂ N₁₄
        repeat' walk1
        rename Fr _ _ _ _ => F₁₄; rename News _ _ _ _ => N₁₆
        rename_i lt₁
        have hcl := cut_len g₀ hbc.1
        refine kmk_add_ints F₁₄ N₁₆ (vs := [Value.int x _]) (ws := us) (PySem.IsL.isList (n := 0) (N₁₆ _ (.head _)).1) (PySem.IsL.isList (n := nu) (N₁₆ _ (.tail _ (.tail _ (.head _)))).1) (IntsAre.cons x _ .nil) hus ?_ (by simp only [List.length_cons, List.length_nil]; unfold sizeLine; omega)
        intro l₃ us₃ h₉ F₁₅ N₁₇ lt₂ hus₃
        clear F₁₄ N₁₆
        repeat' walk1
        rename_i a₂ h₁₀ F₁₆ N₁₈ lt₃
        have hltA : ∀ p ∈ nws ++ (tl ++ own) ++ own₂, p.1 < a₂ := allLt_all lt₃.2.2.2.2.2.2.2
        have hlt3 : ∀ p ∈ nws ++ (tl ++ own) ++ own₂, p.1 < l₃ := fun p hp => lt₂ p (.tail _ (.tail _ (.tail _ (.tail _ (.tail _ (.tail _ hp))))))
        have hWa : W < a₂ := lt₃.2.2.2.2.1
        have hEa : Ed < a₂ := lt₃.2.2.2.2.2.1
        have hRa : R < a₂ := lt₃.2.2.2.2.2.2.1
        have hWl3 : W < l₃ := lt₂ (W, listOf ws.toArray nw) (.tail _ (.tail _ (.tail _ (.head _))))
        have hEl3 : Ed < l₃ := lt₂ (Ed, listOf es.toArray ne) (.tail _ (.tail _ (.tail _ (.tail _ (.head _)))))
        have hRl3 : R < l₃ := lt₂ (R, listOf rs.toArray nr) (.tail _ (.tail _ (.tail _ (.tail _ (.tail _ (.head _))))))
        obtain ⟨tb, hn1⟩ : ∃ tb, h₁₀.get? a₂ = some (tup2 (x :: bs (q + (i₂ + 1))).sum tb l₃) ∧ a₂ ≠ L ∧ g.get? a₂ = none := ⟨_, by rw [List.sum_cons]; exact N₁₈ _ (.head _)⟩
        have N₁₉ : News g L h₁₀ ((W, listOf ws.toArray nw) :: (Ed, listOf es.toArray ne) :: (R, listOf rs.toArray nr) :: (a₂, tup2 (x :: bs (q + (i₂ + 1))).sum tb l₃) :: (l₃, listOf us₃.toArray 0) :: (nws ++ (tl ++ own) ++ own₂)) := fun p hp => by
          rcases List.mem_cons.mp hp with e | hp
          · rw [e]; exact N₁₈ _ (.tail _ (.tail _ (.tail _ (.tail _ (.tail _ (.head _))))))
          rcases List.mem_cons.mp hp with e | hp
          · rw [e]; exact N₁₈ _ (.tail _ (.tail _ (.tail _ (.tail _ (.tail _ (.tail _ (.head _)))))))
          rcases List.mem_cons.mp hp with e | hp
          · rw [e]; exact N₁₈ _ (.tail _ (.tail _ (.tail _ (.tail _ (.tail _ (.tail _ (.tail _ (.head _))))))))
          rcases List.mem_cons.mp hp with e | hp
          · rw [e]; exact hn1
          rcases List.mem_cons.mp hp with e | hp
          · rw [e]; exact N₁₈ _ (.tail _ (.head _))
          · exact N₁₈ _ (.tail _ (.tail _ (.tail _ (.tail _ (.tail _ (.tail _ (.tail _ (.tail _ hp))))))))
        clear N₁₈
        refine append_K F₁₆ N₁₉ (.head (fun p hp => ?_)) ?_ (by rw [List.size_toArray]; unfold sizeLine; omega)
        · rcases List.mem_cons.mp hp with e | hp
          · rw [e]; exact Ne.symm hWE
          rcases List.mem_cons.mp hp with e | hp
          · rw [e]; exact Ne.symm hWR
          rcases List.mem_cons.mp hp with e | hp
          · rw [e]; exact Nat.ne_of_gt hWa
          rcases List.mem_cons.mp hp with e | hp
          · rw [e]; exact Nat.ne_of_gt hWl3
          rcases List.mem_append.mp hp with hp | hp
          · rcases List.mem_append.mp hp with hp | hp
            · exact (hnw p hp).1
            · exact Nat.ne_of_lt (hWl p hp)
          · exact hown₂ p hp _ (.head _)
        intro h₁₁ F₁₇ N₂₀
        rw [List.push_toArray] at N₂₀
        repeat' ((fail_if_success (with_reducible show TbEnd _ _ _ _ _ _)); walk1)
        have hpn : PairIn ((a₂, tup2 (x :: bs (q + (i₂ + 1))).sum tb l₃) :: (l₃, listOf us₃.toArray 0) :: nws) (.ref a₂) (x :: bs (q + (i₂ + 1))) := ⟨a₂, tb, l₃, us₃, 0, rfl, .head _, .tail _ (.head _), hus₃⟩
        have hkold : ∀ v ∈ ws, keyAddL key a₂ (x :: bs (q + (i₂ + 1))) v = key v := fun v hv => keyAddL_old (hitw v hv) fun p hp => Nat.ne_of_lt (hltA p (List.mem_append_left _ (List.mem_append_left _ hp)))
        refine ⟨_, _, _, _, (W, listOf (ws ++ [Value.ref a₂]).toArray (nw + 1)) :: (Ed, listOf es.toArray ne) :: (R, listOf rs.toArray nr) :: (((a₂, tup2 (x :: bs (q + (i₂ + 1))).sum tb l₃) :: (l₃, listOf us₃.toArray 0) :: nws) ++ (tl ++ own)), rfl, F₁₇, N₂₀, fun p hp => ?_, fun p hp => ?_, ?_, ?_⟩
        · rcases List.mem_cons.mp hp with e | hp
          · rw [e]; exact .head _
          rcases List.mem_cons.mp hp with e | hp
          · rw [e]; exact .tail _ (.head _)
          rcases List.mem_cons.mp hp with e | hp
          · rw [e]; exact .tail _ (.tail _ (.head _))
          rcases List.mem_cons.mp hp with e | hp
          · rw [e]; exact .tail _ (.tail _ (.tail _ (.head _)))
          rcases List.mem_cons.mp hp with e | hp
          · rw [e]; exact .tail _ (.tail _ (.tail _ (.tail _ (.head _))))
          · exact .tail _ (.tail _ (.tail _ (.tail _ (.tail _ (List.mem_append_left _ hp)))))
        · exact .tail _ (.tail _ (.tail _ (.tail _ (.tail _ (List.mem_append_right _ hp)))))
        · intro p hp r hr
          rcases List.mem_cons.mp hr with e | hr
          · rw [e]; exact hown₂ p hp (W, listOf ws.toArray nw) (.head _)
          rcases List.mem_cons.mp hr with e | hr
          · rw [e]; exact hown₂ p hp (Ed, listOf es.toArray ne) (.tail _ (.head _))
          rcases List.mem_cons.mp hr with e | hr
          · rw [e]; exact hown₂ p hp (R, listOf rs.toArray nr) (.tail _ (.tail _ (.head _)))
          rcases List.mem_cons.mp hr with e | hr
          · rw [e]; exact Nat.ne_of_lt (hltA p (List.mem_append_right _ hp))
          rcases List.mem_cons.mp hr with e | hr
          · rw [e]; exact Nat.ne_of_lt (hlt3 p (List.mem_append_right _ hp))
          · exact hown₂ p hp r (.tail _ (.tail _ (.tail _ hr)))
        · refine ⟨ws ++ [Value.ref a₂], nw + 1, (a₂, tup2 (x :: bs (q + (i₂ + 1))).sum tb l₃) :: (l₃, listOf us₃.toArray 0) :: nws, keyAddL key a₂ (x :: bs (q + (i₂ + 1))), rfl, fun p hp => ?_, fun v hv => ?_, lw_mem hmemw (fun y => (push_mapL hkold (keyAddL_self _ _ _) y).trans ⟨?_, ?_⟩), by simp; omega, ?_⟩
          · rcases List.mem_cons.mp hp with e | hp
            · rw [e]; exact ⟨Nat.ne_of_gt hWa, Nat.ne_of_gt hEa, Nat.ne_of_gt hRa, fun r hr => Nat.ne_of_lt (hltA r (List.mem_append_left _ (List.mem_append_right _ hr)))⟩
            rcases List.mem_cons.mp hp with e | hp
            · rw [e]; exact ⟨Nat.ne_of_gt hWl3, Nat.ne_of_gt hEl3, Nat.ne_of_gt hRl3, fun r hr => Nat.ne_of_lt (hlt3 r (List.mem_append_left _ (List.mem_append_right _ hr)))⟩
            · exact hnw p hp
          · rcases List.mem_append.mp hv with h | h
            · rw [hkold v h]; exact (hitw v h).mono fun p hp => .tail _ (.tail _ hp)
            · rw [List.mem_singleton.mp h, keyAddL_self]; exact hpn
          · rintro (h | h)
            · exact .inl h
            · exact .inr ⟨x, hT, h⟩
          · rintro (h | ⟨x', hx, e⟩)
            · exact .inl h
            · rw [hT] at hx; cases hx; exact .inr e
          · intro z hz
            have hz' := hz
            simp only [List.contains_cons, List.contains_nil, Bool.or_false, Bool.or_eq_false_iff, beq_eq_false_iff_ne, ne_eq] at hz'
            dsimp only
            rw [if_neg hz'.2.2.2.2, if_neg hz'.2.2.2.1, if_neg hz'.2.2.1, if_neg hz'.2.1, if_neg hz'.1]
            exact (ifs_eq hkn₂ z).trans (hm₂ z hz)
      | false =>
        repeat' ((fail_if_success (with_reducible show TbEnd _ _ _ _ _ _)); walk1)
        have hT := tokT_none (text := text) (q := q) (i := i₂) hhas
        refine ⟨_, _, _, _, (W, listOf ws.toArray nw) :: (Ed, listOf es.toArray ne) :: (R, listOf rs.toArray nr) :: (nws ++ (tl ++ own)), rfl, F₁₁, N₁₂, fun p hp => ?_, fun p hp => ?_, hown₂, ?_⟩
        · rcases List.mem_cons.mp hp with e | hp
          · rw [e]; exact .head _
          rcases List.mem_cons.mp hp with e | hp
          · rw [e]; exact .tail _ (.head _)
          rcases List.mem_cons.mp hp with e | hp
          · rw [e]; exact .tail _ (.tail _ (.head _))
          · exact .tail _ (.tail _ (.tail _ (List.mem_append_left _ hp)))
        · exact .tail _ (.tail _ (.tail _ (List.mem_append_right _ hp)))
        · refine ⟨ws, nw, nws, key, rfl, hnw, hitw, lw_mem hmemw (fun y => ⟨fun h => .inl h, fun h => ?_⟩), by omega, ?_⟩
          · rcases h with h | ⟨x, hx, _⟩
            · exact h
            · rw [hT] at hx; cases hx
          · intro z hz
            have hz' := hz
            simp only [List.contains_cons, List.contains_nil, Bool.or_false, Bool.or_eq_false_iff, beq_eq_false_iff_ne, ne_eq] at hz'
            dsimp only
            rw [if_neg hz'.2.1, if_neg hz'.1]
            exact (ifs_eq hkn₂ z).trans (hm₂ z hz)
    · rintro m₂ nx h₇ tk₇ ⟨ws, nw, nws, key, rfl, hnw, hitw, hmemw, hlenw, hm₂⟩ F₉ N₁₀
      dsimp only
      have hkn₂ : ∀ p ∈ [(Str.ofString "text", Value.str text tt), (Str.ofString "row", .ref R), (Str.ofString "ends", .ref Ed), (Str.ofString "ways", .ref W)], m₂ p.1 = some p.2 := by
        intro p hp
        rcases List.mem_cons.mp hp with e | hp
        · rw [e]; exact (hm₂ (Str.ofString "text") (by decide)).trans c1
        rcases List.mem_cons.mp hp with e | hp
        · rw [e]; exact (hm₂ (Str.ofString "row") (by decide)).trans c2
        rcases List.mem_cons.mp hp with e | hp
        · rw [e]; exact (hm₂ (Str.ofString "ends") (by decide)).trans c3
        rcases List.mem_cons.mp hp with e | hp
        · rw [e]; exact (hm₂ (Str.ofString "ways") (by decide)).trans c4
        · cases hp
      have F₁₀ : Fr g L h₇ (fun y => if y = Str.ofString "text" then some (.str text tt) else if y = Str.ofString "row" then some (.ref R) else if y = Str.ofString "ends" then some (.ref Ed) else
          if y = Str.ofString "ways" then some (.ref W) else m₂ y) := fr_ifs0 _ F₉ hkn₂
      have N₁₁ : News g L h₇ ((W, listOf ws.toArray nw) :: (Ed, listOf es.toArray ne) :: (R, listOf rs.toArray nr) :: (nws ++ (tl ++ own))) := N₁₀
      clear F₉ N₁₀
      repeat' ((fail_if_success (with_reducible show wpAny _ _ (call (Value.builtin "min") _) _ _ _)); walk1)
      have Nnw : News g L h₇ nws := fun p hp => N₁₁ p (.tail _ (.tail _ (.tail _ (List.mem_append_left _ hp))))
      have hwne : 0 < ws.length := by
        obtain ⟨x, hx⟩ := g₀.one q (by omega)
        have hm := (hmemw (x :: bs (q + 1))).mpr ⟨1, x, hM1.1, hx, rfl⟩
        cases ws with
        | nil => cases hm
        | cons _ _ => simp
      refine min_call (fun v => itOf 0 (key v)) hh (PySem.IsL.isList (n := nw) (N₁₁ _ (.head _)).1) hwne (fun x y s' hx hy hst => lt_pair ((hitw x hx).at Nnw |>.keeps hst) ((hitw y hy).at Nnw |>.keeps hst) (by simp; omega)) ?_
      intro v h₈ tk₈ hv hvm hst₈
      have F₁₁ : Fr g L h₈ _ := F₁₀.grownK hst₈
      have N₁₂ : News g L h₈ _ := N₁₁.grown hst₈
      clear F₁₀ N₁₁ Nnw
      repeat' walk1
      refine append_K F₁₁ N₁₂ (.tail hWE (.head (fun p hp => ?_))) ?_ (by rw [List.size_toArray]; unfold sizeLine; omega)
      · rcases List.mem_cons.mp hp with e | hp
        · rw [e]; exact Ne.symm hER
        rcases List.mem_append.mp hp with hp | hp
        · exact (hnw p hp).2.1
        rcases List.mem_append.mp hp with hp | hp
        · exact (hoff p hp).1
        · exact hown p hp _ (.head _)
      intro h₉ F₁₂ N₁₃
      rw [List.push_toArray] at N₁₃
      repeat' ((fail_if_success (with_reducible show TbEnd _ _ _ _ _ _)); walk1)
      obtain ⟨k₀, x₀, hk₀, hx₀, ek₀⟩ := (hmemw (key v)).mp (List.mem_map_of_mem hv)
      have hbq : BestC (tokT text) text.length q (key v) := bestC_step g₀ (bs := bs) (by omega) (fun r hr1 hr2 => by
          have := (hbs (text.length - r) (by omega)).1
          rwa [show text.length - (text.length - r) = r by omega] at this) ⟨k₀, x₀, hx₀, ek₀⟩ (fun k x hx => by
          obtain ⟨u, hu', eu⟩ := List.mem_map.mp ((hmemw (x :: bs (q + k))).mpr ⟨k, x, hM1.2.2.2 k (g₀.pos _ _ _ hx).2.1 (g₀.pos _ _ _ hx).2.2.1, hx, rfl⟩)
          rw [← eu]
          exact hvm u hu')
      refine ⟨_, _, _, _, (Ed, listOf (es ++ [v]).toArray (ne + 1)) :: (R, listOf rs.toArray nr) :: (nws ++ tl), rfl, F₁₂, N₁₃, fun p hp => ?_, fun p hp => ?_, ?_, ?_⟩
      · rcases List.mem_cons.mp hp with e | hp
        · rw [e]; exact .tail _ (.head _)
        rcases List.mem_cons.mp hp with e | hp
        · rw [e]; exact .tail _ (.tail _ (.head _))
        rcases List.mem_append.mp hp with hp | hp
        · exact .tail _ (.tail _ (.tail _ (List.mem_append_left _ hp)))
        · exact .tail _ (.tail _ (.tail _ (List.mem_append_right _ (List.mem_append_left _ hp))))
      · exact .tail _ (.tail _ (.tail _ (List.mem_append_right _ (List.mem_append_right _ hp))))
      · intro p hp r hr
        rcases List.mem_cons.mp hr with e | hr
        · rw [e]; exact hown p hp (Ed, listOf es.toArray ne) (.head _)
        rcases List.mem_cons.mp hr with e | hr
        · rw [e]; exact hown p hp (R, listOf rs.toArray nr) (.tail _ (.head _))
        rcases List.mem_append.mp hr with hr | hr
        · exact (hnw r hr).2.2.2 p (List.mem_append_right _ hp)
        · exact hown p hp r (.tail _ (.tail _ hr))
      · refine ⟨es ++ [v], ne + 1, nws ++ tl, fun r => if r = q then key v else bs r, rfl, fun p hp => ?_, by simp [hel], fun j hj => ?_, ?_⟩
        · rcases List.mem_append.mp hp with hp | hp
          · exact ⟨(hnw p hp).2.1, (hnw p hp).2.2.1⟩
          · exact hoff p hp
        · by_cases ej : j = i + 1
          · subst ej
            rw [show text.length - (i + 1) = q by omega]
            dsimp only
            rw [if_pos rfl]
            refine ⟨hbq, ?_⟩
            have e : (es ++ [v]).getD (i + 1) Value.none = v := by rw [List.getD_eq_getElem?_getD, ← hel, List.getElem?_concat_length]; rfl
            rw [e]
            exact (hitw v hv).mono fun p hp => List.mem_append_left _ hp
          · have hj' : j ≤ i := by omega
            obtain ⟨h1, h2⟩ := hbs j hj'
            dsimp only
            rw [if_neg (show text.length - j ≠ q by omega)]
            refine ⟨h1, ?_⟩
            have e : (es ++ [v]).getD j Value.none = es.getD j Value.none := by rw [List.getD_eq_getElem?_getD, List.getD_eq_getElem?_getD, List.getElem?_append_left (by omega)]
            rw [e]
            exact h2.mono fun p hp => List.mem_append_right _ hp
        · intro z hz
          have hz' := hz
          simp only [List.contains_cons, List.contains_nil, Bool.or_false, Bool.or_eq_false_iff, beq_eq_false_iff_ne, ne_eq] at hz'
          refine (ifs_eq hkn₂ z).trans ((hm₂ z ?_).trans (ems z hz))
          simp only [List.contains_cons, List.contains_nil, Bool.or_false, Bool.or_eq_false_iff, beq_eq_false_iff_ne, ne_eq]
          exact hz'.2.2
  · rintro m₁ nx h₄ tk₄ ⟨es, ne, tl, bs, rfl, hoff, hel, hbs, hm₁⟩ F₄ N₅
    dsimp only
    have hkn : ∀ p ∈ [(Str.ofString "text", Value.str text tt), (Str.ofString "row", .ref R), (Str.ofString "ends", .ref Ed)], m₁ p.1 = some p.2 := by
      intro p hp
      rcases List.mem_cons.mp hp with e | hp
      · rw [e]; exact (hm₁ (Str.ofString "text") (by decide)).trans e1
      rcases List.mem_cons.mp hp with e | hp
      · rw [e]; exact (hm₁ (Str.ofString "row") (by decide)).trans e2
      rcases List.mem_cons.mp hp with e | hp
      · rw [e]; exact (hm₁ (Str.ofString "ends") (by decide)).trans e3
      · cases hp
    have F₅ : Fr g L h₄ (fun y => if y = Str.ofString "text" then some (.str text tt) else if y = Str.ofString "row" then some (.ref R) else if y = Str.ofString "ends" then some (.ref Ed) else m₁ y) := fr_ifs0 _ F₄ hkn
    have N₆ : News g L h₄ ((Ed, listOf es.toArray ne) :: (R, listOf rs.toArray nr) :: tl) := N₅
    clear F₄ N₅
    repeat' ((fail_if_success (with_reducible show wpAny _ _ (subscriptTail _ _ _ _) _ _ _)); walk1)
    have hej : ((-1 : Int) + (es.length : Int)).toNat = text.length := by omega
    refine kim_back (l := es) N₆ (.head _) rfl rfl (by omega) (by omega) (by omega) (x := es.getD text.length .none) (by rw [hej, List.getD_eq_getElem?_getD, List.getElem?_eq_getElem (by omega)]; rfl) ?_
    obtain ⟨hbc, hpi⟩ := hbs text.length (Nat.le_refl _)
    rw [Nat.sub_self] at hbc hpi
    generalize es.getD text.length .none = v₀ at *
    obtain ⟨a, ta, la, us, nu, rfl, ha, hl, hus⟩ := hpi
    repeat' walk1
    exact hQ a la ta us (bs 0) 0 nu h₄ _ hbc F₅.keep (N₆ _ (.tail _ (.tail _ ha))).1 (N₆ _ (.tail _ (.tail _ hl))).1 hus
end
end Mine
namespace Mine
theorem news_add {g h h' : Heap} {L a : Addr} {o : Obj} {m : Str → Option Value} {news : List (Addr × Obj)} (F : Fr g L h m) (hn : h.get? a = none) (ha : h'.get? a = some o) (N : News g L h' news) : News g L h' ((a, o) :: news) := fun p hp => by
  rcases List.mem_cons.mp hp with e | hp
  · rw [e]
    refine ⟨ha, fun e => ?_, ?_⟩
    · obtain ⟨oL, _, _, hL, _⟩ := F.ns
      have e' : a = L := e
      rw [e', hL] at hn
      cases hn
    · cases e : g.get? a with
      | none => rfl
      | some o => have := F.keep _ _ e; rw [hn] at this; cases this
  · exact N p hp
theorem ne_pair {prog : Program} {w : World} {A : Around} {E : Value → Shared → Prop} {s : Shared} {Q : Value → Shared → Prop} {a b l l' : Addr} {t t' : Tok} {c : Int} {vs us : List Value} {ns : List Int} (ha : s.heap.IsTuple a #[.int c t, .ref l]) (hb : s.heap.IsTuple b #[.int c t', .ref l'])
    (hl : s.heap.IsList l vs.toArray) (hl' : s.heap.IsList l' us.toArray) (hi : IntsAre vs ns) (hi' : IntsAre us ns) (hu : A.units + 8 < cLine) (h : Q (.bool false) s) :
    wpAny (model prog w) A (compareOp .NotEq (.ref a) (.ref b)) Q E s := by
  have R := PySem.SeqAt.RcNeAt.tuples (A := A) (e := fun _ => true) ha hb (by omega) (fun j h1 _ => by
    match j, h1 with
    | 0, _ => have := PySem.SeqAt.EqAt.int_int (A := A.in1) (s := s) c t c t'; rw [beq_self_eq_true] at this; exact this
    | 1, _ => have := eqAt_ints (A := A.in1) hl hl' hi hi' (by simp; omega); rw [decide_eq_true rfl] at this; exact this)
  refine cmp_ofNotEq (R prog w E Q ?_)
  exact h
theorem fold_none : ∀ l : List Int, List.foldl (fun (l : List Int) (_ : Int) => l) [] l = []
  | [] => rfl
  | _ :: r => fold_none r
theorem lawX : PySem.Challenge.rw_mg0039_01.Holds := by
  refine hd ?_
  k_go0
  repeat' ((fail_if_success (with_reducible show wpAny _ _ (eval (PySem.Expr.ListComp _ _ _ _) _) _ _ _)); walk1)
  rename Fr _ _ _ _ => F₁
  k_dflt (refine LCg.ListComp_U (F₀ := F₁) (by with_unfolding_all rfl) (by decide) (by rfl) (by decide) (by rfl) ?_)
  repeat' ((fail_if_success (with_reducible show LCg.CompSrc _ _ _ _ _ _ _ _ _ _ _ _ _ _)); walk1)
  rename Fr _ _ _ _ => F₁; rename News _ _ _ _ => N₁; rename IntsAre _ (List.take 8 _) => hI₁
  have hl8 := hI₁.length
  refine LCg.CompSrc.ledger (by rfl) F₁ N₁ (.head _) (by rw [List.size_toArray, hl8]; unfold sizeLine; simp; omega) ?_
  intro g'
  refine kct_list (fun k => Txt.item (Str.ofString "!%&()*+,-./:;<=>@\x5b]^{|}~") (k.fmod 24)) hI₁ (fun k' t' I' oI' C' oC' D' m' ys' h' tk' E' hk' hC' hx' F' N' off' ne' hMark' => ?_) ?_
  · simp only [LCg.Off3, and_true] at off'
    repeat' walk1
  · repeat' ((fail_if_success (with_reducible show wpAny _ _ (call (Value.ref _) _) _ _ _)); walk1)
    rename Fr _ _ _ _ => F₂; rename News _ _ _ _ => N₂
    rename Top _ _ _ _ _ _ => T
    rename Frag.In _ _ => X
    rename List Int => ns
    refine first_call (text := textOf (ns.take 8)) X T F₂.keep rfl (by simp only [depth_deeper, depth_caller, recursionLimit]; omega) (by have := cLine_is; simp only [units_deeper, units_caller]; omega) (by rw [text_len]; simp; omega) (good_text (text_codes _)) ?_
    intro a l tc vs ns₁ n₁ n₂ h₁ tk₁ hb hst ha hl hvs hna hnl
    have F₃ := F₂.grownK hst
    have N₃ := news_add F₂ hna ha (news_add F₂ hnl hl (N₂.grown hst))
    clear F₂ N₂
    repeat' ((fail_if_success (with_reducible show wpAny _ _ (call (Value.ref _) _) _ _ _)); walk1)
    rename Fr _ _ _ _ => F₄; rename News _ _ _ _ => N₄
    refine cheapest_call (text := textOf (ns.take 8)) X T F₄.keep rfl (by simp only [depth_deeper, depth_caller, recursionLimit]; omega) (by have := cLine_is; simp only [units_deeper, units_caller]; omega) (by rw [text_len]; simp; omega) (good_text (text_codes _)) ?_
    intro b l' tc' vs' ns₂ n₃ n₄ h₂ tk₂ hb' hst' hb'' hl' hvs'
    have e := best_eq hb hb'
    subst e
    have F₅ := F₄.grownK hst'
    have N₅ := N₄.grown hst'
    clear F₄ N₄
    refine ne_pair (News.isTup N₅ (.head _)) (isTup_of hb'') (PySem.IsL.isList (n := n₂) (N₅ _ (.tail _ (.head _))).1) (PySem.IsL.isList (n := n₄) hl') hvs hvs' (by have := cLine_is; simp only [units_deeper, units_caller]; omega) ?_
    have hlt : ∀ y ∈ ns₁, 0 < y ∧ y < 256 := way_range hb.1
    have hwl := way_len (good_text (text_codes _)) hb.1
    rw [text_len] at hwl
    repeat' ((fail_if_success (with_reducible show wpAny _ _ (eval (PySem.Expr.ListComp _ _ _ _) _) _ _ _)); walk1)
    k_dflt (refine LCt.ListComp_T (F₀ := F₅) (by with_unfolding_all rfl) (by decide) (by rfl) (by decide) (by rfl) ?_)
    repeat' ((fail_if_success (with_reducible show LCt.CompSrcT _ _ _ _ _ _ _ _ _ _ _ _ _ _ _)); walk1)
    have hvl := hvs.length
    refine LCt.CompSrcT.ledger (by rfl) F₅ N₅ (.tail _ (.head _)) (by rw [List.size_toArray, hvl]; unfold sizeLine; simp at hwl; omega) ?_
    intro g''
    refine kci_list (fun l _ => l) hvs (fun k' t' I' oI' C' oC' D' m' ys' l' h' tk' E' hk' hi' hC' hx' F' N' off' ne' hMark' => ?_) ?_ ?_
    · simp only [LCg.Off3, and_true] at off'
      have hk'' := hlt k' hk'
      repeat' walk1
    · repeat' walk1
      rw [fold_none, decide_eq_true rfl]
      k_steps
    · exact fun l _ => Nat.le_succ _
end Mine
theorem PySem.Challenge.cw_mg0039_01_holds : PySem.Challenge.rw_mg0039_01.Holds := by
  exact Mine.lawX
