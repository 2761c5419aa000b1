/-
  THE PLAIN PART: what the inbox counts, and who leads, over a list of strings. No Go in sight.
-/
import Derived.Laws.Strings
namespace Go.Proofs.Ybulkckwm.Pl
open Go

/-- The model's '<' on lists of bytes is the core's. -/
theorem less_lt (x : List UInt8) : ∀ y, Op.bytesLess x y = decide (x < y) := by
  induction x with
  | nil => intro y; cases y <;> simp [Op.bytesLess]
  | cons a x ih =>
    intro y
    cases y with
    | nil => simp [Op.bytesLess]
    | cons b y =>
      simp only [Op.bytesLess, ih, List.cons_lt_cons_iff]
      by_cases h : a < b
      · simp [h]
      · by_cases k : a = b <;> simp [h, k]

/-- Go's '<' on strings. -/
def lss (a b : ByteArray) : Bool := Op.bytesLess a.toList b.toList

theorem toList_inj {a b : ByteArray} (h : a.toList = b.toList) : a = b := by
  rw [ByteArray.toList_eq, ByteArray.toList_eq] at h
  cases a; cases b; simp at h; rw [h]

theorem beq_toList (a b : ByteArray) : (a.toList == b.toList) = decide (a = b) := by
  rw [Bool.eq_iff_iff]
  simp only [beq_iff_eq, decide_eq_true_eq]
  exact ⟨toList_inj, fun h => by rw [h]⟩

theorem lss_irrefl (a : ByteArray) : lss a a = false := by
  unfold lss
  rw [less_lt]
  simp

theorem lss_trans {a b c : ByteArray} (h : lss a b = true) (k : lss b c = true) : lss a c = true := by
  unfold lss at *
  rw [less_lt] at *
  simp only [decide_eq_true_eq] at *
  exact List.lt_trans h k

theorem lss_eq {a b : ByteArray} (h : lss a b = false) (k : lss b a = false) : a = b := by
  unfold lss at *
  rw [less_lt] at *
  simp only [decide_eq_false_iff_not] at *
  apply toList_inj
  exact List.le_antisymm k h

/-- How often s stands among the first k. -/
def cntTo (ss : List ByteArray) : Nat → ByteArray → Nat
  | 0, _ => 0
  | k + 1, s => cntTo ss k s + if ss.getD k ByteArray.empty = s then 1 else 0

/-- What the counts hold behind the first k: the empty value is not counted. -/
def fTo (ss : List ByteArray) (k : Nat) (s : ByteArray) : Nat := if s = ByteArray.empty then 0 else cntTo ss k s

/-- How many different values, the empty one left out, stand among the first k. -/
def dTo (ss : List ByteArray) : Nat → Nat
  | 0 => 0
  | k + 1 => dTo ss k + if ss.getD k ByteArray.empty = ByteArray.empty ∨ 0 < cntTo ss k (ss.getD k ByteArray.empty) then 0 else 1

theorem cntTo_le (ss : List ByteArray) (s : ByteArray) : ∀ k, cntTo ss k s ≤ k
  | 0 => Nat.le_refl _
  | k + 1 => by
    have := cntTo_le ss s k
    unfold cntTo
    split <;> omega

theorem dTo_le (ss : List ByteArray) : ∀ k, dTo ss k ≤ k
  | 0 => Nat.le_refl _
  | k + 1 => by
    have := dTo_le ss k
    unfold dTo
    split <;> omega

theorem cntTo_mono (ss : List ByteArray) (s : ByteArray) {j : Nat} : ∀ {k}, j ≤ k → cntTo ss j s ≤ cntTo ss k s
  | 0, h => by have : j = 0 := by omega
               subst this; exact Nat.le_refl _
  | k + 1, h => by
    by_cases e : j = k + 1
    · subst e; exact Nat.le_refl _
    · have := cntTo_mono ss s (j := j) (k := k) (by omega)
      show _ ≤ cntTo ss k s + _
      omega

theorem fTo_le (ss : List ByteArray) (s : ByteArray) (k : Nat) : fTo ss k s ≤ k := by
  unfold fTo; split
  · omega
  · exact cntTo_le ss s k

theorem fTo_zero (ss : List ByteArray) (s : ByteArray) : fTo ss 0 s = 0 := by unfold fTo; split <;> rfl

theorem fTo_empty (ss : List ByteArray) (k : Nat) : fTo ss k ByteArray.empty = 0 := by simp [fTo]

/-- The empty value is passed over. -/
theorem fTo_skip {ss : List ByteArray} {k : Nat} (h : ss.getD k ByteArray.empty = ByteArray.empty) (s : ByteArray) : fTo ss (k + 1) s = fTo ss k s := by
  unfold fTo
  split
  · rfl
  · rename_i hs
    show cntTo ss k s + _ = _
    rw [h, if_neg (fun e => hs e.symm)]; rfl
theorem dTo_skip {ss : List ByteArray} {k : Nat} (h : ss.getD k ByteArray.empty = ByteArray.empty) : dTo ss (k + 1) = dTo ss k := by
  show dTo ss k + _ = _
  rw [if_pos (Or.inl h)]; rfl

/-- One value more is counted. -/
theorem fTo_put {ss : List ByteArray} {k : Nat} {v : ByteArray} (hv : v = ss.getD k ByteArray.empty) (h : v ≠ ByteArray.empty) (s : ByteArray) : fTo ss (k + 1) s = if s = v then fTo ss k v + 1 else fTo ss k s := by
  unfold fTo
  by_cases e : s = v
  · subst e
    rw [if_neg h, if_pos rfl, if_neg h]
    show cntTo ss k s + _ = _
    rw [← hv, if_pos rfl]
  · rw [if_neg e]
    split
    · rfl
    · show cntTo ss k s + _ = _
      rw [← hv, if_neg (fun x => e x.symm)]; rfl
theorem dTo_put {ss : List ByteArray} {k : Nat} {v : ByteArray} (hv : v = ss.getD k ByteArray.empty) (h : v ≠ ByteArray.empty) : dTo ss (k + 1) = if 0 < fTo ss k v then dTo ss k else dTo ss k + 1 := by
  show dTo ss k + _ = _
  rw [← hv]
  unfold fTo
  rw [if_neg h]
  by_cases c : 0 < cntTo ss k v
  · rw [if_pos (Or.inr c), if_pos c]; rfl
  · rw [if_neg (by intro x; rcases x with x | x; exact h x; exact c x), if_neg c]

/-- m leads with c among the counts f: the largest count, and on equal counts the smallest value; nobody where nothing is counted. -/
def IsLead (f : ByteArray → Nat) (m : ByteArray) (c : Nat) : Prop :=
  (c = 0 ∧ m = ByteArray.empty ∧ ∀ s, f s = 0) ∨ (0 < c ∧ f m = c ∧ ∀ s, f s < c ∨ (f s = c ∧ lss s m = false))

theorem IsLead.congr {f g : ByteArray → Nat} {m : ByteArray} {c : Nat} (h : IsLead f m c) (e : ∀ s, g s = f s) : IsLead g m c := by
  have : g = f := funext e
  rw [this]; exact h

theorem IsLead.unique {f : ByteArray → Nat} {m m' : ByteArray} {c c' : Nat} (h : IsLead f m c) (k : IsLead f m' c') : m = m' ∧ c = c' := by
  rcases h with ⟨h1, h2, h3⟩ | ⟨h1, h2, h3⟩ <;> rcases k with ⟨k1, k2, k3⟩ | ⟨k1, k2, k3⟩
  · exact ⟨by rw [h2, k2], by omega⟩
  · have := h3 m'; omega
  · have := k3 m; omega
  · have a := h3 m'
    have b := k3 m
    have e : c = c' := by omega
    subst e
    refine ⟨?_, rfl⟩
    rcases a with a | a
    · omega
    · rcases b with b | b
      · omega
      · exact lss_eq b.2 a.2

/-- Does v, with c', take the lead from m, with c? -/
def led (v : ByteArray) (c' : Nat) (m : ByteArray) (c : Nat) : Bool := decide (c < c') || (decide (c' = c) && lss v m)

theorem IsLead.step {g g' : ByteArray → Nat} {m v : ByteArray} {c c' : Nat} (h : IsLead g m c) (hv : g v < c') (hg : ∀ s, g' s = if s = v then c' else g s) :
    IsLead g' (if led v c' m c then v else m) (if led v c' m c then c' else c) := by
  have hgv : g' v = c' := by rw [hg, if_pos rfl]
  by_cases hl : led v c' m c = true
  · rw [if_pos hl, if_pos hl]
    refine Or.inr ⟨by omega, hgv, fun s => ?_⟩
    by_cases e : s = v
    · subst e; exact Or.inr ⟨hgv, lss_irrefl s⟩
    · rw [hg, if_neg e]
      unfold led at hl
      simp only [Bool.or_eq_true, decide_eq_true_eq, Bool.and_eq_true] at hl
      rcases h with ⟨h1, h2, h3⟩ | ⟨h1, h2, h3⟩
      · left; rw [h3 s]; omega
      · rcases hl with hl | ⟨hl, hm⟩
        · left; have := h3 s; omega
        · rcases h3 s with a | ⟨a, b⟩
          · left; omega
          · right
            refine ⟨by omega, ?_⟩
            cases hs : lss s v
            · rfl
            · exact absurd (lss_trans hs hm) (by rw [b]; simp)
  · rw [if_neg hl, if_neg hl]
    have hl' : ¬ c < c' ∧ (c' = c → lss v m = false) := by
      unfold led at hl
      simp only [Bool.or_eq_true, decide_eq_true_eq, Bool.and_eq_true, not_or, not_and, Bool.not_eq_true] at hl
      exact hl
    rcases h with ⟨h1, h2, h3⟩ | ⟨h1, h2, h3⟩
    · omega
    · have hne : m ≠ v := by intro e; subst e; omega
      refine Or.inr ⟨h1, by rw [hg, if_neg hne]; exact h2, fun s => ?_⟩
      by_cases e : s = v
      · subst e
        rw [hgv]
        by_cases hc : c' = c
        · exact Or.inr ⟨hc, hl'.2 hc⟩
        · left; omega
      · rw [hg, if_neg e]; exact h3 s

theorem IsLead.none {f : ByteArray → Nat} (h : ∀ s, f s = 0) : IsLead f ByteArray.empty 0 := Or.inl ⟨rfl, rfl, h⟩

/-- What the check has seen behind the first i of n: the whole count of each value that has come. -/
def gTo (ss : List ByteArray) (n i : Nat) (s : ByteArray) : Nat := if cntTo ss i s = 0 then 0 else fTo ss n s

theorem gTo_zero (ss : List ByteArray) (n : Nat) (s : ByteArray) : gTo ss n 0 s = 0 := by simp [gTo, cntTo]
theorem gTo_all (ss : List ByteArray) (n : Nat) (s : ByteArray) : gTo ss n n s = fTo ss n s := by
  unfold gTo fTo
  split <;> split <;> omega

/-- A value that is empty, or that came before, adds nothing. -/
theorem gTo_skip {ss : List ByteArray} {n i : Nat} {v : ByteArray} (hv : v = ss.getD i ByteArray.empty) (h : v = ByteArray.empty ∨ 0 < cntTo ss i v) (s : ByteArray) : gTo ss n (i + 1) s = gTo ss n i s := by
  unfold gTo
  show (if cntTo ss i s + _ = 0 then _ else _) = _
  rw [← hv]
  by_cases e : v = s
  · subst e
    rw [if_pos rfl, if_neg (by omega)]
    rcases h with h | h
    · subst h; simp [fTo_empty]
    · rw [if_neg (by omega)]
  · rw [if_neg e]; rfl
theorem dTo_skip' {ss : List ByteArray} {i : Nat} {v : ByteArray} (hv : v = ss.getD i ByteArray.empty) (h : v = ByteArray.empty ∨ 0 < cntTo ss i v) : dTo ss (i + 1) = dTo ss i := by
  show dTo ss i + _ = _
  rw [← hv, if_pos h]; rfl

theorem gTo_put {ss : List ByteArray} {n i : Nat} {v : ByteArray} (hv : v = ss.getD i ByteArray.empty) (h : cntTo ss i v = 0) (s : ByteArray) : gTo ss n (i + 1) s = if s = v then fTo ss n v else gTo ss n i s := by
  unfold gTo
  show (if cntTo ss i s + _ = 0 then _ else _) = _
  rw [← hv]
  by_cases e : s = v
  · subst e
    rw [if_pos rfl, if_neg (by omega), if_pos rfl]
  · have e' : ¬ v = s := fun x => e x.symm
    rw [if_neg e', if_neg e]; rfl
theorem gTo_first {ss : List ByteArray} {n i : Nat} {v : ByteArray} (h : cntTo ss i v = 0) : gTo ss n i v = 0 := by simp [gTo, h]
theorem dTo_put' {ss : List ByteArray} {i : Nat} {v : ByteArray} (hv : v = ss.getD i ByteArray.empty) (h0 : v ≠ ByteArray.empty) (h : cntTo ss i v = 0) : dTo ss (i + 1) = dTo ss i + 1 := by
  show dTo ss i + _ = _
  rw [← hv, if_neg (by rintro (x | x); exact h0 x; omega)]

/-- The value at i < n is counted at least once among n. -/
theorem fTo_pos {ss : List ByteArray} {n i : Nat} {v : ByteArray} (hv : v = ss.getD i ByteArray.empty) (h0 : v ≠ ByteArray.empty) (hi : i < n) : 0 < fTo ss n v := by
  unfold fTo
  rw [if_neg h0]
  have h1 := cntTo_mono ss v (j := i + 1) (k := n) (by omega)
  have h2 : cntTo ss (i + 1) v = cntTo ss i v + 1 := by
    show cntTo ss i v + _ = _
    rw [← hv, if_pos rfl]
  omega

end Go.Proofs.Ybulkckwm.Pl
