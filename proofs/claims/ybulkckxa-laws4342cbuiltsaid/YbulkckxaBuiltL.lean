/-
  LawS4342CBuilt (5): what the loops hold, and their steps, outside the walk.
-/
import Derived.Test.YbulkckxaFirst
namespace Go.Proofs.Ybulkckxa
open Go.RowKit

theorem Yba.info9 : (Yba.prog.info? 9).map (fun i => (i.zero, i.size, i.bytes)) = some (some (.string ByteArray.empty), 1, 16) := by kernel_rfl

/-- One spec. -/
structure Spec where
  len : Nat
  mask : Nat
  brk : Bool

/-- N specs in cells from b, off on. -/
def Specs (w : World) (b off N : Nat) (g : Nat → Spec) : Prop :=
  ∀ j, j < N → w.cell? ⟨b, off + j * 3, none⟩ = some (.int .u8 (g j).len) ∧ w.cell? ⟨b, off + j * 3 + 1, none⟩ = some (.int .u16 (g j).mask) ∧ w.cell? ⟨b, off + j * 3 + 2, none⟩ = some (.bool (g j).brk) ∧ (g j).len ≤ 255 ∧ (g j).mask ≤ 65535

/-- How long the j-th lead is. -/
def ll (n : Nat) (g : Nat → Spec) (j : Nat) : Nat := (g j).len % (n + 3)

/-- Is the j-th command to be met? -/
def want (n : Nat) (g : Nat → Spec) (j : Nat) : Bool := decide (ll n g j ≤ n) && !((g j).brk && decide (0 < ll n g j))

/-- What the inner loop holds when the first i words of the lead are laid, in block B. -/
def Inner (B l n : Nat) (ws : List ByteArray) (X wr : World) (i : Nat) : Prop :=
  ∃ gg : Nat → ByteArray, wr.rowIs B 9 l (fun t => .string (gg t)) ∧ (∀ t, t < i → gg t = star ∨ (t < n ∧ gg t = at' ws t)) ∧ Below B X wr ∧ wr.heap.size = X.heap.size

theorem Inner.start {B l n : Nat} {ws : List ByteArray} {X : World} (h : X.rowIs B 9 l (fun _ => .string ByteArray.empty)) : Inner B l n ws X X 0 := ⟨fun _ => ByteArray.empty, h, fun t ht => by omega, Below.refl _ _, rfl⟩

theorem Inner.put {B l n : Nat} {ws : List ByteArray} {X wr : World} {i : Nat} (h : Inner B l n ws X wr i) {u : ByteArray} (hu : u = star ∨ (i < n ∧ u = at' ws i)) : Inner B l n ws X (wr.setCell ⟨B, i, none⟩ (.string u)) (i + 1) := by
  obtain ⟨gg, h1, h2, h3, h4⟩ := h
  refine ⟨fun t => if t = i then u else gg t, (h1.set i (.string u)).congr (fun t _ => by by_cases e : t = i <;> simp [e]), fun t ht => ?_, h3.setCell (p := ⟨B, i, none⟩) (Nat.le_refl _) _, by simp [World.setCell, h4]⟩
  by_cases e : t = i
  · subst e; simpa using hu
  · simpa [e] using h2 t (by omega)

/-- The list of the words that a row holds. -/
def rowList (gg : Nat → ByteArray) (l : Nat) : List ByteArray := (List.range l).map gg
theorem at_rowList (gg : Nat → ByteArray) (l j : Nat) (h : j < l) : at' (rowList gg l) j = gg j := by
  unfold at' rowList
  rw [List.getD, List.getElem?_map, List.getElem?_range h]
  rfl

/-- What the outer loop holds when k commands are built, in block B. -/
def Outer (B N n : Nat) (ws : List ByteArray) (g : Nat → Spec) (w wr : World) (k : Nat) : Prop :=
  ∃ f : Nat → Cmd, wr.rowIs B 32 (N * 2) (laidTo f k) ∧ Below B w wr ∧ B + 1 ≤ wr.heap.size ∧
    ∀ j, j < k → Ws wr (f j).a (f j).m (f j).ls ∧ (f j).m ≤ 100000 ∧ hit n ws f j = want n g j ∧ ∃ Bj, (f j).a = some ⟨Bj, 0, none⟩ ∧ B < Bj ∧ Bj < wr.heap.size

theorem Outer.start {B N n : Nat} {ws : List ByteArray} {g : Nat → Spec} {w : World} (hB : B = w.heap.size) : Outer B N n ws g w (w.alloc (.cells (madeCells #[.slice none 0 0, .nilFunc] (N * 2)) 32)) 0 := by
  subst hB
  exact ⟨fun _ => ⟨none, 0, 0, []⟩, made_row w _ N, (Below.refl _ _).alloc (Nat.le_refl _) _, by simp, fun j hj => by omega⟩

theorem laidTo_congr {f f' : Nat → Cmd} {k : Nat} (h : ∀ j, j < k → f' j = f j) (i : Nat) : laidTo f k i = laidTo f' k i := by
  unfold laidTo
  by_cases c : i % 2 = 1
  · rw [if_pos c, if_pos c]
  · rw [if_neg c, if_neg c]
    by_cases c2 : i / 2 < k
    · rw [if_pos c2, if_pos c2, h _ c2]
    · rw [if_neg c2, if_neg c2]

theorem Ws.other {w w' : World} {Bj n : Nat} {ss : List ByteArray} (h : Ws w (some ⟨Bj, 0, none⟩) n ss) (e : w'.heap[Bj]? = w.heap[Bj]?) : Ws w' (some ⟨Bj, 0, none⟩) n ss := by
  rcases h with h | ⟨b, off, h1, hc⟩
  · exact .inl h
  · cases h1
    exact .inr ⟨_, _, rfl, fun j hj => (World.cell?_of_block (w := w) (a := ⟨Bj, 0 + j, none⟩) e).trans (hc j hj)⟩

theorem Outer.put {B N n : Nat} {ws : List ByteArray} {g : Nat → Spec} {w wo w3 : World} {k l : Nat} {gg : Nat → ByteArray} (h : Outer B N n ws g w wo k) (hl : l ≤ 255) (hb : Below wo.heap.size wo w3) (hsz : w3.heap.size = wo.heap.size + 1 + 1) (hrow : w3.rowIs (wo.heap.size + 1) 9 l (fun t => .string (gg t)))
    (hm : matchB n l ws (rowList gg l) = want n g k) :
    Outer B N n ws g w ((w3.setCell ⟨B, k * 2, none⟩ (.slice (some ⟨wo.heap.size + 1, 0, none⟩) l l)).setCell ⟨B, k * 2 + 1, none⟩ .nilFunc) (k + 1) := by
  obtain ⟨f, h1, h2, h3, h4⟩ := h
  have hBlt : B < wo.heap.size := by omega
  refine ⟨fun j => if j = k then ⟨some ⟨wo.heap.size + 1, 0, none⟩, l, l, rowList gg l⟩ else f j, ?_, ?_, ?_, fun j hj => ?_⟩
  · have r1 : w3.rowIs B 32 (N * 2) (laidTo f k) := h1.of_block (hb.block B hBlt)
    have r2 := r1.congr (g := laidTo (fun j => if j = k then ⟨some ⟨wo.heap.size + 1, 0, none⟩, l, l, rowList gg l⟩ else f j) k) (fun i _ => laidTo_congr (fun j hj => by rw [if_neg (by omega)]) i)
    have r3 := row_step r2
    simpa using r3
  · exact ((h2.trans (hb.mono (by omega))).setCell (p := ⟨B, k * 2, none⟩) (Nat.le_refl _) _).setCell (p := ⟨B, k * 2 + 1, none⟩) (Nat.le_refl _) _
  · simp [World.setCell]; omega
  · have hother : ∀ Bj, Bj ≠ B → ((w3.setCell ⟨B, k * 2, none⟩ (.slice (some ⟨wo.heap.size + 1, 0, none⟩) l l)).setCell ⟨B, k * 2 + 1, none⟩ .nilFunc).heap[Bj]? = w3.heap[Bj]? := fun Bj hne => by
      rw [Below.heap_setCell _ _ _ _ hne, Below.heap_setCell _ _ _ _ hne]
    have hs4 : ((w3.setCell ⟨B, k * 2, none⟩ (.slice (some ⟨wo.heap.size + 1, 0, none⟩) l l)).setCell ⟨B, k * 2 + 1, none⟩ .nilFunc).heap.size = wo.heap.size + 1 + 1 := by simp [World.setCell, hsz]
    by_cases e : j = k
    · subst e
      simp only [if_pos]
      refine ⟨Ws.other (w := w3) ?_ (hother _ (by omega)), by omega, by unfold hit; simpa using hm, wo.heap.size + 1, rfl, by omega, by rw [hs4]; omega⟩
      by_cases hl0 : l = 0
      · exact .inl hl0
      · refine .inr ⟨_, _, rfl, fun t ht => ?_⟩
        have := hrow.cell ht
        rw [at_rowList gg l t ht]
        simpa using this
    · obtain ⟨a1, a2, a3, Bj, a4, a5, a6⟩ := h4 j (by omega)
      simp only [if_neg e]
      rw [a4] at a1
      refine ⟨?_, a2, by unfold hit at a3 ⊢; simpa [e] using a3, Bj, a4, a5, by rw [hs4]; omega⟩
      rw [a4]
      exact Ws.other (w := wo) a1 ((hother Bj (by omega)).trans (hb.block Bj a6))

/-- Not broken, and no longer than the line. -/
theorem met_yes {n l : Nat} {ws : List ByteArray} {gg : Nat → ByteArray} (hl : l ≤ n) (h : ∀ t, t < l → gg t = star ∨ (t < n ∧ gg t = at' ws t)) : matchB n l ws (rowList gg l) = true :=
  match_true hl (fun j hj => by
    rw [at_rowList gg l j hj]
    rcases h j hj with e | e
    · exact .inl e
    · exact .inr e.2)

/-- "!" behind a word is another word. -/
theorem bang_ne {t : ByteArray} : t ++ ⟨#[33]⟩ ≠ t := by
  intro e
  have := congrArg ByteArray.size e
  rw [ByteArray.size_append] at this
  have h1 : (⟨#[33]⟩ : ByteArray).size = 1 := rfl
  omega
theorem bang_ne_star {t : ByteArray} : t ++ ⟨#[33]⟩ ≠ star := by
  intro e
  have h1 := congrArg (fun s : ByteArray => s.data.toList.getLast?) e
  simp [ByteArray.data_append, star] at h1

/-- Broken at its last word. -/
theorem met_no {n m : Nat} {ws : List ByteArray} {gg : Nat → ByteArray} {t : ByteArray} (ht : t = at' ws m) (h : gg m = t ++ ⟨#[33]⟩) : matchB n (m + 1) ws (rowList gg (m + 1)) = false :=
  match_no (j := m) (by omega) (by rw [at_rowList gg _ m (by omega), h]; exact bang_ne_star) (by rw [at_rowList gg _ m (by omega), h, ← ht]; exact bang_ne)

theorem want_eq {n l : Nat} {g : Nat → Spec} {k : Nat} {Br : Bool} (hl : l = ll n g k) (hB : Br = (g k).brk) : want n g k = (decide (l ≤ n) && !(Br && decide (0 < l))) := by unfold want; rw [hl, hB]

theorem IsFirst.congr {p q : Nat → Bool} {N : Nat} {r : Int} (h : IsFirst p N r) (e : ∀ j, j < N → p j = q j) : IsFirst q N r := by
  rcases h with ⟨h1, h2⟩ | ⟨k, h1, h2, h3, h4⟩
  · exact .inl ⟨h1, fun j hj => by rw [← e j hj]; exact h2 j hj⟩
  · exact .inr ⟨k, h1, h2, by rw [← e k h1]; exact h3, fun j hj => by rw [← e j (by omega)]; exact h4 j hj⟩

theorem IsFirst.stay {p : Nat → Bool} {k : Nat} {r : Int} (h : IsFirst p k r) (hr : 0 ≤ r) : IsFirst p (k + 1) r := h.grow hr (by omega)

theorem IsFirst.skip {p : Nat → Bool} {k : Nat} {r : Int} (h : IsFirst p k r) (hp : p k = false) : IsFirst p (k + 1) r := by
  rcases h with ⟨rfl, h2⟩ | ⟨i, h1, h2, h3, h4⟩
  · exact IsFirst.no (.inl ⟨rfl, h2⟩) hp
  · exact .inr ⟨i, by omega, h2, h3, h4⟩

end Go.Proofs.Ybulkckxa
