/-
  LawS4342CFirstMatch: THE STATEMENT.
-/
import Derived.Test.YbulkckxaFirst
import Derived.ProofKit
import Derived.OpenShut
import Derived.ShutString
import Derived.ChangeOld
import Derived.SliceStrings
import Derived.Deep.Slices
import Derived.Below
namespace Go.Proofs.Ybulkckxa.first
open Go.ChangeShapes Go.WideShapes Go.ChangeAt Go.RowKit

theorem own : ownKnob Yba.prog.godebug = none := by kernel_rfl
theorem laidOut : laidOutB Yba.prog = true := by kernel_rfl
theorem cells9 : Yba.prog.cellsOf 9 = 1 := by kernel_rfl
theorem cells28 : Yba.prog.cellsOf 28 = 1 := by kernel_rfl

theorem ws_of {w : World} {a : Addr} {len : Nat} {ss : List ByteArray} (hl : len ≤ ss.length) (hc : ∀ i, i < ss.length → w.cell? (a.add i) = some (.string (ss.getD i ByteArray.empty))) : Ws w (some a) len ss := by
  by_cases h0 : len = 0
  · exact .inl h0
  · obtain ⟨b, off, spot⟩ := a
    have hspot : spot = none := by simpa [Addr.add] using World.cell?_spot (hc 0 (by omega))
    subst hspot
    exact .inr ⟨b, off, rfl, fun j hj => by rw [← add_plain]; exact hc j (by omega)⟩

/-- A slice of strings, opened, whatever the cells that it was read from. -/
theorem opened_cells {H : Type} {enc : TypeId × Value → H} {W : World} {fuel : Nat} {v : Value} {x : DataW H × List MemPlace} (hf : DataW.trod enc Yba.prog W 0 (fun _ => true) true fuel 28 [v] = some x) :
    ∃ y : Option Addr × Nat × Nat × List ByteArray, v = .slice y.1 y.2.1 y.2.2.1 ∧ Ws W y.1 y.2.1 y.2.2.2 ∧ y.2.1 ≤ 9223372036854775807 := by
  rcases open_strings Yba.underlying28 Yba.underlying9 cells9 hf with ⟨hcs, _⟩ | ⟨a, len', cap', ss, hcs, _, hl, hm, hz, _, hcell, _⟩
  · exact ⟨(none, 0, 0, []), by simpa using hcs, .inl rfl, by simp⟩
  · simp only [if_true] at hz
    have hls : len' ≤ ss.length := by omega
    exact ⟨(some a, len', cap', ss), by simpa using hcs, ws_of hls hcell, by unfold maxLen at hm; exact Nat.le_trans hl hm⟩

theorem opened28 {H : Type} {enc : TypeId × Value → H} {W : World} {a0 : Option Addr} {len0 cap0 : Nat} {d0 : DataW H} {p0 : List MemPlace} (h0 : DataW.Trod enc Yba.prog W 0 (fun _ => true) true 28 (.slice a0 len0 cap0) d0 p0) : ∃ ss, Ws W a0 len0 ss := by
  obtain ⟨fuel, hf⟩ := h0
  obtain ⟨y, hv, hw, _⟩ := opened_cells (v := .slice a0 len0 cap0) (by simpa [Value.cells] using hf)
  cases hv
  exact ⟨_, hw⟩

theorem opened27 {H : Type} {enc : TypeId × Value → H} {W : World} {a0 : Option Addr} {len0 cap0 : Nat} {d0 : DataW H} {p0 : List MemPlace} (h0 : DataW.Trod enc Yba.prog W 0 (fun _ => true) true 27 (.slice a0 len0 cap0) d0 p0) :
    ∃ f : Nat → Cmd, len0 = 0 ∨ ∃ b off, a0 = some ⟨b, off, none⟩ ∧ ∀ j, j < len0 → W.cell? ⟨b, off + j, none⟩ = some (.slice (f j).a (f j).m (f j).c) ∧ Ws W (f j).a (f j).m (f j).ls ∧ (f j).m ≤ 9223372036854775807 := by
  obtain ⟨fuel, hf⟩ := h0
  rcases Deep.open_slice1 Yba.underlying27 cells28 hf with ⟨hcs, _⟩ | ⟨a, len, cap, m, n, V, D, Pl, hcs, hb, hl, hm, hmm, _, hx⟩
  · simp [Value.cells] at hcs
    exact ⟨fun _ => ⟨none, 0, 0, []⟩, .inl hcs.2.1⟩
  · simp [Value.cells] at hcs
    obtain ⟨rfl, rfl, rfl⟩ := hcs
    simp only [if_true] at hmm
    obtain ⟨y, hy⟩ := Deep.choose_lt (n := m) (fun r hr => opened_cells (v := V r) (hx r hr).2)
    refine ⟨fun j => ⟨(y j).1, (y j).2.1, (y j).2.2.1, (y j).2.2.2⟩, ?_⟩
    by_cases hl0 : len0 = 0
    · exact .inl hl0
    · obtain ⟨b, off, spot⟩ := a
      have hspot : spot = none := by simpa [Addr.add] using World.cell?_spot (hx 0 (by omega)).1
      subst hspot
      exact .inr ⟨b, off, rfl, fun j hj => ⟨by rw [← add_plain, ← (hy j (by omega)).1]; exact (hx j (by omega)).1, (hy j (by omega)).2.1, (hy j (by omega)).2.2⟩⟩

theorem walk (a0 : Option Addr) (len0 cap0 : Nat) (f : Nat → Cmd) (a1 : Option Addr) (len1 cap1 : Nat) (ws : List ByteArray) (w : World)
    (h0 : len0 = 0 ∨ ∃ b off, a0 = some ⟨b, off, none⟩ ∧ ∀ j, j < len0 → w.cell? ⟨b, off + j, none⟩ = some (.slice (f j).a (f j).m (f j).c) ∧ Ws w (f j).a (f j).m (f j).ls ∧ (f j).m ≤ 9223372036854775807) (h1 : Ws w a1 len1 ws) :
    Calls Yba.prog 4 #[.slice a0 len0 cap0, .slice a1 len1 cap1] w fun e w' => e = .returned (.bool true) ∧ Below w.heap.size w w' := by
  by_cases hl : len0 ≤ 1024 ∧ len1 ≤ 1024
  · by_cases hz : len0 = 0
    · subst hz
      exact first_none a0 a1 cap0 len1 cap1 ws w hl.2 h1
    · rcases h0 with h | ⟨b, off, rfl, hc⟩
      · exact absurd h hz
      · exact first_any b off len0 cap0 len1 cap1 a1 ws f w (by omega) hl.1 hl.2 h1 hc
  · exact first_long a0 a1 len0 cap0 len1 cap1 w (by omega)

set_option maxRecDepth 100000 in
theorem lifted (os : Os) (started : os.Started) (H : Type) (enc : TypeId × Value → H) :
    ReturnsInHanded {} Yba.checked os 4 .any (Rows.lawS4342CFirstMatchSpec.pre6 enc Yba.prog Yba.f4 Rows.lawS4342CFirstMatchRow.domain false) (Rows.lawS4342CFirstMatchSpec.post enc Yba.prog Yba.f4 false true false false) := by
  refine returnsInHanded_of_change (C := Yba.checked) own started (by kernel_rfl) Yba.func4
    (ChangeSpec.witness6 (enc := enc) (C := Yba.checked) false ⟨#[], #[.slice none 0 0, .slice none 0 0], []⟩ 8 (by kernel_rfl) (by kernel_rfl) (by kernel_rfl) (by kernel_rfl)) ?_
  intro W base args ds gs before hval0 hW hcnd _
  have hval : ∀ (j : Nat) t v, Yba.f4.params[j]? = some t → args[j]? = some v → Value.okWide Yba.prog W .any base t v := hval0
  have hW' := hW
  obtain ⟨p, q, hA0, hV, rfl, hfz, hnd⟩ := hW
  have hA : DataW.TrodAll enc Yba.prog W 0 (fun _ => true) true Yba.f4.params.toList args.toList ds p := hA0
  rw [Yba.params4] at hA hval
  obtain ⟨v0, vs0, d0, ds0, p0, q0, hargs, rfl, rfl, h0, r0⟩ := trodAll_cons hA
  obtain ⟨v1, vs1, d1, ds1, p1, q1, rfl, rfl, rfl, h1, r1⟩ := trodAll_cons r0
  obtain ⟨rfl, rfl, rfl⟩ := trodAll_nil r1
  obtain rfl : args = #[v0, v1] := by cases args; simp_all
  obtain ⟨rfl, rfl⟩ := trodVars_none hV
  obtain ⟨a0, len0, cap0, rfl⟩ := okWide_slice Yba.underlying27 (hval 0 27 v0 rfl rfl)
  obtain ⟨a1, len1, cap1, rfl⟩ := okWide_slice Yba.underlying28 (hval 1 28 v1 rfl rfl)
  have k0 := h0
  have lt0 : ∀ x ∈ p0, x.block < W.heap.size := by obtain ⟨m, hm⟩ := k0; exact DataW.trod_lt m _ _ _ hm
  have k1 := h1
  have lt1 : ∀ x ∈ p1, x.block < W.heap.size := by obtain ⟨m, hm⟩ := k1; exact DataW.trod_lt m _ _ _ hm
  obtain ⟨f, w0⟩ := opened27 h0
  obtain ⟨ws, w1⟩ := opened28 h1
  clear hA0 hval0
  refine (walk a0 len0 cap0 f a1 len1 cap1 ws W w0 w1).mono fun e W' ⟨he, bel⟩ => ?_
  subst he
  exact ⟨_, rfl, _, _, _, [], _, [], hW', trodAll_mk1 (shut_bool Yba.underlying4 _), (trodAll_cons_mk (Below.trod laidOut (by kernel_rfl) (of_decide_eq_true (by kernel_rfl)) k0 bel lt0) (trodAll_cons_mk (Below.trod laidOut (by kernel_rfl) (of_decide_eq_true (by kernel_rfl)) k1 bel lt1) trodAll_mk0)), rfl, bel.frame _, fun h => by cases h⟩

theorem over : Rows.lawS4342CFirstMatchRow.holds Yba.pinned (OpenSpec.ofChange Rows.lawS4342CFirstMatchSpec) :=
  OpenClaim.holds_of_wide 4 Yba.f4 rfl rfl rfl rfl rfl rfl rfl ⟨rfl, rfl, rfl, rfl, rfl⟩ rfl rfl rfl rfl rfl (by kernel_rfl) Yba.func4 (by kernel_rfl)
    (of_decide_eq_true (by kernel_rfl)) (by unfold Func.isWrapper; first | (rw [if_pos (by decide +kernel)]; kernel_rfl) | (rw [if_neg (by decide +kernel)]; exact ⟨rfl, rfl⟩))
    (fun os started H enc _ => lifted os started H enc)

/-- THE STATEMENT -/
theorem proved : Rows.LawS4342CFirstMatchSaid := over
end Go.Proofs.Ybulkckxa.first
