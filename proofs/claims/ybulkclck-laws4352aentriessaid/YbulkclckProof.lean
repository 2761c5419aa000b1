/-
  LawS4352AEntries: the statement.
-/
import Derived.Test.YbulkclckLaw
import Derived.ProofKit
import Derived.OpenShut
import Derived.ShutString
import Derived.ChangeOld
import Derived.Below
import Derived.Deep.SlicePairs
namespace Go.Proofs.Ybulkclck.entries
open Go.ChangeShapes Go.WideShapes Go.ChangeAt Go.RowKit

theorem own : ownKnob Yba.prog.godebug = none := by kernel_rfl
theorem laidOut : laidOutB Yba.prog = true := by kernel_rfl

theorem add_plain (b off i : Nat) : (⟨b, off, none⟩ : Addr).add i = ⟨b, off + i, none⟩ := by simp [Addr.add]

/-- The signatures, opened. -/
theorem opened {H : Type} {enc : TypeId × Value → H} {W : World} {a0 : Option Addr} {len0 cap0 : Nat} {d0 : DataW H} {p0 : List MemPlace} (h0 : DataW.Trod enc Yba.prog W 0 (fun _ => true) true 22 (.slice a0 len0 cap0) d0 p0) :
    ∃ ks ss : Nat → ByteArray, len0 = 0 ∨ ∃ b off, a0 = some ⟨b, off, none⟩ ∧ Sigs W b off len0 ks ss := by
  obtain ⟨fuel, hf⟩ := h0
  rcases Deep.open_slice_pairs Yba.underlying22 Yba.underlying29 (by kernel_rfl) rfl rfl (by kernel_rfl) (by kernel_rfl) hf with ⟨hcs, _⟩ | ⟨a, len, cap, m, n, V0, V1, D0, D1, P0, P1, hcs, hb, hl, hm, hmm, _, hx⟩
  · simp [Value.cells] at hcs
    exact ⟨fun _ => kId, fun _ => kId, .inl hcs.2.1⟩
  · simp [Value.cells] at hcs
    obtain ⟨rfl, rfl, rfl⟩ := hcs
    simp only [if_true] at hmm
    obtain ⟨y, hy⟩ := Deep.choose_lt (n := m) (p := fun i (y : ByteArray × ByteArray) => W.cell? (a.add (i * 2)) = some (.string y.1) ∧ W.cell? (a.add (i * 2 + 1)) = some (.string y.2)) (fun i hi => by
      obtain ⟨c1, c2, t1, t2⟩ := hx i hi
      obtain ⟨s, e1, _⟩ := DataW.trod_string Yba.underlying9 t1
      obtain ⟨t, e2, _⟩ := DataW.trod_string Yba.underlying9 t2
      simp at e1 e2
      exact ⟨(s, t), by rw [c1, e1], by rw [c2, e2]⟩)
    refine ⟨fun j => (y j).1, fun j => (y j).2, ?_⟩
    by_cases hl0 : len0 = 0
    · exact .inl hl0
    · obtain ⟨b, off, spot⟩ := a
      have hspot : spot = none := by simpa [Addr.add] using World.cell?_spot (hy 0 (by omega)).1
      subst hspot
      refine .inr ⟨b, off, rfl, fun j hj => ?_⟩
      obtain ⟨e0, e1⟩ := hy j (by omega)
      rw [add_plain] at e0 e1
      exact ⟨e0, e1⟩

theorem walk (a0 : Option Addr) (len0 cap0 : Nat) (ks ss : Nat → ByteArray) (w : World) (h : len0 = 0 ∨ ∃ b off, a0 = some ⟨b, off, none⟩ ∧ Sigs w b off len0 ks ss) :
    Calls Yba.prog 3 #[.slice a0 len0 cap0] w fun e w' => e = .returned (.bool true) ∧ Below w.heap.size w w' := by
  by_cases hl : 1024 < len0
  · exact law_long a0 len0 cap0 w hl
  by_cases h0 : len0 = 0
  · subst h0; exact law_zero a0 cap0 w
  rcases h with h | ⟨b, off, rfl, hv⟩
  · exact absurd h h0
  · exact law_any b off len0 cap0 ks ss w (by omega) (by omega) hv

set_option maxRecDepth 100000 in
theorem lifted (os : Os) (started : os.Started) (H : Type) (enc : TypeId × Value → H) :
    ReturnsInHanded {} Yba.checked os 3 .any (Rows.lawS4352AEntriesSpec.pre6 enc Yba.prog Yba.f3 Rows.lawS4352AEntriesRow.domain false) (Rows.lawS4352AEntriesSpec.post enc Yba.prog Yba.f3 false true false false) := by
  refine returnsInHanded_of_change (C := Yba.checked) own started (by kernel_rfl) Yba.func3
    (ChangeSpec.witness6 (enc := enc) (C := Yba.checked) false ⟨#[], #[.slice none 0 0], []⟩ 8 (by kernel_rfl) (by kernel_rfl) (by kernel_rfl) (by kernel_rfl)) ?_
  intro W base args ds gs before hval0 hW _ _
  have hval : ∀ (j : Nat) t v, Yba.f3.params[j]? = some t → args[j]? = some v → Value.okWide Yba.prog W .any base t v := hval0
  have hW' := hW
  obtain ⟨p, q, hA0, hV, rfl, hfz, hnd⟩ := hW
  have hA : DataW.TrodAll enc Yba.prog W 0 (fun _ => true) true Yba.f3.params.toList args.toList ds p := hA0
  rw [Yba.params3] at hA hval
  obtain ⟨v0, vs0, d0, ds0, p0, q0, hargs, rfl, rfl, h0, r0⟩ := trodAll_cons hA
  obtain ⟨rfl, rfl, rfl⟩ := trodAll_nil r0
  obtain rfl : args = #[v0] := by cases args; simp_all
  obtain ⟨rfl, rfl⟩ := trodVars_none hV
  obtain ⟨a0, len0, cap0, rfl⟩ := okWide_slice Yba.underlying22 (hval 0 22 v0 rfl rfl)
  have k0 := h0
  have lt0 : ∀ x ∈ p0, x.block < W.heap.size := by obtain ⟨m, hm⟩ := k0; exact DataW.trod_lt m _ _ _ hm
  obtain ⟨ks, ss, w0⟩ := opened h0
  clear hA0 hval0
  refine (walk a0 len0 cap0 ks ss W w0).mono fun e W' ⟨he, bel⟩ => ?_
  subst he
  exact ⟨_, rfl, _, _, _, [], _, [], hW', trodAll_mk1 (shut_bool Yba.underlying4 _), (trodAll_cons_mk (Below.trod laidOut (by kernel_rfl) (of_decide_eq_true (by kernel_rfl)) k0 bel lt0) trodAll_mk0), rfl, bel.frame _, fun h => by cases h⟩

theorem over : Rows.lawS4352AEntriesRow.holds Yba.pinned (OpenSpec.ofChange Rows.lawS4352AEntriesSpec) :=
  OpenClaim.holds_of_wide 3 Yba.f3 rfl rfl rfl rfl rfl rfl rfl ⟨rfl, rfl, rfl, rfl, rfl⟩ rfl rfl rfl rfl rfl (by kernel_rfl) Yba.func3 (by kernel_rfl)
    (of_decide_eq_true (by kernel_rfl)) (by unfold Func.isWrapper; first | (rw [if_pos (by decide +kernel)]; kernel_rfl) | (rw [if_neg (by decide +kernel)]; exact ⟨rfl, rfl⟩))
    (fun os started H enc _ => lifted os started H enc)

theorem proved : Rows.LawS4352AEntriesSaid := over
#print axioms proved
end Go.Proofs.Ybulkclck.entries
