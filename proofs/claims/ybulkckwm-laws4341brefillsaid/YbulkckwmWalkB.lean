/-
  zzs4341bvalues (5).
-/
import Derived.Test.YbulkckwmWalkA
import Derived.Deep.OwnRows
namespace Go.Proofs.Ybulkckwm
open Go.RowKit Pl

theorem Yba.info29 : (Yba.prog.info? 29).map (fun i => (i.zero, i.size, i.bytes)) = some (some (.string ByteArray.empty), 1, 16) := by kernel_rfl

theorem cell_lt {w : World} {b o : Nat} {v : Value} (h : w.cell? ⟨b, o, none⟩ = some v) : b < w.heap.size := by
  by_cases c : b < w.heap.size
  · exact c
  · have : w.heap[b]? = none := Array.getElem?_eq_none (by omega)
    simp [World.cell?, this] at h

theorem Vs.below {B : Nat} {w w' : World} {a : Option Addr} {len : Nat} {ss : List ByteArray} (h : Vs w a len ss) (hb : Below B w w') (hB : ∀ x, a = some x → x.block < B) : Vs w' a len ss := by
  rcases h with h | ⟨b, off, rfl, hc⟩
  · exact Or.inl h
  · exact Or.inr ⟨b, off, rfl, fun j hj => (hb.cell (p := ⟨b, off + j, none⟩) (hB ⟨b, off, none⟩ rfl)).trans (hc j hj)⟩

/-- Where the values' slice lies. -/
def at5 (a : Option Addr) (w : World) : Option Addr := if a.isNone then none else some ⟨w.heap.size, 0, none⟩

theorem values_nil (w : World) : Calls Yba.prog 5 #[.slice none 0 0] w fun e w' => e = .returned (.slice none 0 0) ∧ w' = w := by
  have hn := fun w => Lib.run_eql_slice_nil (P := Yba.prog) w 22 9 none 0 0 0 0 Yba.underlying22
  go_enter Yba.func5, Yba.ntmps5
  go_wp2
  go_ret
  exact ⟨rfl, rfl⟩

set_option maxHeartbeats 400000 in
theorem values_any (x : Addr) (len cap : Nat) (ss : List ByteArray) (w : World) (hl : len ≤ 1024) (hv : Vs w (some x) len ss) :
    Calls Yba.prog 5 #[.slice (some x) len cap] w fun e w' => e = .returned (.slice (some ⟨w.heap.size, 0, none⟩) len len) ∧ Below w.heap.size w w' ∧ w'.heap.size = w.heap.size + 1 ∧ Vs w' (some ⟨w.heap.size, 0, none⟩) len ss := by
  have hn := fun w => Lib.run_eql_slice_nil (P := Yba.prog) w 22 9 (some x) len cap 0 0 Yba.underlying22
  have hmk := run_make_row' (P := Yba.prog) 23 29 (.string ByteArray.empty) 16 Yba.underlying23 Yba.info29 rfl .i64 .i64 len (by omega) (by omega)
  rcases hv with rfl | ⟨b, off, hx, hc⟩
  · have hmk0 : ∀ w : World, (Instr.makeSlice 23 (.int .i64 0) (.int .i64 0)).run Yba.prog w = .ok (.slice (some ⟨w.heap.size, 0, none⟩) 0 0) (w.alloc (.cells (madeCells #[.string ByteArray.empty] 0) 29)) := hmk
    clear hmk
    go_enter Yba.func5, Yba.ntmps5
    go_wp2
    refine wp_loop_rounds 1 ?_
    rw [rounds_succ]
    go_wp2
    go_ret
    exact ⟨rfl, (Below.refl _ _).alloc (Nat.le_refl _) _, by simp, Or.inl rfl⟩
  · obtain rfl : x = ⟨b, off, none⟩ := by simpa using hx
    clear hx
    go_enter Yba.func5, Yba.ntmps5
    go_wp2
    go_loopw [4] (fun i wr => ∃ k : Nat, k ≤ len ∧ i = .int .i64 k ∧ wr.rowIs w.heap.size 29 len (fun j => .string (if j < k then ss.getD j ByteArray.empty else ByteArray.empty)) ∧ Below w.heap.size w wr ∧ wr.heap.size = w.heap.size + 1) (fun i _ => len - (intOf i).toNat)
    case atStart => exact ⟨0, Nat.zero_le _, rfl, (World.rowIs_made w (.string ByteArray.empty) len 29).congr (fun _ _ => by simp), (Below.refl _ _).alloc (Nat.le_refl _) _, by simp⟩
    case round =>
      obtain ⟨k, hk, rfl, hrow, hnx, hsz⟩ := hrel
      by_cases hlt : k < len
      · obtain ⟨s, hs⟩ : ∃ s, s = ss.getD k ByteArray.empty := ⟨_, rfl⟩
        have hcell : wr.cell? ⟨b, off + k, none⟩ = some (.string s) := by rw [hs]; exact (hnx.cell (cell_lt (hc k hlt))).trans (hc k hlt)
        have hcw : ∃ u, wr.cell? ⟨w.heap.size, k, none⟩ = some (.string u) := ⟨_, hrow.cell hlt⟩
        obtain ⟨u, hcw⟩ := hcw
        have hfw := hrow.frozen k
        have R1 := (hrow.set k (.string s)).congr (g := fun j => .string (if j < k + 1 then ss.getD j ByteArray.empty else ByteArray.empty)) (fun i _ => by
          by_cases e : i = k
          · subst e; simp [hs]
          · have e2 : (i < k + 1) = (i < k) := by simp; omega
            simp [e, e2])
        have R2 := hnx.setCell (p := ⟨w.heap.size, k, none⟩) (Nat.le_refl _) (.string s)
        have R3 : Hid ((wr.setCell ⟨w.heap.size, k, none⟩ (.string s)).heap.size = w.heap.size + 1) := by simp [World.setCell, Hid, hsz]
        clear hs hc hrow hsz
        go_wp2
        go_roundw
        case rel => exact ⟨k + 1, by omega, by go_num, R1, R2, R3.out⟩
        case measure => simp [intOf]; omega
      · have : k = len := by omega
        subst this
        go_wp2
        go_ret
        refine ⟨rfl, hnx, hsz, Or.inr ⟨_, 0, rfl, fun j hj => ?_⟩⟩
        have := hrow.cell hj
        rw [if_pos hj] at this
        simpa using this

end Go.Proofs.Ybulkckwm
