/-
  LawS4352AEntries (3): the walk.
-/
import Derived.Test.YbulkclckWalkA
import Derived.LaidEql
namespace Go.Proofs.Ybulkclck
open Go.RowKit

theorem law_long (a : Option Addr) (n cap : Nat) (w : World) (hl : 1024 < n) : Calls Yba.prog 3 #[.slice a n cap] w fun e w' => e = .returned (.bool true) ∧ Below w.heap.size w w' := by
  go_enter Yba.func3, Yba.ntmps3
  go_wp2
  go_ret
  exact ⟨rfl, Below.refl _ _⟩

set_option maxRecDepth 100000 in
set_option maxHeartbeats 1000000 in
theorem law_zero (a : Option Addr) (cap : Nat) (w : World) : Calls Yba.prog 3 #[.slice a 0 cap] w fun e w' => e = .returned (.bool true) ∧ Below w.heap.size w w' := by
  have HC : Hid (Calls Yba.prog 4 #[.slice a 0 cap] w fun e w' => e = .returned (.slice (some ⟨w.heap.size, 0, none⟩) 0 0) ∧ Listed w w' 0 0 (fun _ => kId) (fun _ => kId)) := value_zero a cap _ _ w
  have n1 := fun w b => Lib.run_eql_slice_nil (P := Yba.prog) w 23 20 (some ⟨b, 0, none⟩) 0 0 0 0 Yba.underlying23
  go_enter Yba.func3, Yba.ntmps3
  go_wp2_with (go_at_call 4; refine HC.out.mono ?_; rintro e w1 ⟨rfl, h1⟩)
  refine wp_loop_rounds 1 ?_
  rw [rounds_succ]
  go_wp2
  go_ret
  exact ⟨rfl, h1.bel⟩

set_option maxRecDepth 100000 in
set_option maxHeartbeats 2000000 in
theorem law_any (b off n cap : Nat) (ks ss : Nat → ByteArray) (w : World) (hn0 : 0 < n) (hn : n ≤ 1024) (hv : Sigs w b off n ks ss) :
    Calls Yba.prog 3 #[.slice (some ⟨b, off, none⟩) n cap] w fun e w' => e = .returned (.bool true) ∧ Below w.heap.size w w' := by
  have HC : Hid (Calls Yba.prog 4 #[.slice (some ⟨b, off, none⟩) n cap] w fun e w' => e = .returned (.slice (some ⟨w.heap.size, 0, none⟩) n n) ∧ Listed w w' n n ks ss) := value_any b off n cap ks ss w hn0 hn hv
  have n1 := fun w b => Lib.run_eql_slice_nil (P := Yba.prog) w 23 20 (some ⟨b, 0, none⟩) n n 0 0 Yba.underlying23
  have HV : Hid (Sigs w b off n ks ss) := hv
  have hn' : ¬ (1024 : Int) < n := by omega
  clear hv
  go_enter Yba.func3, Yba.ntmps3
  go_wp2_with (go_at_call 4; refine HC.out.mono ?_; rintro e w1 ⟨rfl, h1⟩; have HL : Hid (Listed w w1 n n ks ss) := h1; clear h1)
  go_loopw [4] (fun i wr => ∃ k : Nat, k ≤ n ∧ i = .int .i64 k ∧ wr = w1) (fun i _ => n - (intOf i).toNat)
  case atStart => exact ⟨0, Nat.zero_le _, rfl, rfl⟩
  case round =>
    obtain ⟨k, hk, rfl, rfl⟩ := hrel
    by_cases hkn : k < n
    · have hbw := cell_lt (HV.out 0 hn0).1
      have hl := HL.out
      have d1 : wr.cell? ⟨b, off + k * 2, none⟩ = some (.string (ks k)) := (hl.bel.cell (p := ⟨b, off + k * 2, none⟩) hbw).trans (HV.out k hkn).1
      have d2 : wr.cell? ⟨b, off + k * 2 + 1, none⟩ = some (.string (ss k)) := (hl.bel.cell (p := ⟨b, off + k * 2 + 1, none⟩) hbw).trans (HV.out k hkn).2
      have e1 : wr.cell? ⟨w.heap.size, k, none⟩ = some (.iface 25 (.map (some (mb w.heap.size k)))) := by have := hl.row.cell hkn; rwa [if_pos hkn] at this
      have g := hl.maps k hkn
      have g1 := get1 g
      have g2 := get2 g
      have g3 := len2 g
      have t1 := asMap
      have t2 := asStr
      clear hl g HC
      go_wp2
      go_roundw
      case rel => exact ⟨k + 1, by omega, by go_num, trivial⟩
      case measure => simp [intOf]; omega
    · have : k = n := by omega
      subst this
      go_wp2
      go_ret
      exact ⟨rfl, HL.out.bel⟩

end Go.Proofs.Ybulkclck
