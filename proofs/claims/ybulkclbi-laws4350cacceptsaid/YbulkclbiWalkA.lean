/-
  The stand-in listener's Accept (45), errors.New (12).
-/
import Derived.Test.YbulkclbiRows
import Derived.WalkKit
import Derived.WalkSpells
import Derived.WalkLawsBesides
import Derived.Deep.QuietTactic
import Derived.BigQuiet
import Derived.Deep.OwnRows
import Derived.LaidEql
import Derived.LaidEqlPtr
namespace Go.Proofs.Ybulkclbi
open Go.RowKit

/-- What the stand-in listener in block S reads, at its i-th call. -/
structure Lis (w : World) (S b off n cap B1 B2 i : Nat) (z : Int) (cb eb : Nat) : Prop where
  c0 : w.cell? ⟨S, 0, none⟩ = some (.slice (some ⟨b, off, none⟩) n cap)
  c1 : w.cell? ⟨S, 1, none⟩ = some (.int .i64 i)
  c2 : w.cell? ⟨S, 2, none⟩ = some (.slice (some ⟨B1, 0, none⟩) n n)
  c3 : w.cell? ⟨S, 3, none⟩ = some (.slice (some ⟨B2, 0, none⟩) n n)
  f1 : w.frozen? ⟨S, 1, none⟩ = false
  o : w.cell? ⟨b, off + i, none⟩ = some (.int .u8 z)
  p : w.cell? ⟨B1, i, none⟩ = some (.pointer (some ⟨cb, 0, none⟩))
  q : w.cell? ⟨B2, i, none⟩ = some (.iface 72 (.pointer (some ⟨eb, 0, none⟩)))

set_option maxHeartbeats 1000000 in
theorem lis0 (S b off n cap B1 B2 i : Nat) (z : Int) (cb eb : Nat) (w : World) (hi : i < n) (hn : n ≤ 1024) (hz0 : 0 ≤ z) (hz1 : z ≤ 255) (hz : z % 4 = 0) (hb : b ≠ S) (hB1 : B1 ≠ S) (hB2 : B2 ≠ S) (h : Lis w S b off n cap B1 B2 i z cb eb) :
    Calls Yba.prog 45 #[.pointer (some ⟨S, 0, none⟩)] w fun e w' => e = .returned (.tuple #[.iface 57 (.pointer (some ⟨cb, 0, none⟩)), .nilIface]) ∧ ∃ m, w' = (w.setCell ⟨S, 1, none⟩ (.int .i64 ((i : Int) + 1))).drewN m := by
  obtain ⟨c0, c1, c2, c3, f1, o, p, q⟩ := h
  have hz0' : (z % 4 == 0) = true := by simp [hz]
  have hz1' : (z % 4 == 1) = false := by simp [hz]
  have hz2' : (z % 4 == 2) = false := by simp [hz]
  clear hz
  go_enter Yba.func45, Yba.ntmps45
  go_wp2
  go_ret2
  exact ⟨rfl, 0, rfl⟩

set_option maxHeartbeats 1000000 in
theorem lis1 (S b off n cap B1 B2 i : Nat) (z : Int) (cb eb : Nat) (w : World) (hi : i < n) (hn : n ≤ 1024) (hz0 : 0 ≤ z) (hz1 : z ≤ 255) (hz : z % 4 = 1) (hb : b ≠ S) (hB1 : B1 ≠ S) (hB2 : B2 ≠ S) (h : Lis w S b off n cap B1 B2 i z cb eb) :
    Calls Yba.prog 45 #[.pointer (some ⟨S, 0, none⟩)] w fun e w' => e = .returned (.tuple #[.nilIface, .iface 72 (.pointer (some ⟨eb, 0, none⟩))]) ∧ ∃ m, w' = (w.setCell ⟨S, 1, none⟩ (.int .i64 ((i : Int) + 1))).drewN m := by
  obtain ⟨c0, c1, c2, c3, f1, o, p, q⟩ := h
  have hz0' : (z % 4 == 0) = false := by simp [hz]
  have hz1' : (z % 4 == 1) = true := by simp [hz]
  have hz2' : (z % 4 == 2) = false := by simp [hz]
  clear hz
  go_enter Yba.func45, Yba.ntmps45
  go_wp2
  go_quiet (fail)
  go_wp2
  go_ret2
  exact ⟨rfl, _, rfl⟩

set_option maxHeartbeats 1000000 in
theorem lis2 (S b off n cap B1 B2 i : Nat) (z : Int) (cb eb : Nat) (w : World) (hi : i < n) (hn : n ≤ 1024) (hz0 : 0 ≤ z) (hz1 : z ≤ 255) (hz : z % 4 = 2) (hb : b ≠ S) (hB1 : B1 ≠ S) (hB2 : B2 ≠ S) (h : Lis w S b off n cap B1 B2 i z cb eb) :
    Calls Yba.prog 45 #[.pointer (some ⟨S, 0, none⟩)] w fun e w' => e = .returned (.tuple #[.nilIface, .nilIface]) ∧ ∃ m, w' = (w.setCell ⟨S, 1, none⟩ (.int .i64 ((i : Int) + 1))).drewN m := by
  obtain ⟨c0, c1, c2, c3, f1, o, p, q⟩ := h
  have hz0' : (z % 4 == 0) = false := by simp [hz]
  have hz1' : (z % 4 == 1) = false := by simp [hz]
  have hz2' : (z % 4 == 2) = true := by simp [hz]
  clear hz
  go_enter Yba.func45, Yba.ntmps45
  go_wp2
  go_ret2
  exact ⟨rfl, 0, rfl⟩

set_option maxHeartbeats 1000000 in
theorem lis3 (S b off n cap B1 B2 i : Nat) (z : Int) (cb eb : Nat) (w : World) (hi : i < n) (hn : n ≤ 1024) (hz0 : 0 ≤ z) (hz1 : z ≤ 255) (hz : z % 4 = 3) (hb : b ≠ S) (hB1 : B1 ≠ S) (hB2 : B2 ≠ S) (h : Lis w S b off n cap B1 B2 i z cb eb) :
    Calls Yba.prog 45 #[.pointer (some ⟨S, 0, none⟩)] w fun e w' => e = .returned (.tuple #[.iface 57 (.pointer (some ⟨cb, 0, none⟩)), .iface 72 (.pointer (some ⟨eb, 0, none⟩))]) ∧ ∃ m, w' = (w.setCell ⟨S, 1, none⟩ (.int .i64 ((i : Int) + 1))).drewN m := by
  obtain ⟨c0, c1, c2, c3, f1, o, p, q⟩ := h
  have hz0' : (z % 4 == 0) = false := by simp [hz]
  have hz1' : (z % 4 == 1) = false := by simp [hz]
  have hz2' : (z % 4 == 2) = false := by simp [hz]
  clear hz
  go_enter Yba.func45, Yba.ntmps45
  go_wp2
  go_quiet (fail)
  go_wp2
  go_ret2
  exact ⟨rfl, _, rfl⟩

end Go.Proofs.Ybulkclbi
