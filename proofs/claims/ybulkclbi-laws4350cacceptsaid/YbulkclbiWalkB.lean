/-
  (listener).Accept (14).
-/
import Derived.Test.YbulkclbiWalkA
namespace Go.Proofs.Ybulkclbi
open Go.RowKit

theorem cell_lt {w : World} {b o : Nat} {v : Value} (h : w.cell? ⟨b, o, none⟩ = some v) : b < w.heap.size := by
  by_cases c : b < w.heap.size
  · exact c
  · have : w.heap[b]? = none := Array.getElem?_eq_none (by omega)
    simp [World.cell?, this] at h

theorem Lis.below {w w' : World} {S b off n cap B1 B2 i : Nat} {z : Int} {cb eb : Nat} (h : Lis w S b off n cap B1 B2 i z cb eb) (hb : Below w.heap.size w w') : Lis w' S b off n cap B1 B2 i z cb eb :=
  ⟨(hb.cell (p := ⟨S, 0, none⟩) (cell_lt h.c0)).trans h.c0, (hb.cell (p := ⟨S, 1, none⟩) (cell_lt h.c0)).trans h.c1, (hb.cell (p := ⟨S, 2, none⟩) (cell_lt h.c0)).trans h.c2, (hb.cell (p := ⟨S, 3, none⟩) (cell_lt h.c0)).trans h.c3,
    (hb.frozen (p := ⟨S, 1, none⟩) (cell_lt h.c0)).trans h.f1, (hb.cell (p := ⟨b, off + i, none⟩) (cell_lt h.o)).trans h.o, (hb.cell (p := ⟨B1, i, none⟩) (cell_lt h.p)).trans h.p, (hb.cell (p := ⟨B2, i, none⟩) (cell_lt h.q)).trans h.q⟩

theorem meth (a : Addr) (w : World) : (method 213 60 (.pointer (some a)) "Accept").run Yba.prog w = .ok (45, .pointer (some a)) w := by kernel_rfl

/-- The inner listener has been asked once. -/
abbrev Asked (w : World) (S i : Nat) : World := w.setCell ⟨S, 1, none⟩ (.int .i64 ((i : Int) + 1))

theorem asked_size (w : World) (S i : Nat) : (Asked w S i).heap.size = w.heap.size := by simp [World.setCell]

set_option maxHeartbeats 1000000 in
theorem acc0 (S b off n cap B1 B2 i : Nat) (z : Int) (cb eb : Nat) (w : World) (hi : i < n) (hn : n ≤ 1024) (hz0 : 0 ≤ z) (hz1 : z ≤ 255) (hz : z % 4 = 0) (hb : b ≠ S) (hB1 : B1 ≠ S) (hB2 : B2 ≠ S) (h : Lis w S b off n cap B1 B2 i z cb eb) :
    Calls Yba.prog 14 #[.agg #[.iface 60 (.pointer (some ⟨S, 0, none⟩))]] w fun e w' => ∃ C, e = .returned (.tuple #[.iface 37 (.pointer (some ⟨C, 0, none⟩)), .nilIface]) ∧ w'.cell? ⟨C, 0, none⟩ = some (.iface 57 (.pointer (some ⟨cb, 0, none⟩))) ∧ w'.cell? ⟨C, 3, none⟩ = some (.pointer none) ∧ Below w.heap.size (Asked w S i) w' := by
  have hbX : Below w.heap.size w (w.alloc (.cells #[.iface 60 (.pointer (some ⟨S, 0, none⟩))] 66)) := (Below.refl _ _).alloc (Nat.le_refl _) _
  have HI : Hid (Calls Yba.prog 45 #[.pointer (some ⟨S, 0, none⟩)] (w.alloc (.cells #[.iface 60 (.pointer (some ⟨S, 0, none⟩))] 66)) fun e w' => e = .returned (.tuple #[.iface 57 (.pointer (some ⟨cb, 0, none⟩)), .nilIface]) ∧ ∃ m, w' = ((w.alloc (.cells #[.iface 60 (.pointer (some ⟨S, 0, none⟩))] 66)).setCell ⟨S, 1, none⟩ (.int .i64 ((i : Int) + 1))).drewN m) :=
    lis0 S b off n cap B1 B2 i z cb eb _ hi hn hz0 hz1 hz hb hB1 hB2 (h.below hbX)
  have hm := meth
  have hS := cell_lt h.c0
  have hb0 : Below w.heap.size (Asked w S i) (Asked w S i) := Below.refl _ _
  clear h hbX
  go_enter Yba.func14, Yba.ntmps14
  go_wp2_with (go_at_call 45; refine HI.out.mono ?_; rintro e w1 ⟨rfl, m, rfl⟩)
  go_ret2
  exact ⟨w.heap.size + 1, rfl, by go_simp, by go_simp, (below_drewN (hb0.alloc (by simp [World.setCell]) _) _).alloc (by simp [World.setCell]) _⟩

set_option maxHeartbeats 1000000 in
theorem acc1 (S b off n cap B1 B2 i : Nat) (z : Int) (cb eb : Nat) (w : World) (hi : i < n) (hn : n ≤ 1024) (hz0 : 0 ≤ z) (hz1 : z ≤ 255) (hz : z % 4 = 1) (hb : b ≠ S) (hB1 : B1 ≠ S) (hB2 : B2 ≠ S) (h : Lis w S b off n cap B1 B2 i z cb eb) :
    Calls Yba.prog 14 #[.agg #[.iface 60 (.pointer (some ⟨S, 0, none⟩))]] w fun e w' => e = .returned (.tuple #[.nilIface, .iface 72 (.pointer (some ⟨eb, 0, none⟩))]) ∧ Below w.heap.size (Asked w S i) w' := by
  have hbX : Below w.heap.size w (w.alloc (.cells #[.iface 60 (.pointer (some ⟨S, 0, none⟩))] 66)) := (Below.refl _ _).alloc (Nat.le_refl _) _
  have HI : Hid (Calls Yba.prog 45 #[.pointer (some ⟨S, 0, none⟩)] (w.alloc (.cells #[.iface 60 (.pointer (some ⟨S, 0, none⟩))] 66)) fun e w' => e = .returned (.tuple #[.nilIface, .iface 72 (.pointer (some ⟨eb, 0, none⟩))]) ∧ ∃ m, w' = ((w.alloc (.cells #[.iface 60 (.pointer (some ⟨S, 0, none⟩))] 66)).setCell ⟨S, 1, none⟩ (.int .i64 ((i : Int) + 1))).drewN m) :=
    lis1 S b off n cap B1 B2 i z cb eb _ hi hn hz0 hz1 hz hb hB1 hB2 (h.below hbX)
  have hm := meth
  have hS := cell_lt h.c0
  have hb0 : Below w.heap.size (Asked w S i) (Asked w S i) := Below.refl _ _
  clear h hbX
  go_enter Yba.func14, Yba.ntmps14
  go_wp2_with (go_at_call 45; refine HI.out.mono ?_; rintro e w1 ⟨rfl, m, rfl⟩)
  go_ret2
  exact ⟨rfl, below_drewN (hb0.alloc (by simp [World.setCell]) _) _⟩

set_option maxHeartbeats 1000000 in
theorem acc2 (S b off n cap B1 B2 i : Nat) (z : Int) (cb eb : Nat) (w : World) (hi : i < n) (hn : n ≤ 1024) (hz0 : 0 ≤ z) (hz1 : z ≤ 255) (hz : z % 4 = 2) (hb : b ≠ S) (hB1 : B1 ≠ S) (hB2 : B2 ≠ S) (h : Lis w S b off n cap B1 B2 i z cb eb) :
    Calls Yba.prog 14 #[.agg #[.iface 60 (.pointer (some ⟨S, 0, none⟩))]] w fun e w' => ∃ C, e = .returned (.tuple #[.iface 37 (.pointer (some ⟨C, 0, none⟩)), .nilIface]) ∧ w'.cell? ⟨C, 0, none⟩ = some (.nilIface) ∧ w'.cell? ⟨C, 3, none⟩ = some (.pointer none) ∧ Below w.heap.size (Asked w S i) w' := by
  have hbX : Below w.heap.size w (w.alloc (.cells #[.iface 60 (.pointer (some ⟨S, 0, none⟩))] 66)) := (Below.refl _ _).alloc (Nat.le_refl _) _
  have HI : Hid (Calls Yba.prog 45 #[.pointer (some ⟨S, 0, none⟩)] (w.alloc (.cells #[.iface 60 (.pointer (some ⟨S, 0, none⟩))] 66)) fun e w' => e = .returned (.tuple #[.nilIface, .nilIface]) ∧ ∃ m, w' = ((w.alloc (.cells #[.iface 60 (.pointer (some ⟨S, 0, none⟩))] 66)).setCell ⟨S, 1, none⟩ (.int .i64 ((i : Int) + 1))).drewN m) :=
    lis2 S b off n cap B1 B2 i z cb eb _ hi hn hz0 hz1 hz hb hB1 hB2 (h.below hbX)
  have hm := meth
  have hS := cell_lt h.c0
  have hb0 : Below w.heap.size (Asked w S i) (Asked w S i) := Below.refl _ _
  clear h hbX
  go_enter Yba.func14, Yba.ntmps14
  go_wp2_with (go_at_call 45; refine HI.out.mono ?_; rintro e w1 ⟨rfl, m, rfl⟩)
  go_ret2
  exact ⟨w.heap.size + 1, rfl, by go_simp, by go_simp, (below_drewN (hb0.alloc (by simp [World.setCell]) _) _).alloc (by simp [World.setCell]) _⟩

set_option maxHeartbeats 1000000 in
theorem acc3 (S b off n cap B1 B2 i : Nat) (z : Int) (cb eb : Nat) (w : World) (hi : i < n) (hn : n ≤ 1024) (hz0 : 0 ≤ z) (hz1 : z ≤ 255) (hz : z % 4 = 3) (hb : b ≠ S) (hB1 : B1 ≠ S) (hB2 : B2 ≠ S) (h : Lis w S b off n cap B1 B2 i z cb eb) :
    Calls Yba.prog 14 #[.agg #[.iface 60 (.pointer (some ⟨S, 0, none⟩))]] w fun e w' => e = .returned (.tuple #[.nilIface, .iface 72 (.pointer (some ⟨eb, 0, none⟩))]) ∧ Below w.heap.size (Asked w S i) w' := by
  have hbX : Below w.heap.size w (w.alloc (.cells #[.iface 60 (.pointer (some ⟨S, 0, none⟩))] 66)) := (Below.refl _ _).alloc (Nat.le_refl _) _
  have HI : Hid (Calls Yba.prog 45 #[.pointer (some ⟨S, 0, none⟩)] (w.alloc (.cells #[.iface 60 (.pointer (some ⟨S, 0, none⟩))] 66)) fun e w' => e = .returned (.tuple #[.iface 57 (.pointer (some ⟨cb, 0, none⟩)), .iface 72 (.pointer (some ⟨eb, 0, none⟩))]) ∧ ∃ m, w' = ((w.alloc (.cells #[.iface 60 (.pointer (some ⟨S, 0, none⟩))] 66)).setCell ⟨S, 1, none⟩ (.int .i64 ((i : Int) + 1))).drewN m) :=
    lis3 S b off n cap B1 B2 i z cb eb _ hi hn hz0 hz1 hz hb hB1 hB2 (h.below hbX)
  have hm := meth
  have hS := cell_lt h.c0
  have hb0 : Below w.heap.size (Asked w S i) (Asked w S i) := Below.refl _ _
  clear h hbX
  go_enter Yba.func14, Yba.ntmps14
  go_wp2_with (go_at_call 45; refine HI.out.mono ?_; rintro e w1 ⟨rfl, m, rfl⟩)
  go_ret2
  exact ⟨rfl, below_drewN (hb0.alloc (by simp [World.setCell]) _) _⟩

end Go.Proofs.Ybulkclbi
