/-
  LawS4341AText (3).
-/
import Derived.Test.YbulkckwmFmtNamed
import Derived.Laws.CopyRow
import Derived.Laws.CopyOwn
namespace Go.Proofs.YbulkckwmFmt
open Go.RowKit Go.Extern.Stop Go.Stop Go.Extern

theorem Ybaf.info3 : (Ybaf.prog.info? 3).map (fun i => (i.zero, i.size, i.bytes)) = some (some (.int .i64 0), 1, 8) := by kernel_rfl

/-- 'copy(before, parties)'. -/
theorem copied (x : Addr) (len cap : Nat) (zs : List Int) (w : World) (hv : len = 0 ∨ ∃ b off, x = ⟨b, off, none⟩ ∧ ∀ j, j < len → w.cell? ⟨b, off + j, none⟩ = some (.int .i64 (zs.getD j 0))) :
    ∃ w1 : World, (∀ ty, (Builtin.copy_ #[22, 22] ty #[.slice (some ⟨w.heap.size, 0, none⟩) len len, .slice (some x) len cap]).run Ybaf.prog (w.alloc (.cells (madeCells #[.int .i64 0] len) 3)) = .ok (.int .i64 len) w1) ∧
      w1.rowIs w.heap.size 3 len (fun j => .int .i64 (zs.getD j 0)) ∧ Below w.heap.size w w1 := by
  have hb0 : Below w.heap.size w (w.alloc (.cells (madeCells #[.int .i64 0] len) 3)) := (Below.refl _ _).alloc (Nat.le_refl _) _
  have hg : (w.alloc (.cells (madeCells #[.int .i64 0] len) 3)).heap[w.heap.size]? = some (.cells (madeCells #[.int .i64 0] len) 3 (0, 0)) := (MapKept.heap_alloc w _).1
  have hcl : ((List.range len).map fun j => Value.int .i64 (zs.getD j 0)).length = len := by simp
  have hsz : (madeCells #[Value.int .i64 0] len).size = len := size_madeCells _ _
  have hrun := fun ty => run_copy_row Ybaf.prog (w.alloc (.cells (madeCells #[.int .i64 0] len) 3)) 22 22 ty 3 w.heap.size 0 len len x len cap (madeCells #[.int .i64 0] len) 3 ((List.range len).map fun j => Value.int .i64 (zs.getD j 0)) Ybaf.underlying22 (by kernel_rfl) hg
    (by rw [hcl]; simp) (fun j v hj => by
      have hjl : j < len := by
        by_cases c : j < len
        · exact c
        · rw [List.getElem?_eq_none (by simp; omega)] at hj; cases hj
      rw [List.getElem?_map, List.getElem?_range hjl] at hj
      simp only [Option.map_some, Option.some.injEq] at hj
      subst hj
      rcases hv with h | ⟨b, off, rfl, hc⟩
      · omega
      · rw [add_flat]
        exact (hb0.cell (p := ⟨b, off + j, none⟩) (cell_lt (hc j hjl))).trans (hc j hjl)) (by rw [hcl, hsz]; omega) (fun v hv => by
      obtain ⟨j, _, rfl⟩ := List.mem_map.1 hv
      rfl)
  refine ⟨_, fun ty => (hrun ty).trans (by rw [hcl]; rfl), ⟨_, setRow_heap _ _ _ _ _ _ hg, ?_, ?_⟩, below_setRow hb0 (Nat.le_refl _) _⟩
  · simp [hsz]
  · intro i hi
    simp [hsz, hi]

theorem law_long (a : Option Addr) (len cap : Nat) (w : World) (hl : 1024 < len) : Calls Ybaf.prog 3 #[.slice a len cap] w fun e w' => e = .returned (.bool true) ∧ Below w.heap.size w w' := by
  go_enter Ybaf.func3, Ybaf.ntmps3
  go_wp2
  go_ret
  exact ⟨rfl, Below.refl _ _⟩

set_option maxHeartbeats 400000 in
theorem law_nil (w : World) : Calls Ybaf.prog 3 #[.slice none 0 0] w fun e w' => e = .returned (.bool true) ∧ Below w.heap.size w w' := by
  have n1 := fun w => run_neq_slice_nil_any (P := Ybaf.prog) w 22 3 none 0 0 0 0 Ybaf.underlying22
  go_enter Ybaf.func3, Ybaf.ntmps3
  go_wp2_with (go_at_call 4; refine (named_zero _ _ _).mono ?_; rintro e w1 ⟨rfl, rfl⟩)
  refine wp_loop_rounds 1 ?_
  rw [rounds_succ]
  go_wp2_with (go_at_call 5; refine (model_zero _ _ _).mono ?_; rintro e w1 ⟨rfl, rfl⟩)
  go_ret
  exact ⟨by simp, Below.refl _ _⟩

set_option maxHeartbeats 400000 in
theorem law_empty (x : Addr) (cap : Nat) (w : World) : Calls Ybaf.prog 3 #[.slice (some x) 0 cap] w fun e w' => e = .returned (.bool true) ∧ Below w.heap.size w w' := by
  have n1 := fun w => run_neq_slice_nil_any (P := Ybaf.prog) w 22 3 (some x) 0 cap 0 0 Ybaf.underlying22
  have hmk : ∀ w : World, (Instr.makeSlice 22 (.int .i64 0) (.int .i64 0)).run Ybaf.prog w = .ok (.slice (some ⟨w.heap.size, 0, none⟩) 0 0) (w.alloc (.cells (madeCells #[.int .i64 0] 0) 3)) := run_make_row' (P := Ybaf.prog) 22 3 (.int .i64 0) 8 Ybaf.underlying22 Ybaf.info3 rfl .i64 .i64 0 (by omega) (by omega)
  obtain ⟨w1, hcp, hrow, hb1⟩ := copied x 0 cap [] w (Or.inl rfl)
  go_enter Ybaf.func3, Ybaf.ntmps3
  go_wp2_with (go_at_call 4; refine (named_zero _ _ _).mono ?_; rintro e w1 ⟨rfl, rfl⟩)
  refine wp_loop_rounds 1 ?_
  rw [rounds_succ]
  go_wp2_with (go_at_call 5; refine (model_zero _ _ _).mono ?_; rintro e w1 ⟨rfl, rfl⟩)
  go_ret
  exact ⟨by simp, hb1⟩

/-- partiesNamed of one party or more. -/
theorem named_all (F : Interp) (b off len cap : Nat) (zs : List Int) (w : World) (h0 : 0 < len) (hl : len ≤ 1024) (hz : InI64 zs) (hc : ∀ j, j < len → w.cell? ⟨b, off + j, none⟩ = some (.int .i64 (zs.getD j 0)))
    (htab : Lib.TabIs Ybaf.prog w pow10Name .u64 Lib.pow10Tab) (hF : F.answers w.tape) :
    Calls Ybaf.prog 4 #[.slice (some ⟨b, off, none⟩) len cap] w fun e w' => ∃ s : ByteArray, e = .returned (.string s) ∧ (len ≠ 1 → s.data.toList = mTo zs len) ∧ Below w.heap.size w w' := by
  by_cases h1 : len = 1
  · subst h1
    refine (named_one F b off cap (zs.getD 0 0) w hF (hc 0 (by omega))).mono ?_
    rintro e w' ⟨s, rfl, hb⟩
    exact ⟨s, rfl, fun h => absurd rfl h, hb⟩
  · refine (named_any b off len cap zs w (by omega) hl hz hc htab).mono ?_
    rintro e w' ⟨s, rfl, hs, hb⟩
    exact ⟨s, rfl, fun _ => hs, hb⟩

theorem eq_of_data {a b : ByteArray} (h : a.data.toList = b.data.toList) : (a.toList == b.toList) = true := by
  rw [ByteArray.toList_eq, ByteArray.toList_eq, h]; simp

set_option maxHeartbeats 1000000 in
theorem law_any (F : Interp) (b off len cap : Nat) (zs : List Int) (w : World) (h0 : 0 < len) (hl : len ≤ 1024) (hz : InI64 zs) (hc : ∀ j, j < len → w.cell? ⟨b, off + j, none⟩ = some (.int .i64 (zs.getD j 0)))
    (htab : Lib.TabIs Ybaf.prog w pow10Name .u64 Lib.pow10Tab) (hF : F.answers w.tape) :
    Calls Ybaf.prog 3 #[.slice (some ⟨b, off, none⟩) len cap] w fun e w' => e = .returned (.bool true) ∧ Below w.heap.size w w' := by
  have n1 := fun w => run_neq_slice_nil_any (P := Ybaf.prog) w 22 3 (some ⟨b, off, none⟩) len cap 0 0 Ybaf.underlying22
  have hmk := run_make_row' (P := Ybaf.prog) 22 3 (.int .i64 0) 8 Ybaf.underlying22 Ybaf.info3 rfl .i64 .i64 len (by omega) (by omega)
  obtain ⟨w1, hcp, hrow, hb1⟩ := copied ⟨b, off, none⟩ len cap zs w (Or.inr ⟨b, off, rfl, hc⟩)
  have hbw := cell_lt (hc 0 h0)
  have hc1 : ∀ j, j < len → w1.cell? ⟨b, off + j, none⟩ = some (.int .i64 (zs.getD j 0)) := fun j hj => (hb1.cell (p := ⟨b, off + j, none⟩) hbw).trans (hc j hj)
  have hF1 : F.answers w1.tape := by rw [hb1.tape]; exact hF
  have HN : Hid (Calls Ybaf.prog 4 #[.slice (some ⟨b, off, none⟩) len cap] w1 fun e w' => ∃ s : ByteArray, e = .returned (.string s) ∧ (len ≠ 1 → s.data.toList = mTo zs len) ∧ Below w1.heap.size w1 w') :=
    named_all F b off len cap zs w1 h0 hl hz hc1 (Lib.tabBelow_of_tabIs htab w1 hb1) hF1
  have hl' : ¬ (1024 : Int) < len := by omega
  have HC1 := show Hid _ from hc1
  have HR : Hid (w1.rowIs w.heap.size 3 len (fun j => .int .i64 (zs.getD j 0))) := hrow
  clear hF hF1 hrow hc hc1 htab
  go_enter Ybaf.func3, Ybaf.ntmps3
  go_wp2_with (go_at_call 4; refine HN.out.mono ?_; rintro e w2 ⟨s, rfl, hs, hb2⟩)
  have fin : Below w.heap.size w w2 := hb1.trans (hb2.mono hb1.size)
  have hrow2 : w2.rowIs w.heap.size 3 len (fun j => .int .i64 (zs.getD j 0)) := HR.out.of_block (hb2.block _ HR.out.lt)
  have hc2 : ∀ j, j < len → w2.cell? ⟨b, off + j, none⟩ = some (.int .i64 (zs.getD j 0)) := fun j hj => (hb2.cell (p := ⟨b, off + j, none⟩) (cell_lt (HC1.out j hj))).trans (HC1.out j hj)
  have HS := show Hid _ from hs
  have HC2 := show Hid _ from hc2
  have HR2 : Hid (w2.rowIs w.heap.size 3 len (fun j => .int .i64 (zs.getD j 0))) := hrow2
  clear hs hc2 hrow2 HN HR HC1 hcp hmk
  go_loopw [5] (fun i wr => ∃ k q : Nat, k ≤ len ∧ i = .int .i64 k ∧ wr = w2.drewN q) (fun i _ => len - (intOf i).toNat)
  case atStart => exact ⟨0, 0, Nat.zero_le _, rfl, rfl⟩
  case round =>
    obtain ⟨k, q, hk, rfl, rfl⟩ := hrel
    by_cases hkl : k < len
    · obtain ⟨z, hzk⟩ : ∃ z, z = zs.getD k 0 := ⟨_, rfl⟩
      have d1 : w2.cell? ⟨b, off + k, none⟩ = some (.int .i64 z) := by rw [hzk]; exact HC2.out k hkl
      have d2 : w2.cell? ⟨w.heap.size, k, none⟩ = some (.int .i64 z) := by rw [hzk]; exact HR2.out.cell hkl
      clear hzk
      go_wp2
      go_quiet (fail)
      go_wp2
      go_roundw
      case rel => exact ⟨k + 1, _, by omega, by go_num, rfl⟩
      case measure => simp [intOf]; omega
    · by_cases h1 : len = 1
      · have h1' : ((len : Int) == 1) = true := by simp [h1]
        clear h1
        go_wp2
        go_ret
        exact ⟨rfl, below_drewN fin _⟩
      · have h1' : ((len : Int) == 1) = false := by simp; omega
        have HM : Hid (Calls Ybaf.prog 5 #[.slice (some ⟨b, off, none⟩) len cap] (w2.drewN q) fun e w' => ∃ t : ByteArray, e = .returned (.string t) ∧ (s.toList == t.toList) = true ∧ Below w.heap.size w w') := by
          refine (model_any b off len cap zs (w2.drewN q) h0 hl hz HC2.out).mono ?_
          rintro e w' ⟨t, rfl, ht, hb⟩
          exact ⟨t, rfl, eq_of_data (by rw [HS.out h1, ht]), (below_drewN fin q).trans (hb.mono fin.size)⟩
        clear h1
        go_wp2_with (go_at_call 5; refine HM.out.mono ?_; rintro e w3 ⟨t, rfl, ht, hb3⟩)
        go_ret
        exact ⟨by simp, hb3⟩

end Go.Proofs.YbulkckwmFmt
