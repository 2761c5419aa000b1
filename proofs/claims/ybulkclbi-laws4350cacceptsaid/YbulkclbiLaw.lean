/-
  LawS4350CAccept (7): the walk.
-/
import Derived.Test.YbulkclbiWalkB
namespace Go.Proofs.Ybulkclbi
open Go.RowKit

theorem Yba.info57 : (Yba.prog.info? 57).map (fun i => (i.zero, i.size, i.bytes)) = some (some (.pointer none), 1, 8) := by kernel_rfl
theorem Yba.info30 : (Yba.prog.info? 30).map (fun i => (i.zero, i.size, i.bytes)) = some (some .nilIface, 1, 16) := by kernel_rfl

theorem law_long (a : Option Addr) (n cap : Nat) (w : World) (hl : 1024 < n) : Calls Yba.prog 7 #[.slice a n cap] w fun e w' => e = .returned (.bool true) ∧ Below w.heap.size w w' := by
  go_enter Yba.func7, Yba.ntmps7
  go_wp2
  go_ret
  exact ⟨rfl, Below.refl _ _⟩

set_option maxRecDepth 100000 in
set_option maxHeartbeats 1000000 in
theorem law_zero (a : Option Addr) (cap : Nat) (w : World) : Calls Yba.prog 7 #[.slice a 0 cap] w fun e w' => e = .returned (.bool true) ∧ Below w.heap.size w w' := by
  have hm1 : ∀ w : World, (Instr.makeSlice 55 (.int .i64 0) (.int .i64 0)).run Yba.prog w = .ok (.slice (some ⟨w.heap.size, 0, none⟩) 0 0) (w.alloc (.cells (madeCells #[.pointer none] 0) 57)) := run_make_row' (P := Yba.prog) 55 57 (.pointer none) 8 Yba.underlying55 Yba.info57 rfl .i64 .i64 0 (by omega) (by omega)
  have hm2 : ∀ w : World, (Instr.makeSlice 56 (.int .i64 0) (.int .i64 0)).run Yba.prog w = .ok (.slice (some ⟨w.heap.size, 0, none⟩) 0 0) (w.alloc (.cells (madeCells #[.nilIface] 0) 30)) := run_make_row' (P := Yba.prog) 56 30 .nilIface 16 Yba.underlying56 Yba.info30 rfl .i64 .i64 0 (by omega) (by omega)
  go_enter Yba.func7, Yba.ntmps7
  go_wp2
  refine wp_loop_rounds 1 ?_
  rw [rounds_succ]
  go_wp2
  refine wp_loop_rounds 1 ?_
  rw [rounds_succ]
  go_wp2
  go_ret
  exact ⟨rfl, ((((Below.refl _ _).alloc (Nat.le_refl _) _).alloc (by simp) _).alloc (by simp; omega) _).alloc (by simp; omega) _⟩

/-- The j-th stand-in connection's block, the j-th error's. -/
def cb (B j : Nat) : Nat := B + 2 + 2 * j
def eb (B j : Nat) : Nat := B + 3 + 2 * j

/-- What stands when k connections and errors are made; B: the heap's size before. -/
def Made (w wr : World) (n k : Nat) : Prop :=
  wr.rowIs w.heap.size 57 n (fun j => .pointer (if j < k then some ⟨cb w.heap.size j, 0, none⟩ else none)) ∧ wr.rowIs (w.heap.size + 1) 30 n (fun j => if j < k then .iface 72 (.pointer (some ⟨eb w.heap.size j, 0, none⟩)) else .nilIface) ∧
    Below w.heap.size w wr ∧ wr.heap.size = w.heap.size + 2 + 2 * k

theorem Made.start (w : World) (n : Nat) : Made w ((w.alloc (.cells (madeCells #[.pointer none] n) 57)).alloc (.cells (madeCells #[.nilIface] n) 30)) n 0 := by
  refine ⟨((World.rowIs_made w (.pointer none) n 57).congr (fun _ _ => by simp)).alloc _, ?_, ((Below.refl _ _).alloc (Nat.le_refl _) _).alloc (by simp) _, by simp⟩
  have := World.rowIs_made (w.alloc (.cells (madeCells #[.pointer none] n) 57)) .nilIface n 30
  simp only [World.size_alloc] at this
  exact this.congr (fun _ _ => by simp)

theorem size_setCell (w : World) (a : Addr) (v : Value) : (w.setCell a v).heap.size = w.heap.size := by simp [World.setCell]

theorem Made.step {w wr : World} {n k : Nat} (h : Made w wr n k) (hk : k < n) (o1 o2 : Obj) : Made w ((((wr.setCell ⟨w.heap.size, k, none⟩ (.pointer (some ⟨wr.heap.size, 0, none⟩))).setCell ⟨w.heap.size + 1, k, none⟩ (.iface 72 (.pointer (some ⟨wr.heap.size + 1, 0, none⟩)))).alloc o1).alloc o2) n (k + 1) := by
  obtain ⟨h1, h2, h3, h4⟩ := h
  have e1 : wr.heap.size = cb w.heap.size k := by unfold cb; omega
  have e2 : wr.heap.size + 1 = eb w.heap.size k := by unfold eb; omega
  refine ⟨?_, ?_, ?_, ?_⟩
  · have r := (h1.set k (.pointer (some ⟨wr.heap.size, 0, none⟩))).congr (g := fun j => .pointer (if j < k + 1 then some ⟨cb w.heap.size j, 0, none⟩ else none)) (fun j _ => by
      by_cases e : j = k
      · subst e; simp [e1]
      · have e' : (j < k + 1) = (j < k) := by simp; omega
        simp [e, e'])
    exact (((r.setOther (a := ⟨w.heap.size + 1, k, none⟩) (by show w.heap.size ≠ w.heap.size + 1; omega) _).alloc o1).alloc o2)
  · have r := ((h2.setOther (a := ⟨w.heap.size, k, none⟩) (by show w.heap.size + 1 ≠ w.heap.size; omega) (.pointer (some ⟨wr.heap.size, 0, none⟩))).set k (.iface 72 (.pointer (some ⟨wr.heap.size + 1, 0, none⟩)))).congr (g := fun j => if j < k + 1 then .iface 72 (.pointer (some ⟨eb w.heap.size j, 0, none⟩)) else .nilIface) (fun j _ => by
      by_cases e : j = k
      · subst e; simp [e2]
      · have e' : (j < k + 1) = (j < k) := by simp; omega
        simp [e, e'])
    exact (r.alloc o1).alloc o2
  · refine ((((h3.setCell (p := ⟨w.heap.size, k, none⟩) (Nat.le_refl _) _).setCell (p := ⟨w.heap.size + 1, k, none⟩) (by show w.heap.size ≤ w.heap.size + 1; omega) _).alloc ?_ o1).alloc ?_ o2)
    · rw [size_setCell, size_setCell]; omega
    · rw [World.size_alloc, size_setCell, size_setCell]; omega
  · rw [World.size_alloc, World.size_alloc, size_setCell, size_setCell]; omega

/-- What stands at the head of the second loop's i-th round; wa: the world when all connections are made; S: its size. -/
structure Ready (wa w' : World) (S b off n cap B i : Nat) : Prop where
  bel : Below S wa w'
  c0 : w'.cell? ⟨S, 0, none⟩ = some (.slice (some ⟨b, off, none⟩) n cap)
  c1 : w'.cell? ⟨S, 1, none⟩ = some (.int .i64 i)
  c2 : w'.cell? ⟨S, 2, none⟩ = some (.slice (some ⟨B, 0, none⟩) n n)
  c3 : w'.cell? ⟨S, 3, none⟩ = some (.slice (some ⟨B + 1, 0, none⟩) n n)
  f1 : w'.frozen? ⟨S, 1, none⟩ = false
  l0 : w'.cell? ⟨S + 1, 0, none⟩ = some (.iface 60 (.pointer (some ⟨S, 0, none⟩)))

theorem Ready.step {wa w' w'' : World} {S b off n cap B i : Nat} (h : Ready wa w' S b off n cap B i) (hb : Below w'.heap.size (Asked w' S i) w'') : Ready wa w'' S b off n cap B (i + 1) := by
  have hS := cell_lt h.c0
  have hL := cell_lt h.l0
  have hsz := asked_size w' S i
  refine ⟨?_, ?_, ?_, ?_, ?_, ?_, ?_⟩
  · exact (h.bel.setCell (p := ⟨S, 1, none⟩) (Nat.le_refl _) _).trans (hb.mono (by omega))
  · exact (hb.cell (p := ⟨S, 0, none⟩) hS).trans ((World.cell?_setCell_other _ _ _ _ (by simp)).trans h.c0)
  · exact (hb.cell (p := ⟨S, 1, none⟩) hS).trans ((World.cell?_setCell_same _ _ _ h.c1).trans (by simp))
  · exact (hb.cell (p := ⟨S, 2, none⟩) hS).trans ((World.cell?_setCell_other _ _ _ _ (by simp)).trans h.c2)
  · exact (hb.cell (p := ⟨S, 3, none⟩) hS).trans ((World.cell?_setCell_other _ _ _ _ (by simp)).trans h.c3)
  · exact (hb.frozen (p := ⟨S, 1, none⟩) hS).trans ((World.frozen?_setCell _ _ _ _).trans h.f1)
  · exact (hb.cell (p := ⟨S + 1, 0, none⟩) hL).trans ((World.cell?_setCell_other _ _ _ _ (by simp)).trans h.l0)

/-- The stand-in listener, at its i-th call. -/
theorem Ready.lis {w wa w' : World} {S b off n cap i : Nat} {zs : List Int} (h : Ready wa w' S b off n cap w.heap.size i) (hm : Made w wa n n) (hS : S = wa.heap.size) (hi : i < n) (hbw : b < w.heap.size) (hc : ∀ j, j < n → w.cell? ⟨b, off + j, none⟩ = some (.int .u8 (zs.getD j 0))) :
    Lis w' S b off n cap w.heap.size (w.heap.size + 1) i (zs.getD i 0) (cb w.heap.size i) (eb w.heap.size i) := by
  obtain ⟨m1, m2, m3, m4⟩ := hm
  refine ⟨h.c0, h.c1, h.c2, h.c3, h.f1, ?_, ?_, ?_⟩
  · exact ((h.bel.cell (p := ⟨b, off + i, none⟩) (by show b < S; omega)).trans (m3.cell (p := ⟨b, off + i, none⟩) hbw)).trans (hc i hi)
  · have := m1.cell hi
    rw [if_pos hi] at this
    exact (h.bel.cell (p := ⟨w.heap.size, i, none⟩) (by show w.heap.size < S; omega)).trans this
  · have := m2.cell hi
    rw [if_pos hi] at this
    exact (h.bel.cell (p := ⟨w.heap.size + 1, i, none⟩) (by show w.heap.size + 1 < S; omega)).trans this

/-- What the law reads after the i-th call. -/
structure After (w1 : World) (S b off B1 B2 i : Nat) (z : Int) (c e : Nat) : Prop where
  c1 : w1.cell? ⟨S, 1, none⟩ = some (.int .i64 ((i : Int) + 1))
  o : w1.cell? ⟨b, off + i, none⟩ = some (.int .u8 z)
  p : w1.cell? ⟨B1, i, none⟩ = some (.pointer (some ⟨c, 0, none⟩))
  q : w1.cell? ⟨B2, i, none⟩ = some (.iface 72 (.pointer (some ⟨e, 0, none⟩)))

theorem Lis.after {w w1 : World} {S b off n cap B1 B2 i : Nat} {z : Int} {c e : Nat} (h : Lis w S b off n cap B1 B2 i z c e) (hb : b ≠ S) (hB1 : B1 ≠ S) (hB2 : B2 ≠ S) (hx : Below w.heap.size (Asked w S i) w1) : After w1 S b off B1 B2 i z c e := by
  refine ⟨?_, ?_, ?_, ?_⟩
  · exact (hx.cell (p := ⟨S, 1, none⟩) (cell_lt h.c0)).trans (World.cell?_setCell_same _ _ _ h.c1)
  · exact (hx.cell (p := ⟨b, off + i, none⟩) (cell_lt h.o)).trans ((World.cell?_setCell_other _ _ _ _ (by simp)).trans h.o)
  · exact (hx.cell (p := ⟨B1, i, none⟩) (cell_lt h.p)).trans ((World.cell?_setCell_other _ _ _ _ (by simp)).trans h.p)
  · exact (hx.cell (p := ⟨B2, i, none⟩) (cell_lt h.q)).trans ((World.cell?_setCell_other _ _ _ _ (by simp)).trans h.q)

theorem Ready.drewN {wa w' : World} {S b off n cap B i : Nat} (h : Ready wa w' S b off n cap B i) (q : Nat) : Ready wa (w'.drewN q) S b off n cap B i :=
  ⟨below_drewN h.bel q, by simpa using h.c0, by simpa using h.c1, by simpa using h.c2, by simpa using h.c3, by simpa using h.f1, by simpa using h.l0⟩

/-- A pointer in an interface value is itself. -/
theorem neq_iface_same {P : Program} {ti tp te : TypeId} {ms : Array (String × TypeId)} (w : World) (a : Addr) (hi : P.underlying ti = some (.interface ms)) (hp : P.underlying tp = some (.pointer te)) (hc : (P.info? tp).map (·.comparable) = some true) (he : (P.info? te).isSome = true) :
    (binOp .neq ti (.iface tp (.pointer (some a))) (.iface tp (.pointer (some a)))).run P w = .ok (.bool false) w := by
  obtain ⟨i, h1, h2⟩ := Option.map_eq_some_iff.mp hc
  obtain ⟨j, h3⟩ := Option.isSome_iff_exists.mp he
  simp only [binOp]
  simp [Op.equal, Op.maxDepth, run_equalIn_iface_ptr_same w 9998 a hi hp h1 h2 h3]

theorem neq34 (w : World) (a : Addr) : (binOp .neq 34 (.iface 57 (.pointer (some a))) (.iface 57 (.pointer (some a)))).run Yba.prog w = .ok (.bool false) w :=
  neq_iface_same w a Yba.underlying34 Yba.underlying57 (by kernel_rfl) (by kernel_rfl)

theorem neq30 (w : World) (a : Addr) : (binOp .neq 30 (.iface 72 (.pointer (some a))) (.iface 72 (.pointer (some a)))).run Yba.prog w = .ok (.bool false) w :=
  neq_iface_same w a Yba.underlying30 Yba.underlying72 (by kernel_rfl) (by kernel_rfl)

theorem asserted (w : World) (a : Addr) : (Instr.typeAssert (.iface 37 (.pointer (some a))) 34 37 true).run Yba.prog w = .ok (.tuple #[.pointer (some a), .bool true]) w := by kernel_rfl

set_option maxRecDepth 100000 in
set_option maxHeartbeats 4000000 in
theorem law_any (b off n cap : Nat) (zs : List Int) (w : World) (hn0 : 0 < n) (hn : n ≤ 1024) (hz : ∀ j, 0 ≤ zs.getD j 0 ∧ zs.getD j 0 ≤ 255) (hc : ∀ j, j < n → w.cell? ⟨b, off + j, none⟩ = some (.int .u8 (zs.getD j 0))) :
    Calls Yba.prog 7 #[.slice (some ⟨b, off, none⟩) n cap] w fun e w' => e = .returned (.bool true) ∧ Below w.heap.size w w' := by
  have hm1 := run_make_row' (P := Yba.prog) 55 57 (.pointer none) 8 Yba.underlying55 Yba.info57 rfl .i64 .i64 n (by omega) (by omega)
  have hm2 := run_make_row' (P := Yba.prog) 56 30 .nilIface 16 Yba.underlying56 Yba.info30 rfl .i64 .i64 n (by omega) (by omega)
  have hn' : ¬ (1024 : Int) < n := by omega
  have hbw := cell_lt (hc 0 hn0)
  have ta := asserted
  have q34 := neq34
  have q30 := neq30
  go_enter Yba.func7, Yba.ntmps7
  go_wp2
  go_loopw [6] (fun i wr => ∃ k : Nat, k ≤ n ∧ i = .int .i64 k ∧ Made w wr n k) (fun i _ => n - (intOf i).toNat)
  case atStart => exact ⟨0, Nat.zero_le _, rfl, Made.start w n⟩
  case round =>
    obtain ⟨k, hk, rfl, hm⟩ := hrel
    by_cases hkn : k < n
    · obtain ⟨m1, m2, m3, m4⟩ := id hm
      obtain ⟨u1, e1⟩ : ∃ u, wr.cell? ⟨w.heap.size, k, none⟩ = some (.pointer u) := ⟨_, m1.cell hkn⟩
      obtain ⟨u2, e2⟩ : ∃ u, wr.cell? ⟨w.heap.size + 1, k, none⟩ = some u := ⟨_, m2.cell hkn⟩
      have f1 := m1.frozen k
      have f2 := m2.frozen k
      have hlt : w.heap.size + 1 < wr.heap.size := by omega
      have hlt0 : w.heap.size < wr.heap.size := by omega
      have hlt1 : w.heap.size + 1 < wr.heap.size + 1 := by omega
      have HM : Hid (Made w wr n k) := hm
      have M4 : Hid (wr.heap.size = w.heap.size + 2 + 2 * k) := m4
      clear m1 m2 m3 m4 hm hc
      go_wp2
      go_roundw
      case rel => exact ⟨k + 1, by omega, by go_num, HM.out.step hkn _ _⟩
      case measure => simp [intOf]; omega
    · have : k = n := by omega
      subst this
      clear hm1 hm2
      obtain ⟨S, hS⟩ : ∃ S, S = wr.heap.size := ⟨_, rfl⟩
      have hlt : w.heap.size + 1 < wr.heap.size := by have := hm.2.2.2; omega
      go_wp2
      obtain ⟨V, hV⟩ : ∃ V : World, V = (wr.alloc (.cells #[.slice (some ⟨b, off, none⟩) k cap, .int .i64 0, .slice (some ⟨w.heap.size, 0, none⟩) k k, .slice (some ⟨w.heap.size + 1, 0, none⟩) k k] 62)).alloc (.cells #[.iface 60 (.pointer (some ⟨wr.heap.size, 0, none⟩))] 66) := ⟨_, rfl⟩
      have hR : Ready wr V S b off k cap w.heap.size 0 := by
        subst hS
        rw [hV]
        exact ⟨((Below.refl _ _).alloc (Nat.le_refl _) _).alloc (by simp) _, by go_simp, by go_simp, by go_simp, by go_simp, by go_simp, by go_simp⟩
      rw [← hV, ← hS]
      clear hV
      have HS : Hid (S = wr.heap.size) := hS
      clear hS
      obtain ⟨wa, rfl⟩ : ∃ wa : World, wa = wr := ⟨_, rfl⟩
      have HM : Hid (Made w wa k k) := hm
      clear hm
      go_loopw [9] (fun i wi => ∃ j : Nat, j ≤ k ∧ i = .int .i64 j ∧ Ready wa wi S b off k cap w.heap.size j) (fun i _ => k - (intOf i).toNat)
      case atStart => exact ⟨0, Nat.zero_le _, rfl, hR⟩
      case round =>
        clear hR
        obtain ⟨j, hj, rfl, hr⟩ := hrel
        by_cases hjk : j < k
        · have hl := hr.lis HM.out HS.out hjk hbw hc
          have l0 := hr.l0
          have hbS : b ≠ S := by have := HS.out; have := HM.out.2.2.2; omega
          have hAS : w.heap.size ≠ S := by have := HS.out; have := HM.out.2.2.2; omega
          have hAS1 : w.heap.size + 1 ≠ S := by have := HS.out; have := HM.out.2.2.2; omega
          have hzj := hz j
          have HR : Hid (Ready wa wr S b off k cap w.heap.size j) := hr
          clear hr
          obtain ⟨z, hze⟩ : ∃ z, z = zs.getD j 0 := ⟨_, rfl⟩
          rw [← hze] at hl hzj
          have HC : Hid (∀ j, j < k → w.cell? ⟨b, off + j, none⟩ = some (.int .u8 (zs.getD j 0))) := hc
          clear hc hze
          obtain ⟨hz0, hz1⟩ := hzj
          have hzz : z % 4 = 0 ∨ z % 4 = 1 ∨ z % 4 = 2 ∨ z % 4 = 3 := by omega
          have HL : Hid (Lis wr S b off k cap w.heap.size (w.heap.size + 1) j z (cb w.heap.size j) (eb w.heap.size j)) := hl
          clear hl
          have hjk' : (j : Int) < k := by omega
          have hj1 : (j : Int) + 1 ≤ 1024 := by omega
          rcases hzz with hz4 | hz4 | hz4 | hz4
          · have HA : Hid (Calls Yba.prog 14 #[.agg #[.iface 60 (.pointer (some ⟨S, 0, none⟩))]] wr fun e w' => ∃ C, e = .returned (.tuple #[.iface 37 (.pointer (some ⟨C, 0, none⟩)), .nilIface]) ∧ w'.cell? ⟨C, 0, none⟩ = some (.iface 57 (.pointer (some ⟨cb w.heap.size j, 0, none⟩))) ∧ w'.cell? ⟨C, 3, none⟩ = some (.pointer none) ∧ Below wr.heap.size (Asked wr S j) w') :=
              acc0 S b off k cap w.heap.size (w.heap.size + 1) j z _ _ wr hjk hn hz0 hz1 hz4 hbS hAS hAS1 HL.out
            have hz0' : (z % 4 == 0) = true := by simp [hz4]
            have hz2' : (z % 4 == 2) = false := by simp [hz4]
            clear hz4
            go_wp2_with (go_at_call 14; refine HA.out.mono ?_; rintro e w1 ⟨C, rfl, d0, d3, hb1⟩; have ha := HL.out.after hbS hAS hAS1 hb1; obtain ⟨a1, a2, a3, a4⟩ := ha)
            go_quiet (fail)
            go_wp2
            go_roundw
            case rel => exact ⟨j + 1, by omega, by go_num, (HR.out.step hb1).drewN _⟩
            case measure => simp [intOf]; omega
          · have HA : Hid (Calls Yba.prog 14 #[.agg #[.iface 60 (.pointer (some ⟨S, 0, none⟩))]] wr fun e w' => e = .returned (.tuple #[.nilIface, .iface 72 (.pointer (some ⟨eb w.heap.size j, 0, none⟩))]) ∧ Below wr.heap.size (Asked wr S j) w') :=
              acc1 S b off k cap w.heap.size (w.heap.size + 1) j z _ _ wr hjk hn hz0 hz1 hz4 hbS hAS hAS1 HL.out
            have hz0' : (z % 4 == 0) = false := by simp [hz4]
            have hz2' : (z % 4 == 2) = false := by simp [hz4]
            clear hz4
            go_wp2_with (go_at_call 14; refine HA.out.mono ?_; rintro e w1 ⟨rfl, hb1⟩; have ha := HL.out.after hbS hAS hAS1 hb1; obtain ⟨a1, a2, a3, a4⟩ := ha)
            go_roundw
            case rel => exact ⟨j + 1, by omega, by go_num, HR.out.step hb1⟩
            case measure => simp [intOf]; omega
          · have HA : Hid (Calls Yba.prog 14 #[.agg #[.iface 60 (.pointer (some ⟨S, 0, none⟩))]] wr fun e w' => ∃ C, e = .returned (.tuple #[.iface 37 (.pointer (some ⟨C, 0, none⟩)), .nilIface]) ∧ w'.cell? ⟨C, 0, none⟩ = some (.nilIface) ∧ w'.cell? ⟨C, 3, none⟩ = some (.pointer none) ∧ Below wr.heap.size (Asked wr S j) w') :=
              acc2 S b off k cap w.heap.size (w.heap.size + 1) j z _ _ wr hjk hn hz0 hz1 hz4 hbS hAS hAS1 HL.out
            have hz0' : (z % 4 == 0) = false := by simp [hz4]
            have hz2' : (z % 4 == 2) = true := by simp [hz4]
            clear hz4
            go_wp2_with (go_at_call 14; refine HA.out.mono ?_; rintro e w1 ⟨C, rfl, d0, d3, hb1⟩; have ha := HL.out.after hbS hAS hAS1 hb1; obtain ⟨a1, a2, a3, a4⟩ := ha)
            go_roundw
            case rel => exact ⟨j + 1, by omega, by go_num, HR.out.step hb1⟩
            case measure => simp [intOf]; omega
          · have HA : Hid (Calls Yba.prog 14 #[.agg #[.iface 60 (.pointer (some ⟨S, 0, none⟩))]] wr fun e w' => e = .returned (.tuple #[.nilIface, .iface 72 (.pointer (some ⟨eb w.heap.size j, 0, none⟩))]) ∧ Below wr.heap.size (Asked wr S j) w') :=
              acc3 S b off k cap w.heap.size (w.heap.size + 1) j z _ _ wr hjk hn hz0 hz1 hz4 hbS hAS hAS1 HL.out
            have hz0' : (z % 4 == 0) = false := by simp [hz4]
            have hz2' : (z % 4 == 2) = false := by simp [hz4]
            clear hz4
            go_wp2_with (go_at_call 14; refine HA.out.mono ?_; rintro e w1 ⟨rfl, hb1⟩; have ha := HL.out.after hbS hAS hAS1 hb1; obtain ⟨a1, a2, a3, a4⟩ := ha)
            go_roundw
            case rel => exact ⟨j + 1, by omega, by go_num, HR.out.step hb1⟩
            case measure => simp [intOf]; omega
        · have : j = k := by omega
          subst this
          clear hc
          go_wp2
          go_ret
          exact ⟨rfl, HM.out.2.2.1.trans (hr.bel.mono (by have := HS.out; have := HM.out.2.2.2; omega))⟩

end Go.Proofs.Ybulkclbi
