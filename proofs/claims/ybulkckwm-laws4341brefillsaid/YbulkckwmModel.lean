/-
  LawS4341BModel (3): the walk.
-/
import Derived.Test.YbulkckwmWalkD
import Derived.LaidEqlPtr
namespace Go.Proofs.Ybulkckwm
open Go.RowKit Pl

theorem Box.drewN {w : World} {bi : Nat} {fr bm : Value} {m : ByteArray} {c : Nat} (h : Box w bi fr bm m c) (q : Nat) : Box (w.drewN q) bi fr bm m c := h.of_block rfl
theorem CMap.drewN {w : World} {b n d : Nat} {f : ByteArray → Nat} (h : CMap w b n f d) (q : Nat) : CMap (w.drewN q) b n f d := h.of_block rfl
theorem Vs.drewN {w : World} {a : Option Addr} {len : Nat} {ss : List ByteArray} (h : Vs w a len ss) (q : Nat) : Vs (w.drewN q) a len ss := h

theorem neq_ptr_same {P : Program} {tp te : TypeId} {j : TypeInfo} (w : World) (a : Addr) (hp : P.underlying tp = some (.pointer te)) (hte : P.info? te = some j) :
    (binOp .neq tp (.pointer (some a)) (.pointer (some a))).run P w = .ok (.bool false) w := by
  have h : ∀ d : Nat, (Op.equalIn (d + 1) tp (.pointer (some a)) (.pointer (some a))).run P w = .ok true w := fun d => by
    simp [Op.equalIn, run_underlying hp, sizeOf, typeInfo, hte, run_sameAddr_same]
  simp only [binOp]
  simp [Op.equal, Op.maxDepth, h 9999]

/-- The check, over what 'fill' leaves. -/
theorem check_filled {bi bm : Nat} {a : Option Addr} {len cap : Nat} {ss : List ByteArray} {w' : World} (hl : len ≤ 1024) (hss : ∀ j, (ss.getD j ByteArray.empty).size ≤ maxLen) (hv : Vs w' a len ss)
    {m : ByteArray} {c : Nat} (hbox : Box w' bi (.slice a len cap) (.map (some bm)) m c) (hmap : CMap w' bm len (fTo ss len) (dTo ss len)) (hlead : IsLead (fTo ss len) m c) (q : Nat) :
    Calls Yba.prog 7 #[.pointer (some ⟨bi, 0, none⟩), .slice a len cap] (w'.drewN q) fun e w'' => e = .returned (.bool true) ∧ ∃ q, w'' = w'.drewN q :=
  (check_any bi bm len a len cap ss (w'.drewN q) _ m c hl (hv.drewN q) hss (hbox.drewN q) (hmap.drewN q) hlead).mono fun e w'' ⟨h1, q', h2⟩ => ⟨h1, q + q', by rw [h2]; exact World.drewN_drewN _ _ _⟩

set_option maxHeartbeats 1000000 in
theorem model_nil (w : World) : Calls Yba.prog 3 #[.slice none 0 0] w fun e w' => e = .returned (.bool true) ∧ Below w.heap.size w w' := by
  have hnew := new_any none 0 0 [] w (by omega) (Or.inl rfl) (fun x h => by cases h) (fun j => by simp)
  have n1 := fun w => Lib.run_eql_slice_nil (P := Yba.prog) w 23 29 none 0 0 0 0 Yba.underlying23
  have n2 := fun w => run_neq_slice_nil_any (P := Yba.prog) w 28 58 none 0 0 0 0 Yba.underlying28
  go_enter Yba.func3, Yba.ntmps3
  go_wp2_with (first | (go_at_call 5; refine (values_nil _).mono ?_; rintro e w1 ⟨rfl, rfl⟩) | (go_at_call 6; refine hnew.mono ?_; rintro e w1 ⟨rfl, hF⟩; obtain ⟨m, c, h1, h2, h3, h4, h5⟩ := hF; have b0 := h1.c0; have b2 := h1.c2))
  go_quiet (fail)
  go_wp2
  refine wp_loop_rounds 1 ?_
  rw [rounds_succ]
  go_wp2_with (go_at_call 7; refine (check_filled (by omega) (fun j => by simp) (Or.inl rfl) h1 h2 h3 _).mono ?_; rintro e w2 ⟨rfl, q, rfl⟩)
  go_ret
  exact ⟨rfl, below_drewN h5 _⟩

theorem model_long (a : Option Addr) (len cap : Nat) (w : World) (hl : 1024 < len) : Calls Yba.prog 3 #[.slice a len cap] w fun e w' => e = .returned (.bool true) ∧ Below w.heap.size w w' := by
  go_enter Yba.func3, Yba.ntmps3
  go_wp2
  go_ret
  exact ⟨rfl, Below.refl _ _⟩

set_option maxHeartbeats 1000000 in
theorem model_empty (x : Addr) (cap : Nat) (w : World) : Calls Yba.prog 3 #[.slice (some x) 0 cap] w fun e w' => e = .returned (.bool true) ∧ Below w.heap.size w w' := by
  have hval := values_any x 0 cap [] w (by omega) (Or.inl rfl)
  have n1 := fun w b => Lib.run_eql_slice_nil (P := Yba.prog) w 23 29 (some ⟨b, 0, none⟩) 0 0 0 0 Yba.underlying23
  have n2 := fun w => run_neq_slice_nil_any (P := Yba.prog) w 28 58 none 0 0 0 0 Yba.underlying28
  have hss : ∀ j, (([] : List ByteArray).getD j ByteArray.empty).size ≤ maxLen := fun j => by simp
  go_enter Yba.func3, Yba.ntmps3
  go_wp2_with fail
  refine hval.mono ?_
  rintro e w1 ⟨rfl, hb1, hs1, hv1⟩
  have hnew := new_any (some ⟨w.heap.size, 0, none⟩) 0 0 [] w1 (by omega) (Or.inl rfl) (fun x h => by cases h; show w.heap.size < _; omega) hss
  have HS1 : Hid (w1.heap.size = w.heap.size + 1) := hs1
  clear hs1 hval
  go_wp2_with fail
  refine hnew.mono ?_
  rintro e w2 ⟨rfl, hF⟩
  obtain ⟨m, c, h1, h2, h3, h4, h5⟩ := hF
  have b0 := h1.c0
  have b2 := h1.c2
  have h5' : Below w.heap.size w w2 := hb1.trans (h5.mono (by rw [HS1.out]; omega))
  go_wp2
  go_quiet (fail)
  go_wp2
  refine wp_loop_rounds 1 ?_
  rw [rounds_succ]
  go_wp2_with (go_at_call 7; refine (check_filled (by omega) hss (Or.inl rfl) h1 h2 h3 _).mono ?_; rintro e w2 ⟨rfl, q, rfl⟩)
  go_ret
  exact ⟨rfl, below_drewN h5' _⟩

set_option maxHeartbeats 1000000 in
theorem model_any (b off len cap : Nat) (ss : List ByteArray) (w : World) (hl : len ≤ 1024) (h0 : 0 < len) (hc : ∀ j, j < len → w.cell? ⟨b, off + j, none⟩ = some (.string (ss.getD j ByteArray.empty))) (hss : ∀ j, (ss.getD j ByteArray.empty).size ≤ maxLen) :
    Calls Yba.prog 3 #[.slice (some ⟨b, off, none⟩) len cap] w fun e w' => e = .returned (.bool true) ∧ Below w.heap.size w w' := by
  have hval := values_any ⟨b, off, none⟩ len cap ss w hl (Or.inr ⟨b, off, rfl, hc⟩)
  have n1 := fun w b => Lib.run_eql_slice_nil (P := Yba.prog) w 23 29 (some ⟨b, 0, none⟩) len len 0 0 Yba.underlying23
  have n2 := fun w => run_neq_slice_nil_any (P := Yba.prog) w 28 58 none 0 0 0 0 Yba.underlying28
  obtain ⟨i29, hi29, _⟩ := info_parts Yba.info29
  have np := fun w a => neq_ptr_same (P := Yba.prog) w a Yba.underlying32 hi29
  have hbw := cell_lt (hc 0 h0)
  have hl' : ¬ (1024 : Int) < len := by omega
  have h0' : (0 : Int) < len := by omega
  go_enter Yba.func3, Yba.ntmps3
  go_wp2_with fail
  refine hval.mono ?_
  rintro e w1 ⟨rfl, hb1, hs1, hv1⟩
  have hnew := new_any (some ⟨w.heap.size, 0, none⟩) len len ss w1 hl hv1 (fun x h => by cases h; show w.heap.size < _; omega) hss
  have HS1 : Hid (w1.heap.size = w.heap.size + 1) := hs1
  clear hs1 hval
  go_wp2_with fail
  refine hnew.mono ?_
  rintro e w2 ⟨rfl, hF⟩
  obtain ⟨m, c, h1, h2, h3, h4, h5⟩ := hF
  have b0 := h1.c0
  have b2 := h1.c2
  have h5' : Below w.heap.size w w2 := hb1.trans (h5.mono (by rw [HS1.out]; omega))
  have hv2 : Vs w2 (some ⟨w.heap.size, 0, none⟩) len ss := hv1.below h5 (fun x h => by cases h; show w.heap.size < _; rw [HS1.out]; omega)
  have hc2 : ∀ j, j < len → w2.cell? ⟨b, off + j, none⟩ = some (.string (ss.getD j ByteArray.empty)) := fun j hj => (h5'.cell (p := ⟨b, off + j, none⟩) hbw).trans (hc j hj)
  have hcv : ∀ j, j < len → w2.cell? ⟨w.heap.size, j, none⟩ = some (.string (ss.getD j ByteArray.empty)) := by
    rcases hv2 with h | ⟨b', off', e, h⟩
    · omega
    · cases e; simpa using h
  have HC2 := show Hid _ from hc2
  have HCV := show Hid _ from hcv
  clear hc hv1 hnew hc2 hcv
  go_wp2
  go_quiet (fail)
  go_wp2
  go_loopw [5] (fun i wr => ∃ k q : Nat, k ≤ len ∧ i = .int .i64 k ∧ wr = w2.drewN q) (fun i _ => len - (intOf i).toNat)
  case atStart => exact ⟨0, _, Nat.zero_le _, rfl, rfl⟩
  case round =>
    obtain ⟨k, q, hk, rfl, rfl⟩ := hrel
    by_cases hkl : k < len
    · obtain ⟨s, hs⟩ : ∃ s, s = ss.getD k ByteArray.empty := ⟨_, rfl⟩
      have d1 : w2.cell? ⟨b, off + k, none⟩ = some (.string s) := by rw [hs]; exact HC2.out k hkl
      have d2 : w2.cell? ⟨w.heap.size, k, none⟩ = some (.string s) := by rw [hs]; exact HCV.out k hkl
      clear hs
      go_wp2
      go_quiet (fail)
      go_wp2
      go_roundw
      case rel => exact ⟨k + 1, _, by omega, by go_num, rfl⟩
      case measure => simp [intOf]; omega
    · go_wp2_with (go_at_call 7; refine (check_filled hl hss hv2 h1 h2 h3 _).mono ?_; rintro e w2 ⟨rfl, q, rfl⟩)
      go_ret
      exact ⟨rfl, below_drewN h5' _⟩

end Go.Proofs.Ybulkckwm
