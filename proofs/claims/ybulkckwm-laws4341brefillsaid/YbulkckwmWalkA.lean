/-
  THE SMALL WALKS: zzs4341bcount (10), zzs4341bfirst (9), lead (11).
-/
import Derived.Test.YbulkckwmMaps
import Derived.WalkSpells
import Derived.WalkLawsBesides
import Derived.Deep.QuietTactic
import Derived.BigQuiet
namespace Go.Proofs.Ybulkckwm
open Go.RowKit Pl

/-- A slice of values: of length 0; or it leads to cells that hold the first 'len' of ss. -/
def Vs (w : World) (a : Option Addr) (len : Nat) (ss : List ByteArray) : Prop :=
  len = 0 ∨ ∃ b off, a = some ⟨b, off, none⟩ ∧ ∀ j, j < len → w.cell? ⟨b, off + j, none⟩ = some (.string (ss.getD j ByteArray.empty))

theorem ret_int {k : IntKind} {a b : Int} (h : a = b) : Ending.returned (.int k a) = .returned (.int k b) := by rw [h]
theorem ret_bool {a b : Bool} (h : a = b) : Ending.returned (.bool a) = .returned (.bool b) := by rw [h]

theorem cnt_hit {ss : List ByteArray} {k : Nat} {s v : ByteArray} (hs : s = ss.getD k ByteArray.empty) (h : (s.toList == v.toList) = true) : cntTo ss (k + 1) v = cntTo ss k v + 1 := by
  rw [beq_toList, decide_eq_true_eq] at h
  show cntTo ss k v + _ = _
  rw [← hs, if_pos h]
theorem cnt_miss {ss : List ByteArray} {k : Nat} {s v : ByteArray} (hs : s = ss.getD k ByteArray.empty) (h : (s.toList == v.toList) = false) : cntTo ss (k + 1) v = cntTo ss k v := by
  rw [beq_toList, decide_eq_false_iff_not] at h
  show cntTo ss k v + _ = _
  rw [← hs, if_neg h]; rfl

set_option maxHeartbeats 400000 in
theorem count_any (a : Option Addr) (len cap : Nat) (ss : List ByteArray) (v : ByteArray) (w : World) (hl : len ≤ 1024) (hv : Vs w a len ss) :
    Calls Yba.prog 10 #[.slice a len cap, .string v] w fun e w' => e = .returned (.int .i64 (cntTo ss len v)) ∧ w' = w := by
  rcases hv with rfl | ⟨b, off, rfl, hc⟩
  · go_enter Yba.func10, Yba.ntmps10
    go_wp2
    refine wp_loop_rounds 1 ?_
    rw [rounds_succ]
    go_wp2
    go_ret
    exact ⟨rfl, rfl⟩
  · go_enter Yba.func10, Yba.ntmps10
    go_wp2
    go_loop [5, 6] (fun c i => ∃ k : Nat, k ≤ len ∧ i = .int .i64 k ∧ c = .int .i64 (cntTo ss k v)) (fun _ i => len - (intOf i).toNat)
    case atStart => exact ⟨0, Nat.zero_le _, rfl, rfl⟩
    case round =>
      obtain ⟨k, hk, rfl, rfl⟩ := hrel
      have hb := cntTo_le ss v k
      obtain ⟨s, hs⟩ : ∃ s, s = ss.getD k ByteArray.empty := ⟨_, rfl⟩
      by_cases hlt : k < len
      · have hcell : w.cell? ⟨b, off + k, none⟩ = some (.string s) := by rw [hs]; exact hc k hlt
        have HS : Hid (s = ss.getD k ByteArray.empty) := hs
        clear hs hc
        cases ht : s.toList == v.toList
        · go_wp2
          go_round
          case rel => exact ⟨k + 1, by omega, by go_num, by rw [cnt_miss HS.out ht]⟩
          case measure => simp [intOf]; omega
        · go_wp2
          go_round
          case rel => exact ⟨k + 1, by omega, by go_num, by rw [cnt_hit HS.out ht]; go_num⟩
          case measure => simp [intOf]; omega
      · clear hs
        have : k = len := by omega
        subst this
        go_wp2
        go_ret
        exact ⟨rfl, rfl⟩


theorem first_step {ss : List ByteArray} {k : Nat} {s v : ByteArray} (hs : s = ss.getD k ByteArray.empty) (h : (s.toList == v.toList) = false) (h0 : cntTo ss k v = 0) : cntTo ss (k + 1) v = 0 := by
  rw [cnt_miss hs h, h0]
theorem first_hit {ss : List ByteArray} {k i : Nat} {s v : ByteArray} (hs : s = ss.getD k ByteArray.empty) (h : (s.toList == v.toList) = true) (hi : k < i) : decide (cntTo ss i v = 0) = false := by
  have h1 := cnt_hit hs h
  have h2 := cntTo_mono ss v (j := k + 1) (k := i) (by omega)
  rw [decide_eq_false_iff_not]; omega

set_option maxHeartbeats 400000 in
theorem first_any (a : Option Addr) (len cap i : Nat) (ss : List ByteArray) (w : World) (hl : len ≤ 1024) (hi : i < len) (hv : Vs w a len ss) :
    Calls Yba.prog 9 #[.slice a len cap, .int .i64 i] w fun e w' => e = .returned (.bool (decide (cntTo ss i (ss.getD i ByteArray.empty) = 0))) ∧ ∃ n, w' = w.drewN n := by
  rcases hv with rfl | ⟨b, off, rfl, hc⟩
  · omega
  · obtain ⟨v, hv⟩ : ∃ v, v = ss.getD i ByteArray.empty := ⟨_, rfl⟩
    rw [← hv]
    have hci : w.cell? ⟨b, off + i, none⟩ = some (.string v) := by rw [hv]; exact hc i hi
    clear hv
    go_enter Yba.func9, Yba.ntmps9
    go_wp2
    go_loopw [5] (fun j wr => ∃ k n : Nat, k ≤ i ∧ j = .int .i64 k ∧ cntTo ss k v = 0 ∧ wr = w.drewN n) (fun j _ => i - (intOf j).toNat)
    case atStart => exact ⟨0, 0, Nat.zero_le _, rfl, rfl, rfl⟩
    case round =>
      obtain ⟨k, n, hk, rfl, h0, rfl⟩ := hrel
      have H0 : Hid (cntTo ss k v = 0) := h0
      clear h0
      obtain ⟨s, hs⟩ : ∃ s, s = ss.getD k ByteArray.empty := ⟨_, rfl⟩
      by_cases hlt : k < i
      · have hcell : w.cell? ⟨b, off + k, none⟩ = some (.string s) := by rw [hs]; exact hc k (by omega)
        have HS : Hid (s = ss.getD k ByteArray.empty) := hs
        clear hs hc
        cases ht : s.toList == v.toList
        · go_wp2
          go_quiet (fail)
          go_wp2
          go_roundw
          case rel => exact ⟨k + 1, _, by omega, by go_num, first_step HS.out ht H0.out, rfl⟩
          case measure => simp [intOf]; omega
        · go_wp2
          go_quiet (fail)
          go_wp2
          go_ret
          exact ⟨ret_bool (first_hit HS.out ht hlt).symm, _, World.drewN_drewN _ _ _⟩
      · clear hs
        have : k = i := by omega
        subst this
        go_wp2
        go_ret
        exact ⟨ret_bool (by rw [H0.out]; rfl), _, rfl⟩

/-- THE INBOX in block bi: what came in, the counts' map bm, nothing direct, who leads and with how many. -/
structure Box (w : World) (bi : Nat) (fr : Value) (bm : Value) (m : ByteArray) (c : Nat) : Prop where
  c0 : w.cell? ⟨bi, 0, none⟩ = some fr
  c1 : w.cell? ⟨bi, 1, none⟩ = some bm
  c2 : w.cell? ⟨bi, 2, none⟩ = some (.slice none 0 0)
  c3 : w.cell? ⟨bi, 3, none⟩ = some (.string m)
  c4 : w.cell? ⟨bi, 4, none⟩ = some (.int .i64 c)
  fz : ∀ j, j < 5 → w.frozen? ⟨bi, j, none⟩ = false
  lt : bi < w.heap.size

set_option maxHeartbeats 400000 in
theorem lead_any (bi : Nat) (fr bm : Value) (m v : ByteArray) (c c' : Nat) (w : World) (hb : Box w bi fr bm m c) (_hc : c ≤ 100000) (_hc' : c' ≤ 100000) :
    Calls Yba.prog 11 #[.pointer (some ⟨bi, 0, none⟩), .string v, .int .i64 c'] w fun e w' => e = .returned (.tuple #[]) ∧
      w' = if led v c' m c then (w.setCell ⟨bi, 3, none⟩ (.string v)).setCell ⟨bi, 4, none⟩ (.int .i64 c') else w := by
  obtain ⟨c0, c1, c2, c3, c4, fz, lt⟩ := hb
  have f3 := fz 3 (by omega)
  have f4 := fz 4 (by omega)
  clear fz c0 c1 c2
  by_cases h1 : c < c'
  · have e : led v c' m c = true := by simp [led, h1]
    have h1' : (c : Int) < c' := by omega
    rw [if_pos e]
    clear e
    go_enter Yba.func11, Yba.ntmps11
    go_wp2
    go_end0
    exact ⟨rfl, rfl⟩
  · have h1' : ¬ (c : Int) < c' := by omega
    by_cases h2 : c' = c
    · subst h2
      cases h3 : Op.bytesLess v.toList m.toList
      · have e : ¬ led v c' m c' = true := by simp [led, lss, h3]
        rw [if_neg e]
        clear e
        go_enter Yba.func11, Yba.ntmps11
        go_wp2
        go_end0
        exact ⟨rfl, rfl⟩
      · have e : led v c' m c' = true := by simp [led, lss, h3]
        rw [if_pos e]
        clear e
        go_enter Yba.func11, Yba.ntmps11
        go_wp2
        go_end0
        exact ⟨rfl, rfl⟩
    · have e : ¬ led v c' m c = true := by simp [led, h1, h2]
      have h2' : ((c' : Int) == c) = false := by simp; omega
      rw [if_neg e]
      clear e
      go_enter Yba.func11, Yba.ntmps11
      go_wp2
      go_end0
      exact ⟨rfl, rfl⟩

end Go.Proofs.Ybulkckwm
