/-
  THE SMALL WALKS: leadLength (14), hasLead (13), zzs4342clead (9), slices.Equal (10).
-/
import Derived.Test.YbulkckxaRows
import Derived.WalkKit
import Derived.WalkSpells
import Derived.WalkLawsBesides
import Derived.Deep.QuietTactic
import Derived.BigQuiet
import Derived.Deep.OwnRows
namespace Go.Proofs.Ybulkckxa
open Go.RowKit

/-- "*". -/
def star : ByteArray := ⟨#[42]⟩

theorem toList_inj {a b : ByteArray} (h : a.toList = b.toList) : a = b := by
  rw [ByteArray.toList_eq, ByteArray.toList_eq] at h
  cases a; cases b; simp at h; rw [h]

theorem beq_toList (a b : ByteArray) : (a.toList == b.toList) = decide (a = b) := by
  rw [Bool.eq_iff_iff]
  simp only [beq_iff_eq, decide_eq_true_eq]
  exact ⟨toList_inj, fun h => by rw [h]⟩

/-- The word at place j. -/
def at' (ss : List ByteArray) (j : Nat) : ByteArray := ss.getD j ByteArray.empty

/-- The first k words of the lead fit. -/
def FitTo (ws ls : List ByteArray) (k : Nat) : Prop := ∀ j, j < k → at' ls j = star ∨ at' ls j = at' ws j

/-- The n words begin with the lead's m, a star standing for any word. -/
def matchB (n m : Nat) (ws ls : List ByteArray) : Bool := decide (m ≤ n ∧ ∀ j, j < m → at' ls j = star ∨ at' ls j = at' ws j)

theorem match_true {n m : Nat} {ws ls : List ByteArray} (hl : m ≤ n) (h : FitTo ws ls m) : matchB n m ws ls = true := by
  unfold matchB
  exact decide_eq_true ⟨hl, h⟩
theorem match_long {n m : Nat} {ws ls : List ByteArray} (hl : n < m) : matchB n m ws ls = false := by
  unfold matchB
  exact decide_eq_false (by rintro ⟨h, _⟩; omega)
theorem match_no {n m : Nat} {ws ls : List ByteArray} {j : Nat} (hj : j < m) (h1 : at' ls j ≠ star) (h2 : at' ls j ≠ at' ws j) : matchB n m ws ls = false := by
  unfold matchB
  refine decide_eq_false ?_
  rintro ⟨_, h⟩
  rcases h j hj with e | e
  · exact h1 e
  · exact h2 e

/-- What leadLength answers. -/
def leadLen (n m : Nat) (ws ls : List ByteArray) : Int := if matchB n m ws ls = true then (m : Int) else -1
theorem leadLen_yes {n m : Nat} {ws ls : List ByteArray} (h : matchB n m ws ls = true) : leadLen n m ws ls = m := by unfold leadLen; rw [if_pos h]
theorem leadLen_no {n m : Nat} {ws ls : List ByteArray} (h : matchB n m ws ls = false) : leadLen n m ws ls = -1 := by unfold leadLen; rw [if_neg (by rw [h]; simp)]

theorem FitTo.zero (ws ls : List ByteArray) : FitTo ws ls 0 := fun j hj => by omega
theorem FitTo.star {ws ls : List ByteArray} {k : Nat} (h : FitTo ws ls k) {s : ByteArray} (hs : s = at' ls k) (e : (s.toList == [42]) = true) : FitTo ws ls (k + 1) := by
  intro j hj
  by_cases c : j = k
  · subst c
    left
    rw [← hs]
    apply toList_inj
    rw [beq_iff_eq.1 e, ByteArray.toList_eq]; rfl
  · exact h j (by omega)
theorem FitTo.same {ws ls : List ByteArray} {k : Nat} (h : FitTo ws ls k) {s t : ByteArray} (hs : s = at' ls k) (ht : t = at' ws k) (e : (s.toList == t.toList) = true) : FitTo ws ls (k + 1) := by
  intro j hj
  by_cases c : j = k
  · subst c
    right
    rw [← hs, ← ht]
    exact toList_inj (beq_iff_eq.1 e)
  · exact h j (by omega)
theorem ne_star {s : ByteArray} (e : (s.toList == [42]) = false) : s ≠ star := by
  rintro rfl
  rw [ByteArray.toList_eq] at e
  exact absurd e (by decide)
theorem ne_of {s t : ByteArray} (e : (s.toList == t.toList) = false) : s ≠ t := by
  rintro rfl
  simp at e

/-- A slice of strings: of length 0; or its first n cells hold those of ss. -/
def Ws (w : World) (a : Option Addr) (n : Nat) (ss : List ByteArray) : Prop :=
  n = 0 ∨ ∃ b off, a = some ⟨b, off, none⟩ ∧ ∀ j, j < n → w.cell? ⟨b, off + j, none⟩ = some (.string (at' ss j))

theorem ret_int {k : IntKind} {a b : Int} (h : a = b) : Ending.returned (.int k a) = .returned (.int k b) := by rw [h]
theorem ret_bool {a b : Bool} (h : a = b) : Ending.returned (.bool a) = .returned (.bool b) := by rw [h]

set_option maxHeartbeats 400000 in
theorem leadLength_any (a1 a2 : Option Addr) (n m c1 c2 : Nat) (ws ls : List ByteArray) (w : World) (hw : n ≤ 100000) (hl : m ≤ 9223372036854775807) (h1 : Ws w a1 n ws) (h2 : Ws w a2 m ls) :
    Calls Yba.prog 14 #[.slice a1 n c1, .slice a2 m c2] w fun e w' => e = .returned (.int .i64 (leadLen n m ws ls)) ∧ w' = w := by
  by_cases hlen : n < m
  · rw [leadLen_no (match_long hlen)]
    have hlen' : (n : Int) < m := by omega
    go_enter Yba.func14, Yba.ntmps14
    go_wp2
    go_ret
    exact ⟨rfl, rfl⟩
  · by_cases hm0 : m = 0
    · subst hm0
      rw [leadLen_yes (match_true (by omega) (FitTo.zero _ _))]
      clear h1 h2
      go_enter Yba.func14, Yba.ntmps14
      go_wp2
      refine wp_loop_rounds 1 ?_
      rw [rounds_succ]
      go_wp2
      go_ret
      exact ⟨rfl, rfl⟩
    · rcases h2 with h | ⟨b2, o2, rfl, hc2⟩
      · omega
      rcases h1 with h | ⟨b1, o1, rfl, hc1⟩
      · omega
      have hlen' : ¬ (n : Int) < m := by omega
      go_enter Yba.func14, Yba.ntmps14
      go_wp2
      go_loop [14] (fun i => ∃ k : Nat, k ≤ m ∧ i = .int .i64 k ∧ FitTo ws ls k) (fun i => m - (intOf i).toNat)
      case atStart => exact ⟨0, Nat.zero_le _, rfl, FitTo.zero _ _⟩
      case round =>
        obtain ⟨k, hk, rfl, hfit⟩ := hrel
        have HF := show Hid (FitTo ws ls k) from hfit
        clear hfit
        by_cases hkm : k < m
        · obtain ⟨s, hs⟩ : ∃ s, s = at' ls k := ⟨_, rfl⟩
          obtain ⟨t, ht⟩ : ∃ t, t = at' ws k := ⟨_, rfl⟩
          have d1 : w.cell? ⟨b2, o2 + k, none⟩ = some (.string s) := by rw [hs]; exact hc2 k hkm
          have d2 : w.cell? ⟨b1, o1 + k, none⟩ = some (.string t) := by rw [ht]; exact hc1 k (by omega)
          have HS := show Hid (s = at' ls k) from hs
          have HT := show Hid (t = at' ws k) from ht
          clear hs ht hc1 hc2
          cases e1 : s.toList == [42]
          · cases e2 : s.toList == t.toList
            · go_wp2
              go_ret
              exact ⟨ret_int (leadLen_no (match_no hkm (by rw [← HS.out]; exact ne_star e1) (by rw [← HS.out, ← HT.out]; exact ne_of e2))).symm, rfl⟩
            · go_wp2
              go_round
              case rel => exact ⟨k + 1, by omega, by go_num, HF.out.same HS.out HT.out e2⟩
              case measure => simp [intOf]; omega
          · go_wp2
            go_round
            case rel => exact ⟨k + 1, by omega, by go_num, HF.out.star HS.out e1⟩
            case measure => simp [intOf]; omega
        · have : k = m := by omega
          subst this
          go_wp2
          go_ret
          exact ⟨ret_int (leadLen_yes (match_true (by omega) HF.out)).symm, rfl⟩

theorem has_eq (n m : Nat) (ws ls : List ByteArray) : (leadLen n m ws ls == (m : Int)) = matchB n m ws ls := by
  cases h : matchB n m ws ls
  · rw [leadLen_no h]; simp
  · rw [leadLen_yes h]; simp

theorem hasLead_any (a1 a2 : Option Addr) (n m c1 c2 : Nat) (ws ls : List ByteArray) (w : World) (hw : n ≤ 100000) (hl : m ≤ 9223372036854775807) (h1 : Ws w a1 n ws) (h2 : Ws w a2 m ls) :
    Calls Yba.prog 13 #[.slice a1 n c1, .slice a2 m c2] w fun e w' => e = .returned (.bool (matchB n m ws ls)) ∧ w' = w := by
  have HL : Hid (Calls Yba.prog 14 #[.slice a1 n c1, .slice a2 m c2] w fun e w' => e = .returned (.int .i64 (leadLen n m ws ls)) ∧ w' = w) := leadLength_any a1 a2 n m c1 c2 ws ls w hw hl h1 h2
  clear h1 h2
  go_enter Yba.func13, Yba.ntmps13
  go_wp2_with (go_at_call 14; refine HL.out.mono ?_; rintro e w1 ⟨rfl, rfl⟩)
  go_ret
  exact ⟨ret_bool (has_eq n m ws ls), rfl⟩

set_option maxHeartbeats 400000 in
theorem lead_any (a1 a2 : Option Addr) (n m c1 c2 : Nat) (ws ls : List ByteArray) (w : World) (hw : n ≤ 100000) (hl : m ≤ 9223372036854775807) (h1 : Ws w a1 n ws) (h2 : Ws w a2 m ls) :
    Calls Yba.prog 9 #[.slice a1 n c1, .slice a2 m c2] w fun e w' => e = .returned (.bool (matchB n m ws ls)) ∧ ∃ q, w' = w.drewN q := by
  by_cases hlen : n < m
  · rw [match_long hlen]
    have hlen' : (n : Int) < m := by omega
    go_enter Yba.func9, Yba.ntmps9
    go_wp2
    go_ret
    exact ⟨rfl, 0, rfl⟩
  · by_cases hm0 : m = 0
    · subst hm0
      rw [match_true (by omega) (FitTo.zero _ _)]
      clear h1 h2
      go_enter Yba.func9, Yba.ntmps9
      go_wp2
      refine wp_loop_rounds 1 ?_
      rw [rounds_succ]
      go_wp2
      go_ret
      exact ⟨rfl, 0, rfl⟩
    · rcases h2 with h | ⟨b2, o2, rfl, hc2⟩
      · omega
      rcases h1 with h | ⟨b1, o1, rfl, hc1⟩
      · omega
      have hlen' : ¬ (n : Int) < m := by omega
      go_enter Yba.func9, Yba.ntmps9
      go_wp2
      go_loopw [5] (fun i wr => ∃ k q : Nat, k ≤ m ∧ i = .int .i64 k ∧ FitTo ws ls k ∧ wr = w.drewN q) (fun i _ => m - (intOf i).toNat)
      case atStart => exact ⟨0, 0, Nat.zero_le _, rfl, FitTo.zero _ _, rfl⟩
      case round =>
        obtain ⟨k, q, hk, rfl, hfit, rfl⟩ := hrel
        have HF := show Hid (FitTo ws ls k) from hfit
        clear hfit
        by_cases hkm : k < m
        · obtain ⟨s, hs⟩ : ∃ s, s = at' ls k := ⟨_, rfl⟩
          obtain ⟨t, ht⟩ : ∃ t, t = at' ws k := ⟨_, rfl⟩
          have d1 : w.cell? ⟨b2, o2 + k, none⟩ = some (.string s) := by rw [hs]; exact hc2 k hkm
          have d2 : w.cell? ⟨b1, o1 + k, none⟩ = some (.string t) := by rw [ht]; exact hc1 k (by omega)
          have HS := show Hid (s = at' ls k) from hs
          have HT := show Hid (t = at' ws k) from ht
          have hkn : k < n := by omega
          clear hs ht hc1 hc2
          cases e1 : s.toList == [42]
          · cases e2 : s.toList == t.toList
            · go_wp2
              go_quiet (fail)
              go_wp2
              go_ret
              exact ⟨ret_bool (match_no hkm (by rw [← HS.out]; exact ne_star e1) (by rw [← HS.out, ← HT.out]; exact ne_of e2)).symm, _, World.drewN_drewN _ _ _⟩
            · go_wp2
              go_quiet (fail)
              go_wp2
              go_roundw
              case rel => exact ⟨k + 1, _, by omega, by go_num, HF.out.same HS.out HT.out e2, rfl⟩
              case measure => simp [intOf]; omega
          · go_wp2
            go_quiet (fail)
            go_wp2
            go_roundw
            case rel => exact ⟨k + 1, _, by omega, by go_num, HF.out.star HS.out e1, rfl⟩
            case measure => simp [intOf]; omega
        · have : k = m := by omega
          subst this
          go_wp2
          go_ret
          exact ⟨ret_bool (match_true (by omega) HF.out).symm, _, rfl⟩

set_option maxHeartbeats 400000 in
/-- slices.Equal of two slices of the same words. -/
theorem equal_same (a1 a2 : Option Addr) (n c1 c2 : Nat) (ss : List ByteArray) (w : World) (hw : n ≤ 100000) (h1 : Ws w a1 n ss) (h2 : Ws w a2 n ss) :
    Calls Yba.prog 10 #[.slice a1 n c1, .slice a2 n c2] w fun e w' => e = .returned (.bool true) ∧ ∃ q, w' = w.drewN q := by
  by_cases hm0 : n = 0
  · subst hm0
    clear h1 h2
    go_enter Yba.func10, Yba.ntmps10
    go_wp2
    refine wp_loop_rounds 1 ?_
    rw [rounds_succ]
    go_wp2
    go_ret
    exact ⟨rfl, 0, rfl⟩
  · rcases h2 with h | ⟨b2, o2, rfl, hc2⟩
    · omega
    rcases h1 with h | ⟨b1, o1, rfl, hc1⟩
    · omega
    go_enter Yba.func10, Yba.ntmps10
    go_wp2
    go_loopw [13] (fun i wr => ∃ k q : Nat, k ≤ n ∧ i = .int .i64 k ∧ wr = w.drewN q) (fun i _ => n - (intOf i).toNat)
    case atStart => exact ⟨0, 0, Nat.zero_le _, rfl, rfl⟩
    case round =>
      obtain ⟨k, q, hk, rfl, rfl⟩ := hrel
      by_cases hkm : k < n
      · obtain ⟨s, hs⟩ : ∃ s, s = at' ss k := ⟨_, rfl⟩
        have d1 : w.cell? ⟨b2, o2 + k, none⟩ = some (.string s) := by rw [hs]; exact hc2 k hkm
        have d2 : w.cell? ⟨b1, o1 + k, none⟩ = some (.string s) := by rw [hs]; exact hc1 k hkm
        clear hs hc1 hc2
        go_wp2
        go_quiet (fail)
        go_wp2
        go_roundw
        case rel => exact ⟨k + 1, _, by omega, by go_num, rfl⟩
        case measure => simp [intOf]; omega
      · go_wp2
        go_ret
        exact ⟨rfl, _, rfl⟩

end Go.Proofs.Ybulkckxa
