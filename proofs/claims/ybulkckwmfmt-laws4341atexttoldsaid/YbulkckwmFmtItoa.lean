/-
  zzs4341aitoa (8).
-/
import Derived.Test.YbulkckwmFmtRows
import Derived.Test.YbulkckwmFmtShelf
import Derived.WalkKit
import Derived.WalkSpells
import Derived.WalkLawsBesides
import Derived.Deep.QuietTactic
import Derived.BigQuiet
import Derived.Deep.OwnRows
import Derived.Lib.ItoaNum
namespace Go.Proofs.YbulkckwmFmt
open Go.RowKit

/-- The decimal digit of U at place t, as a byte's number. -/
def dgN (U t : Nat) : Int := ((48 + U / 10 ^ t % 10 : Nat) : Int)

def cellsAt (U k : Nat) (j : Nat) : Value := .int .u8 (if 24 ≤ j + k then dgN U (23 - j) else 0)

/-- What stands at the loop's head: k digits are written. -/
def Wrote (U : Nat) (w wr : World) (k q : Nat) : Prop := q + 1 + k = 24 ∧ (k = 0 ∨ 10 ^ k ≤ U) ∧ wr.rowIs w.heap.size 30 24 (cellsAt U k) ∧ Below w.heap.size w wr ∧ wr.heap.size = w.heap.size + 1

theorem add_flat (b o i : Nat) : (⟨b, o, none⟩ : Addr).add i = ⟨b, o + i, none⟩ := by unfold Addr.add; split <;> simp_all

theorem foldl_push (ns : List Int) : ∀ r : ByteArray, ns.foldl (fun r n => r.push (UInt8.ofNat n.toNat)) r = ⟨(r.data.toList ++ ns.map fun n => UInt8.ofNat n.toNat).toArray⟩ := by
  induction ns with
  | nil => intro r; simp
  | cons n ns ih =>
    intro r
    rw [List.foldl_cons, ih]
    simp [ByteArray.push]

theorem arrayLen30 : Ybaf.prog.arrayLen 30 = 24 := by kernel_rfl
theorem sizeOf_elem30 (w : World) : (sizeOf (Ybaf.prog.elem 30)).run Ybaf.prog w = .ok 1 w := by kernel_rfl

/-- 'buf[q:]'. -/
theorem slice_buf (B q : Nat) (h : q ≤ 23) (w : World) : (Instr.sliceAt 30 (.pointer (some ⟨B, 0, none⟩)) (some (.int .i64 q)) none none).run Ybaf.prog w = .ok (.slice (some ⟨B, q, none⟩) (24 - q) (24 - q)) w := by
  have h1 := run_sliceAt_array_l (P := Ybaf.prog) w 30 ⟨B, 0, none⟩ (by kernel_rfl) .i64 (q : Int) (by omega) (by rw [arrayLen30]; omega)
  rw [h1, sizeOf_elem30]
  have hne : ¬ 24 = q := by omega
  simp [Result.andThen, slicedAt, arrayLen30, Addr.add, hne]
  exact fun h => h.symm

/-- 'string(buf[q:])'. -/
theorem string_buf (B q : Nat) (h : q ≤ 23) (g : Nat → Int) (w : World) (hrow : w.rowIs B 30 24 (fun j => .int .u8 (g j))) :
    (convert 31 9 (.slice (some ⟨B, q, none⟩) (24 - q) (24 - q))).run Ybaf.prog w = .ok (.string ⟨((List.range (24 - q)).map fun t => UInt8.ofNat (g (q + t)).toNat).toArray⟩) w := by
  rw [run_convert_bytes_string w 31 9 5 _ _ _ Ybaf.underlying31 Ybaf.underlying5 Ybaf.underlying9]
  have hl := run_loadCells_list (P := Ybaf.prog) w ⟨B, q, none⟩ (((List.range (24 - q)).map fun t => g (q + t)).map (Value.int .u8)) (fun j v hj => by
    by_cases hlt : j < 24 - q
    · rw [List.getElem?_map, List.getElem?_map, List.getElem?_range hlt] at hj
      simp at hj
      subst hj
      rw [add_flat]
      exact hrow.cell (i := q + j) (by omega)
    · rw [List.getElem?_eq_none (by simp; omega)] at hj
      cases hj)
  simp only [List.length_map, List.length_range] at hl
  rw [run_bytesToString w ⟨B, q, none⟩ (24 - q) (24 - q) _ hl, foldl_push]
  simp [Function.comp_def]

theorem cellsAt_zero (U : Nat) (j : Nat) (hj : j < 24) : cellsAt U 0 j = .int .u8 0 := by
  unfold cellsAt; rw [if_neg (by omega)]

theorem cellsAt_succ (U k q : Nat) (hq : q + 1 + k = 24) (j : Nat) (hj : j < 24) : (if j = q then .int .u8 (dgN U k) else cellsAt U k j) = cellsAt U (k + 1) j := by
  unfold cellsAt
  by_cases e : j = q
  · subst e
    rw [if_pos rfl, if_pos (by omega), show 23 - j = k from by omega]
  · rw [if_neg e]
    by_cases c : 24 ≤ j + k
    · rw [if_pos c, if_pos (by omega)]
    · rw [if_neg c, if_neg (by omega)]

theorem nDigits_of {U k : Nat} (hk : k = 0 ∨ 10 ^ k ≤ U) (h : U / 10 ^ (k + 1) = 0) : Lib.nDigits U = k + 1 := by
  have hlt : U < 10 ^ (k + 1) := by
    rcases Nat.div_eq_zero_iff.1 h with h | h
    · have := Nat.pow_pos (n := k + 1) (show 0 < 10 by omega); omega
    · exact h
  by_cases c : 10 ^ k ≤ U
  · exact Lib.nDigits_unique k U c hlt
  · rcases hk with rfl | hk
    · exact Lib.nDigits_small (by simpa using hlt)
    · exact absurd hk c

/-- The digits, as the buffer holds them. -/
theorem digits_buf {U k q : Nat} (hq : q + 1 + k = 24) (hk : k = 0 ∨ 10 ^ k ≤ U) (h : U / 10 ^ (k + 1) = 0) :
    ((List.range (24 - q)).map fun t => UInt8.ofNat ((if 24 ≤ q + t + (k + 1) then dgN U (23 - (q + t)) else 0 : Int)).toNat) = Lib.decDigits U := by
  rw [Lib.decDigits_eq, nDigits_of hk h, show 24 - q = k + 1 from by omega]
  refine List.map_congr_left fun t ht => ?_
  have ht' : t < k + 1 := List.mem_range.1 ht
  rw [if_pos (by omega), show 23 - (q + t) = k + 1 - 1 - t from by omega]
  unfold dgN Lib.dg
  rw [Int.toNat_natCast]

theorem pow_step {U u k : Nat} (hu : u = U / 10 ^ k) : U / 10 ^ (k + 1) = u / 10 := by
  rw [hu, Nat.pow_succ, ← Nat.div_div_eq_div_mul]

/-- One digit more. -/
theorem Wrote.next {U u : Nat} {w wr : World} {k q : Nat} (h : Wrote U w wr k q) (hu : u = U / 10 ^ k) :
    (wr.setCell ⟨w.heap.size, q, none⟩ (.int .u8 (48 + (u : Int) % 10))).rowIs w.heap.size 30 24 (cellsAt U (k + 1)) ∧ Below w.heap.size w (wr.setCell ⟨w.heap.size, q, none⟩ (.int .u8 (48 + (u : Int) % 10))) ∧
      (wr.setCell ⟨w.heap.size, q, none⟩ (.int .u8 (48 + (u : Int) % 10))).heap.size = w.heap.size + 1 := by
  obtain ⟨h1, h2, h3, h4, h5⟩ := h
  have e : (48 + (u : Int) % 10) = dgN U k := by unfold dgN; rw [hu]; omega
  rw [e]
  refine ⟨(h3.set q _).congr (fun j hj => cellsAt_succ U k q h1 j hj), h4.setCell (p := ⟨w.heap.size, q, none⟩) (Nat.le_refl _) _, ?_⟩
  simp [World.setCell, h5]

theorem Wrote.again {U u : Nat} {w wr : World} {k q q' : Nat} (h : Wrote U w wr k q) (hu : u = U / 10 ^ k) (hne : ((u : Int) / 10 == 0) = false) (hq : q = q' + 1) :
    Wrote U w (wr.setCell ⟨w.heap.size, q, none⟩ (.int .u8 (48 + (u : Int) % 10))) (k + 1) q' := by
  obtain ⟨r1, r2, r3⟩ := h.next hu
  refine ⟨by have := h.1; omega, Or.inr ?_, r1, r2, r3⟩
  have e := pow_step hu
  have h0 : U / 10 ^ (k + 1) ≠ 0 := by
    rw [e]
    simp at hne
    omega
  by_cases c : 10 ^ (k + 1) ≤ U
  · exact c
  · exact absurd (Nat.div_eq_of_lt (by omega)) h0

theorem Wrote.start (U : Nat) (w : World) : Wrote U w (w.alloc (.cells #[.int .u8 0, .int .u8 0, .int .u8 0, .int .u8 0, .int .u8 0, .int .u8 0, .int .u8 0, .int .u8 0, .int .u8 0, .int .u8 0, .int .u8 0, .int .u8 0, .int .u8 0, .int .u8 0, .int .u8 0, .int .u8 0, .int .u8 0, .int .u8 0, .int .u8 0, .int .u8 0, .int .u8 0, .int .u8 0, .int .u8 0, .int .u8 0] 30)) 0 23 := by
  refine ⟨rfl, Or.inl rfl, ?_, (Below.refl _ _).alloc (Nat.le_refl _) _, by simp⟩
  have e : (#[.int .u8 0, .int .u8 0, .int .u8 0, .int .u8 0, .int .u8 0, .int .u8 0, .int .u8 0, .int .u8 0, .int .u8 0, .int .u8 0, .int .u8 0, .int .u8 0, .int .u8 0, .int .u8 0, .int .u8 0, .int .u8 0, .int .u8 0, .int .u8 0, .int .u8 0, .int .u8 0, .int .u8 0, .int .u8 0, .int .u8 0, .int .u8 0] : Array Value) = Array.replicate 24 (.int .u8 0) := rfl
  rw [e]
  have := World.rowIs_alloc w (Array.replicate 24 (.int .u8 0)) 30 (cellsAt U 0) (fun i hi => by
    have hi' : i < 24 := by simpa using hi
    rw [cellsAt_zero U i hi', Array.getElem?_replicate, if_pos hi'])
  simpa using this

/-- At most twenty digits: there is a place left for the sign. -/
theorem Wrote.room {U : Nat} {w wr : World} {k q : Nat} (h : Wrote U w wr k q) (hU : U < 18446744073709551616) : k ≤ 19 := by
  obtain ⟨h1, h2, _⟩ := h
  rcases h2 with rfl | h2
  · omega
  · by_cases c : k ≤ 19
    · exact c
    · have h3 : 10 ^ 20 ≤ 10 ^ k := Nat.pow_le_pow_right (by omega) (by omega)
      have h4 : (10 : Nat) ^ 20 = 100000000000000000000 := by decide
      omega

theorem ret_str {a b : ByteArray} (h : a = b) : Ending.returned (.string a) = .returned (.string b) := by rw [h]

set_option maxHeartbeats 400000 in
theorem itoa_pos (n : Int) (h0 : 0 ≤ n) (h1 : n ≤ 9223372036854775807) (w : World) :
    Calls Ybaf.prog 8 #[.int .i64 n] w fun e w' => e = .returned (.string ⟨(Lib.itoa n).toArray⟩) ∧ Below w.heap.size w w' := by
  obtain ⟨U, hU⟩ : ∃ U : Nat, n = U := ⟨n.toNat, by omega⟩
  subst hU
  have hn : decide ((U : Int) < 0) = false := by simp
  have hfin : Lib.itoa (U : Int) = Lib.decDigits U := by unfold Lib.itoa; rw [if_neg (by omega)]; simp
  rw [hfin]
  clear hfin
  go_enter Ybaf.func8, Ybaf.ntmps8
  go_wp2
  go_loopw [3, 6] (fun u i wr => ∃ k q : Nat, i = .int .i64 ((q : Int) + 1) ∧ u = .int .u64 (U / 10 ^ k : Nat) ∧ Wrote U w wr k q) (fun u _ _ => (intOf u).toNat)
  case atStart => exact ⟨0, 23, rfl, by simp, Wrote.start U w⟩
  case round =>
    obtain ⟨k, q, rfl, rfl, hw⟩ := hrel
    obtain ⟨u, hu⟩ : ∃ u, u = U / 10 ^ k := ⟨_, rfl⟩
    rw [← hu]
    have hub : u ≤ 18446744073709551615 := by rw [hu]; exact Nat.le_trans (Nat.div_le_self _ _) (by omega)
    have hrm := hw.room (by omega)
    have hq := hw.1
    obtain ⟨v0, hv0⟩ : ∃ v0, wr.cell? ⟨w.heap.size, q, none⟩ = some (.int .u8 v0) := ⟨_, hw.2.2.1.cell (by omega)⟩
    have hf0 := hw.2.2.1.frozen q
    have HU : Hid (u = U / 10 ^ k) := hu
    clear hu
    cases ht : ((u : Int) / 10 == 0)
    · obtain ⟨q', hq'⟩ : ∃ q', q = q' + 1 := ⟨q - 1, by omega⟩
      have HQ : Hid (q = q' + 1) := hq'
      clear hq'
      go_wp2
      go_roundw
      case rel => exact ⟨k + 1, q', by rw [HQ.out]; go_num, by rw [pow_step HU.out]; go_num, hw.again HU.out ht HQ.out⟩
      case measure => simp [intOf]; simp at ht; omega
    · obtain ⟨r1, r2, r3⟩ := hw.next HU.out
      have hsl := slice_buf w.heap.size q (by omega)
      have hst := string_buf w.heap.size q (by omega) _ _ r1
      rw [digits_buf hq hw.2.1 (by rw [pow_step HU.out]; simp at ht; omega)] at hst
      clear r1 r3
      go_wp2
      go_ret
      exact ⟨rfl, r2⟩

/-- '0 - uint64(n)' of a negative n. -/
theorem wrap_neg (U : Nat) (h1 : 1 ≤ U) (h2 : U ≤ 9223372036854775808) : IntKind.u64.wrap (-IntKind.u64.wrap (-(U : Int))) = (U : Int) := by
  simp only [IntKind.wrap, IntKind.bits, IntKind.signed, Bool.false_and, Bool.false_eq_true, if_false]
  omega

/-- The sign, ahead of the digits. -/
theorem sign_buf {U k q : Nat} (hq : q + 1 + 1 + k = 24) (hk : k = 0 ∨ 10 ^ k ≤ U) (h : U / 10 ^ (k + 1) = 0) :
    ((List.range (24 - q)).map fun t => UInt8.ofNat ((if q + t = q then 45 else if 24 ≤ q + t + (k + 1) then dgN U (23 - (q + t)) else 0 : Int)).toNat) = 45 :: Lib.decDigits U := by
  have hd := digits_buf (q := q + 1) (by omega) hk h
  rw [show 24 - q = (24 - (q + 1)) + 1 from by omega, List.range_succ_eq_map, List.map_cons, List.map_map, ← hd]
  congr 1
  · simp
  · refine List.map_congr_left fun t _ => ?_
    simp only [Function.comp_apply]
    rw [if_neg (by omega), show q + (t + 1) = q + 1 + t from by omega]

set_option maxHeartbeats 400000 in
theorem itoa_neg (n : Int) (h0 : -9223372036854775808 ≤ n) (h1 : n < 0) (w : World) :
    Calls Ybaf.prog 8 #[.int .i64 n] w fun e w' => e = .returned (.string ⟨(Lib.itoa n).toArray⟩) ∧ Below w.heap.size w w' := by
  obtain ⟨U, hU⟩ : ∃ U : Nat, n = -(U : Int) := ⟨n.natAbs, by omega⟩
  subst hU
  have hn : (-(U : Int)) < 0 := h1
  have hfin : Lib.itoa (-(U : Int)) = 45 :: Lib.decDigits U := by unfold Lib.itoa; rw [if_pos (by omega)]; simp
  have HW : Hid (IntKind.u64.wrap (-IntKind.u64.wrap (-(U : Int))) = (U : Int)) := wrap_neg U (by omega) (by omega)
  rw [hfin]
  clear hfin
  go_enter Ybaf.func8, Ybaf.ntmps8
  go_wp2
  go_loopw [3, 6] (fun u i wr => ∃ k q : Nat, i = .int .i64 ((q : Int) + 1) ∧ u = .int .u64 (U / 10 ^ k : Nat) ∧ Wrote U w wr k q) (fun u _ _ => (intOf u).toNat)
  case atStart => exact ⟨0, 23, rfl, by rw [HW.out]; simp, Wrote.start U w⟩
  case round =>
    obtain ⟨k, q, rfl, rfl, hw⟩ := hrel
    obtain ⟨u, hu⟩ : ∃ u, u = U / 10 ^ k := ⟨_, rfl⟩
    rw [← hu]
    have hub : u ≤ 18446744073709551615 := by rw [hu]; exact Nat.le_trans (Nat.div_le_self _ _) (by omega)
    have hrm := hw.room (by omega)
    have hq := hw.1
    have HU : Hid (u = U / 10 ^ k) := hu
    clear hu
    obtain ⟨q', hq'⟩ : ∃ q', q = q' + 1 := ⟨q - 1, by omega⟩
    subst hq'
    obtain ⟨v0, hv0⟩ : ∃ v0, wr.cell? ⟨w.heap.size, q' + 1, none⟩ = some (.int .u8 v0) := ⟨_, hw.2.2.1.cell (by omega)⟩
    have hf0 := hw.2.2.1.frozen (q' + 1)
    cases ht : ((u : Int) / 10 == 0)
    · go_wp2
      go_roundw
      case rel => exact ⟨k + 1, q', by go_num, by rw [pow_step HU.out]; go_num, hw.again HU.out ht rfl⟩
      case measure => simp [intOf]; simp at ht; omega
    · obtain ⟨r1, r2, r3⟩ := hw.next HU.out
      have hsl := slice_buf w.heap.size q' (by omega)
      have s1 := (r1.set q' (.int .u8 45)).congr (g := fun j => .int .u8 (if j = q' then 45 else if 24 ≤ j + (k + 1) then dgN U (23 - j) else 0)) (fun i _ => by unfold cellsAt; split <;> rfl)
      have hst := string_buf w.heap.size q' (by omega) _ _ s1
      rw [sign_buf hq hw.2.1 (by rw [pow_step HU.out]; simp at ht; omega)] at hst
      obtain ⟨v1, hv1⟩ : ∃ v1, (wr.setCell ⟨w.heap.size, q' + 1, none⟩ (.int .u8 (48 + (u : Int) % 10))).cell? ⟨w.heap.size, q', none⟩ = some (.int .u8 v1) := ⟨_, r1.cell (by omega)⟩
      have hf1 := r1.frozen q'
      have fin := r2.setCell (p := ⟨w.heap.size, q', none⟩) (Nat.le_refl _) (.int .u8 45)
      clear r1 r3 s1 r2
      go_wp2
      go_ret
      exact ⟨rfl, fin⟩

theorem itoa_any (n : Int) (h0 : -9223372036854775808 ≤ n) (h1 : n ≤ 9223372036854775807) (w : World) :
    Calls Ybaf.prog 8 #[.int .i64 n] w fun e w' => e = .returned (.string ⟨(Lib.itoa n).toArray⟩) ∧ Below w.heap.size w w' := by
  by_cases h : 0 ≤ n
  · exact itoa_pos n h h1 w
  · exact itoa_neg n h0 (by omega) w

end Go.Proofs.YbulkckwmFmt
