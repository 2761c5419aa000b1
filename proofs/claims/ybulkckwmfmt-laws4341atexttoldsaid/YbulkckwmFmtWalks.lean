/-
  zzs4341amodel (5), PartyList (7).
-/
import Derived.Test.YbulkckwmFmtItoa
import Derived.Lib.ItoaLen
import Derived.Lib.Join
import Derived.Lib.AppendIntMem
namespace Go.Proofs.YbulkckwmFmt
open Go.RowKit

/-- A slice of ints: of length 0; or it leads to cells that hold the first 'len' of zs. -/
def Ns (w : World) (a : Option Addr) (len : Nat) (zs : List Int) : Prop :=
  len = 0 ∨ ∃ b off, a = some ⟨b, off, none⟩ ∧ ∀ j, j < len → w.cell? ⟨b, off + j, none⟩ = some (.int .i64 (zs.getD j 0))

def InI64 (zs : List Int) : Prop := ∀ j, -9223372036854775808 ≤ zs.getD j 0 ∧ zs.getD j 0 ≤ 9223372036854775807

/-- "parties ". -/
def pre : List UInt8 := [112, 97, 114, 116, 105, 101, 115, 32]

/-- The text behind the first k numbers. -/
def mTo (zs : List Int) : Nat → List UInt8
  | 0 => pre
  | k + 1 => mTo zs k ++ (if 0 < k then [44] else []) ++ Lib.itoa (zs.getD k 0)

theorem mTo_len (zs : List Int) (hz : InI64 zs) : ∀ k, (mTo zs k).length ≤ 8 + 22 * k
  | 0 => by simp [mTo, pre]
  | k + 1 => by
    have h1 := mTo_len zs hz k
    have h2 := Lib.itoa_length_le _ (hz k).1 (hz k).2
    unfold mTo
    simp only [List.length_append]
    split <;> simp only [List.length_cons, List.length_nil] <;> omega

theorem cell_lt {w : World} {b o : Nat} {v : Value} (h : w.cell? ⟨b, o, none⟩ = some v) : b < w.heap.size := by
  by_cases c : b < w.heap.size
  · exact c
  · have : w.heap[b]? = none := Array.getElem?_eq_none (by omega)
    simp [World.cell?, this] at h

theorem size_of {s : ByteArray} {l : List UInt8} (h : s.data.toList = l) : s.size = l.length := by
  rw [← h, Array.length_toList]; rfl

theorem size_comma : (⟨#[44]⟩ : ByteArray).size = 1 := rfl

theorem data_app (a b : ByteArray) : (a ++ b).data.toList = a.data.toList ++ b.data.toList := by
  simp [ByteArray.data_append]

set_option maxHeartbeats 400000 in
theorem model_zero (a : Option Addr) (cap : Nat) (w : World) :
    Calls Ybaf.prog 5 #[.slice a 0 cap] w fun e w' => e = .returned (.string ⟨#[112, 97, 114, 116, 105, 101, 115, 32, 110, 111, 110, 101]⟩) ∧ w' = w := by
  go_enter Ybaf.func5, Ybaf.ntmps5
  go_wp2
  go_ret
  exact ⟨rfl, rfl⟩

set_option maxHeartbeats 1000000 in
theorem model_any (b off len cap : Nat) (zs : List Int) (w : World) (h0 : 0 < len) (hl : len ≤ 1024) (hz : InI64 zs) (hc : ∀ j, j < len → w.cell? ⟨b, off + j, none⟩ = some (.int .i64 (zs.getD j 0))) :
    Calls Ybaf.prog 5 #[.slice (some ⟨b, off, none⟩) len cap] w fun e w' => ∃ s : ByteArray, e = .returned (.string s) ∧ s.data.toList = mTo zs len ∧ Below w.heap.size w w' := by
  have hb := cell_lt (hc 0 h0)
  have h0' : ((len : Int) == 0) = false := by simp; omega
  go_enter Ybaf.func5, Ybaf.ntmps5
  go_wp2
  go_loopw [3, 4] (fun s i wr => ∃ k : Nat, ∃ t : ByteArray, k ≤ len ∧ i = .int .i64 k ∧ s = .string t ∧ t.data.toList = mTo zs k ∧ Below w.heap.size w wr) (fun _ i _ => len - (intOf i).toNat)
  case atStart => exact ⟨0, ⟨#[112, 97, 114, 116, 105, 101, 115, 32]⟩, Nat.zero_le _, rfl, rfl, rfl, Below.refl _ _⟩
  case round =>
    obtain ⟨k, t, hk, rfl, rfl, ht, hbel⟩ := hrel
    have HT : Hid (t.data.toList = mTo zs k) := ht
    have hts : t.size ≤ 40000 := by rw [size_of ht]; have := mTo_len zs hz k; omega
    clear ht
    by_cases hkl : k < len
    · obtain ⟨z, hzk⟩ : ∃ z, z = zs.getD k 0 := ⟨_, rfl⟩
      have hcell : wr.cell? ⟨b, off + k, none⟩ = some (.int .i64 z) := by rw [hzk]; exact (hbel.cell (p := ⟨b, off + k, none⟩) hb).trans (hc k hkl)
      have hz1 : -9223372036854775808 ≤ z := by rw [hzk]; exact (hz k).1
      have hz2 : z ≤ 9223372036854775807 := by rw [hzk]; exact (hz k).2
      have hil := Lib.itoa_length_le z hz1 hz2
      have HZ : Hid (z = zs.getD k 0) := hzk
      obtain ⟨it, hit⟩ : ∃ it : ByteArray, it = ⟨(Lib.itoa z).toArray⟩ := ⟨_, rfl⟩
      have hits : it.size ≤ 21 := by rw [hit, size_of (l := Lib.itoa z) rfl]; exact hil
      have hcall := itoa_any z hz1 hz2 wr
      rw [← hit] at hcall
      have HI : Hid (it = ⟨(Lib.itoa z).toArray⟩) := hit
      have HC : Hid (Calls Ybaf.prog 8 #[.int .i64 z] wr fun e w' => e = .returned (.string it) ∧ Below wr.heap.size wr w') := hcall
      clear hzk hit hcall hil hc
      by_cases hk0 : 0 < k
      · have e1 : t.size + (⟨#[44]⟩ : ByteArray).size ≤ 9223372036854775807 := by rw [size_comma]; omega
        have e2 : (t ++ (⟨#[44]⟩ : ByteArray)).size + it.size ≤ 9223372036854775807 := by rw [ByteArray.size_append, size_comma]; omega
        have r1 := fun w => run_string_add_sum (P := Ybaf.prog) w t ⟨#[44]⟩ e1
        have r2 := fun w => run_string_add_sum (P := Ybaf.prog) w (t ++ ⟨#[44]⟩) it e2
        go_wp2_with (go_at_call 8; refine HC.out.mono ?_; rintro e w1 ⟨rfl, hb1⟩)
        have hR : (t ++ ⟨#[44]⟩ ++ it).data.toList = mTo zs (k + 1) := by
          rw [data_app, data_app, HT.out, HI.out, HZ.out]
          simp [mTo, hk0]
        go_roundw
        case rel => exact ⟨k + 1, _, by omega, by go_num, rfl, hR, hbel.trans (hb1.mono hbel.size)⟩
        case measure => simp [intOf]; omega
      · have e2 : t.size + it.size ≤ 9223372036854775807 := by omega
        have r2 := fun w => run_string_add_sum (P := Ybaf.prog) w t it e2
        go_wp2_with (go_at_call 8; refine HC.out.mono ?_; rintro e w1 ⟨rfl, hb1⟩)
        have hR : (t ++ it).data.toList = mTo zs (k + 1) := by
          rw [data_app, HT.out, HI.out, HZ.out]
          simp [mTo, hk0]
        go_roundw
        case rel => exact ⟨k + 1, _, by omega, by go_num, rfl, hR, hbel.trans (hb1.mono hbel.size)⟩
        case measure => simp [intOf]; omega
    · have : k = len := by omega
      subst this
      go_wp2
      go_ret
      exact ⟨t, rfl, HT.out, hbel⟩

theorem Ybaf.info9 : (Ybaf.prog.info? 9).map (fun i => (i.zero, i.size, i.bytes)) = some (some (.string ByteArray.empty), 1, 16) := by kernel_rfl

set_option maxHeartbeats 400000 in
theorem list_zero (a : Option Addr) (cap : Nat) (w : World) :
    Calls Ybaf.prog 7 #[.slice a 0 cap] w fun e w' => e = .returned (.string ⟨#[110, 111, 110, 101]⟩) ∧ w' = w := by
  go_enter Ybaf.func7, Ybaf.ntmps7
  go_wp2
  go_ret
  exact ⟨rfl, rfl⟩

/-- The numerals. -/
def numB (zs : List Int) (j : Nat) : ByteArray := ⟨(Lib.itoa (zs.getD j 0)).toArray⟩
def nums (zs : List Int) (len : Nat) : List ByteArray := (List.range len).map (numB zs)

theorem joined (zs : List Int) : ∀ len, 0 < len → pre ++ Lib.join ((nums zs len).map (·.data.toList)) [44] = mTo zs len := by
  intro len h0
  obtain ⟨n, rfl⟩ : ∃ n, len = n + 1 := ⟨len - 1, by omega⟩
  clear h0
  have e : ∀ n, Lib.join ((nums zs (n + 1)).map (·.data.toList)) [44] = Lib.itoa (zs.getD 0 0) ++ Lib.joinTail [44] ((List.range n).map fun j => Lib.itoa (zs.getD (j + 1) 0)) := by
    intro n
    rw [nums, List.range_succ_eq_map, List.map_cons, List.map_cons, Lib.join_cons]
    congr 1
    simp [numB, Function.comp_def]
  rw [e]
  induction n with
  | zero => simp [mTo, Lib.joinTail]
  | succ n ih =>
    rw [List.range_succ, List.map_append, Lib.joinTail, List.map_append, List.flatten_append, ← Lib.joinTail, ← List.append_assoc, ← List.append_assoc]
    rw [← List.append_assoc] at ih
    rw [ih]
    show _ = mTo zs (n + 1) ++ _ ++ _
    simp

theorem joined_len (zs : List Int) (hz : InI64 zs) (len : Nat) (h0 : 0 < len) (hl : len ≤ 1024) : (Lib.join ((nums zs len).map (·.data.toList)) [44]).length ≤ 30000 := by
  have h1 := congrArg List.length (joined zs len h0)
  have h2 := mTo_len zs hz len
  rw [List.length_append] at h1
  omega

set_option maxHeartbeats 1000000 in
theorem list_any (b off len cap : Nat) (zs : List Int) (w : World) (h0 : 0 < len) (hl : len ≤ 1024) (hz : InI64 zs) (hc : ∀ j, j < len → w.cell? ⟨b, off + j, none⟩ = some (.int .i64 (zs.getD j 0)))
    (htab : Lib.TabIs Ybaf.prog w pow10Name .u64 Lib.pow10Tab) :
    Calls Ybaf.prog 7 #[.slice (some ⟨b, off, none⟩) len cap] w fun e w' => ∃ s : ByteArray, e = .returned (.string s) ∧ s.data.toList = Lib.join ((nums zs len).map (·.data.toList)) [44] ∧ Below w.heap.size w w' := by
  have hb := cell_lt (hc 0 h0)
  have h0' : ((len : Int) == 0) = false := by simp; omega
  have hmk := run_make_row' (P := Ybaf.prog) 27 9 (.string ByteArray.empty) 16 Ybaf.underlying27 Ybaf.info9 rfl .i64 .i64 len (by omega) (by omega)
  have htb := Lib.tabBelow_of_tabIs htab
  go_enter Ybaf.func7, Ybaf.ntmps7
  go_wp2
  go_loopw [14] (fun i wr => ∃ k : Nat, k ≤ len ∧ i = .int .i64 k ∧ wr.rowIs w.heap.size 9 len (fun j => .string (if j < k then numB zs j else ByteArray.empty)) ∧ Below w.heap.size w wr ∧ w.heap.size + 1 ≤ wr.heap.size) (fun i _ => len - (intOf i).toNat)
  case atStart => exact ⟨0, Nat.zero_le _, rfl, (World.rowIs_made w (.string ByteArray.empty) len 9).congr (fun _ _ => by simp), (Below.refl _ _).alloc (Nat.le_refl _) _, by simp⟩
  case round =>
    obtain ⟨k, hk, rfl, hrow, hbel, hsz⟩ := hrel
    by_cases hkl : k < len
    · obtain ⟨z, hzk⟩ : ∃ z, z = zs.getD k 0 := ⟨_, rfl⟩
      have hcell : wr.cell? ⟨b, off + k, none⟩ = some (.int .i64 z) := by rw [hzk]; exact (hbel.cell (p := ⟨b, off + k, none⟩) hb).trans (hc k hkl)
      obtain ⟨it, hit⟩ : ∃ it : ByteArray, it = numB zs k := ⟨_, rfl⟩
      have HC : Hid (Calls Ybaf.prog 9 #[.int .i64 z] wr fun e w' => e = .returned (.string it) ∧ Below wr.heap.size wr w') := by
        have := Ybaf.strconv_Itoa z (by rw [hzk]; exact (hz k).1) (by rw [hzk]; exact (hz k).2) wr (htb wr hbel)
        refine this.mono ?_
        rintro e w' ⟨rfl, q, os, rfl⟩
        exact ⟨by rw [hit, hzk]; rfl, Lib.below_grow _ _ (Nat.le_refl _) _ _⟩
      have HI : Hid (it = numB zs k) := hit
      have HR : Hid (wr.rowIs w.heap.size 9 len (fun j => .string (if j < k then numB zs j else ByteArray.empty))) := hrow
      clear hzk hit hc htab hrow
      go_wp2_with (go_at_call 9; refine HC.out.mono ?_; rintro e w1 ⟨rfl, hb1⟩; have hrow1 := HR.out.of_block (hb1.block w.heap.size (by omega)); obtain ⟨u, hcw⟩ : ∃ u, w1.cell? ⟨w.heap.size, k, none⟩ = some (.string u) := ⟨_, hrow1.cell hkl⟩; have hfw := hrow1.frozen k)
      have R1 := (hrow1.set k (.string it)).congr (g := fun j => .string (if j < k + 1 then numB zs j else ByteArray.empty)) (fun i _ => by
          by_cases e : i = k
          · subst e; simp [HI.out]
          · have e2 : (i < k + 1) = (i < k) := by simp; omega
            simp [e, e2])
      have R2 := (hbel.trans (hb1.mono hbel.size)).setCell (p := ⟨w.heap.size, k, none⟩) (Nat.le_refl _) (.string it)
      go_roundw
      case rel => exact ⟨k + 1, by omega, by go_num, R1, R2, Nat.le_trans hsz (by rw [show (w1.setCell ⟨w.heap.size, k, none⟩ (.string it)).heap.size = w1.heap.size from by simp [World.setCell]]; exact hb1.size)⟩
      case measure => simp [intOf]; omega
    · have : k = len := by omega
      subst this
      have hln : (nums zs k).length = k := by simp [nums]
      have hj := Ybaf.strings_Join w.heap.size 0 k (nums zs k) ⟨#[44]⟩ wr (fun j x hx => by
        have hjk : j < k := by
          by_cases c : j < k
          · exact c
          · rw [List.getElem?_eq_none (by rw [hln]; omega)] at hx; cases hx
        have hc := hrow.cell hjk
        rw [if_pos hjk] at hc
        rw [nums, List.getElem?_map, List.getElem?_range hjk] at hx
        simp at hx
        subst hx
        simpa using hc) (by omega) (by rw [hln]; omega) (by rw [hln]; omega) (Nat.le_trans (joined_len zs hz k h0 hl) (by omega))
      rw [hln] at hj
      have HJ : Hid (Calls Ybaf.prog 10 #[.slice (some ⟨w.heap.size, 0, none⟩) k k, .string ⟨#[44]⟩] wr fun e w' => ∃ s : ByteArray, e = .returned (.string s) ∧ s.data.toList = Lib.join ((nums zs k).map (·.data.toList)) [44] ∧ Below w.heap.size w w') := by
        refine hj.mono ?_
        rintro e w' ⟨rfl, hb'⟩
        exact ⟨_, rfl, by simp, hbel.trans (hb'.mono hbel.size)⟩
      clear hj
      go_wp2_with (go_at_call 10; refine HJ.out.mono ?_; rintro e w1 ⟨s, rfl, hs, hb1⟩)
      go_ret
      exact ⟨s, rfl, hs, hb1⟩

end Go.Proofs.YbulkckwmFmt
