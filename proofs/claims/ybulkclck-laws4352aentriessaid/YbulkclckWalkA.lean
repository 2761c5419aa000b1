/-
  The two-entry map of a signature; signaturesValue (4).
-/
import Derived.Test.YbulkclckRows
import Derived.WalkKit
import Derived.WalkSpells
import Derived.WalkLawsBesides
import Derived.Deep.OwnRows
import Derived.WideMake
namespace Go.Proofs.Ybulkclck
open Go.RowKit

/-- "keyid" and "sig". -/
abbrev kId : ByteArray := { data := #[107, 101, 121, 105, 100] }
abbrev kSig : ByteArray := { data := #[115, 105, 103] }
abbrev enId (s : ByteArray) : MapEntry := ⟨.string kId, .iface 9 (.string s), 0⟩
abbrev enSig (s : ByteArray) : MapEntry := ⟨.string kSig, .iface 9 (.string s), 1⟩

theorem set_alloc (w : World) (o o' : Obj) : { w.alloc o with heap := (w.alloc o).heap.setIfInBounds w.heap.size o' } = w.alloc o' := by
  have e : (w.alloc o).heap.setIfInBounds w.heap.size o' = (w.alloc o').heap := by
    apply Array.ext_getElem?
    intro i
    by_cases hi : i = w.heap.size
    · subst hi
      rw [(MapKept.heap_set (MapKept.heap_alloc w o).1).1, (MapKept.heap_alloc w o').1]
    · rw [(MapKept.heap_set (MapKept.heap_alloc w o).1).2 i hi]
      rcases Nat.lt_or_gt_of_ne hi with h | h
      · rw [(MapKept.heap_alloc w o).2 i h, (MapKept.heap_alloc w o').2 i h]
      · rw [Array.getElem?_eq_none (by simp; omega), Array.getElem?_eq_none (by simp; omega)]
  rw [e]
  rfl

theorem put1 (w : World) (s : ByteArray) : (Instr.mapUpdate 25 (.map (some w.heap.size)) (.string kId) (.iface 9 (.string s))).run Yba.prog (w.alloc (.map #[] 0)) = .ok () (w.alloc (.map #[enId s] 1)) := by
  rw [run_mapUpdate_first (w.alloc (.map #[] 0)) 25 9 20 w.heap.size 0 kId (.iface 9 (.string s)) Yba.underlying25 Yba.underlying9 (MapKept.heap_alloc w _).1, set_alloc]

theorem put2 (w : World) (s t : ByteArray) : (Instr.mapUpdate 25 (.map (some w.heap.size)) (.string kSig) (.iface 9 (.string t))).run Yba.prog (w.alloc (.map #[enId s] 1)) = .ok () (w.alloc (.map #[enId s, enSig t] 2)) := by
  have hb := (MapKept.heap_alloc w (.map #[enId s] 1)).1
  have hf : Instr.findNow .string (.string kSig) [enId s] 0 = some none := by kernel_rfl
  have hc : (Instr.checkKey false 10000 9 (.string kSig)).run Yba.prog (w.alloc (.map #[enId s] 1)) = .ok () (w.alloc (.map #[enId s] 1)) := MapKept.run_checkKey (k := .string kSig) Yba.underlying9 (by simp [MapKept.IsKey]) false 9999
  simp [Instr.mapUpdate, run_underlying Yba.underlying25, MapKept.run_getObj_map hb, hc, MapKept.run_findKey Yba.underlying9 hf, MapKept.run_setObj_map _ hb, Result.andThen]
  exact set_alloc w _ _

theorem get1 {w : World} {b : Nat} {s t : ByteArray} (hb : w.heap[b]? = some (.map #[enId s, enSig t] 2)) : (Instr.lookup 25 (.map (some b)) (.string kId) false).run Yba.prog w = .ok (.iface 9 (.string s)) w := by
  have hf : Instr.findNow .string (.string kId) [enId s, enSig t] 0 = some (some (0, .iface 9 (.string s))) := by kernel_rfl
  have hc : (Instr.checkKey false 10000 9 (.string kId)).run Yba.prog w = .ok () w := MapKept.run_checkKey (k := .string kId) Yba.underlying9 (by simp [MapKept.IsKey]) false 9999
  simp [Instr.lookup, run_underlying Yba.underlying25, MapKept.run_getObj_map hb, hc, MapKept.run_findKey Yba.underlying9 hf, Result.andThen]

theorem get2 {w : World} {b : Nat} {s t : ByteArray} (hb : w.heap[b]? = some (.map #[enId s, enSig t] 2)) : (Instr.lookup 25 (.map (some b)) (.string kSig) false).run Yba.prog w = .ok (.iface 9 (.string t)) w := by
  have hf : Instr.findNow .string (.string kSig) [enId s, enSig t] 0 = some (some (1, .iface 9 (.string t))) := by kernel_rfl
  have hc : (Instr.checkKey false 10000 9 (.string kSig)).run Yba.prog w = .ok () w := MapKept.run_checkKey (k := .string kSig) Yba.underlying9 (by simp [MapKept.IsKey]) false 9999
  simp [Instr.lookup, run_underlying Yba.underlying25, MapKept.run_getObj_map hb, hc, MapKept.run_findKey Yba.underlying9 hf, Result.andThen]

theorem len2 {w : World} {b : Nat} {s t : ByteArray} (hb : w.heap[b]? = some (.map #[enId s, enSig t] 2)) (ty : TypeId) : (Builtin.len_ #[25] ty #[.map (some b)]).run Yba.prog w = .ok (.int .i64 2) w := by
  simp [Builtin.len_, run_underlying Yba.underlying25, MapKept.run_getObj_map hb, Result.andThen]
  rfl

theorem asMap (w : World) (b : Nat) : (Instr.typeAssert (.iface 25 (.map (some b))) 20 25 true).run Yba.prog w = .ok (.tuple #[.map (some b), .bool true]) w := by kernel_rfl

theorem asStr (w : World) (s : ByteArray) : (Instr.typeAssert (.iface 9 (.string s)) 20 9 true).run Yba.prog w = .ok (.tuple #[.string s, .bool true]) w := by kernel_rfl

theorem Yba.info20 : (Yba.prog.info? 20).map (fun i => (i.zero, i.size, i.bytes)) = some (some .nilIface, 1, 16) := by kernel_rfl

/-- The j-th entry's map. -/
def mb (B j : Nat) : Nat := B + 2 + 2 * j

/-- What stands when k entries are listed; ks, ss: the signatures' key ids and texts. -/
structure Listed (w wr : World) (n k : Nat) (ks ss : Nat → ByteArray) : Prop where
  row : wr.rowIs w.heap.size 20 n (fun j => if j < k then .iface 25 (.map (some (mb w.heap.size j))) else .nilIface)
  maps : ∀ j, j < k → wr.heap[mb w.heap.size j]? = some (.map #[enId (ks j), enSig (ss j)] 2)
  bel : Below w.heap.size w wr
  size : wr.heap.size = w.heap.size + 1 + 2 * k

theorem Listed.start (w : World) (n : Nat) (ks ss : Nat → ByteArray) : Listed w (w.alloc (.cells (madeCells #[.nilIface] n) 20)) n 0 ks ss :=
  ⟨(World.rowIs_made w .nilIface n 20).congr (fun _ _ => by simp), fun j h => by omega, (Below.refl _ _).alloc (Nat.le_refl _) _, by simp⟩

theorem size_setCell (w : World) (a : Addr) (v : Value) : (w.setCell a v).heap.size = w.heap.size := by simp [World.setCell]

theorem Listed.step {w wr : World} {n k : Nat} {ks ss : Nat → ByteArray} (h : Listed w wr n k ks ss) (o : Obj) :
    Listed w (((wr.setCell ⟨w.heap.size, k, none⟩ (.iface 25 (.map (some (wr.heap.size + 1))))).alloc o).alloc (.map #[enId (ks k), enSig (ss k)] 2)) n (k + 1) ks ss := by
  obtain ⟨h1, h2, h3, h4⟩ := h
  have e1 : wr.heap.size + 1 = mb w.heap.size k := by unfold mb; omega
  refine ⟨?_, ?_, ?_, ?_⟩
  · have r := (h1.set k (.iface 25 (.map (some (wr.heap.size + 1))))).congr (g := fun j => if j < k + 1 then .iface 25 (.map (some (mb w.heap.size j))) else .nilIface) (fun j _ => by
      by_cases e : j = k
      · subst e; simp [e1]
      · have e' : (j < k + 1) = (j < k) := by simp; omega
        simp [e, e'])
    exact (r.alloc o).alloc _
  · intro j hj
    by_cases e : j = k
    · subst e
      have := (MapKept.heap_alloc ((wr.setCell ⟨w.heap.size, j, none⟩ (.iface 25 (.map (some (wr.heap.size + 1))))).alloc o) (.map #[enId (ks j), enSig (ss j)] 2)).1
      rw [World.size_alloc, size_setCell, e1] at this
      rw [e1]
      exact this
    · have hlt : mb w.heap.size j < wr.heap.size := by unfold mb; omega
      rw [(MapKept.heap_alloc _ _).2 _ (by rw [World.size_alloc, size_setCell]; omega), (MapKept.heap_alloc _ _).2 _ (by rw [size_setCell]; exact hlt), Below.heap_setCell _ _ _ _ (by show mb w.heap.size j ≠ w.heap.size; unfold mb; omega)]
      exact h2 j (by omega)
  · refine ((h3.setCell (p := ⟨w.heap.size, k, none⟩) (Nat.le_refl _) _).alloc ?_ o).alloc ?_ _
    · rw [size_setCell]; omega
    · rw [World.size_alloc, size_setCell]; omega
  · rw [World.size_alloc, World.size_alloc, size_setCell]; omega

theorem cell_lt {w : World} {b o : Nat} {v : Value} (h : w.cell? ⟨b, o, none⟩ = some v) : b < w.heap.size := by
  by_cases c : b < w.heap.size
  · exact c
  · have : w.heap[b]? = none := Array.getElem?_eq_none (by omega)
    simp [World.cell?, this] at h

/-- A slice of signatures that came in: two strings each. -/
def Sigs (w : World) (b off n : Nat) (ks ss : Nat → ByteArray) : Prop :=
  ∀ j, j < n → w.cell? ⟨b, off + j * 2, none⟩ = some (.string (ks j)) ∧ w.cell? ⟨b, off + j * 2 + 1, none⟩ = some (.string (ss j))

set_option maxHeartbeats 1000000 in
theorem value_any (b off n cap : Nat) (ks ss : Nat → ByteArray) (w : World) (hn0 : 0 < n) (hn : n ≤ 1024) (hv : Sigs w b off n ks ss) :
    Calls Yba.prog 4 #[.slice (some ⟨b, off, none⟩) n cap] w fun e w' => e = .returned (.slice (some ⟨w.heap.size, 0, none⟩) n n) ∧ Listed w w' n n ks ss := by
  have hm := run_make_row' (P := Yba.prog) 23 20 .nilIface 16 Yba.underlying23 Yba.info20 rfl .i64 .i64 n (by omega) (by omega)
  have HV : Hid (Sigs w b off n ks ss) := hv
  clear hv
  go_enter Yba.func4, Yba.ntmps4
  go_wp2
  go_loopw [11] (fun i wr => ∃ k : Nat, k ≤ n ∧ i = .int .i64 k ∧ Listed w wr n k ks ss) (fun i _ => n - (intOf i).toNat)
  case atStart => exact ⟨0, Nat.zero_le _, rfl, Listed.start w n ks ss⟩
  case round =>
    obtain ⟨k, hk, rfl, hl⟩ := hrel
    by_cases hkn : k < n
    · have hbw := cell_lt (HV.out 0 hn0).1
      have d1 : wr.cell? ⟨b, off + k * 2, none⟩ = some (.string (ks k)) := (hl.bel.cell (p := ⟨b, off + k * 2, none⟩) hbw).trans (HV.out k hkn).1
      have d2 : wr.cell? ⟨b, off + k * 2 + 1, none⟩ = some (.string (ss k)) := (hl.bel.cell (p := ⟨b, off + k * 2 + 1, none⟩) hbw).trans (HV.out k hkn).2
      obtain ⟨u1, e1⟩ : ∃ u, wr.cell? ⟨w.heap.size, k, none⟩ = some u := ⟨_, hl.row.cell hkn⟩
      have f1 := hl.row.frozen k
      have hlt : w.heap.size < wr.heap.size := by have := hl.size; omega
      have p1 := fun (X : Obj) s => put1 (wr.alloc X) s
      have p2 := fun (X : Obj) s t => put2 (wr.alloc X) s t
      simp only [World.size_alloc] at p1 p2
      have mk := fun (X : Obj) => run_makeMap_plain (P := Yba.prog) (wr.alloc X) 25
      simp only [World.size_alloc] at mk
      have HL : Hid (Listed w wr n k ks ss) := hl
      clear hl hm
      go_wp2
      go_roundw
      case rel => exact ⟨k + 1, by omega, by go_num, HL.out.step _⟩
      case measure => simp [intOf]; omega
    · have : k = n := by omega
      subst this
      go_wp2
      go_ret
      exact ⟨rfl, hl⟩

set_option maxHeartbeats 1000000 in
theorem value_zero (a : Option Addr) (cap : Nat) (ks ss : Nat → ByteArray) (w : World) :
    Calls Yba.prog 4 #[.slice a 0 cap] w fun e w' => e = .returned (.slice (some ⟨w.heap.size, 0, none⟩) 0 0) ∧ Listed w w' 0 0 ks ss := by
  have hm : ∀ w : World, (Instr.makeSlice 23 (.int .i64 0) (.int .i64 0)).run Yba.prog w = .ok (.slice (some ⟨w.heap.size, 0, none⟩) 0 0) (w.alloc (.cells (madeCells #[.nilIface] 0) 20)) := run_make_row' (P := Yba.prog) 23 20 .nilIface 16 Yba.underlying23 Yba.info20 rfl .i64 .i64 0 (by omega) (by omega)
  go_enter Yba.func4, Yba.ntmps4
  go_wp2
  refine wp_loop_rounds 1 ?_
  rw [rounds_succ]
  go_wp2
  go_ret
  exact ⟨rfl, Listed.start w 0 ks ss⟩

end Go.Proofs.Ybulkclck
