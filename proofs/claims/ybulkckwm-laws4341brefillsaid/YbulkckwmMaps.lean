/-
  THE COUNTS' MAP, under one word: 'CMap w b n f d': block b of w is a map[Value]int of at most n entries; at each string s it reads f s; it holds d keys, just those with 0 < f s.
-/
import Derived.Test.YbulkckwmRows
import Derived.Test.YbulkckwmPlain
import Derived.Maps.OwnSet
import Derived.Maps.OwnOps
import Derived.WalkKit
namespace Go.Proofs.Ybulkckwm
open Go.RowKit Go.Maps Go.WideMaps
open Go.ChangeMaps (setBlock heap_setBlock_same heap_setBlock_other)

theorem law : Keyed Yba.prog 29 := string_keyed Yba.underlying29
theorem zero3 (w : World) : (zeroValue 3).run Yba.prog w = .ok (.int .i64 0) w := by kernel_rfl

def CMap (w : World) (b n : Nat) (f : ByteArray → Nat) (d : Nat) : Prop :=
  ∃ D : DataW Unit, w.ownsMap Yba.prog 29 (plainElem Yba.prog 3) b n D ∧ (∀ s : ByteArray, s.size ≤ maxLen → D.atKey (.string s.data.toList) (.lit (.int .i64 0)) = .lit (.int .i64 (f s))) ∧
    (∀ s : ByteArray, s.size ≤ maxLen → Maps.has D (.string s.data.toList) = decide (0 < f s)) ∧ Maps.size D = d

theorem CMap.lt {w : World} {b n d : Nat} {f : ByteArray → Nat} (h : CMap w b n f d) : b < w.heap.size := by
  obtain ⟨D, h, _⟩ := h
  exact h.lt

theorem CMap.congr {w : World} {b n d d' : Nat} {f g : ByteArray → Nat} (h : CMap w b n f d) (e : ∀ s, g s = f s) (ed : d' = d) : CMap w b n g d' := by
  have : g = f := funext e
  rw [this, ed]; exact h

theorem CMap.of_block {w w' : World} {b n d : Nat} {f : ByteArray → Nat} (h : CMap w b n f d) (e : w'.heap[b]? = w.heap[b]?) : CMap w' b n f d := by
  obtain ⟨D, ⟨es, clock, hb, F, hs, hD⟩, h1, h2, h3⟩ := h
  exact ⟨D, ⟨es, clock, e.trans hb, F, hs, hD⟩, h1, h2, h3⟩

theorem CMap.below {B : Nat} {w w' : World} {b n d : Nat} {f : ByteArray → Nat} (h : CMap w b n f d) (hb : Below B w w') (hlt : b < B) : CMap w' b n f d := h.of_block (hb.block b hlt)

theorem CMap.setCell {w : World} {b n d : Nat} {f : ByteArray → Nat} (h : CMap w b n f d) {a : Addr} (ha : b ≠ a.block) (u : Value) : CMap (w.setCell a u) b n f d := h.of_block (Below.heap_setCell w a u b ha)

theorem CMap.alloc {w : World} {b n d : Nat} {f : ByteArray → Nat} (h : CMap w b n f d) (o : Obj) : CMap (w.alloc o) b n f d := h.of_block (Below.heap_alloc w o b h.lt)

/-- A fresh map holds nothing. -/
theorem CMap.of_empty {w : World} {b clock : Nat} (hb : w.heap[b]? = some (.map #[] clock)) : CMap w b 0 (fun _ => 0) 0 :=
  ⟨.map [], ⟨#[], clock, hb, ⟨by simp, MapKept.stamped_empty clock, by simp⟩, Nat.le_refl _, rfl⟩, fun _ _ => rfl, fun _ _ => rfl, rfl⟩

theorem CMap.made (w : World) : CMap (w.alloc (.map #[] 0)) w.heap.size 0 (fun _ => 0) 0 := CMap.of_empty (MapKept.heap_alloc w _).1

theorem CMap.lookup {w : World} {b n d : Nat} {f : ByteArray → Nat} (h : CMap w b n f d) {s : ByteArray} (hs : s.size ≤ maxLen) : (Instr.lookup 27 (.map (some b)) (.string s) false).run Yba.prog w = .ok (.int .i64 (f s)) w := by
  obtain ⟨D, h, h1, _⟩ := h
  obtain ⟨c, hrun, hat, _⟩ := h.lookup_int law Yba.underlying27 Yba.underlying3 (zero3 _) (keyOf_string_mk Yba.underlying29 hs)
  rw [h1 s hs] at hat
  have : c = (f s : Int) := by simpa using hat.symm
  rw [hrun, this]

theorem CMap.len {w : World} {b n d : Nat} {f : ByteArray → Nat} (h : CMap w b n f d) (ty : TypeId) : (Builtin.len_ #[27] ty #[.map (some b)]).run Yba.prog w = .ok (.int .i64 d) w := by
  obtain ⟨D, h, _, _, h3⟩ := h
  rw [h.len Yba.underlying27 ty, h3]

/-- 'm[s] = f s + 1'. -/
theorem CMap.update {w : World} {b n d : Nat} {f : ByteArray → Nat} (h : CMap w b n f d) {s : ByteArray} (hs : s.size ≤ maxLen) (hn : n < 1000000) (hf : f s < 1000000) :
    ∃ w', (Instr.mapUpdate 27 (.map (some b)) (.string s) (.int .i64 ((f s : Int) + 1))).run Yba.prog w = .ok () w' ∧ CMap w' b (n + 1) (fun t => if t = s then f s + 1 else f t) (if 0 < f s then d else d + 1) ∧ w.grownBy w' (some b) ∧ w'.heap.size = w.heap.size := by
  obtain ⟨D, h, h1, h2, h3⟩ := h
  have hk := keyOf_string_mk Yba.underlying29 hs
  have hT := h.tidy law
  obtain ⟨w', hrun, hown, hturn⟩ := h.store law Yba.underlying27 (by unfold maxLen; omega) hk (plainElem_int Yba.underlying3 (a := (f s : Int) + 1) (WalkArith.wf_i64 (by omega)))
  have hkl : WideAt.IsKeyLit (.string s.data.toList) := law.key hk
  refine ⟨w', hrun, ⟨_, hown, ?_, ?_, ?_⟩, hturn.grown, ?_⟩
  · intro t ht
    dsimp only
    by_cases e : t = s
    · subst e
      rw [if_pos rfl, Maps.atKey_put_same hT.isMap hkl]
      simp
    · rw [if_neg e, Maps.atKey_put_other (fun x => e (WideShapes.bytes_inj (by simpa using x)))]
      exact h1 t ht
  · intro t ht
    by_cases e : t = s
    · subst e
      rw [Maps.has_put_same hT.isMap hkl]
      simp
    · rw [Maps.has_put_other (fun x => e (WideShapes.bytes_inj (by simpa using x))), h2 t ht]
      simp [e]
  · rw [Maps.size_put hT, h2 s hs, h3]
    by_cases c : 0 < f s <;> simp [c]
  · obtain ⟨es, clock, es', clock', hb, rfl⟩ := hturn
    simp [setBlock]

/-- 'clear(m)'. -/
theorem CMap.clear {w : World} {b n d : Nat} {f : ByteArray → Nat} (h : CMap w b n f d) :
    ∃ w', (∀ ty, (Builtin.clear_ #[27] ty #[.map (some b)]).run Yba.prog w = .ok (.tuple #[]) w') ∧ CMap w' b 0 (fun _ => 0) 0 ∧ w.grownBy w' (some b) ∧ w'.heap.size = w.heap.size := by
  obtain ⟨D, ⟨es, clock, hb, F, hs, hD⟩, h1, h2, h3⟩ := h
  refine ⟨setBlock w b (.map #[] clock), fun ty => ?_, CMap.of_empty (heap_setBlock_same hb _), ⟨rfl, rfl, rfl, by simp [setBlock], fun i _ hi => heap_setBlock_other hb _ (fun e => hi (by rw [e]))⟩, by simp [setBlock]⟩
  simp [Builtin.clear_, run_underlying Yba.underlying27, MapKept.run_getObj_map hb, MapKept.run_setObj_map _ hb, Result.andThen]
  rfl

end Go.Proofs.Ybulkckwm
