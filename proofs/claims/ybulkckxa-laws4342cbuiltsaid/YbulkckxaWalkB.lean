/-
  commandOf's closure (12), slices.IndexFunc (11), commandOf (8).
-/
import Derived.Test.YbulkckxaWalkA
import Derived.Laws.EntriesVeiled
namespace Go.Proofs.Ybulkckxa
open Go.RowKit

theorem cell_lt {w : World} {b o : Nat} {v : Value} (h : w.cell? ⟨b, o, none⟩ = some v) : b < w.heap.size := by
  by_cases c : b < w.heap.size
  · exact c
  · have : w.heap[b]? = none := Array.getElem?_eq_none (by omega)
    simp [World.cell?, this] at h

theorem Ws.below {w w' : World} {a : Option Addr} {n : Nat} {ss : List ByteArray} (h : Ws w a n ss) (hb : Below w.heap.size w w') : Ws w' a n ss := by
  rcases h with h | ⟨b, off, rfl, hc⟩
  · exact Or.inl h
  · exact Or.inr ⟨b, off, rfl, fun j hj => (hb.cell (p := ⟨b, off + j, none⟩) (cell_lt (hc j hj))).trans (hc j hj)⟩

set_option maxHeartbeats 400000 in
theorem closure_any (a1 a2 : Option Addr) (n m c1 c2 Bw : Nat) (ws ls : List ByteArray) (w : World) (hw : n ≤ 100000) (hl : m ≤ 9223372036854775807) (h1 : Ws w a1 n ws) (h2 : Ws w a2 m ls) (hB : w.cell? ⟨Bw, 0, none⟩ = some (.slice a1 n c1)) :
    Calls Yba.prog 12 #[.agg #[.slice a2 m c2, .nilFunc], .pointer (some ⟨Bw, 0, none⟩)] w fun e w' => e = .returned (.bool (matchB n m ws ls)) ∧ Below w.heap.size w w' := by
  have hlt := cell_lt hB
  have hb : ∀ o : Obj, Below w.heap.size w (w.alloc o) := fun o => (Below.refl _ _).alloc (Nat.le_refl _) _
  have HL : Hid (∀ o : Obj, Calls Yba.prog 13 #[.slice a1 n c1, .slice a2 m c2] (w.alloc o) fun e w' => e = .returned (.bool (matchB n m ws ls)) ∧ w' = w.alloc o) := fun o => hasLead_any a1 a2 n m c1 c2 ws ls (w.alloc o) hw hl (h1.below (hb o)) (h2.below (hb o))
  clear h1 h2 hb
  go_enter Yba.func12, Yba.ntmps12
  go_wp2_with (go_at_call 13; refine (HL.out _).mono ?_; rintro e w1 ⟨rfl, rfl⟩)
  go_ret
  exact ⟨rfl, (Below.refl _ _).alloc (Nat.le_refl _) _⟩

/-- One command: its lead's slice. -/
structure Cmd where
  a : Option Addr
  m : Nat
  c : Nat
  ls : List ByteArray

/-- N commands in block Bc. -/
def Cmds (w : World) (Bc N : Nat) (f : Nat → Cmd) : Prop :=
  ∀ j, j < N → w.cell? ⟨Bc, j * 2, none⟩ = some (.slice (f j).a (f j).m (f j).c) ∧ w.cell? ⟨Bc, j * 2 + 1, none⟩ = some .nilFunc ∧ Ws w (f j).a (f j).m (f j).ls ∧ (f j).m ≤ 9223372036854775807

theorem Cmds.below {w w' : World} {Bc N : Nat} {f : Nat → Cmd} (h : Cmds w Bc N f) (hb : Below w.heap.size w w') : Cmds w' Bc N f := fun j hj =>
  ⟨(hb.cell (p := ⟨Bc, j * 2, none⟩) (cell_lt (h j hj).1)).trans (h j hj).1, (hb.cell (p := ⟨Bc, j * 2 + 1, none⟩) (cell_lt (h j hj).1)).trans (h j hj).2.1, (h j hj).2.2.1.below hb, (h j hj).2.2.2⟩

/-- Does the j-th command lead? -/
def hit (n : Nat) (ws : List ByteArray) (f : Nat → Cmd) (j : Nat) : Bool := matchB n (f j).m ws (f j).ls

/-- r is the first place at which p holds; -1 where it holds nowhere. -/
def IsFirst (p : Nat → Bool) (N : Nat) (r : Int) : Prop := (r = -1 ∧ ∀ j, j < N → p j = false) ∨ ∃ k : Nat, k < N ∧ r = k ∧ p k = true ∧ ∀ j, j < k → p j = false

theorem IsFirst.unique {p : Nat → Bool} {N : Nat} {r s : Int} (h : IsFirst p N r) (k : IsFirst p N s) : r = s := by
  rcases h with ⟨h1, h2⟩ | ⟨i, h1, h2, h3, h4⟩ <;> rcases k with ⟨k1, k2⟩ | ⟨j, k1, k2, k3, k4⟩
  · omega
  · rw [h2 j k1] at k3; cases k3
  · rw [k2 i h1] at h3; cases h3
  · by_cases c : i < j
    · rw [k4 i c] at h3; cases h3
    · by_cases c' : j < i
      · rw [h4 j c'] at k3; cases k3
      · omega

set_option maxHeartbeats 400000 in
theorem index_any (Bc N cap Bw n c1 : Nat) (a1 : Option Addr) (ws : List ByteArray) (f : Nat → Cmd) (w : World) (hN : N ≤ 100000) (hw : n ≤ 100000) (h1 : Ws w a1 n ws) (hB : w.cell? ⟨Bw, 0, none⟩ = some (.slice a1 n c1)) (hc : Cmds w Bc N f) :
    Calls Yba.prog 11 #[.slice (some ⟨Bc, 0, none⟩) N cap, .func (.func 12) #[] #[.pointer (some ⟨Bw, 0, none⟩)]] w fun e w' => ∃ r, e = .returned (.int .i64 r) ∧ IsFirst (hit n ws f) N r ∧ Below w.heap.size w w' := by
  go_enter Yba.func11, Yba.ntmps11
  go_wp2
  go_loopw [8] (fun i wr => ∃ k : Nat, k ≤ N ∧ i = .int .i64 k ∧ (∀ j, j < k → hit n ws f j = false) ∧ Below w.heap.size w wr) (fun i _ => N - (intOf i).toNat)
  case atStart => exact ⟨0, Nat.zero_le _, rfl, fun j hj => by omega, Below.refl _ _⟩
  case round =>
    obtain ⟨k, hk, rfl, hno, hbel⟩ := hrel
    have HNo : Hid (∀ j, j < k → hit n ws f j = false) := hno
    clear hno
    by_cases hkN : k < N
    · obtain ⟨d0, d1, d2, d3⟩ := (hc.below hbel) k hkN
      have HC : Hid (Calls Yba.prog 12 #[.agg #[.slice (f k).a (f k).m (f k).c, .nilFunc], .pointer (some ⟨Bw, 0, none⟩)] wr fun e w' => e = .returned (.bool (hit n ws f k)) ∧ Below wr.heap.size wr w') :=
        closure_any a1 (f k).a n (f k).m c1 (f k).c Bw ws (f k).ls wr hw d3 (h1.below hbel) d2 ((hbel.cell (p := ⟨Bw, 0, none⟩) (cell_lt hB)).trans hB)
      clear hc h1 hB d2
      cases hh : hit n ws f k
      · rw [hh] at HC
        go_wp2_with (go_at_call 12; refine HC.out.mono ?_; rintro e w1 ⟨rfl, hb1⟩)
        go_roundw
        case rel => exact ⟨k + 1, by omega, by go_num, fun j hj => by by_cases c : j = k; (subst c; exact hh); exact HNo.out j (by omega), hbel.trans (hb1.mono hbel.size)⟩
        case measure => simp [intOf]; omega
      · rw [hh] at HC
        go_wp2_with (go_at_call 12; refine HC.out.mono ?_; rintro e w1 ⟨rfl, hb1⟩)
        go_ret
        exact ⟨_, rfl, Or.inr ⟨k, hkN, rfl, hh, HNo.out⟩, hbel.trans (hb1.mono hbel.size)⟩
    · go_wp2
      go_ret
      exact ⟨_, rfl, Or.inl ⟨rfl, fun j hj => HNo.out j (by omega)⟩, hbel⟩

/-- What commandOf hands back. -/
def Found (f : Nat → Cmd) (N : Nat) (r : Int) (e : Ending) : Prop :=
  (r = -1 ∧ e = .returned (.tuple #[.agg #[.slice none 0 0, .nilFunc], .bool false])) ∨ ∃ k : Nat, k < N ∧ r = k ∧ e = .returned (.tuple #[.agg #[.slice (f k).a (f k).m (f k).c, .nilFunc], .bool true])

theorem bcell {W w1 : World} (hb : Below W.heap.size W w1) : (∀ b o, b < W.heap.size → w1.cell? ⟨b, o, none⟩ = W.cell? ⟨b, o, none⟩) ∧ (∀ b o, b < W.heap.size → w1.frozen? ⟨b, o, none⟩ = W.frozen? ⟨b, o, none⟩) :=
  ⟨fun b o h => hb.cell (p := ⟨b, o, none⟩) h, fun b o h => hb.frozen (p := ⟨b, o, none⟩) h⟩

set_option maxHeartbeats 1000000 in
theorem commandOf_any (Bc N cap n c1 : Nat) (a1 : Option Addr) (ws : List ByteArray) (f : Nat → Cmd) (w : World) (hN : N ≤ 100000) (hw : n ≤ 100000) (h1 : Ws w a1 n ws) (hc : Cmds w Bc N f) :
    Calls Yba.prog 8 #[.slice (some ⟨Bc, 0, none⟩) N cap, .slice a1 n c1] w fun e w' => ∃ r, Found f N r e ∧ IsFirst (hit n ws f) N r ∧ Below w.heap.size w w' := by
  obtain ⟨X, hX⟩ : ∃ X : World, X = (w.alloc (.cells #[.slice a1 n c1] 28)).alloc (.cells #[.slice none 0 0, .nilFunc] 32) := ⟨_, rfl⟩
  have hbX : Below w.heap.size w X := by rw [hX]; exact ((Below.refl _ _).alloc (Nat.le_refl _) _).alloc (by simp) _
  have hBX : X.cell? ⟨w.heap.size, 0, none⟩ = some (.slice a1 n c1) := by rw [hX]; go_simp
  have HI : Hid (Calls Yba.prog 11 #[.slice (some ⟨Bc, 0, none⟩) N cap, .func (.func 12) #[] #[.pointer (some ⟨w.heap.size, 0, none⟩)]] X fun e w' => ∃ r, e = .returned (.int .i64 r) ∧ IsFirst (hit n ws f) N r ∧ Below X.heap.size X w') :=
    index_any Bc N cap w.heap.size n c1 a1 ws f X hN hw (h1.below hbX) hBX (hc.below hbX)
  have hsX : X.heap.size = w.heap.size + 1 + 1 := by rw [hX]; simp
  rw [hX] at HI
  have hmf : ∀ (fn : Fn) (first cap : Array Value) (w : World), (Instr.makeFunc fn first cap).run Yba.prog w = .ok (.func fn first cap) w := fun _ _ _ _ => rfl
  go_enter Yba.func8, Yba.ntmps8
  go_wp2_with fail
  refine HI.out.mono ?_
  rintro e w1 ⟨r, rfl, hr, hb1⟩
  rw [← hX] at hb1
  have c0 : w1.cell? ⟨w.heap.size + 1, 0, none⟩ = some (.slice none 0 0) := (hb1.cell (p := ⟨w.heap.size + 1, 0, none⟩) (by rw [hsX]; exact Nat.lt_succ_self _)).trans (by rw [hX]; go_simp)
  have c1' : w1.cell? ⟨w.heap.size + 1, 1, none⟩ = some .nilFunc := (hb1.cell (p := ⟨w.heap.size + 1, 1, none⟩) (by rw [hsX]; exact Nat.lt_succ_self _)).trans (by rw [hX]; go_simp)
  have f0 : w1.frozen? ⟨w.heap.size + 1, 0, none⟩ = false := (hb1.frozen (p := ⟨w.heap.size + 1, 0, none⟩) (by rw [hsX]; exact Nat.lt_succ_self _)).trans (by rw [hX]; go_simp)
  have f1 : w1.frozen? ⟨w.heap.size + 1, 1, none⟩ = false := (hb1.frozen (p := ⟨w.heap.size + 1, 1, none⟩) (by rw [hsX]; exact Nat.lt_succ_self _)).trans (by rw [hX]; go_simp)
  have hb2 : Below w.heap.size w w1 := hbX.trans (hb1.mono hbX.size)
  have hr' := hr
  rcases hr with ⟨rfl, _⟩ | ⟨k, hk, rfl, _, _⟩
  · clear hX hbX hBX HI hsX hc h1 hb1
    go_wp2
    refine bodyPost_ret (v := .tuple #[.agg #[.slice none 0 0, .nilFunc], .bool false]) (by simp [results, Yba.results8, go_sem, c0, c1']) rfl ⟨_, Or.inl ⟨rfl, rfl⟩, hr', ?_⟩
    exact (hb2.setCell (p := ⟨w.heap.size + 1, 0, none⟩) (by simp) _).setCell (p := ⟨w.heap.size + 1, 1, none⟩) (by simp) _
  · obtain ⟨d0, d1, _, _⟩ := (hc.below hb2) k hk
    clear hX hbX hBX HI hsX hc h1 hb1
    go_wp2
    refine bodyPost_ret (v := .tuple #[.agg #[.slice (f k).a (f k).m (f k).c, .nilFunc], .bool true]) (by simp [results, Yba.results8, go_sem, c0, c1']) rfl ⟨_, Or.inr ⟨k, hk, rfl, rfl⟩, hr', ?_⟩
    exact (hb2.setCell (p := ⟨w.heap.size + 1, 0, none⟩) (by simp) _).setCell (p := ⟨w.heap.size + 1, 1, none⟩) (by simp) _

end Go.Proofs.Ybulkckxa
