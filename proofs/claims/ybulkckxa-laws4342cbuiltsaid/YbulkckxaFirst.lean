/-
  LawS4342CFirstMatch (4): the walk.
-/
import Derived.Test.YbulkckxaWalkB
namespace Go.Proofs.Ybulkckxa
open Go.RowKit

theorem Yba.info32 : (Yba.prog.info? 32).map (fun i => (i.zero, i.size, i.bytes)) = some (some (.agg #[.slice none 0 0, .nilFunc]), 2, 32) := by kernel_rfl

/-- 'make([]Command[int], n)'. -/
theorem make_cmds (n : Nat) (hn : n ≤ 100000) (w : World) : (Instr.makeSlice 29 (.int .i64 n) (.int .i64 n)).run Yba.prog w = .ok (.slice (some ⟨w.heap.size, 0, none⟩) n n) (w.alloc (.cells (madeCells #[.slice none 0 0, .nilFunc] (n * 2)) 32)) := by
  obtain ⟨i, hi, hz0, hz1, hz2⟩ := info_parts Yba.info32
  have := run_make (P := Yba.prog) w 29 32 i (.agg #[.slice none 0 0, .nilFunc]) Yba.underlying29 hi hz0 .i64 .i64 n n (by omega) (Int.le_refl _) (by rw [hz2]; omega) (by omega)
  rw [hz1] at this
  simpa [Value.cells] using this

/-- What the row of commands holds when k are laid. -/
def laidTo (f : Nat → Cmd) (k : Nat) (i : Nat) : Value := if i % 2 = 1 then .nilFunc else if i / 2 < k then .slice (f (i / 2)).a (f (i / 2)).m (f (i / 2)).c else .slice none 0 0

theorem made_row (w : World) (f : Nat → Cmd) (n : Nat) : (w.alloc (.cells (madeCells #[.slice none 0 0, .nilFunc] (n * 2)) 32)).rowIs w.heap.size 32 (n * 2) (laidTo f 0) := by
  have := World.rowIs_alloc w (madeCells #[.slice none 0 0, .nilFunc] (n * 2)) 32 (laidTo f 0) (fun i hi => by
    have hi' : i < n * 2 := by rw [size_madeCells] at hi; exact hi
    unfold laidTo
    rw [if_neg (Nat.not_lt_zero _)]
    by_cases c : i % 2 = 1
    · simp [madeCells, hi', c]
    · have c' : i % 2 = 0 := by omega
      simp [madeCells, hi', c'])
  rw [size_madeCells] at this
  exact this

theorem laid_step (f : Nat → Cmd) (k i : Nat) : (if i = k * 2 + 1 then .nilFunc else if i = k * 2 then .slice (f k).a (f k).m (f k).c else laidTo f k i) = laidTo f (k + 1) i := by
  unfold laidTo
  by_cases e : i = k * 2 + 1
  · rw [if_pos e, if_pos (by omega)]
  · rw [if_neg e]
    by_cases e2 : i = k * 2
    · rw [if_pos e2, if_neg (by omega), if_pos (by omega), show i / 2 = k from by omega]
    · rw [if_neg e2]
      by_cases c : i % 2 = 1
      · rw [if_pos c, if_pos c]
      · rw [if_neg c, if_neg c]
        by_cases c2 : i / 2 < k
        · rw [if_pos c2, if_pos (by omega)]
        · rw [if_neg c2, if_neg (by omega)]

/-- Storing the k-th command. -/
theorem row_step {w : World} {B N k : Nat} {f : Nat → Cmd} (h : w.rowIs B 32 N (laidTo f k)) : ((w.setCell ⟨B, k * 2, none⟩ (.slice (f k).a (f k).m (f k).c)).setCell ⟨B, k * 2 + 1, none⟩ .nilFunc).rowIs B 32 N (laidTo f (k + 1)) :=
  ((h.set (k * 2) _).set (k * 2 + 1) _).congr (fun i _ => laid_step f k i)

/-- The N commands, once all are laid. -/
theorem cmds_of_row {w : World} {B N : Nat} {f : Nat → Cmd} (h : w.rowIs B 32 (N * 2) (laidTo f N)) (hw : ∀ j, j < N → Ws w (f j).a (f j).m (f j).ls ∧ (f j).m ≤ 9223372036854775807) : Cmds w B N f := fun j hj => by
  have h0 := h.cell (i := j * 2) (by omega)
  have h1 := h.cell (i := j * 2 + 1) (by omega)
  unfold laidTo at h0 h1
  rw [if_neg (by omega), if_pos (by omega), show j * 2 / 2 = j from by omega] at h0
  rw [if_pos (by omega)] at h1
  exact ⟨h0, h1, (hw j hj).1, (hw j hj).2⟩

theorem eql_nilFunc (w : World) : (binOp .eql 30 .nilFunc .nilFunc).run Yba.prog w = .ok (.bool true) w := by kernel_rfl

theorem IsFirst.grow {p : Nat → Bool} {k N : Nat} {r : Int} (h : IsFirst p k r) (hr : 0 ≤ r) (hk : k ≤ N) : IsFirst p N r := by
  rcases h with ⟨h1, _⟩ | ⟨i, h1, h2, h3, h4⟩
  · omega
  · exact Or.inr ⟨i, by omega, h2, h3, h4⟩
theorem IsFirst.no {p : Nat → Bool} {k : Nat} (h : IsFirst p k (-1)) (hp : p k = false) : IsFirst p (k + 1) (-1) := by
  rcases h with ⟨h1, h2⟩ | ⟨i, h1, h2, _⟩
  · exact Or.inl ⟨rfl, fun j hj => by by_cases c : j = k; (subst c; exact hp); exact h2 j (by omega)⟩
  · omega
theorem IsFirst.yes {p : Nat → Bool} {k : Nat} (h : IsFirst p k (-1)) (hp : p k = true) : IsFirst p (k + 1) k := by
  rcases h with ⟨h1, h2⟩ | ⟨i, h1, h2, _⟩
  · exact Or.inr ⟨k, by omega, rfl, hp, h2⟩
  · omega

theorem first_long (a0 a1 : Option Addr) (N c0 n c1 : Nat) (w : World) (h : 1024 < N ∨ 1024 < n) : Calls Yba.prog 4 #[.slice a0 N c0, .slice a1 n c1] w fun e w' => e = .returned (.bool true) ∧ Below w.heap.size w w' := by
  by_cases h1 : 1024 < N
  · go_enter Yba.func4, Yba.ntmps4
    go_wp2
    go_ret
    exact ⟨rfl, Below.refl _ _⟩
  · have h2 : 1024 < n := by omega
    have h1' : ¬ (1024 : Int) < N := by omega
    go_enter Yba.func4, Yba.ntmps4
    go_wp2
    go_ret
    exact ⟨rfl, Below.refl _ _⟩

set_option maxHeartbeats 1000000 in
theorem first_none (a0 a1 : Option Addr) (c0 n c1 : Nat) (ws : List ByteArray) (w : World) (hn : n ≤ 1024) (h1 : Ws w a1 n ws) : Calls Yba.prog 4 #[.slice a0 0 c0, .slice a1 n c1] w fun e w' => e = .returned (.bool true) ∧ Below w.heap.size w w' := by
  have hmk : ∀ w : World, (Instr.makeSlice 29 (.int .i64 0) (.int .i64 0)).run Yba.prog w = .ok (.slice (some ⟨w.heap.size, 0, none⟩) 0 0) (w.alloc (.cells (madeCells #[.slice none 0 0, .nilFunc] 0) 32)) := make_cmds 0 (by omega)
  have hbX : Below w.heap.size w (w.alloc (.cells (madeCells #[.slice none 0 0, .nilFunc] 0) 32)) := (Below.refl _ _).alloc (Nat.le_refl _) _
  have HC : Hid (Calls Yba.prog 8 #[.slice (some ⟨w.heap.size, 0, none⟩) 0 0, .slice a1 n c1] (w.alloc (.cells (madeCells #[.slice none 0 0, .nilFunc] 0) 32)) fun e w' => e = .returned (.tuple #[.agg #[.slice none 0 0, .nilFunc], .bool false]) ∧ Below w.heap.size w w') := by
    refine (commandOf_any w.heap.size 0 0 n c1 a1 ws (fun _ => ⟨none, 0, 0, []⟩) _ (by omega) (by omega) (h1.below hbX) (fun j hj => by omega)).mono ?_
    rintro e w' ⟨r, hf, hr, hb⟩
    rcases hf with ⟨_, rfl⟩ | ⟨k, hk, _⟩
    · exact ⟨rfl, hbX.trans (hb.mono hbX.size)⟩
    · omega
  have hnf := eql_nilFunc
  have hsn := fun w => Lib.run_eql_slice_nil (P := Yba.prog) w 28 9 none 0 0 0 0 Yba.underlying28
  have hn' : ¬ (1024 : Int) < n := by omega
  clear h1
  go_enter Yba.func4, Yba.ntmps4
  go_wp2
  refine wp_loop_rounds 1 ?_
  rw [rounds_succ]
  go_wp2_with (go_at_call 8; refine HC.out.mono ?_; rintro e w1 ⟨rfl, hb1⟩)
  refine wp_loop_rounds 1 ?_
  rw [rounds_succ]
  go_wp2
  go_ret
  exact ⟨rfl, hb1.alloc hb1.size _⟩

theorem hit_of {p : Nat → Bool} {N k : Nat} (h : IsFirst p N k) : p k = true := by
  rcases h with ⟨h1, _⟩ | ⟨i, _, h2, h3, _⟩
  · omega
  · have : i = k := by omega
    subst this; exact h3
theorem hit_le {n : Nat} {ws : List ByteArray} {f : Nat → Cmd} {j : Nat} (hn : n ≤ 100000) (h : hit n ws f j = true) : (f j).m ≤ 100000 := by
  unfold hit matchB at h
  have := (of_decide_eq_true h).1
  omega

theorem Ws.keep {w w' : World} {a : Option Addr} {n B : Nat} {ss : List ByteArray} (h : Ws w a n ss) (hB : B = w.heap.size) (hb : Below B w w') : Ws w' a n ss := by subst hB; exact h.below hb

set_option maxHeartbeats 4000000 in
theorem first_any (b off N c0 n c1 : Nat) (a1 : Option Addr) (ws : List ByteArray) (f : Nat → Cmd) (w : World) (hN0 : 0 < N) (hN : N ≤ 1024) (hn : n ≤ 1024) (h1 : Ws w a1 n ws)
    (hL : ∀ j, j < N → w.cell? ⟨b, off + j, none⟩ = some (.slice (f j).a (f j).m (f j).c) ∧ Ws w (f j).a (f j).m (f j).ls ∧ (f j).m ≤ 9223372036854775807) :
    Calls Yba.prog 4 #[.slice (some ⟨b, off, none⟩) N c0, .slice a1 n c1] w fun e w' => e = .returned (.bool true) ∧ Below w.heap.size w w' := by
  have hmk := make_cmds N (by omega)
  have hbw := cell_lt (hL 0 hN0).1
  have hnf := eql_nilFunc
  have hsn := fun w => Lib.run_eql_slice_nil (P := Yba.prog) w 28 9 none 0 0 0 0 Yba.underlying28
  have hn' : ¬ (1024 : Int) < n := by omega
  have hN' : ¬ (1024 : Int) < N := by omega
  go_enter Yba.func4, Yba.ntmps4
  go_wp2
  go_loopw [6] (fun i wr => ∃ k : Nat, k ≤ N ∧ i = .int .i64 k ∧ wr.rowIs w.heap.size 32 (N * 2) (laidTo f k) ∧ Below w.heap.size w wr ∧ wr.heap.size = w.heap.size + 1) (fun i _ => N - (intOf i).toNat)
  case atStart => exact ⟨0, Nat.zero_le _, rfl, made_row w f N, (Below.refl _ _).alloc (Nat.le_refl _) _, by simp⟩
  case round =>
    obtain ⟨k, hk, rfl, hrow, hbel, hsz⟩ := hrel
    by_cases hkN : k < N
    · have d0 : wr.cell? ⟨b, off + k, none⟩ = some (.slice (f k).a (f k).m (f k).c) := (hbel.cell (p := ⟨b, off + k, none⟩) hbw).trans (hL k hkN).1
      obtain ⟨u0, e0⟩ : ∃ u, wr.cell? ⟨w.heap.size, k * 2, none⟩ = some u := ⟨_, hrow.cell (by omega)⟩
      obtain ⟨u1, e1⟩ : ∃ u, wr.cell? ⟨w.heap.size, k * 2 + 1, none⟩ = some u := ⟨_, hrow.cell (by omega)⟩
      have f0 := hrow.frozen (k * 2)
      have f1 := hrow.frozen (k * 2 + 1)
      have R1 := row_step hrow
      have R2 := (hbel.setCell (p := ⟨w.heap.size, k * 2, none⟩) (Nat.le_refl _) (.slice (f k).a (f k).m (f k).c)).setCell (p := ⟨w.heap.size, k * 2 + 1, none⟩) (Nat.le_refl _) .nilFunc
      have R3 : Hid (((wr.setCell ⟨w.heap.size, k * 2, none⟩ (.slice (f k).a (f k).m (f k).c)).setCell ⟨w.heap.size, k * 2 + 1, none⟩ .nilFunc).heap.size = w.heap.size + 1) := by simp [World.setCell, Hid, hsz]
      clear hrow hsz hL h1
      go_wp2
      go_roundw
      case rel => exact ⟨k + 1, by omega, by go_num, R1, R2, R3.out⟩
      case measure => simp [intOf]; omega
    · have : k = N := by omega
      subst this
      have hcm : Cmds wr w.heap.size k f := cmds_of_row hrow (fun j hj => ⟨(hL j hj).2.1.below hbel, (hL j hj).2.2⟩)
      have h1r := h1.below hbel
      have HC : Hid (Calls Yba.prog 8 #[.slice (some ⟨w.heap.size, 0, none⟩) k k, .slice a1 n c1] wr fun e w' => ∃ r, Found f k r e ∧ IsFirst (hit n ws f) k r ∧ Below wr.heap.size wr w') :=
        commandOf_any w.heap.size k k n c1 a1 ws f wr (by omega) (by omega) h1r hcm
      have HL : Hid (∀ j, j < k → wr.cell? ⟨b, off + j, none⟩ = some (.slice (f j).a (f j).m (f j).c) ∧ Ws wr (f j).a (f j).m (f j).ls ∧ (f j).m ≤ 9223372036854775807) :=
        fun j hj => ⟨(hbel.cell (p := ⟨b, off + j, none⟩) hbw).trans (hL j hj).1, (hL j hj).2.1.below hbel, (hL j hj).2.2⟩
      have H1 : Hid (Ws wr a1 n ws) := h1r
      clear hrow hcm h1r hL h1 hsz hmk
      go_wp2_with fail
      refine HC.out.mono ?_
      rintro e w2 ⟨r, hfound, hfirst, hb2⟩
      rcases hfound with ⟨rfl, rfl⟩ | ⟨k0, hk0, rfl, rfl⟩
      · skip
        have hbW : Below wr.heap.size wr (w2.alloc (.cells #[.slice none 0 0, .nilFunc] 32)) := hb2.alloc hb2.size _
        have fin : Below w.heap.size w (w2.alloc (.cells #[.slice none 0 0, .nilFunc] 32)) := hbel.trans (hbW.mono hbel.size)
        have hg0 : (w2.alloc (.cells #[.slice none 0 0, .nilFunc] 32)).cell? ⟨w2.heap.size, 0, none⟩ = some (.slice none 0 0) := by go_simp
        have hg1 : (w2.alloc (.cells #[.slice none 0 0, .nilFunc] 32)).cell? ⟨w2.heap.size, 1, none⟩ = some .nilFunc := by go_simp
        have HZ : Hid (∀ j q : Nat, j < k → Calls Yba.prog 9 #[.slice a1 n c1, .slice (f j).a (f j).m (f j).c] ((w2.alloc (.cells #[.slice none 0 0, .nilFunc] 32)).drewN q) fun e w' => e = .returned (.bool (hit n ws f j)) ∧ ∃ q', w' = ((w2.alloc (.cells #[.slice none 0 0, .nilFunc] 32)).drewN q).drewN q') :=
          fun j q hj => lead_any a1 (f j).a n (f j).m c1 (f j).c ws (f j).ls _ (by omega) (HL.out j hj).2.2 (H1.out.below (below_drewN hbW q)) ((HL.out j hj).2.1.below (below_drewN hbW q))
        have HD : Hid (∀ j, j < k → (w2.alloc (.cells #[.slice none 0 0, .nilFunc] 32)).cell? ⟨b, off + j, none⟩ = some (.slice (f j).a (f j).m (f j).c)) := fun j hj => (hbW.cell (p := ⟨b, off + j, none⟩) (cell_lt (HL.out j hj).1)).trans (HL.out j hj).1
        go_wp2
        obtain ⟨W2, hW2⟩ : ∃ W2 : World, W2 = w2.alloc (.cells #[.slice none 0 0, .nilFunc] 32) := ⟨_, rfl⟩
        rw [← hW2] at hbW fin hg0 hg1 HZ HD ⊢
        clear HC HL H1 hbW hb2 hbel hW2
        go_loopw [9, 10] (fun want j wr => ∃ i q : Nat, ∃ s : Int, i ≤ k ∧ j = .int .i64 i ∧ want = .int .i64 s ∧ IsFirst (hit n ws f) i s ∧ wr = W2.drewN q) (fun _ j _ => k - (intOf j).toNat)
        case atStart => exact ⟨0, 0, -1, Nat.zero_le _, rfl, rfl, Or.inl ⟨rfl, fun j hj => by omega⟩, rfl⟩
        case round =>
          obtain ⟨i, q, s, hi, rfl, rfl, hs, rfl⟩ := hrel
          have hs' := hs
          rcases hs' with ⟨rfl, _⟩ | ⟨i0, hi0, rfl, _, _⟩
          · by_cases hik : i < k
            · have d0 := HD.out i hik
              have HZi : Hid (Calls Yba.prog 9 #[.slice a1 n c1, .slice (f i).a (f i).m (f i).c] (W2.drewN q) fun e w' => e = .returned (.bool (hit n ws f i)) ∧ ∃ q', w' = (W2.drewN q).drewN q') := HZ.out i q hik
              have HS : Hid (IsFirst (hit n ws f) i (-1)) := hs
              clear hs
              cases hh : hit n ws f i
              · rw [hh] at HZi
                go_wp2_with (go_at_call 9; refine HZi.out.mono ?_; rintro e w3 ⟨rfl, q', rfl⟩)
                go_roundw
                case rel => exact ⟨i + 1, _, -1, by omega, by go_num, rfl, HS.out.no hh, rfl⟩
                case measure => simp [intOf]; omega
              · rw [hh] at HZi
                go_wp2_with (go_at_call 9; refine HZi.out.mono ?_; rintro e w3 ⟨rfl, q', rfl⟩)
                go_roundw
                case rel => exact ⟨i + 1, _, i, by omega, by go_num, rfl, HS.out.yes hh, rfl⟩
                case measure => simp [intOf]; omega
            · have : i = k := by omega
              subst this
              clear HZ HD
              go_wp2
              go_ret
              exact ⟨rfl, below_drewN fin _⟩
          · have hgr := hs.grow (by omega) hi
            clear hs
            have := hfirst.unique hgr
            omega
      · have hmle : (f k0).m ≤ 100000 := hit_le (by omega) (hit_of hfirst)
        have hbW : Below wr.heap.size wr (w2.alloc (.cells #[.slice (f k0).a (f k0).m (f k0).c, .nilFunc] 32)) := hb2.alloc hb2.size _
        have fin : Below w.heap.size w (w2.alloc (.cells #[.slice (f k0).a (f k0).m (f k0).c, .nilFunc] 32)) := hbel.trans (hbW.mono hbel.size)
        have hg0 : (w2.alloc (.cells #[.slice (f k0).a (f k0).m (f k0).c, .nilFunc] 32)).cell? ⟨w2.heap.size, 0, none⟩ = some (.slice (f k0).a (f k0).m (f k0).c) := by go_simp
        have hg1 : (w2.alloc (.cells #[.slice (f k0).a (f k0).m (f k0).c, .nilFunc] 32)).cell? ⟨w2.heap.size, 1, none⟩ = some .nilFunc := by go_simp
        have HZ : Hid (∀ j q : Nat, j < k → Calls Yba.prog 9 #[.slice a1 n c1, .slice (f j).a (f j).m (f j).c] ((w2.alloc (.cells #[.slice (f k0).a (f k0).m (f k0).c, .nilFunc] 32)).drewN q) fun e w' => e = .returned (.bool (hit n ws f j)) ∧ ∃ q', w' = ((w2.alloc (.cells #[.slice (f k0).a (f k0).m (f k0).c, .nilFunc] 32)).drewN q).drewN q') :=
          fun j q hj => lead_any a1 (f j).a n (f j).m c1 (f j).c ws (f j).ls _ (by omega) (HL.out j hj).2.2 (H1.out.below (below_drewN hbW q)) ((HL.out j hj).2.1.below (below_drewN hbW q))
        have HD : Hid (∀ j, j < k → (w2.alloc (.cells #[.slice (f k0).a (f k0).m (f k0).c, .nilFunc] 32)).cell? ⟨b, off + j, none⟩ = some (.slice (f j).a (f j).m (f j).c)) := fun j hj => (hbW.cell (p := ⟨b, off + j, none⟩) (cell_lt (HL.out j hj).1)).trans (HL.out j hj).1
        go_wp2
        obtain ⟨W2, hW2⟩ : ∃ W2 : World, W2 = w2.alloc (.cells #[.slice (f k0).a (f k0).m (f k0).c, .nilFunc] 32) := ⟨_, rfl⟩
        rw [← hW2] at hbW fin hg0 hg1 HZ HD ⊢
        have HE : Hid (∀ q : Nat, Calls Yba.prog 10 #[.slice (f k0).a (f k0).m (f k0).c, .slice (f k0).a (f k0).m (f k0).c] (W2.drewN q) fun e w' => e = .returned (.bool true) ∧ ∃ q', w' = (W2.drewN q).drewN q') :=
          fun q => equal_same (f k0).a (f k0).a (f k0).m (f k0).c (f k0).c (f k0).ls _ hmle ((HL.out k0 hk0).2.1.below (below_drewN hbW q)) ((HL.out k0 hk0).2.1.below (below_drewN hbW q))
        clear HC HL H1 hbW hb2 hbel hW2
        go_loopw [9, 10] (fun want j wr => ∃ i q : Nat, ∃ s : Int, i ≤ k ∧ j = .int .i64 i ∧ want = .int .i64 s ∧ IsFirst (hit n ws f) i s ∧ wr = W2.drewN q) (fun _ j _ => k - (intOf j).toNat)
        case atStart => exact ⟨0, 0, -1, Nat.zero_le _, rfl, rfl, Or.inl ⟨rfl, fun j hj => by omega⟩, rfl⟩
        case round =>
          obtain ⟨i, q, s, hi, rfl, rfl, hs, rfl⟩ := hrel
          have hs' := hs
          rcases hs' with ⟨rfl, _⟩ | ⟨i0, hi0, rfl, _, _⟩
          · by_cases hik : i < k
            · have d0 := HD.out i hik
              have HZi : Hid (Calls Yba.prog 9 #[.slice a1 n c1, .slice (f i).a (f i).m (f i).c] (W2.drewN q) fun e w' => e = .returned (.bool (hit n ws f i)) ∧ ∃ q', w' = (W2.drewN q).drewN q') := HZ.out i q hik
              have HS : Hid (IsFirst (hit n ws f) i (-1)) := hs
              clear hs
              cases hh : hit n ws f i
              · rw [hh] at HZi
                go_wp2_with (go_at_call 9; refine HZi.out.mono ?_; rintro e w3 ⟨rfl, q', rfl⟩)
                go_roundw
                case rel => exact ⟨i + 1, _, -1, by omega, by go_num, rfl, HS.out.no hh, rfl⟩
                case measure => simp [intOf]; omega
              · rw [hh] at HZi
                go_wp2_with (go_at_call 9; refine HZi.out.mono ?_; rintro e w3 ⟨rfl, q', rfl⟩)
                go_roundw
                case rel => exact ⟨i + 1, _, i, by omega, by go_num, rfl, HS.out.yes hh, rfl⟩
                case measure => simp [intOf]; omega
            · have : i = k := by omega
              subst this
              have := hfirst.unique hs
              omega
          · have hgr := hs.grow (by omega) hi
            clear hs
            have hik : i0 = k0 := by have := hfirst.unique hgr; omega
            subst hik
            have d0 := HD.out i0 hk0
            obtain ⟨V, hV⟩ : ∃ V : World, V = W2.drewN q := ⟨_, rfl⟩
            have hg0' : V.cell? ⟨w2.heap.size, 0, none⟩ = some (.slice (f i0).a (f i0).m (f i0).c) := by rw [hV]; exact hg0
            have hg1' : V.cell? ⟨w2.heap.size, 1, none⟩ = some .nilFunc := by rw [hV]; exact hg1
            have d0' : V.cell? ⟨b, off + i0, none⟩ = some (.slice (f i0).a (f i0).m (f i0).c) := by rw [hV]; exact d0
            have finV : Below w.heap.size w V := by rw [hV]; exact below_drewN fin _
            have HEV : Hid (∀ n : Nat, Calls Yba.prog 10 #[.slice (f i0).a (f i0).m (f i0).c, .slice (f i0).a (f i0).m (f i0).c] (V.drewN n) fun e w' => e = .returned (.bool true) ∧ ∃ q', w' = (V.drewN n).drewN q') := fun n => by
              rw [hV, World.drewN_drewN]; exact HE.out _
            rw [← hV]
            clear hgr HZ HD HE hV hg0 hg1 d0 fin
            by_cases hik2 : i < k
            all_goals
              go_wp2
              go_quiet ((go_at_call 10; exact Calls.quiet_of (HEV.out _)))
              go_wp2
              go_ret
              exact ⟨rfl, below_drewN finV _⟩

end Go.Proofs.Ybulkckxa
