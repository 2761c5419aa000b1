/-
  newInbox (6), zzs4341bcheck (7).
-/
import Derived.Test.YbulkckwmWalkC
namespace Go.Proofs.Ybulkckwm
open Go.RowKit Pl

theorem Filled.since {B bi bm k : Nat} {fr : Value} {ss : List ByteArray} {w0 w wr : World} (h : Filled B bi bm fr ss w wr k) (h0 : Below B w0 w) : Filled B bi bm fr ss w0 wr k := by
  obtain ⟨m, c, h1, h2, h3, h4, h5⟩ := h
  exact ⟨m, c, h1, h2, h3, h4, h0.trans h5⟩

/-- The new inbox, before it is filled. -/
abbrev box0 : Obj := .cells #[.slice none 0 0, .map none, .slice none 0 0, .string ByteArray.empty, .int .i64 0] 31

theorem box_new (w : World) : Box (w.alloc box0) w.heap.size (.slice none 0 0) (.map none) ByteArray.empty 0 := by
  have e : (w.alloc box0).heap[w.heap.size]? = some box0 := (MapKept.heap_alloc w _).1
  refine ⟨?_, ?_, ?_, ?_, ?_, fun j hj => ?_, by simp⟩
  · unfold World.cell?; dsimp only; rw [e]; rfl
  · unfold World.cell?; dsimp only; rw [e]; rfl
  · unfold World.cell?; dsimp only; rw [e]; rfl
  · unfold World.cell?; dsimp only; rw [e]; rfl
  · unfold World.cell?; dsimp only; rw [e]; rfl
  · unfold World.frozen?; dsimp only; rw [e]; simp

set_option maxHeartbeats 400000 in
theorem new_any (a : Option Addr) (len cap : Nat) (ss : List ByteArray) (w : World) (hl : len ≤ 1024) (hv : Vs w a len ss) (hvB : ∀ x, a = some x → x.block < w.heap.size) (hss : ∀ j, (ss.getD j ByteArray.empty).size ≤ maxLen) :
    Calls Yba.prog 6 #[.slice a len cap] w fun e w' => e = .returned (.pointer (some ⟨w.heap.size, 0, none⟩)) ∧ Filled w.heap.size w.heap.size (w.heap.size + 1) (.slice a len cap) ss w w' len := by
  have hf := fill_core w.heap.size w.heap.size (w.heap.size + 1) none a len cap ss (w.alloc box0) _ _ _ hl (hv.below ((Below.refl w.heap.size w).alloc (Nat.le_refl _) _) hvB) hvB hss (box_new w) (Nat.le_refl _) (by omega) (by omega) (Or.inl ⟨rfl, by simp⟩)
  have hf' := hf.mono (R' := fun e w' => e = .returned (.tuple #[]) ∧ Filled w.heap.size w.heap.size (w.heap.size + 1) (.slice a len cap) ss w w' len) (fun e w' ⟨h1, h2⟩ => ⟨h1, h2.since ((Below.refl w.heap.size w).alloc (Nat.le_refl _) _)⟩)
  clear hf
  go_enter Yba.func6, Yba.ntmps6
  go_wp2_with (go_at_call 8; refine hf'.mono ?_; rintro e w2 ⟨rfl, hF⟩)
  go_ret
  exact ⟨rfl, hF⟩

/-- What the check holds behind the first i of n values. -/
def Seen (ss : List ByteArray) (n i : Nat) (d : Nat) (m : ByteArray) (c : Nat) : Prop := d = dTo ss i ∧ IsLead (gTo ss n i) m c ∧ c ≤ n

theorem Seen.skip {ss : List ByteArray} {n i d : Nat} {m v : ByteArray} {c : Nat} (h : Seen ss n i d m c) (hv : v = ss.getD i ByteArray.empty) (he : v = ByteArray.empty ∨ 0 < cntTo ss i v) : Seen ss n (i + 1) d m c := by
  obtain ⟨h1, h2, h3⟩ := h
  exact ⟨by rw [h1, dTo_skip' hv he], h2.congr (fun s => gTo_skip hv he s), h3⟩

theorem Seen.put {ss : List ByteArray} {n i d : Nat} {m v : ByteArray} {c : Nat} (h : Seen ss n i d m c) (hv : v = ss.getD i ByteArray.empty) (he : v ≠ ByteArray.empty) (h0 : cntTo ss i v = 0) (hi : i < n) :
    Seen ss n (i + 1) (d + 1) (if led v (fTo ss n v) m c then v else m) (if led v (fTo ss n v) m c then fTo ss n v else c) := by
  obtain ⟨h1, h2, h3⟩ := h
  refine ⟨by rw [h1, dTo_put' hv he h0], h2.step (by rw [gTo_first h0]; exact fTo_pos hv he hi) (fun s => gTo_put hv h0 s), ?_⟩
  have := fTo_le ss v n
  split <;> omega

theorem Seen.done {ss : List ByteArray} {n d : Nat} {m m' : ByteArray} {c c' : Nat} (h : Seen ss n n d m c) (k : IsLead (fTo ss n) m' c') : d = dTo ss n ∧ m' = m ∧ c' = c := by
  obtain ⟨h1, h2, h3⟩ := h
  have := k.unique (h2.congr (g := fTo ss n) (fun s => (gTo_all ss n s).symm))
  exact ⟨h1, this.1, this.2⟩

theorem empty_of {v : ByteArray} (he : v.toList.isEmpty = true) : v = ByteArray.empty := by
  apply toList_inj
  rw [List.isEmpty_iff.1 he, ByteArray.toList_eq]; rfl

theorem fTo_cnt {ss : List ByteArray} {v : ByteArray} (he : v ≠ ByteArray.empty) (n : Nat) : cntTo ss n v = fTo ss n v := by unfold fTo; rw [if_neg he]

set_option maxHeartbeats 1000000 in
theorem check_any (bi bm n : Nat) (a : Option Addr) (len cap : Nat) (ss : List ByteArray) (w : World) (fr : Value) (m : ByteArray) (c : Nat) (hl : len ≤ 1024) (hv : Vs w a len ss)
    (hss : ∀ j, (ss.getD j ByteArray.empty).size ≤ maxLen) (hbox : Box w bi fr (.map (some bm)) m c) (hmap : CMap w bm n (fTo ss len) (dTo ss len)) (hlead : IsLead (fTo ss len) m c) :
    Calls Yba.prog 7 #[.pointer (some ⟨bi, 0, none⟩), .slice a len cap] w fun e w' => e = .returned (.bool true) ∧ ∃ q, w' = w.drewN q := by
  have hn := fun w => run_eql_map_nil (P := Yba.prog) w 27 29 3 (some bm) Yba.underlying27
  obtain ⟨c0, c1, c2, c3, c4, fz, lt⟩ := hbox
  clear c0 c2 fz lt
  have hd := dTo_le ss len
  have hlen : ∀ (q : Nat) ty, (Builtin.len_ #[27] ty #[.map (some bm)]).run Yba.prog (w.drewN q) = .ok (.int .i64 (dTo ss len)) (w.drewN q) := fun q ty => (hmap.of_block (w' := w.drewN q) rfl).len ty
  have hlk0 : ∀ q : Nat, (Instr.lookup 27 (.map (some bm)) (.string ⟨#[]⟩) false).run Yba.prog (w.drewN q) = .ok (.int .i64 0) (w.drewN q) := fun q => by
    have := (hmap.of_block (w' := w.drewN q) rfl).lookup (s := ByteArray.empty) (by decide)
    rw [fTo_empty] at this
    exact this
  rcases hv with rfl | ⟨b, off, rfl, hc⟩
  · have hm : m = ByteArray.empty ∧ c = 0 := hlead.unique (IsLead.none (fun s => fTo_zero ss s))
    obtain ⟨rfl, rfl⟩ := hm
    have hlen0 : ∀ ty, (Builtin.len_ #[27] ty #[.map (some bm)]).run Yba.prog w = .ok (.int .i64 0) w := hlen 0
    have hlk00 : (Instr.lookup 27 (.map (some bm)) (.string ⟨#[]⟩) false).run Yba.prog w = .ok (.int .i64 0) w := hlk0 0
    clear hlen hlk0
    go_enter Yba.func7, Yba.ntmps7
    go_wp2
    refine wp_loop_rounds 1 ?_
    rw [rounds_succ]
    go_wp2
    go_ret
    exact ⟨by simp, 0, rfl⟩
  · go_enter Yba.func7, Yba.ntmps7
    go_wp2
    go_loopw [5, 6, 7, 8] (fun d wm wc i wr => ∃ k q dn mn cn : Nat, ∃ mb : ByteArray, k ≤ len ∧ i = .int .i64 k ∧ d = .int .i64 dn ∧ wm = .string mb ∧ wc = .int .i64 cn ∧ dn ≤ k ∧ Seen ss len k dn mb cn ∧ wr = w.drewN q) (fun _ _ _ i _ => len - (intOf i).toNat)
    case atStart => exact ⟨0, 0, 0, 0, 0, ByteArray.empty, Nat.zero_le _, rfl, rfl, rfl, rfl, Nat.le_refl _, ⟨rfl, IsLead.none (fun s => gTo_zero ss len s), Nat.zero_le _⟩, rfl⟩
    case round =>
      obtain ⟨k, q, dn, mn, cn, mb, hk, rfl, rfl, rfl, rfl, hdk, hseen, rfl⟩ := hrel
      have hcn := hseen.2.2
      by_cases hkl : k < len
      · obtain ⟨s, hs⟩ : ∃ s, s = ss.getD k ByteArray.empty := ⟨_, rfl⟩
        have hsz : s.size ≤ maxLen := by rw [hs]; exact hss k
        have hcell : w.cell? ⟨b, off + k, none⟩ = some (.string s) := by rw [hs]; exact hc k hkl
        have hfirst := fun q => first_any (some ⟨b, off, none⟩) len cap k ss (w.drewN q) hl hkl (Or.inr ⟨b, off, rfl, hc⟩)
        rw [← hs] at hfirst
        have hcount := fun q => count_any (some ⟨b, off, none⟩) len cap ss s (w.drewN q) hl (Or.inr ⟨b, off, rfl, hc⟩)
        have hlk := fun q => (hmap.of_block (w' := w.drewN q) rfl).lookup hsz
        have HS : Hid (s = ss.getD k ByteArray.empty) := hs
        clear hs hc hlen hlk0
        cases he : s.toList.isEmpty
        · have hcnt : cntTo ss len s = fTo ss len s := fTo_cnt (ne_empty he) len
          rw [hcnt] at hcount
          have hfl := fTo_le ss s len
          have HC : Hid (∀ q : Nat, Calls Yba.prog 10 #[.slice (some ⟨b, off, none⟩) len cap, .string s] (w.drewN q) fun e w' => e = .returned (.int .i64 (fTo ss len s)) ∧ w' = w.drewN q) := hcount
          clear hcount hcnt
          cases hf : decide (cntTo ss k s = 0)
          · have HF : Hid (∀ q : Nat, Calls Yba.prog 9 #[.slice (some ⟨b, off, none⟩) len cap, .int .i64 k] (w.drewN q) fun e w' => e = .returned (.bool false) ∧ ∃ n, w' = (w.drewN q).drewN n) := by rw [hf] at hfirst; exact hfirst
            have hsk := hseen.skip HS.out (Or.inr (by have := of_decide_eq_false hf; omega))
            clear hfirst hlk hf
            go_wp2_with (go_at_call 9; refine (HF.out q).mono ?_; rintro e w1 ⟨rfl, q1, rfl⟩)
            go_roundw
            case rel => exact ⟨k + 1, _, dn, mn, cn, mb, by omega, by go_num, rfl, rfl, rfl, by omega, hsk, rfl⟩
            case measure => simp [intOf]; omega
          · have HF : Hid (∀ q : Nat, Calls Yba.prog 9 #[.slice (some ⟨b, off, none⟩) len cap, .int .i64 k] (w.drewN q) fun e w' => e = .returned (.bool true) ∧ ∃ n, w' = (w.drewN q).drewN n) := by rw [hf] at hfirst; exact hfirst
            have hput := hseen.put HS.out (ne_empty he) (of_decide_eq_true hf) hkl
            clear hfirst hf hseen hlead
            by_cases h1 : cn < fTo ss len s
            · have e : led s (fTo ss len s) mb cn = true := by simp [led, h1]
              have h1' : (cn : Int) < (fTo ss len s : Int) := by omega
              rw [if_pos e, if_pos e] at hput
              clear e h1
              go_wp2_with (first | (go_at_call 9; refine (HF.out q).mono ?_; rintro e w1 ⟨rfl, q1, rfl⟩) | (go_at_call 10; refine (HC.out _).mono ?_; rintro e w1 ⟨rfl, rfl⟩))
              go_roundw
              case rel => exact ⟨k + 1, _, dn + 1, mn, _, _, by omega, by go_num, by go_num, rfl, rfl, by omega, hput, rfl⟩
              case measure => simp [intOf]; omega
            · have h1' : ¬ (cn : Int) < (fTo ss len s : Int) := by omega
              by_cases h2 : fTo ss len s = cn
              · have h2' : ((fTo ss len s : Int) == (cn : Int)) = true := by simp [h2]
                cases h3 : Op.bytesLess s.toList mb.toList
                · have e : ¬ led s (fTo ss len s) mb cn = true := by simp [led, lss, h1, h3]
                  rw [if_neg e, if_neg e] at hput
                  clear e h1 h2
                  go_wp2_with (first | (go_at_call 9; refine (HF.out q).mono ?_; rintro e w1 ⟨rfl, q1, rfl⟩) | (go_at_call 10; refine (HC.out _).mono ?_; rintro e w1 ⟨rfl, rfl⟩))
                  go_roundw
                  case rel => exact ⟨k + 1, _, dn + 1, mn, _, _, by omega, by go_num, by go_num, rfl, rfl, by omega, hput, rfl⟩
                  case measure => simp [intOf]; omega
                · have e : led s (fTo ss len s) mb cn = true := by simp [led, lss, h2, h3]
                  rw [if_pos e, if_pos e] at hput
                  clear e h1 h2
                  go_wp2_with (first | (go_at_call 9; refine (HF.out q).mono ?_; rintro e w1 ⟨rfl, q1, rfl⟩) | (go_at_call 10; refine (HC.out _).mono ?_; rintro e w1 ⟨rfl, rfl⟩))
                  go_roundw
                  case rel => exact ⟨k + 1, _, dn + 1, mn, _, _, by omega, by go_num, by go_num, rfl, rfl, by omega, hput, rfl⟩
                  case measure => simp [intOf]; omega
              · have h2' : ((fTo ss len s : Int) == (cn : Int)) = false := by simp; omega
                have e : ¬ led s (fTo ss len s) mb cn = true := by simp [led, h1, h2]
                rw [if_neg e, if_neg e] at hput
                clear e h1 h2
                go_wp2_with (first | (go_at_call 9; refine (HF.out q).mono ?_; rintro e w1 ⟨rfl, q1, rfl⟩) | (go_at_call 10; refine (HC.out _).mono ?_; rintro e w1 ⟨rfl, rfl⟩))
                go_roundw
                case rel => exact ⟨k + 1, _, dn + 1, mn, _, _, by omega, by go_num, by go_num, rfl, rfl, by omega, hput, rfl⟩
                case measure => simp [intOf]; omega
        · clear hlk hfirst hcount
          go_wp2
          go_roundw
          case rel => exact ⟨k + 1, q, dn, mn, cn, mb, by omega, by go_num, rfl, rfl, rfl, by omega, hseen.skip HS.out (Or.inl (empty_of he)), rfl⟩
          case measure => simp [intOf]; omega
      · have : k = len := by omega
        subst this
        obtain ⟨e1, e2, e3⟩ := hseen.done hlead
        subst e1 e2 e3
        clear hseen hlead
        go_wp2
        go_ret
        exact ⟨by simp, q, rfl⟩

end Go.Proofs.Ybulkckwm
