/-
  fill (8), newInbox (6).
-/
import Derived.Test.YbulkckwmWalkB
namespace Go.Proofs.Ybulkckwm
open Go.RowKit Pl

theorem size_setCell (w : World) (a : Addr) (v : Value) : (w.setCell a v).heap.size = w.heap.size := by simp [World.setCell]

theorem Box.set0 {w : World} {bi : Nat} {fr bm : Value} {m : ByteArray} {c : Nat} (h : Box w bi fr bm m c) (v : Value) : Box (w.setCell ⟨bi, 0, none⟩ v) bi v bm m c :=
  ⟨World.cell?_setCell_same _ _ _ h.c0, (World.cell?_setCell_other _ _ _ _ (by simp)).trans h.c1, (World.cell?_setCell_other _ _ _ _ (by simp)).trans h.c2, (World.cell?_setCell_other _ _ _ _ (by simp)).trans h.c3, (World.cell?_setCell_other _ _ _ _ (by simp)).trans h.c4,
    fun j hj => (World.frozen?_setCell _ _ _ _).trans (h.fz j hj), by rw [size_setCell]; exact h.lt⟩
theorem Box.set1 {w : World} {bi : Nat} {fr bm : Value} {m : ByteArray} {c : Nat} (h : Box w bi fr bm m c) (v : Value) : Box (w.setCell ⟨bi, 1, none⟩ v) bi fr v m c :=
  ⟨(World.cell?_setCell_other _ _ _ _ (by simp)).trans h.c0, World.cell?_setCell_same _ _ _ h.c1, (World.cell?_setCell_other _ _ _ _ (by simp)).trans h.c2, (World.cell?_setCell_other _ _ _ _ (by simp)).trans h.c3, (World.cell?_setCell_other _ _ _ _ (by simp)).trans h.c4,
    fun j hj => (World.frozen?_setCell _ _ _ _).trans (h.fz j hj), by rw [size_setCell]; exact h.lt⟩
theorem Box.set2 {w : World} {bi : Nat} {fr bm : Value} {m : ByteArray} {c : Nat} (h : Box w bi fr bm m c) : Box (w.setCell ⟨bi, 2, none⟩ (.slice none 0 0)) bi fr bm m c :=
  ⟨(World.cell?_setCell_other _ _ _ _ (by simp)).trans h.c0, (World.cell?_setCell_other _ _ _ _ (by simp)).trans h.c1, World.cell?_setCell_same _ _ _ h.c2, (World.cell?_setCell_other _ _ _ _ (by simp)).trans h.c3, (World.cell?_setCell_other _ _ _ _ (by simp)).trans h.c4,
    fun j hj => (World.frozen?_setCell _ _ _ _).trans (h.fz j hj), by rw [size_setCell]; exact h.lt⟩
theorem Box.set3 {w : World} {bi : Nat} {fr bm : Value} {m : ByteArray} {c : Nat} (h : Box w bi fr bm m c) (v : ByteArray) : Box (w.setCell ⟨bi, 3, none⟩ (.string v)) bi fr bm v c :=
  ⟨(World.cell?_setCell_other _ _ _ _ (by simp)).trans h.c0, (World.cell?_setCell_other _ _ _ _ (by simp)).trans h.c1, (World.cell?_setCell_other _ _ _ _ (by simp)).trans h.c2, World.cell?_setCell_same _ _ _ h.c3, (World.cell?_setCell_other _ _ _ _ (by simp)).trans h.c4,
    fun j hj => (World.frozen?_setCell _ _ _ _).trans (h.fz j hj), by rw [size_setCell]; exact h.lt⟩
theorem Box.set4 {w : World} {bi : Nat} {fr bm : Value} {m : ByteArray} {c : Nat} (h : Box w bi fr bm m c) (n : Nat) : Box (w.setCell ⟨bi, 4, none⟩ (.int .i64 n)) bi fr bm m n :=
  ⟨(World.cell?_setCell_other _ _ _ _ (by simp)).trans h.c0, (World.cell?_setCell_other _ _ _ _ (by simp)).trans h.c1, (World.cell?_setCell_other _ _ _ _ (by simp)).trans h.c2, (World.cell?_setCell_other _ _ _ _ (by simp)).trans h.c3, World.cell?_setCell_same _ _ _ h.c4,
    fun j hj => (World.frozen?_setCell _ _ _ _).trans (h.fz j hj), by rw [size_setCell]; exact h.lt⟩

theorem Box.of_block {w w' : World} {bi : Nat} {fr bm : Value} {m : ByteArray} {c : Nat} (h : Box w bi fr bm m c) (e : w'.heap[bi]? = w.heap[bi]?) : Box w' bi fr bm m c :=
  ⟨(World.cell?_of_block (w := w) e).trans h.c0, (World.cell?_of_block (w := w) e).trans h.c1, (World.cell?_of_block (w := w) e).trans h.c2, (World.cell?_of_block (w := w) e).trans h.c3, (World.cell?_of_block (w := w) e).trans h.c4,
    fun j hj => (World.frozen?_of_block (w := w) (a := ⟨bi, j, none⟩) e).trans (h.fz j hj), by
      have : w'.heap[bi]? = some (w.heap[bi]'h.lt) := by rw [e, Array.getElem?_eq_getElem h.lt]
      exact (Array.getElem?_eq_some_iff.1 this).1⟩

/-- '*in = inbox{from: fr, counts: bm}'. -/
abbrev set5 (w : World) (bi : Nat) (fr bm : Value) : World :=
  ((((w.setCell ⟨bi, 0, none⟩ fr).setCell ⟨bi, 1, none⟩ bm).setCell ⟨bi, 2, none⟩ (.slice none 0 0)).setCell ⟨bi, 3, none⟩ (.string ByteArray.empty)).setCell ⟨bi, 4, none⟩ (.int .i64 0)

theorem Box.set5 {w : World} {bi : Nat} {fr bm : Value} {m : ByteArray} {c : Nat} (h : Box w bi fr bm m c) (fr' bm' : Value) : Box (set5 w bi fr' bm') bi fr' bm' ByteArray.empty 0 :=
  ((((h.set0 fr').set1 bm').set2).set3 ByteArray.empty).set4 0

theorem set5_block (w : World) (bi : Nat) (fr bm : Value) (k : Nat) (h : k ≠ bi) : (set5 w bi fr bm).heap[k]? = w.heap[k]? := by
  unfold set5
  rw [Below.heap_setCell _ _ _ _ h, Below.heap_setCell _ _ _ _ h, Below.heap_setCell _ _ _ _ h, Below.heap_setCell _ _ _ _ h, Below.heap_setCell _ _ _ _ h]
theorem set5_size (w : World) (bi : Nat) (fr bm : Value) : (set5 w bi fr bm).heap.size = w.heap.size := by
  unfold set5
  rw [size_setCell, size_setCell, size_setCell, size_setCell, size_setCell]
theorem set5_below {B : Nat} {w0 w : World} (h : Below B w0 w) (bi : Nat) (hb : B ≤ bi) (fr bm : Value) : Below B w0 (set5 w bi fr bm) :=
  ((((h.setCell (p := ⟨bi, 0, none⟩) hb _).setCell (p := ⟨bi, 1, none⟩) hb _).setCell (p := ⟨bi, 2, none⟩) hb _).setCell (p := ⟨bi, 3, none⟩) hb _).setCell (p := ⟨bi, 4, none⟩) hb _

theorem CMap.mono {w : World} {b n d : Nat} {f : ByteArray → Nat} (h : CMap w b n f d) {n' : Nat} (hn : n ≤ n') : CMap w b n' f d := by
  obtain ⟨D, h, r⟩ := h
  exact ⟨D, h.mono hn, r⟩

theorem lead_box (bi : Nat) (fr bm : Value) (m v : ByteArray) (c c' : Nat) (w : World) (hb : Box w bi fr bm m c) (hc : c ≤ 100000) (hc' : c' ≤ 100000) :
    Calls Yba.prog 11 #[.pointer (some ⟨bi, 0, none⟩), .string v, .int .i64 c'] w fun e w' => e = .returned (.tuple #[]) ∧
      Box w' bi fr bm (if led v c' m c then v else m) (if led v c' m c then c' else c) ∧ (∀ k, k ≠ bi → w'.heap[k]? = w.heap[k]?) ∧ (∀ (B : Nat) (w0 : World), B ≤ bi → Below B w0 w → Below B w0 w') := by
  refine (lead_any bi fr bm m v c c' w hb hc hc').mono ?_
  rintro e w' ⟨rfl, rfl⟩
  refine ⟨rfl, ?_⟩
  by_cases h : led v c' m c = true
  · rw [if_pos h, if_pos h, if_pos h]
    refine ⟨(hb.set3 v).set4 c', fun k hk => ?_, fun B w0 hB hw => (hw.setCell (p := ⟨bi, 3, none⟩) hB _).setCell (p := ⟨bi, 4, none⟩) hB _⟩
    rw [Below.heap_setCell _ _ _ _ hk, Below.heap_setCell _ _ _ _ hk]
  · rw [if_neg h, if_neg h, if_neg h]
    exact ⟨hb, fun k _ => rfl, fun B w0 _ hw => hw⟩

theorem lead_box' (bi : Nat) (fr bm : Value) (m v : ByteArray) (c c' : Nat) (w : World) (hb : Box w bi fr bm m c) (hc : c ≤ 100000) (hc' : c' + 1 ≤ 100000) :
    Calls Yba.prog 11 #[.pointer (some ⟨bi, 0, none⟩), .string v, .int .i64 ((c' : Int) + 1)] w fun e w' => e = .returned (.tuple #[]) ∧
      Box w' bi fr bm (if led v (c' + 1) m c then v else m) (if led v (c' + 1) m c then c' + 1 else c) ∧ (∀ k, k ≠ bi → w'.heap[k]? = w.heap[k]?) ∧ (∀ (B : Nat) (w0 : World), B ≤ bi → Below B w0 w → Below B w0 w') := by
  rw [show ((c' : Int) + 1) = ((c' + 1 : Nat) : Int) from by simp]
  exact lead_box bi fr bm m v c (c' + 1) w hb hc hc'

/-- What stands behind the first k values. -/
def Filled (B bi bm : Nat) (fr : Value) (ss : List ByteArray) (w wr : World) (k : Nat) : Prop :=
  ∃ m c, Box wr bi fr (.map (some bm)) m c ∧ CMap wr bm k (fTo ss k) (dTo ss k) ∧ IsLead (fTo ss k) m c ∧ c ≤ k ∧ Below B w wr

theorem Filled.start {B bi bm : Nat} {fr : Value} {ss : List ByteArray} {w wr : World} (h1 : Box wr bi fr (.map (some bm)) ByteArray.empty 0) (h2 : CMap wr bm 0 (fun _ => 0) 0) (h3 : Below B w wr) : Filled B bi bm fr ss w wr 0 :=
  ⟨_, _, h1, h2.congr (fun s => fTo_zero ss s) rfl, IsLead.none (fun s => fTo_zero ss s), Nat.le_refl _, h3⟩

theorem Filled.skip {B bi bm k : Nat} {fr : Value} {ss : List ByteArray} {w wr : World} (h : Filled B bi bm fr ss w wr k) {v : ByteArray} (hv : v = ss.getD k ByteArray.empty) (he : v.toList.isEmpty = true) : Filled B bi bm fr ss w wr (k + 1) := by
  have he' : v = ByteArray.empty := by
    apply toList_inj
    rw [List.isEmpty_iff.1 he, ByteArray.toList_eq]; rfl
  rw [he'] at hv
  obtain ⟨m, c, h1, h2, h3, h4, h5⟩ := h
  exact ⟨m, c, h1, (h2.congr (fun s => fTo_skip hv.symm s) (dTo_skip hv.symm)).mono (Nat.le_succ _), h3.congr (fun s => fTo_skip hv.symm s), by omega, h5⟩

theorem ne_empty {v : ByteArray} (he : v.toList.isEmpty = false) : v ≠ ByteArray.empty := by
  rintro rfl
  rw [ByteArray.toList_eq] at he
  cases he

/-- One value more: behind the store and 'lead'. -/
theorem Filled.put {B bi bm k : Nat} {fr : Value} {ss : List ByteArray} {w wr w1 w2 : World} {m v : ByteArray} {c : Nat} (hv : v = ss.getD k ByteArray.empty) (he : v.toList.isEmpty = false) (h3 : IsLead (fTo ss k) m c) (h4 : c ≤ k) (h5 : Below B w wr)
    (hbm : B ≤ bm) (hbi : B ≤ bi) (hne : bm ≠ bi) (hsz : B ≤ wr.heap.size)
    (hmap : CMap w1 bm (k + 1) (fun t => if t = v then fTo ss k v + 1 else fTo ss k t) (if 0 < fTo ss k v then dTo ss k else dTo ss k + 1)) (hg : wr.grownBy w1 (some bm))
    (hbox : Box w2 bi fr (.map (some bm)) (if led v (fTo ss k v + 1) m c then v else m) (if led v (fTo ss k v + 1) m c then fTo ss k v + 1 else c)) (hk : ∀ j, j ≠ bi → w2.heap[j]? = w1.heap[j]?) (hB : ∀ (B : Nat) (w0 : World), B ≤ bi → Below B w0 w1 → Below B w0 w2) :
    Filled B bi bm fr ss w w2 (k + 1) := by
  have he' := ne_empty he
  have hle := fTo_le ss v k
  refine ⟨_, _, hbox, ((hmap.of_block (hk bm hne)).congr (fun s => fTo_put hv he' s) (dTo_put hv he')), h3.step (Nat.lt_succ_self _) (fun s => fTo_put hv he' s), ?_, hB _ _ hbi (h5.grown hg hsz (fun j hj => by cases hj; exact hbm))⟩
  split <;> omega

set_option maxHeartbeats 1000000 in
theorem fill_core (B bi bm : Nat) (bmv : Option Nat) (a : Option Addr) (len cap : Nat) (ss : List ByteArray) (w : World) (fr : Value) (m0 : ByteArray) (c0 : Nat) (hl : len ≤ 1024) (hv : Vs w a len ss) (hvB : ∀ x, a = some x → x.block < B)
    (hss : ∀ j, (ss.getD j ByteArray.empty).size ≤ maxLen) (hbox : Box w bi fr (.map bmv) m0 c0) (hbi : B ≤ bi) (hbm : B ≤ bm) (hne : bm ≠ bi) (hcase : (bmv = none ∧ bm = w.heap.size) ∨ (bmv = some bm ∧ ∃ n f d, CMap w bm n f d)) :
    Calls Yba.prog 8 #[.pointer (some ⟨bi, 0, none⟩), .slice a len cap] w fun e w' => e = .returned (.tuple #[]) ∧ Filled B bi bm (.slice a len cap) ss w w' len := by
  have hmm := @run_makeMap Yba.prog
  have hn := fun w => run_eql_map_nil (P := Yba.prog) w 27 29 3 bmv Yba.underlying27
  have hlt := hbox.lt
  rcases hcase with ⟨rfl, rfl⟩ | ⟨rfl, n, f, d, hmap⟩
  · have hst : Filled B bi w.heap.size (.slice a len cap) ss w ((set5 w bi (.slice a len cap) (.map (some w.heap.size))).alloc (.map #[] 0)) 0 := by
      refine Filled.start ((hbox.set5 _ _).of_block (Below.heap_alloc _ _ _ (by rw [set5_size]; exact hlt))) ?_ ((set5_below (Below.refl _ _) bi hbi _ _).alloc (by rw [set5_size]; exact hbm) _)
      have := CMap.made (set5 w bi (.slice a len cap) (.map (some w.heap.size)))
      rw [set5_size] at this
      exact this
    have hv0 : Vs ((set5 w bi (.slice a len cap) (.map (some w.heap.size))).alloc (.map #[] 0)) a len ss := hv.below (hst.choose_spec.choose_spec.2.2.2.2) hvB
    obtain ⟨c0, c1, c2, c3, c4, fz, lt⟩ := hbox
    have f0 := fz 0 (by omega)
    have f1 := fz 1 (by omega)
    have f2 := fz 2 (by omega)
    have f3 := fz 3 (by omega)
    have f4 := fz 4 (by omega)
    go_enter Yba.func8, Yba.ntmps8
    go_wp2
    clear c0 c1 c2 c3 c4 fz lt f0 f1 f2 f3 f4 hn hv0
    rcases hv with rfl | ⟨b, off, rfl, hc⟩
    · refine wp_loop_rounds 1 ?_
      rw [rounds_succ]
      go_wp2
      go_end0
      exact ⟨rfl, hst⟩
    · have hbB := hvB _ rfl
      go_loopw [22] (fun i wr => ∃ k : Nat, k ≤ len ∧ i = .int .i64 k ∧ Filled B bi w.heap.size (.slice (some ⟨b, off, none⟩) len cap) ss w wr k) (fun i _ => len - (intOf i).toNat)
      case atStart => exact ⟨0, Nat.zero_le _, rfl, hst⟩
      case round =>
        clear hst
        obtain ⟨k, hk, rfl, hF⟩ := hrel
        by_cases hkl : k < len
        · obtain ⟨s, hs⟩ : ∃ s, s = ss.getD k ByteArray.empty := ⟨_, rfl⟩
          have hsz : s.size ≤ maxLen := by rw [hs]; exact hss k
          obtain ⟨m, c, h1, h2, h3, h4, h5⟩ := id hF
          have hcell : wr.cell? ⟨b, off + k, none⟩ = some (.string s) := by rw [hs]; exact (h5.cell (p := ⟨b, off + k, none⟩) hbB).trans (hc k hkl)
          have HS : Hid (s = ss.getD k ByteArray.empty) := hs
          clear hs hc
          cases he : s.toList.isEmpty
          · have hle := fTo_le ss s k
            have hlk := h2.lookup hsz
            obtain ⟨w1, hup, hmap1, hg1, hsz1⟩ := h2.update hsz (by omega) (by omega)
            have hlk1 := hmap1.lookup hsz
            rw [if_pos rfl, Int.natCast_add, Int.natCast_one] at hlk1
            have hbox1 : Box w1 bi (.slice (some ⟨b, off, none⟩) len cap) (.map (some w.heap.size)) m c := h1.of_block (hg1.block bi h1.lt (by simp; omega))
            have b1 := h1.c1
            have b1' := hbox1.c1
            have hwr : B ≤ wr.heap.size := Nat.le_trans hbi (Nat.le_of_lt h1.lt)
            have H3 : Hid (IsLead (fTo ss k) m c) := h3
            clear h3 hsz1 hF h1
            go_wp2_with (go_at_call 11; refine (lead_box' bi _ _ m s c (fTo ss k s) _ hbox1 (by omega) (by omega)).mono ?_; rintro e w2 ⟨rfl, hb2, hk2, hB2⟩)
            go_roundw
            case rel => exact ⟨k + 1, by omega, by go_num, Filled.put HS.out he H3.out h4 h5 hbm hbi hne hwr hmap1 hg1 hb2 hk2 hB2⟩
            case measure => simp [intOf]; omega
          · clear h1 h2 h3 h4 h5
            go_wp2
            go_roundw
            case rel => exact ⟨k + 1, by omega, by go_num, hF.skip HS.out he⟩
            case measure => simp [intOf]; omega
        · have : k = len := by omega
          subst this
          go_wp2
          go_end0
          exact ⟨rfl, hF⟩
  · obtain ⟨w1, hcl, hmap1, hg1, hs1⟩ := hmap.clear
    have hbox1 : Box w1 bi fr (.map (some bm)) m0 c0 := hbox.of_block (hg1.block bi hlt (by simp; omega))
    have hst : Filled B bi bm (.slice a len cap) ss w (set5 w1 bi (.slice a len cap) (.map (some bm))) 0 :=
      Filled.start (hbox1.set5 _ _) (hmap1.of_block (set5_block _ _ _ _ _ hne)) (set5_below ((Below.refl _ _).grown hg1 (Nat.le_of_lt (Nat.lt_of_le_of_lt hbi hlt)) (fun j hj => by cases hj; exact hbm)) bi hbi _ _)
    obtain ⟨c0, c1, c2, c3, c4, fz, lt⟩ := hbox1
    have c1w := hbox.c1
    clear hbox
    have f0 := fz 0 (by omega)
    have f1 := fz 1 (by omega)
    have f2 := fz 2 (by omega)
    have f3 := fz 3 (by omega)
    have f4 := fz 4 (by omega)
    go_enter Yba.func8, Yba.ntmps8
    go_wp2
    clear c0 c1 c2 c3 c4 fz lt f0 f1 f2 f3 f4 hn hcl hmap1 hg1 hs1 c1w
    rcases hv with rfl | ⟨b, off, rfl, hc⟩
    · refine wp_loop_rounds 1 ?_
      rw [rounds_succ]
      go_wp2
      go_end0
      exact ⟨rfl, hst⟩
    · have hbB := hvB _ rfl
      go_loopw [22] (fun i wr => ∃ k : Nat, k ≤ len ∧ i = .int .i64 k ∧ Filled B bi bm (.slice (some ⟨b, off, none⟩) len cap) ss w wr k) (fun i _ => len - (intOf i).toNat)
      case atStart => exact ⟨0, Nat.zero_le _, rfl, hst⟩
      case round =>
        clear hst
        obtain ⟨k, hk, rfl, hF⟩ := hrel
        by_cases hkl : k < len
        · obtain ⟨s, hs⟩ : ∃ s, s = ss.getD k ByteArray.empty := ⟨_, rfl⟩
          have hsz : s.size ≤ maxLen := by rw [hs]; exact hss k
          obtain ⟨m, c, h1, h2, h3, h4, h5⟩ := id hF
          have hcell : wr.cell? ⟨b, off + k, none⟩ = some (.string s) := by rw [hs]; exact (h5.cell (p := ⟨b, off + k, none⟩) hbB).trans (hc k hkl)
          have HS : Hid (s = ss.getD k ByteArray.empty) := hs
          clear hs hc
          cases he : s.toList.isEmpty
          · have hle := fTo_le ss s k
            have hlk := h2.lookup hsz
            obtain ⟨w1, hup, hmap1, hg1, hsz1⟩ := h2.update hsz (by omega) (by omega)
            have hlk1 := hmap1.lookup hsz
            rw [if_pos rfl, Int.natCast_add, Int.natCast_one] at hlk1
            have hbox1 : Box w1 bi (.slice (some ⟨b, off, none⟩) len cap) (.map (some bm)) m c := h1.of_block (hg1.block bi h1.lt (by simp; omega))
            have b1 := h1.c1
            have b1' := hbox1.c1
            have hwr : B ≤ wr.heap.size := Nat.le_trans hbi (Nat.le_of_lt h1.lt)
            have H3 : Hid (IsLead (fTo ss k) m c) := h3
            clear h3 hsz1 hF h1
            go_wp2_with (go_at_call 11; refine (lead_box' bi _ _ m s c (fTo ss k s) _ hbox1 (by omega) (by omega)).mono ?_; rintro e w2 ⟨rfl, hb2, hk2, hB2⟩)
            go_roundw
            case rel => exact ⟨k + 1, by omega, by go_num, Filled.put HS.out he H3.out h4 h5 hbm hbi hne hwr hmap1 hg1 hb2 hk2 hB2⟩
            case measure => simp [intOf]; omega
          · clear h1 h2 h3 h4 h5
            go_wp2
            go_roundw
            case rel => exact ⟨k + 1, by omega, by go_num, hF.skip HS.out he⟩
            case measure => simp [intOf]; omega
        · have : k = len := by omega
          subst this
          go_wp2
          go_end0
          exact ⟨rfl, hF⟩

end Go.Proofs.Ybulkckwm
