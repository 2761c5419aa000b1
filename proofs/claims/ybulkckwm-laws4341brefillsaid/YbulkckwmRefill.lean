/-
  LawS4341BRefill (4): the walk.
-/
import Derived.Test.YbulkckwmModel
namespace Go.Proofs.Ybulkckwm
open Go.RowKit Pl

/-- zzs4341bvalues, nil or not, under one word. -/
theorem values_all (a : Option Addr) (len cap : Nat) (ss : List ByteArray) (w : World) (hl : len ≤ 1024) (h : (a = none ∧ len = 0 ∧ cap = 0) ∨ ∃ x, a = some x ∧ Vs w (some x) len ss) :
    Calls Yba.prog 5 #[.slice a len cap] w fun e w' => ∃ a' c', e = .returned (.slice a' len c') ∧ Below w.heap.size w w' ∧ Vs w' a' len ss ∧ ∀ x, a' = some x → x.block < w'.heap.size := by
  rcases h with ⟨rfl, rfl, rfl⟩ | ⟨x, rfl, hv⟩
  · refine (values_nil w).mono ?_
    rintro e w' ⟨rfl, rfl⟩
    exact ⟨none, 0, rfl, Below.refl _ _, Or.inl rfl, fun x h => by cases h⟩
  · refine (values_any x len cap ss w hl hv).mono ?_
    rintro e w' ⟨rfl, h1, h2, h3⟩
    exact ⟨_, _, rfl, h1, h3, fun x h => by cases h; show w.heap.size < _; omega⟩

theorem refill_long (a b : Option Addr) (la ca lb cb : Nat) (w : World) (hl : 1024 < la ∨ 1024 < lb) : Calls Yba.prog 4 #[.slice a la ca, .slice b lb cb] w fun e w' => e = .returned (.bool true) ∧ Below w.heap.size w w' := by
  by_cases h1 : 1024 < la
  · go_enter Yba.func4, Yba.ntmps4
    go_wp2
    go_ret
    exact ⟨rfl, Below.refl _ _⟩
  · have h2 : 1024 < lb := by omega
    have h1' : ¬ (1024 : Int) < la := by omega
    go_enter Yba.func4, Yba.ntmps4
    go_wp2
    go_ret
    exact ⟨rfl, Below.refl _ _⟩

set_option maxHeartbeats 2000000 in
theorem refill_any (a b : Option Addr) (la ca lb cb : Nat) (sa sb : List ByteArray) (w : World) (hla : la ≤ 1024) (hlb : lb ≤ 1024) (hsa : ∀ j, (sa.getD j ByteArray.empty).size ≤ maxLen) (hsb : ∀ j, (sb.getD j ByteArray.empty).size ≤ maxLen)
    (ha : (a = none ∧ la = 0 ∧ ca = 0) ∨ ∃ x, a = some x ∧ Vs w (some x) la sa) (hb : (b = none ∧ lb = 0 ∧ cb = 0) ∨ ∃ x, b = some x ∧ Vs w (some x) lb sb) (hbw : ∀ x, b = some x → 0 < lb → x.block < w.heap.size) :
    Calls Yba.prog 4 #[.slice a la ca, .slice b lb cb] w fun e w' => e = .returned (.bool true) ∧ Below w.heap.size w w' := by
  have n2 := fun w => run_neq_slice_nil_any (P := Yba.prog) w 28 58 none 0 0 0 0 Yba.underlying28
  have hl1 : ¬ (1024 : Int) < la := by omega
  have hl2 : ¬ (1024 : Int) < lb := by omega
  have hva := values_all a la ca sa w hla ha
  go_enter Yba.func4, Yba.ntmps4
  go_wp2_with fail
  refine hva.mono ?_
  clear hva
  rintro e w1 ⟨a1, c1, rfl, b1, v1, t1⟩
  have hb1 : (b = none ∧ lb = 0 ∧ cb = 0) ∨ ∃ x, b = some x ∧ Vs w1 (some x) lb sb := by
    rcases hb with h | ⟨x, rfl, hv⟩
    · exact .inl h
    · refine .inr ⟨x, rfl, ?_⟩
      rcases hv with h | ⟨bb, off, e, hc⟩
      · exact .inl h
      · cases e
        by_cases h0 : lb = 0
        · exact .inl h0
        · exact .inr ⟨bb, off, rfl, fun j hj => (b1.cell (p := ⟨bb, off + j, none⟩) (hbw ⟨bb, off, none⟩ rfl (by omega))).trans (hc j hj)⟩
  have hvb := values_all b lb cb sb w1 hlb hb1
  clear hb1 hb ha hbw
  go_wp2_with fail
  refine hvb.mono ?_
  clear hvb
  rintro e w2 ⟨a2, c2, rfl, b2, v2, t2⟩
  have v1' := v1.below b2 t1
  have hna := new_any a1 la c1 sa w2 hla v1' (fun x h => Nat.lt_of_lt_of_le (t1 x h) b2.size) hsa
  go_wp2_with fail
  refine hna.mono ?_
  clear hna
  rintro e w3 ⟨rfl, hF⟩
  obtain ⟨m3, c3, box3, map3, lead3, le3, bel3⟩ := hF
  have hck := check_filled (cap := c1) hla hsa (v1'.below bel3 (fun x h => Nat.lt_of_lt_of_le (t1 x h) b2.size)) box3 map3 lead3 0
  have hck0 : Calls Yba.prog 7 #[.pointer (some ⟨w2.heap.size, 0, none⟩), .slice a1 la c1] w3 fun e w'' => e = .returned (.bool true) ∧ ∃ q, w'' = w3.drewN q := hck
  clear hck
  go_wp2_with fail
  refine hck0.mono ?_
  clear hck0
  rintro e w3' ⟨rfl, q3, rfl⟩
  have v2' := (v2.below bel3 t2).drewN q3
  have hfi := fill_core w2.heap.size w2.heap.size (w2.heap.size + 1) (some (w2.heap.size + 1)) a2 lb c2 sb (w3.drewN q3) _ m3 c3 hlb v2' t2 hsb (box3.drewN q3) (Nat.le_refl _) (by omega) (by omega) (Or.inr ⟨rfl, _, _, _, map3.drewN q3⟩)
  go_wp2_with fail
  refine hfi.mono ?_
  clear hfi
  rintro e w4 ⟨rfl, hF⟩
  obtain ⟨m4, c4, box4, map4, lead4, le4, bel4⟩ := hF
  have v4 := v2'.below bel4 t2
  have t4 : ∀ x, a2 = some x → x.block < w4.heap.size := fun x h => Nat.lt_of_lt_of_le (t2 x h) (Nat.le_of_lt box4.lt)
  have hnb := new_any a2 lb c2 sb w4 hlb v4 t4 hsb
  go_wp2_with fail
  refine hnb.mono ?_
  clear hnb
  rintro e w5 ⟨rfl, hF⟩
  obtain ⟨m5, c5, box5, map5, lead5, le5, bel5⟩ := hF
  obtain ⟨rfl, rfl⟩ := lead4.unique lead5
  have v5 := v4.below bel5 t4
  have box45 := box4.of_block (bel5.block _ box4.lt)
  have map45 := map4.below bel5 map4.lt
  have hc1 := fun q => check_filled (cap := c2) hlb hsb v5 box45 map45 lead4 q
  have hc2 := fun q => check_filled (cap := c2) hlb hsb v5 box5 map5 lead5 q
  have hc10 : Calls Yba.prog 7 #[.pointer (some ⟨w2.heap.size, 0, none⟩), .slice a2 lb c2] w5 fun e w'' => e = .returned (.bool true) ∧ ∃ q, w'' = w5.drewN q := hc1 0
  have fin : Below w.heap.size w w5 := b1.trans ((b2.mono b1.size).trans (((bel3.mono (Nat.le_trans b1.size b2.size)).trans (below_drewN (Below.refl _ _) q3)).trans ((bel4.mono (Nat.le_trans b1.size b2.size)).trans (bel5.mono (Nat.le_trans b1.size (Nat.le_trans b2.size (Nat.le_of_lt box4.lt)))))))
  clear hc1
  go_wp2_with fail
  refine hc10.mono ?_
  clear hc10
  rintro e w5' ⟨rfl, q5, rfl⟩
  go_wp2_with fail
  refine (hc2 _).mono ?_
  clear hc2
  rintro e w5' ⟨rfl, q6, rfl⟩
  have k0 := box45.c0
  have k1 := box45.c1
  have k2 := box45.c2
  have k3 := box45.c3
  have k4 := box45.c4
  have j0 := box5.c0
  have j1 := box5.c1
  have j2 := box5.c2
  have j3 := box5.c3
  have j4 := box5.c4
  have l1 := fun q ty => (map45.drewN q).len ty
  have l2 := fun q ty => (map5.drewN q).len ty
  clear box45 box5 box4 box3 map45 map5 map4 map3 lead3 lead4 lead5 v1 v1' v2 v2' v4 v5 b1 b2 bel3 bel4 bel5
  go_wp2
  go_quiet (fail)
  go_wp2
  go_quiet (fail)
  go_wp2
  go_ret
  exact ⟨rfl, below_drewN (below_drewN (below_drewN fin _) _) _⟩

end Go.Proofs.Ybulkckwm
