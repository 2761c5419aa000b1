/-
  LawS4342CBuilt (5): the walk, of a line without words.
-/
import Derived.Test.YbulkckxaBuilt
namespace Go.Proofs.Ybulkckxa
open Go.RowKit

set_option maxRecDepth 100000 in
set_option maxHeartbeats 4000000 in
theorem built_zero (b off N c0 n c1 : Nat) (a1 : Option Addr) (ws : List ByteArray) (g : Nat → Spec) (w : World) (hN0 : 0 < N) (hN : N ≤ 1024) (hn : n ≤ 1024) (hn0 : n = 0) (hS : Specs w b off N g) :
    Calls Yba.prog 5 #[.slice a1 n c1, .slice (some ⟨b, off, none⟩) N c0] w fun e w' => e = .returned (.bool true) ∧ Below w.heap.size w w' := by
  have HN0 : Hid (n = 0) := hn0
  clear hn0
  have hmk := make_cmds N (by omega)
  have hbw := cell_lt (hS 0 hN0).1
  have hn' : ¬ (1024 : Int) < n := by omega
  have hN' : ¬ (1024 : Int) < N := by omega
  have hnf := eql_nilFunc
  have hsn := fun w => Lib.run_eql_slice_nil (P := Yba.prog) w 28 9 none 0 0 0 0 Yba.underlying28
  go_enter Yba.func5, Yba.ntmps5
  go_wp2
  go_loopw [7, 8] (fun ex i wr => ∃ k : Nat, ∃ r : Int, k ≤ N ∧ i = .int .i64 k ∧ ex = .int .i64 r ∧ IsFirst (want n g) k r ∧ Outer w.heap.size N n ws g w wr k) (fun _ i _ => N - (intOf i).toNat)
  case atStart => exact ⟨0, -1, Nat.zero_le _, rfl, rfl, .inl ⟨rfl, fun j hj => by omega⟩, Outer.start rfl⟩
  case round =>
    obtain ⟨k, r, hk, rfl, rfl, hr, hout⟩ := hrel
    obtain ⟨wo, rfl⟩ : ∃ wo : World, wo = wr := ⟨_, rfl⟩
    have HR : Hid (IsFirst (want n g) k r) := hr
    have HO : Hid (Outer w.heap.size N n ws g w wo k) := hout
    have hbel : Below w.heap.size w wo := hout.choose_spec.2.1
    have hsz : w.heap.size + 1 ≤ wo.heap.size := hout.choose_spec.2.2.1
    by_cases hkN : k < N
    · obtain ⟨L, hL⟩ : ∃ L, L = (g k).len := ⟨_, rfl⟩
      obtain ⟨M, hM⟩ : ∃ M, M = (g k).mask := ⟨_, rfl⟩
      obtain ⟨Br, hBr⟩ : ∃ Br, Br = (g k).brk := ⟨_, rfl⟩
      obtain ⟨l, hl⟩ : ∃ l, l = ll n g k := ⟨_, rfl⟩
      obtain ⟨s0, s1, s2, s3, s4⟩ := hS k hkN
      rw [← hL] at s0 s3
      rw [← hM] at s1 s4
      rw [← hBr] at s2
      have d0 : wo.cell? ⟨b, off + k * 3, none⟩ = some (.int .u8 L) := (hbel.cell (p := ⟨b, off + k * 3, none⟩) hbw).trans s0
      have d1 : wo.cell? ⟨b, off + k * 3 + 1, none⟩ = some (.int .u16 M) := (hbel.cell (p := ⟨b, off + k * 3 + 1, none⟩) hbw).trans s1
      have d2 : wo.cell? ⟨b, off + k * 3 + 2, none⟩ = some (.bool Br) := (hbel.cell (p := ⟨b, off + k * 3 + 2, none⟩) hbw).trans s2
      have hmod : (L : Int) % ((n : Int) + 3) = (l : Int) := by
        have : l = L % (n + 3) := by rw [hl, hL]; rfl
        rw [this]; simp
      have hlb : l ≤ 255 := by rw [hl]; unfold ll; exact Nat.le_trans (Nat.mod_le _ _) (by rw [← hL]; exact s3)
      have hmkl := run_make_row' (P := Yba.prog) 28 9 (.string ByteArray.empty) 16 Yba.underlying28 Yba.info9 rfl .i64 .i64 l (by omega) (by omega)
      have HWANT : Hid (want n g k = (decide (l ≤ n) && !(Br && decide (0 < l)))) := want_eq hl hBr
      have HW0 : Hid True := trivial
      clear s0 s1 s2 hL hM hBr hl hS hout hr hmk
      go_wp2
      rw [hmod]
      have x0 : Below wo.heap.size wo ((wo.alloc (.cells #[.int .u8 L, .int .u16 M, .bool Br] 40)).alloc (.cells (madeCells #[.string ByteArray.empty] l) 9)) := ((Below.refl _ _).alloc (Nat.le_refl _) _).alloc (by simp) _
      have x1 : ((wo.alloc (.cells #[.int .u8 L, .int .u16 M, .bool Br] 40)).alloc (.cells (madeCells #[.string ByteArray.empty] l) 9)).rowIs (wo.heap.size + 1) 9 l (fun _ => .string ByteArray.empty) := by
        have := World.rowIs_made (wo.alloc (.cells #[.int .u8 L, .int .u16 M, .bool Br] 40)) (.string ByteArray.empty) l 9
        simpa using this
      have x2 : ((wo.alloc (.cells #[.int .u8 L, .int .u16 M, .bool Br] 40)).alloc (.cells (madeCells #[.string ByteArray.empty] l) 9)).cell? ⟨wo.heap.size, 1, none⟩ = some (.int .u16 M) := by go_simp
      have x3 : ((wo.alloc (.cells #[.int .u8 L, .int .u16 M, .bool Br] 40)).alloc (.cells (madeCells #[.string ByteArray.empty] l) 9)).cell? ⟨wo.heap.size, 2, none⟩ = some (.bool Br) := by go_simp
      have x4 : ((wo.alloc (.cells #[.int .u8 L, .int .u16 M, .bool Br] 40)).alloc (.cells (madeCells #[.string ByteArray.empty] l) 9)).heap.size = wo.heap.size + 1 + 1 := by simp
      obtain ⟨X, hX⟩ : ∃ X : World, X = (wo.alloc (.cells #[.int .u8 L, .int .u16 M, .bool Br] 40)).alloc (.cells (madeCells #[.string ByteArray.empty] l) 9) := ⟨_, rfl⟩
      rw [← hX] at x0 x1 x2 x3 x4 ⊢
      have X4 : Hid (X.heap.size = wo.heap.size + 1 + 1) := x4
      clear hX x4 hmod hmkl d0 d1 d2
      go_loopw [12] (fun kk wi => ∃ i : Nat, i ≤ l ∧ kk = .int .i64 i ∧ Inner (wo.heap.size + 1) l n ws X wi i) (fun kk _ => l - (intOf kk).toNat)
      case atStart => exact ⟨0, Nat.zero_le _, rfl, Inner.start x1⟩
      case round =>
        clear x1
        obtain ⟨i, hi, rfl, hin⟩ := hrel
        have INN : Hid (Inner (wo.heap.size + 1) l n ws X wr i) := hin
        by_cases hil : i < l
        · have f0 := hin.choose_spec.1.frozen i
          obtain ⟨u0, c0'⟩ : ∃ u0, wr.cell? ⟨wo.heap.size + 1, i, none⟩ = some (.string u0) := ⟨_, hin.choose_spec.1.cell hil⟩
          have y2 : wr.cell? ⟨wo.heap.size, 1, none⟩ = some (.int .u16 M) := (hin.choose_spec.2.2.1.cell (p := ⟨wo.heap.size, 1, none⟩) (Nat.lt_succ_self _)).trans x2
          by_cases hni : n ≤ i
          · clear hin
            go_wp2
            go_roundw
            case rel => exact ⟨i + 1, by omega, by go_num, INN.out.put (.inl rfl)⟩
            case measure => simp [intOf]; omega
          · have := HN0.out
            omega
        · have : i = l := by omega
          subst this
          have z3 : wr.cell? ⟨wo.heap.size, 2, none⟩ = some (.bool Br) := (hin.choose_spec.2.2.1.cell (p := ⟨wo.heap.size, 2, none⟩) (Nat.lt_succ_self _)).trans x3
          obtain ⟨gg, irow, igg, ibel, isz⟩ := hin
          have hb3 : Below wo.heap.size wo wr := x0.trans (ibel.mono (by omega))
          have hs3 : wr.heap.size = wo.heap.size + 1 + 1 := by rw [isz]; exact X4.out
          have hBw : w.heap.size < wo.heap.size := by omega
          obtain ⟨q0, e0⟩ : ∃ u, wr.cell? ⟨w.heap.size, k * 2, none⟩ = some u := ⟨_, (hb3.cell (p := ⟨w.heap.size, k * 2, none⟩) hBw).trans (HO.out.choose_spec.1.cell (by omega))⟩
          obtain ⟨q1, e1⟩ : ∃ u, wr.cell? ⟨w.heap.size, k * 2 + 1, none⟩ = some u := ⟨_, (hb3.cell (p := ⟨w.heap.size, k * 2 + 1, none⟩) hBw).trans (HO.out.choose_spec.1.cell (by omega))⟩
          have g0 : wr.frozen? ⟨w.heap.size, k * 2, none⟩ = false := (hb3.frozen (p := ⟨w.heap.size, k * 2, none⟩) hBw).trans (HO.out.choose_spec.1.frozen _)
          have g1 : wr.frozen? ⟨w.heap.size, k * 2 + 1, none⟩ = false := (hb3.frozen (p := ⟨w.heap.size, k * 2 + 1, none⟩) hBw).trans (HO.out.choose_spec.1.frozen _)
          have HS3 : Hid (wr.heap.size = wo.heap.size + 1 + 1) := hs3
          clear isz hs3 x2 x3
          by_cases hin : i ≤ n
          · by_cases hbr : Br = true ∧ 0 < i
            · have := HN0.out
              omega
            · have hw : want n g k = true := by
                rw [HWANT.out]
                cases Br
                · simp [hin]
                · simp at hbr; subst hbr; simp
              have hput := HO.out.put hlb hb3 HS3.out irow (by rw [hw]; exact met_yes hin igg)
              have HNEWN : r = -1 → Hid (IsFirst (want n g) (k + 1) k) := fun e => by subst e; exact HR.out.yes hw
              have HNEWP : 0 ≤ r → Hid (IsFirst (want n g) (k + 1) r) := fun e => HR.out.stay e
              have hrc : r = -1 ∨ 0 ≤ r := by rcases HR.out with ⟨h, _⟩ | ⟨j, _, h, _⟩ <;> omega
              clear HWANT HR irow igg ibel
              have hbr' : Br = false ∨ i = 0 := by
                cases Br
                · exact .inl rfl
                · simp at hbr; exact .inr hbr
              clear hbr hw INN X4 x0 HW0
              rcases hbr' with hbr' | hbr'
              · subst hbr'
                rcases hrc with hrc | hrc
                · subst hrc
                  have HN := HNEWN rfl
                  clear HNEWN HNEWP
                  go_wp2
                  go_roundw
                  case rel => exact ⟨k + 1, k, by omega, by go_num, rfl, HN.out, hput⟩
                  case measure => simp [intOf]; omega
                · have HN := HNEWP hrc
                  clear HNEWN HNEWP
                  go_wp2
                  go_roundw
                  case rel => exact ⟨k + 1, r, by omega, by go_num, rfl, HN.out, hput⟩
                  case measure => simp [intOf]; omega
              · subst hbr'
                cases Br
                all_goals
                  rcases hrc with hrc | hrc
                  · subst hrc
                    have HN := HNEWN rfl
                    clear HNEWN HNEWP
                    go_wp2
                    go_roundw
                    case rel => exact ⟨k + 1, k, by omega, by go_num, rfl, HN.out, hput⟩
                    case measure => simp [intOf]; omega
                  · have HN := HNEWP hrc
                    clear HNEWN HNEWP
                    go_wp2
                    go_roundw
                    case rel => exact ⟨k + 1, r, by omega, by go_num, rfl, HN.out, hput⟩
                    case measure => simp [intOf]; omega
          · have hw : want n g k = false := by rw [HWANT.out]; simp [hin]
            have hput := HO.out.put hlb hb3 HS3.out irow (by rw [hw]; exact match_long (by omega))
            have HN : Hid (IsFirst (want n g) (k + 1) r) := HR.out.skip hw
            clear HWANT HR irow igg ibel hw INN X4 x0 HW0
            have hin' : n < i := by omega
            have hi0 : 0 < i := by omega
            cases Br
            all_goals
              go_wp2
              go_roundw
              case rel => exact ⟨k + 1, r, by omega, by go_num, rfl, HN.out, hput⟩
              case measure => simp [intOf]; omega
    · have : k = N := by omega
      subst this
      obtain ⟨f, orow, _, _, ocm⟩ := hout
      have hcm : Cmds wo w.heap.size k f := cmds_of_row orow (fun j hj => ⟨(ocm j hj).1, Nat.le_trans (ocm j hj).2.1 (by omega)⟩)
      have h1r : Ws wo a1 n ws := .inl HN0.out
      have hfirst0 : IsFirst (hit n ws f) k r := hr.congr (fun j hj => (ocm j hj).2.2.1.symm)
      have HC : Hid (Calls Yba.prog 8 #[.slice (some ⟨w.heap.size, 0, none⟩) k k, .slice a1 n c1] wo fun e w' => ∃ r, Found f k r e ∧ IsFirst (hit n ws f) k r ∧ Below wo.heap.size wo w') :=
        commandOf_any w.heap.size k k n c1 a1 ws f wo (by omega) (by omega) h1r hcm
      clear hmk hS h1r hr HR HO orow
      go_wp2_with fail
      refine HC.out.mono ?_
      rintro e w2 ⟨r2, hfound, hfirst, hb2⟩
      have hrr := hfirst0.unique hfirst
      subst hrr
      rcases hfound with ⟨hr1, rfl⟩ | ⟨k0, hk0, hr1, rfl⟩
      · subst hr1
        have fin : Below w.heap.size w (w2.alloc (.cells #[.slice none 0 0, .nilFunc] 32)) := hbel.trans ((hb2.alloc hb2.size _).mono hbel.size)
        clear hcm ocm HC hfirst hfirst0
        go_wp2
        go_ret
        exact ⟨rfl, fin⟩
      · subst hr1
        have hbW : Below wo.heap.size wo (w2.alloc (.cells #[.slice (f k0).a (f k0).m (f k0).c, .nilFunc] 32)) := hb2.alloc hb2.size _
        have fin : Below w.heap.size w (w2.alloc (.cells #[.slice (f k0).a (f k0).m (f k0).c, .nilFunc] 32)) := hbel.trans (hbW.mono hbel.size)
        have hg0 : (w2.alloc (.cells #[.slice (f k0).a (f k0).m (f k0).c, .nilFunc] 32)).cell? ⟨w2.heap.size, 0, none⟩ = some (.slice (f k0).a (f k0).m (f k0).c) := by go_simp
        have hg1 : (w2.alloc (.cells #[.slice (f k0).a (f k0).m (f k0).c, .nilFunc] 32)).cell? ⟨w2.heap.size, 1, none⟩ = some .nilFunc := by go_simp
        have d0 : (w2.alloc (.cells #[.slice (f k0).a (f k0).m (f k0).c, .nilFunc] 32)).cell? ⟨w.heap.size, k0 * 2, none⟩ = some (.slice (f k0).a (f k0).m (f k0).c) := (hbW.cell (p := ⟨w.heap.size, k0 * 2, none⟩) (by show w.heap.size < _; omega)).trans (hcm k0 hk0).1
        have HE : Hid (∀ q : Nat, Calls Yba.prog 10 #[.slice (f k0).a (f k0).m (f k0).c, .slice (f k0).a (f k0).m (f k0).c] ((w2.alloc (.cells #[.slice (f k0).a (f k0).m (f k0).c, .nilFunc] 32)).drewN q) fun e w' => e = .returned (.bool true) ∧ ∃ q', w' = ((w2.alloc (.cells #[.slice (f k0).a (f k0).m (f k0).c, .nilFunc] 32)).drewN q).drewN q') :=
          fun q => equal_same (f k0).a (f k0).a (f k0).m (f k0).c (f k0).c (f k0).ls _ (ocm k0 hk0).2.1 ((ocm k0 hk0).1.below (below_drewN hbW q)) ((ocm k0 hk0).1.below (below_drewN hbW q))
        clear hcm ocm HC hfirst hfirst0
        go_wp2
        obtain ⟨V, hV⟩ : ∃ V : World, V = w2.alloc (.cells #[.slice (f k0).a (f k0).m (f k0).c, .nilFunc] 32) := ⟨_, rfl⟩
        rw [← hV] at fin hg0 hg1 d0 HE ⊢
        clear hV hb2 hbW
        go_quiet ((go_at_call 10; exact Calls.quiet_of (HE.out _)))
        go_wp2
        go_ret
        exact ⟨rfl, below_drewN fin _⟩

end Go.Proofs.Ybulkckxa
