/-
  LawS4342CBuilt: THE STATEMENT.
-/
import Derived.Test.YbulkckxaBuiltZ
import Derived.ProofKit
import Derived.OpenShut
import Derived.ShutString
import Derived.ChangeOld
import Derived.SliceStrings
import Derived.Deep.Slices
import Derived.Deep.Strs
import Derived.SizedLaws
import Derived.Below
namespace Go.Proofs.Ybulkckxa.built
open Go.ChangeShapes Go.WideShapes Go.ChangeAt Go.RowKit

theorem own : ownKnob Yba.prog.godebug = none := by kernel_rfl
theorem laidOut : laidOutB Yba.prog = true := by kernel_rfl
theorem cells9 : Yba.prog.cellsOf 9 = 1 := by kernel_rfl
theorem cells28 : Yba.prog.cellsOf 28 = 1 := by kernel_rfl

theorem ws_of {w : World} {a : Addr} {len : Nat} {ss : List ByteArray} (hl : len ≤ ss.length) (hc : ∀ i, i < ss.length → w.cell? (a.add i) = some (.string (ss.getD i ByteArray.empty))) : Ws w (some a) len ss := by
  by_cases h0 : len = 0
  · exact .inl h0
  · obtain ⟨b, off, spot⟩ := a
    have hspot : spot = none := by simpa [Addr.add] using World.cell?_spot (hc 0 (by omega))
    subst hspot
    exact .inr ⟨b, off, rfl, fun j hj => by rw [← add_plain]; exact hc j (by omega)⟩

theorem mem_weightsAll {H : Type} {P : Program} {e : TypeId} {d : DataW H} {n : Nat} : ∀ {l : List (DataW H)}, d ∈ l → n ∈ d.weights P e → n ∈ DataW.weightsAll P e l
  | [], h, _ => by cases h
  | x :: r, h, hn => by
    unfold DataW.weightsAll
    rcases List.mem_cons.1 h with rfl | h
    · exact List.mem_append_left _ hn
    · exact List.mem_append_right _ (mem_weightsAll h hn)

/-- Each word is within the form's reach. -/
theorem words_short {H : Type} {ts : List TypeId} {ds : List (DataW H)} {len : Nat} {ss : List ByteArray} (h : (DataW.weightsEach Yba.prog ts ds).all (· ≤ reachBytes) = true) (ht : ts[0]? = some 28) (hd : ds[0]? = some (.slice (strs (ss.take len)) (strs (ss.drop len)))) (j : Nat) : (at' ss j).size ≤ 140737488351232 := by
  unfold at'
  by_cases hj : j < ss.length
  · rw [List.getD, List.getElem?_eq_getElem hj]
    have hm : (DataW.lit (.string ss[j].data.toList) : DataW H) ∈ (strs (ss.take len) ++ strs (ss.drop len) : List (DataW H)) := by
      have : ss[j] ∈ ss.take len ++ ss.drop len := by rw [List.take_append_drop]; exact List.getElem_mem hj
      have h2 := List.mem_map_of_mem (f := fun s : ByteArray => (DataW.lit (.string s.data.toList) : DataW H)) this
      rw [List.map_append] at h2
      exact h2
    have hw : ss[j].data.toList.length ∈ DataW.weightsEach Yba.prog ts ds := by
      refine DataW.weights_mem_each ht hd _ ?_
      simp only [DataW.weights, Yba.underlying28]
      refine List.mem_cons_of_mem _ ?_
      rcases List.mem_append.1 hm with h1 | h1
      · exact List.mem_append_left _ (mem_weightsAll h1 (by simp [DataW.weights]))
      · exact List.mem_append_right _ (mem_weightsAll h1 (by simp [DataW.weights]))
    have := List.all_eq_true.1 h _ hw
    have h3 : ss[j].data.toList.length ≤ reachBytes := by simpa using this
    have h4 : ss[j].size = ss[j].data.toList.length := by rw [Array.length_toList]; rfl
    unfold reachBytes at h3
    show ss[j].size ≤ _
    omega
  · rw [List.getD, List.getElem?_eq_none (by omega)]
    exact Nat.zero_le _

/-- The words, opened. -/
theorem opened28 {H : Type} {enc : TypeId × Value → H} {W : World} {a0 : Option Addr} {len0 cap0 : Nat} {d0 d1 : DataW H} {p0 : List MemPlace} (h0 : DataW.Trod enc Yba.prog W 0 (fun _ => true) true 28 (.slice a0 len0 cap0) d0 p0)
    (hsz : (DataW.weightsEach Yba.prog ([28, 37] ++ ([] : List TypeId)) ([d0, d1] ++ [])).all (· ≤ reachBytes) = true) : ∃ ss, Ws W a0 len0 ss ∧ ∀ j, (at' ss j).size ≤ 140737488351232 := by
  obtain ⟨fuel, hf⟩ := h0
  rcases open_strings Yba.underlying28 Yba.underlying9 cells9 hf with ⟨hcs, _⟩ | ⟨a, len', cap', ss, hcs, _, hl, hm, hz, hx, hcell, _⟩
  · simp [Value.cells] at hcs
    exact ⟨[], .inl hcs.2.1, fun j => by simp [at']⟩
  · simp [Value.cells] at hcs
    obtain ⟨rfl, rfl, rfl⟩ := hcs
    simp only [if_true] at hz
    have hls : len0 ≤ ss.length := by omega
    simp only [Prod.mk.injEq] at hx
    exact ⟨ss, ws_of hls hcell, words_short hsz rfl (by rw [hx.1]; rfl)⟩

/-- One spec's cells. -/
theorem spec_cells {H : Type} {enc : TypeId × Value → H} {W : World} {fuel : Nat} {cs : List Value} {x : DataW H × List MemPlace} (hl : cs.length = 3) (h : DataW.trod enc Yba.prog W 0 (fun _ => true) true fuel 40 cs = some x) :
    ∃ y : Nat × Nat × Bool, cs = [.int .u8 y.1, .int .u16 y.2.1, .bool y.2.2] ∧ y.1 ≤ 255 ∧ y.2.1 ≤ 65535 := by
  obtain ⟨y0, y1, y2, n, _, _, t0, t1, t2⟩ := Deep.trod_struct3 Yba.underlying40 h
  have c5 : Yba.prog.cellsOf 5 = 1 := by kernel_rfl
  have c38 : Yba.prog.cellsOf 38 = 1 := by kernel_rfl
  have c4 : Yba.prog.cellsOf 4 = 1 := by kernel_rfl
  simp only [c5, c38, c4] at t0 t1 t2
  obtain ⟨L, eL, _, wL⟩ := DataW.trod_int Yba.underlying5 t0
  obtain ⟨M, eM, _, wM⟩ := DataW.trod_int Yba.underlying38 t1
  obtain ⟨B, eB, _⟩ := DataW.trod_bool Yba.underlying4 t2
  have m1 : IntKind.u8.min = 0 := rfl
  have m2 : IntKind.u8.max = 255 := rfl
  have m3 : IntKind.u16.min = 0 := rfl
  have m4 : IntKind.u16.max = 65535 := rfl
  simp [Lit.wf, m1, m2] at wL
  simp [Lit.wf, m3, m4] at wM
  obtain ⟨L', rfl⟩ : ∃ L' : Nat, L = L' := ⟨L.toNat, by omega⟩
  obtain ⟨M', rfl⟩ : ∃ M' : Nat, M = M' := ⟨M.toNat, by omega⟩
  match cs, hl with
  | [x0, x1, x2], _ =>
    simp at eL eM eB
    exact ⟨(L', M', B), by simp [eL, eM, eB], by show L' ≤ 255; omega, by show M' ≤ 65535; omega⟩

/-- The specs, opened. -/
theorem opened37 {H : Type} {enc : TypeId × Value → H} {W : World} {a0 : Option Addr} {len0 cap0 : Nat} {d0 : DataW H} {p0 : List MemPlace} (h0 : DataW.Trod enc Yba.prog W 0 (fun _ => true) true 37 (.slice a0 len0 cap0) d0 p0) :
    ∃ g : Nat → Spec, len0 = 0 ∨ ∃ b off, a0 = some ⟨b, off, none⟩ ∧ Specs W b off len0 g := by
  obtain ⟨fuel, hf⟩ := h0
  have c40 : Yba.prog.cellsOf 40 = 3 := by kernel_rfl
  rcases Deep.open_slice Yba.underlying37 hf with ⟨hcs, _⟩ | ⟨a, len, cap, m, n, D, Pl, hcs, hb, hl, hm, hmm, _, hx⟩
  · simp [Value.cells] at hcs
    exact ⟨fun _ => ⟨0, 0, false⟩, .inl hcs.2.1⟩
  · simp [Value.cells] at hcs
    obtain ⟨rfl, rfl, rfl⟩ := hcs
    simp only [if_true] at hmm
    rw [c40] at hx
    obtain ⟨y, hy⟩ := Deep.choose_lt (n := m) (p := fun i (y : Nat × Nat × Bool) => W.cell? (a.add (i * 3)) = some (.int .u8 y.1) ∧ W.cell? (a.add (i * 3 + 1)) = some (.int .u16 y.2.1) ∧ W.cell? (a.add (i * 3 + 2)) = some (.bool y.2.2) ∧ y.1 ≤ 255 ∧ y.2.1 ≤ 65535) (fun i hi => by
      obtain ⟨cs', h1, h2⟩ := hx i hi
      obtain ⟨_, hlen, hcell⟩ := World.cells?_some h1
      obtain ⟨y, rfl, b1, b2⟩ := spec_cells hlen h2
      have e0 := hcell 0 (by omega)
      have e1 := hcell 1 (by omega)
      have e2 := hcell 2 (by omega)
      rw [Deep.add_add] at e0 e1 e2
      exact ⟨y, by simpa using e0, by simpa using e1, by simpa using e2, b1, b2⟩)
    refine ⟨fun j => ⟨(y j).1, (y j).2.1, (y j).2.2⟩, ?_⟩
    by_cases hl0 : len0 = 0
    · exact .inl hl0
    · obtain ⟨b, off, spot⟩ := a
      have hspot : spot = none := by simpa [Addr.add] using World.cell?_spot (hy 0 (by omega)).1
      subst hspot
      refine .inr ⟨b, off, rfl, fun j hj => ?_⟩
      obtain ⟨e0, e1, e2, b1, b2⟩ := hy j (by omega)
      rw [add_plain] at e0 e1 e2
      exact ⟨e0, e1, e2, b1, b2⟩

theorem walk (a1 : Option Addr) (len1 cap1 : Nat) (ws : List ByteArray) (a0 : Option Addr) (len0 cap0 : Nat) (g : Nat → Spec) (w : World) (h1 : Ws w a1 len1 ws) (hts : ∀ j, (at' ws j).size ≤ 140737488351232)
    (h0 : len0 = 0 ∨ ∃ b off, a0 = some ⟨b, off, none⟩ ∧ Specs w b off len0 g) :
    Calls Yba.prog 5 #[.slice a1 len1 cap1, .slice a0 len0 cap0] w fun e w' => e = .returned (.bool true) ∧ Below w.heap.size w w' := by
  by_cases hl : len0 ≤ 1024 ∧ len1 ≤ 1024
  · by_cases hz : len0 = 0
    · subst hz
      exact built_none a0 a1 cap0 len1 cap1 ws w hl.2 h1
    · rcases h0 with h | ⟨b, off, rfl, hc⟩
      · exact absurd h hz
      · rcases h1 with h | ⟨b1, o1, rfl, hc1⟩
        · exact built_zero b off len0 cap0 len1 cap1 a1 ws g w (by omega) hl.1 hl.2 h hc
        · exact built_some b off len0 cap0 len1 cap1 b1 o1 ws g w (by omega) hl.1 hl.2 hc1 hts hc
  · exact built_long a0 a1 len0 cap0 len1 cap1 w (by omega)

set_option maxRecDepth 100000 in
theorem lifted (os : Os) (started : os.Started) (H : Type) (enc : TypeId × Value → H) :
    ReturnsInHanded {} Yba.checked os 5 .any (Rows.lawS4342CBuiltSpec.pre6 enc Yba.prog Yba.f5 Rows.lawS4342CBuiltRow.domain false) (Rows.lawS4342CBuiltSpec.post enc Yba.prog Yba.f5 false true false false) := by
  refine returnsInHanded_of_change_sized (C := Yba.checked) own started (by kernel_rfl) Yba.func5
    (ChangeSpec.witness6 (enc := enc) (C := Yba.checked) false ⟨#[], #[.slice none 0 0, .slice none 0 0], []⟩ 8 (by kernel_rfl) (by kernel_rfl) (by kernel_rfl) (by kernel_rfl)) ?_
  intro W base args ds gs before hval0 hW _ hsz0 _
  have hsz : (DataW.weightsEach Yba.prog (Yba.f5.params.toList ++ Rows.lawS4342CBuiltSpec.plain.varTypes Yba.prog) (ds ++ gs)).all (· ≤ reachBytes) = true := hsz0
  clear hsz0
  have hval : ∀ (j : Nat) t v, Yba.f5.params[j]? = some t → args[j]? = some v → Value.okWide Yba.prog W .any base t v := hval0
  have hW' := hW
  obtain ⟨p, q, hA0, hV, rfl, hfz, hnd⟩ := hW
  have hA : DataW.TrodAll enc Yba.prog W 0 (fun _ => true) true Yba.f5.params.toList args.toList ds p := hA0
  rw [Yba.params5] at hA hval hsz
  obtain ⟨v0, vs0, d0, ds0, p0, q0, hargs, rfl, rfl, h0, r0⟩ := trodAll_cons hA
  obtain ⟨v1, vs1, d1, ds1, p1, q1, rfl, rfl, rfl, h1, r1⟩ := trodAll_cons r0
  obtain ⟨rfl, rfl, rfl⟩ := trodAll_nil r1
  obtain rfl : args = #[v0, v1] := by cases args; simp_all
  obtain ⟨rfl, rfl⟩ := trodVars_none hV
  obtain ⟨a0, len0, cap0, rfl⟩ := okWide_slice Yba.underlying28 (hval 0 28 v0 rfl rfl)
  obtain ⟨a1, len1, cap1, rfl⟩ := okWide_slice Yba.underlying37 (hval 1 37 v1 rfl rfl)
  have k0 := h0
  have lt0 : ∀ x ∈ p0, x.block < W.heap.size := by obtain ⟨m, hm⟩ := k0; exact DataW.trod_lt m _ _ _ hm
  have k1 := h1
  have lt1 : ∀ x ∈ p1, x.block < W.heap.size := by obtain ⟨m, hm⟩ := k1; exact DataW.trod_lt m _ _ _ hm
  obtain ⟨ws, w0, hts⟩ := opened28 (d1 := d1) h0 hsz
  obtain ⟨g, w1⟩ := opened37 h1
  clear hA0 hval0
  refine (walk a0 len0 cap0 ws a1 len1 cap1 g W w0 hts w1).mono fun e W' ⟨he, bel⟩ => ?_
  subst he
  exact ⟨_, rfl, _, _, _, [], _, [], hW', trodAll_mk1 (shut_bool Yba.underlying4 _), (trodAll_cons_mk (Below.trod laidOut (by kernel_rfl) (of_decide_eq_true (by kernel_rfl)) k0 bel lt0) (trodAll_cons_mk (Below.trod laidOut (by kernel_rfl) (of_decide_eq_true (by kernel_rfl)) k1 bel lt1) trodAll_mk0)), rfl, bel.frame _, fun h => by cases h⟩

theorem over : Rows.lawS4342CBuiltRow.holds Yba.pinned (OpenSpec.ofChange Rows.lawS4342CBuiltSpec) :=
  OpenClaim.holds_of_wide 5 Yba.f5 rfl rfl rfl rfl rfl rfl rfl ⟨rfl, rfl, rfl, rfl, rfl⟩ rfl rfl rfl rfl rfl (by kernel_rfl) Yba.func5 (by kernel_rfl)
    (of_decide_eq_true (by kernel_rfl)) (by unfold Func.isWrapper; first | (rw [if_pos (by decide +kernel)]; kernel_rfl) | (rw [if_neg (by decide +kernel)]; exact ⟨rfl, rfl⟩))
    (fun os started H enc _ => lifted os started H enc)

/-- THE STATEMENT -/
theorem proved : Rows.LawS4342CBuiltSaid := over
end Go.Proofs.Ybulkckxa.built
