/-
  partiesNamed (4).
-/
import Derived.Test.YbulkckwmFmtWalks
import Derived.Stop.CallBack
import Derived.Stop.IfaceNil
import GoSem.ClaimData
namespace Go.Proofs.YbulkckwmFmt
open Go.RowKit Go.Extern.Stop Go.Stop Go.Extern

theorem call6 (args : Array Value) (w : World) : (callFunc 6 args).run Ybaf.prog w = ((FmtStop.sprintf #[9, 74] #[9] args).run Ybaf.prog w).andThen fun v w' => .ok (.value v) w' :=
  run_callFunc_extern Ybaf.func6 (by kernel_rfl) (by kernel_rfl) (by kernel_rfl) (by kernel_rfl) args w
theorem guard6 (name : String) (w : World) : (FmtStop.guard name).run Ybaf.prog w = .ok () w := by kernel_rfl
theorem fmt6 (w : World) : (FmtDoors.printed ⟨#[112, 97, 114, 116, 121, 32, 37, 100]⟩ 1).run Ybaf.prog w = .ok [(0, 100, false)] w := by kernel_rfl
theorem fmt6' : FmtStop.printed? ⟨#[112, 97, 114, 116, 121, 32, 37, 100]⟩ 1 = some [(0, 100, false)] := by kernel_rfl
def shape3 : List UInt8 := [5, 3, 0, 0, 0, 0, 0, 0, 0, 105, 110, 116]
theorem op3 (name : String) (x : Int) (w : World) : (FmtStop.operand name false 100 false (.iface 3 (.int .i64 x))).run Ybaf.prog w = .ok (shape3, Go.Extern.Stop.digits 8 (x % 2 ^ 64).toNat) w := by kernel_rfl

set_option maxHeartbeats 400000 in
theorem named_one (F : Interp) (b off cap : Nat) (z : Int) (w : World) (hF : F.answers w.tape) (hc : w.cell? ⟨b, off, none⟩ = some (.int .i64 z)) :
    Calls Ybaf.prog 4 #[.slice (some ⟨b, off, none⟩) 1 cap] w fun e w' => ∃ s : ByteArray, e = .returned (.string s) ∧ Below w.heap.size w w' := by
  have hF' := answers_open hF
  have k1 := call6
  have k2 := guard6
  have k3 := fmt6
  have k3' := fmt6'
  have k4 := op3
  go_enter Ybaf.func4, Ybaf.ntmps4
  go_wp2
  go_ret
  exact ⟨_, rfl, ((Below.refl _ _).alloc (Nat.le_refl _) _).drew⟩

theorem named_zero (a : Option Addr) (cap : Nat) (w : World) :
    Calls Ybaf.prog 4 #[.slice a 0 cap] w fun e w' => e = .returned (.string ⟨#[112, 97, 114, 116, 105, 101, 115, 32, 110, 111, 110, 101]⟩) ∧ w' = w := by
  go_enter Ybaf.func4, Ybaf.ntmps4
  go_wp2_with (go_at_call 7; refine (list_zero _ _ _).mono ?_; rintro e w1 ⟨rfl, rfl⟩)
  go_ret
  exact ⟨rfl, rfl⟩

set_option maxHeartbeats 400000 in
theorem named_any (b off len cap : Nat) (zs : List Int) (w : World) (h0 : 1 < len) (hl : len ≤ 1024) (hz : InI64 zs) (hc : ∀ j, j < len → w.cell? ⟨b, off + j, none⟩ = some (.int .i64 (zs.getD j 0)))
    (htab : Lib.TabIs Ybaf.prog w pow10Name .u64 Lib.pow10Tab) :
    Calls Ybaf.prog 4 #[.slice (some ⟨b, off, none⟩) len cap] w fun e w' => ∃ s : ByteArray, e = .returned (.string s) ∧ s.data.toList = mTo zs len ∧ Below w.heap.size w w' := by
  have h0' : ((len : Int) == 1) = false := by simp; omega
  have HL : Hid (Calls Ybaf.prog 7 #[.slice (some ⟨b, off, none⟩) len cap] w fun e w' => ∃ s : ByteArray, e = .returned (.string s) ∧ s.data.toList = Lib.join ((nums zs len).map (·.data.toList)) [44] ∧ Below w.heap.size w w') := list_any b off len cap zs w (by omega) hl hz hc htab
  have hjl := joined_len zs hz len (by omega) hl
  clear htab hc
  go_enter Ybaf.func4, Ybaf.ntmps4
  go_wp2_with fail
  refine HL.out.mono ?_
  rintro e w1 ⟨s, rfl, hs, hb1⟩
  have hsz : s.size ≤ 30000 := by rw [size_of hs]; exact hjl
  have r1 := fun w => run_string_add_sum (P := Ybaf.prog) w ⟨#[112, 97, 114, 116, 105, 101, 115, 32]⟩ s (by rw [show (⟨#[112, 97, 114, 116, 105, 101, 115, 32]⟩ : ByteArray).size = 8 from rfl]; omega)
  have HS : Hid (s.data.toList = Lib.join ((nums zs len).map (·.data.toList)) [44]) := hs
  clear hs hjl
  go_wp2
  go_ret
  refine ⟨_, rfl, ?_, hb1⟩
  rw [data_app, HS.out]
  exact joined zs len (by omega)

end Go.Proofs.YbulkckwmFmt
