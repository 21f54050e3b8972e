import Derived.Test.YbulkzniFmtCards
import Derived.Stop.CallBack
import Derived.Stop.IfaceNil
import GoSem.ClaimData
import Derived.WalkKit
import Derived.WalkSpells
import Derived.WalkLawsBesides
import Derived.Deep.QuietTactic
import Derived.BigQuiet
import Derived.Deep.RegionHeld3
namespace Go.Proofs.YbulkzniFmt
open Go.RowKit Go.Extern.Stop Go.Stop Go.Extern

-- fmt.Sprintf is function 8: a plain stop
theorem call8 (args : Array Value) (w : World) : (callFunc 8 args).run Ybaf.prog w = ((FmtStop.sprintf #[9, 101] #[9] args).run Ybaf.prog w).andThen fun v w' => .ok (.value v) w' :=
  run_callFunc_extern Ybaf.func8 (by kernel_rfl) (by kernel_rfl) (by kernel_rfl) (by kernel_rfl) args w
theorem guard8 (name : String) (w : World) : (FmtStop.guard name).run Ybaf.prog w = .ok () w := by kernel_rfl
theorem fmt2 : FmtStop.printed? ⟨#[78, 67, 45, 37, 100, 45, 37, 100]⟩ 2 = some [(0, 100, false), (1, 100, false)] := by kernel_rfl
theorem fmt2r (w : World) : (FmtDoors.printed ⟨#[78, 67, 45, 37, 100, 45, 37, 100]⟩ 2).run Ybaf.prog w = .ok [(0, 100, false), (1, 100, false)] w := by kernel_rfl
theorem name25 : Ybaf.prog.typeName? 3 25 = some "uint64" := by kernel_rfl

set_option maxHeartbeats 400000 in
theorem add_one (b off : Nat) (w : World) (hc : w.cell? ⟨b, off, none⟩ = some (.int .u64 0)) (hz : w.frozen? ⟨b, off, none⟩ = false) :
    Calls Ybaf.prog 9 #[.pointer (some ⟨b, off, none⟩), .int .u64 1] w fun e w' => e = .returned (.int .u64 1) ∧ w' = w.setCell ⟨b, off, none⟩ (.int .u64 1) := by
  have hadd := run_call_add (P := Ybaf.prog) Ybaf.func10 (by kernel_rfl) (by kernel_rfl) (by kernel_rfl) .u64 (by kernel_rfl) (y := 1) (s := 1) hc hz (by simp [go_sem]; rfl)
  go_enter Ybaf.func9, Ybaf.ntmps9
  go_wp2
  go_ret
  exact ⟨rfl, rfl⟩

def shape25 : List UInt8 := [FmtStop.intCode .u64, 6, 0, 0, 0, 0, 0, 0, 0, 117, 105, 110, 116, 54, 52]
theorem op25 (name : String) (x : Int) (w : World) : (FmtStop.operand name false 100 false (.iface 25 (.int .u64 x))).run Ybaf.prog w = .ok (shape25, Go.Extern.Stop.digits 8 (x % 2 ^ 64).toNat) w := by kernel_rfl

set_option maxHeartbeats 400000 in
theorem newsv (F : Interp) (b : Nat) (w : World) (hF : F.answers w.tape) (h3 : w.cell? ⟨b, 3, none⟩ = some (.int .u64 0)) (h4 : w.cell? ⟨b, 4, none⟩ = some (.int .u64 0)) (hz : w.frozen? ⟨b, 4, none⟩ = false) :
    Calls Ybaf.prog 7 #[.pointer (some ⟨b, 0, none⟩)] w fun e w' => ∃ s, e = .returned (.string s) ∧ w' = ((w.setCell ⟨b, 4, none⟩ (.int .u64 1)).alloc (.cells #[.iface 25 (.int .u64 0), .iface 25 (.int .u64 1)] 20)).drew.drew := by
  have hF' := answers_open hF
  have h3s : (w.setCell ⟨b, 4, none⟩ (.int .u64 1)).cell? ⟨b, 3, none⟩ = some (.int .u64 0) := by
    rw [World.cell?_setCell_other _ _ _ _ (by simp)]; exact h3
  have hs3 := Lib.cell?_alloc_some (.cells #[.iface 25 (.int .u64 0), .iface 25 (.int .u64 1)] 20) h3s
  have c8 := call8
  have g8 := guard8
  have f2 := fmt2
  have f2r := fmt2r
  have o25 := op25
  go_enter Ybaf.func7, Ybaf.ntmps7
  go_wp2
  go_region_held3 (fun w' => w'.cell? ⟨b, 3, none⟩ = some (.int .u64 0)) (first | exact h3s | exact hs3 | go_keep)
    (first | (go_at_call 9; refine (add_one _ _ _ (by exact h4) (by exact hz)).mono ?_; rintro e w' ⟨rfl, rfl⟩))
  go_wp2
  go_ret
  exact ⟨_, rfl, rfl⟩

set_option maxHeartbeats 400000 in
theorem answer (F : Interp) (b : Nat) (cl : ByteArray) (c : Int) (w : World) (hF : F.answers w.tape) (h3 : w.cell? ⟨b, 3, none⟩ = some (.int .u64 0)) (h4 : w.cell? ⟨b, 4, none⟩ = some (.int .u64 0)) (hz : w.frozen? ⟨b, 4, none⟩ = false) :
    Calls Ybaf.prog 6 #[.pointer (some ⟨b, 0, none⟩), .string cl, .int .i64 c, .nilIface] w fun e w' => ∃ s, e = .returned (.pointer (some ⟨w.heap.size + 1, 0, none⟩)) ∧
      w' = (((w.setCell ⟨b, 4, none⟩ (.int .u64 1)).alloc (.cells #[.iface 25 (.int .u64 0), .iface 25 (.int .u64 1)] 20)).alloc (.cells #[.int .i64 c, .string ⟨#[]⟩, .pointer none, .pointer none, .nilIface, .string cl, .string s] 53)).drew.drew := by
  go_enter Ybaf.func6, Ybaf.ntmps6
  go_wp2_with (go_at_call 7; refine (newsv F b _ (by exact hF) (by exact h3) (by exact h4) (by exact hz)).mono ?_; rintro e w' ⟨s, rfl, rfl⟩)
  go_ret
  exact ⟨s, rfl, rfl⟩

set_option maxHeartbeats 400000 in
theorem refusal (F : Interp) (b : Nat) (cl rs : ByteArray) (c : Int) (v : Option Addr) (w : World) (hF : F.answers w.tape) (h3 : w.cell? ⟨b, 3, none⟩ = some (.int .u64 0)) (h4 : w.cell? ⟨b, 4, none⟩ = some (.int .u64 0)) (hz : w.frozen? ⟨b, 4, none⟩ = false) :
    Calls Ybaf.prog 5 #[.pointer (some ⟨b, 0, none⟩), .string cl, .int .i64 c, .string rs, .pointer v] w fun e w' => ∃ s, e = .returned (.pointer (some ⟨w.heap.size + 1, 0, none⟩)) ∧
      w' = (((w.setCell ⟨b, 4, none⟩ (.int .u64 1)).alloc (.cells #[.iface 25 (.int .u64 0), .iface 25 (.int .u64 1)] 20)).alloc (.cells #[.int .i64 c, .string rs, .pointer v, .pointer none, .nilIface, .string cl, .string s] 53)).drew.drew := by
  go_enter Ybaf.func5, Ybaf.ntmps5
  go_wp2_with (go_at_call 6; refine (answer F b _ _ _ (by exact hF) (by exact h3) (by exact h4) (by exact hz)).mono ?_; rintro e w' ⟨s, rfl, rfl⟩)
  go_ret
  exact ⟨s, rfl, rfl⟩

set_option maxHeartbeats 400000 in
theorem refuse_nil (b c : Nat) (w : World) (hc3 : w.cell? ⟨c, 3, none⟩ = some (.pointer none)) :
    Calls Ybaf.prog 4 #[.pointer (some ⟨b, 0, none⟩), .pointer (some ⟨c, 0, none⟩)] w fun e w' => e = .returned (.pointer none) ∧ w' = w := by
  go_enter Ybaf.func4, Ybaf.ntmps4
  go_wp2
  go_ret
  exact ⟨rfl, rfl⟩

/-- "Namecard implements no extension" -/
abbrev whyNot : ByteArray := ⟨#[78, 97, 109, 101, 99, 97, 114, 100, 32, 105, 109, 112, 108, 101, 109, 101, 110, 116, 115, 32, 110, 111, 32, 101, 120, 116, 101, 110, 115, 105, 111, 110]⟩

set_option maxHeartbeats 400000 in
theorem refuse_ext (F : Interp) (b c : Nat) (x : Addr) (cl : ByteArray) (w : World) (hF : F.answers w.tape) (h3 : w.cell? ⟨b, 3, none⟩ = some (.int .u64 0)) (h4 : w.cell? ⟨b, 4, none⟩ = some (.int .u64 0)) (hz : w.frozen? ⟨b, 4, none⟩ = false)
    (hc3 : w.cell? ⟨c, 3, none⟩ = some (.pointer (some x))) (hc4 : w.cell? ⟨c, 4, none⟩ = some (.string cl)) :
    Calls Ybaf.prog 4 #[.pointer (some ⟨b, 0, none⟩), .pointer (some ⟨c, 0, none⟩)] w fun e w' => ∃ s n, e = .returned (.pointer (some ⟨w.heap.size + 1, 0, none⟩)) ∧
      w' = (((w.setCell ⟨b, 4, none⟩ (.int .u64 1)).alloc (.cells #[.iface 25 (.int .u64 0), .iface 25 (.int .u64 1)] 20)).alloc (.cells #[.int .i64 2103, .string whyNot, .pointer (some x), .pointer none, .nilIface, .string cl, .string s] 53)).drewN n := by
  go_enter Ybaf.func4, Ybaf.ntmps4
  go_wp2
  go_region_with (go_at_call 5; refine (refusal F b _ _ _ _ _ (by exact hF) (by exact h3) (by exact h4) (by exact hz)).mono ?_; rintro e w' ⟨s, rfl, rfl⟩)
  all_goals go_wp2
  all_goals go_ret
  all_goals exact ⟨s, 3, rfl, rfl⟩

end Go.Proofs.YbulkzniFmt
