import Derived.Test.YbulkzniFmtMyWalks
import Derived.Lib.Builder
namespace Go.Proofs.YbulkzniFmt
open Go.RowKit Go.Extern.Stop Go.Stop Go.Extern

theorem same39 (a : Addr) (w : World) : (binOp .eql 39 (.pointer (some a)) (.pointer (some a))).run Ybaf.prog w = .ok (.bool true) w := by
  obtain ⟨j, hj⟩ := Option.isSome_iff_exists.1 (by kernel_rfl : (Ybaf.prog.info? 42).isSome = true)
  exact run_eql_ptr_same w a Ybaf.underlying39 hj
theorem other39 (a : Addr) (w : World) : (binOp .neq 39 (.pointer (some a)) (.pointer (some a))).run Ybaf.prog w = .ok (.bool false) w := by
  obtain ⟨j, hj⟩ := Option.isSome_iff_exists.1 (by kernel_rfl : (Ybaf.prog.info? 42).isSome = true)
  exact Lib.run_neq_ptr_same w a Ybaf.underlying39 hj
theorem nil20 (w : World) : (binOp .neq 20 .nilIface .nilIface).run Ybaf.prog w = .ok (.bool false) w := by kernel_rfl
theorem nil51 (w : World) : (binOp .eql 51 .nilIface .nilIface).run Ybaf.prog w = .ok (.bool true) w := by kernel_rfl

set_option maxRecDepth 20000 in
set_option maxHeartbeats 1000000 in
theorem law_no (cl nm : ByteArray) (w : World) :
    Calls Ybaf.prog 3 #[.bool false, .string cl, .string nm] w fun e w' => e = .returned (.bool true) ∧ Below w.heap.size w w' := by
  have q1 := same39
  have q2 := other39
  have q3 := nil20
  have q4 := nil51
  go_enter Ybaf.func3, Ybaf.ntmps3
  go_wp2_with (go_at_call 4; refine (refuse_nil _ _ _ ?_).mono ?_; (go_simp); rintro e w' ⟨rfl, rfl⟩)
  go_ret
  refine ⟨rfl, ?_⟩
  exact ((((Below.refl _ _).alloc (Nat.le_refl _) _).alloc (by simp) _).alloc (by simp; omega) _).alloc (by simp; omega) _

set_option maxRecDepth 20000 in
set_option maxHeartbeats 1000000 in
theorem law_yes (F : Interp) (cl nm : ByteArray) (w : World) (hF : F.answers w.tape) :
    Calls Ybaf.prog 3 #[.bool true, .string cl, .string nm] w fun e w' => e = .returned (.bool true) ∧ Below w.heap.size w w' := by
  have q1 := same39
  have q2 := other39
  have q3 := nil20
  have q4 := nil51
  go_enter Ybaf.func3, Ybaf.ntmps3
  go_wp2_with (go_at_call 4; refine (refuse_ext F _ _ ⟨w.heap.size + 1, 0, none⟩ cl _ (by exact hF) ?_ ?_ ?_ ?_ ?_).mono ?_; (go_simp); (go_simp); (go_simp); (go_simp); (go_simp); rintro e w' ⟨s, n, rfl, rfl⟩)
  go_ret
  refine ⟨rfl, ?_⟩
  refine below_drewN ?_ n
  exact ((((((Below.refl _ _).alloc (Nat.le_refl _) _).alloc (by simp) _).alloc (by simp; omega) _).alloc (by simp; omega) _).alloc (by simp; omega) _).alloc (by simp; omega) _

end Go.Proofs.YbulkzniFmt
