import Derived.Test.YbulkzniRows
import Derived.WalkKit
import Derived.WalkSpells
import Derived.WalkLawsBesides
import Derived.Deep.QuietTactic
import Derived.BigQuiet
namespace Go.Proofs.Ybulkzni
open Go.RowKit

set_option maxHeartbeats 400000 in
theorem attr_nil (s : ByteArray) (w : World) :
    Calls Yba.prog 5 #[.string s, .pointer none] w fun e w' => e = .returned (.slice none 0 0) ∧ w' = w := by
  go_enter Yba.func5, Yba.ntmps5
  go_wp2
  go_ret
  exact ⟨rfl, rfl⟩

set_option maxHeartbeats 400000 in
theorem attr_some (s t : ByteArray) (a : Addr) (w : World) (h : w.cell? a = some (.string t)) :
    Calls Yba.prog 5 #[.string s, .pointer (some a)] w fun e w' => e = .returned (.slice (some ⟨w.heap.size, 0, none⟩) 2 2) ∧ w' = w.alloc (.cells #[.string s, .string t] 9) := by
  go_enter Yba.func5, Yba.ntmps5
  go_wp2
  go_ret
  exact ⟨rfl, rfl⟩

theorem nil23 (w : World) (a : Option Addr) (n c n' c' : Nat) : (binOp .eql 23 (.slice a n c) (.slice none n' c')).run Yba.prog w = .ok (.bool a.isNone) w :=
  Lib.run_eql_slice_nil w _ _ a n c n' c' Yba.underlying23

set_option maxHeartbeats 400000 in
theorem exact_nil (s : ByteArray) (w : World) :
    Calls Yba.prog 3 #[.string s, .pointer none] w fun e w' => e = .returned (.bool true) ∧ w' = w := by
  have q23 := nil23
  go_enter Yba.func3, Yba.ntmps3
  go_wp2_with (go_at_call 5; refine (attr_nil _ _).mono ?_; rintro e w' ⟨rfl, rfl⟩)
  go_ret
  exact ⟨rfl, rfl⟩

set_option maxHeartbeats 400000 in
theorem exact_some (s t : ByteArray) (a : Addr) (w : World) (h : w.cell? a = some (.string t)) :
    Calls Yba.prog 3 #[.string s, .pointer (some a)] w fun e w' => e = .returned (.bool true) ∧ ∃ n, w' = (w.alloc (.cells #[.string s, .string t] 9)).drewN n := by
  have q23 := nil23
  have hc := Lib.cell?_alloc_some (.cells #[.string s, .string t] 9) h
  go_enter Yba.func3, Yba.ntmps3
  go_wp2_with (go_at_call 5; refine (attr_some _ _ _ _ h).mono ?_; rintro e w' ⟨rfl, rfl⟩)
  go_quiet (fail)
  go_wp2
  go_ret
  exact ⟨rfl, _, rfl⟩

set_option maxHeartbeats 400000 in
theorem local_no (s t : ByteArray) (w : World) :
    Calls Yba.prog 4 #[.string s, .bool false, .string t] w fun e w' => e = .returned (.bool true) ∧ w' = w := by
  have q23 := nil23
  go_enter Yba.func4, Yba.ntmps4
  go_wp2_with (go_at_call 5; refine (attr_nil _ _).mono ?_; rintro e w' ⟨rfl, rfl⟩)
  go_ret
  exact ⟨rfl, rfl⟩

set_option maxHeartbeats 400000 in
theorem local_yes (s t : ByteArray) (w : World) :
    Calls Yba.prog 4 #[.string s, .bool true, .string t] w fun e w' => e = .returned (.bool true) ∧ Grown w w' := by
  have q23 := nil23
  go_enter Yba.func4, Yba.ntmps4
  go_wp2_with (go_at_call 5; refine (attr_some _ t _ _ (by simp)).mono ?_; rintro e w' ⟨rfl, rfl⟩)
  go_ret
  exact ⟨rfl, by repeat (first | exact Grown.refl _ | apply Grown.drew | apply Grown.alloc)⟩

end Go.Proofs.Ybulkzni
