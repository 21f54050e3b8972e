import Derived.Test.YbulkzokRows
import Derived.WalkKit
import Derived.WalkSpells
import Derived.WalkLawsBesides
import Derived.Deep.QuietTactic
import Derived.BigQuiet
import Derived.Deep.OwnRows
namespace Go.Proofs.Ybulkzok
open Go.RowKit

theorem info3 : (Yba.prog.info? 3).map (fun i => (i.zero, i.size, i.bytes)) = some (some (.int .i64 0), 1, 8) := by kernel_rfl

theorem make23 (n : Nat) (hn : n ≤ 1024) (w : World) :
    (Instr.makeSlice 23 (.int .i64 (n : Int)) (.int .i64 (n : Int))).run Yba.prog w = .ok (.slice (some ⟨w.heap.size, 0, none⟩) n n) (w.alloc (.cells (madeCells #[.int .i64 0] n) 3)) :=
  run_make_row' 23 3 (.int .i64 0) 8 Yba.underlying23 info3 rfl .i64 .i64 n (by omega) (by omega) w

/-- n cells, the first k of them -1, the others 0 -/
def filled (n k : Nat) : Array Value := (List.replicate k (Value.int .i64 (-1)) ++ List.replicate (n - k) (Value.int .i64 0)).toArray

theorem filled_size (n k : Nat) (h : k ≤ n) : (filled n k).size = n := by simp [filled]; omega
theorem filled_zero (n : Nat) : madeCells #[.int .i64 0] n = filled n 0 := by
  apply Array.ext
  · simp [madeCells, filled]
  · intro i h1 h2
    simp [madeCells, filled, Nat.mod_one]
theorem filled_at (n k : Nat) (h : k < n) : (filled n k)[k]? = some (.int .i64 0) := by
  simp [filled, List.getElem?_append, List.getElem?_replicate]; omega
theorem filled_step (n k : Nat) (h : k < n) : (filled n k).setIfInBounds k (.int .i64 (-1)) = filled n (k + 1) := by
  apply Array.ext
  · simp [filled]; omega
  · intro i h1 h2
    rw [Array.getElem_setIfInBounds (by simpa using h1)]
    by_cases e : k = i
    · subst e; simp [filled]
    · simp [filled, List.getElem_append, e]
      by_cases l : i < k
      · simp [l, show i < k + 1 by omega]
      · simp [l, show ¬ i < k + 1 by omega]
theorem filled_done (n k : Nat) (h : k < n) : (filled n n)[k]? = some (.int .i64 (-1)) := by
  simp [filled, h]

set_option maxRecDepth 20000 in
set_option maxHeartbeats 400000 in
theorem worker_any (t sc : Nat) (n : Nat) (hn : n ≤ 1024) (la oa ga : Option Addr) (on oc gn gc : Nat) (bv st l : Option Addr) (w : World)
    (h0 : w.cell? ⟨t, 0, none⟩ = some (.pointer (some ⟨sc, 0, none⟩))) (h1 : w.cell? ⟨t, 1, none⟩ = some (.slice oa on oc)) (h2 : w.cell? ⟨t, 2, none⟩ = some (.pointer bv)) (h3 : w.cell? ⟨t, 3, none⟩ = some (.pointer st))
    (h4 : w.cell? ⟨t, 4, none⟩ = some (.slice ga gn gc)) (h5 : w.cell? ⟨t, 5, none⟩ = some (.pointer l)) (hs : w.cell? ⟨sc, 12, none⟩ = some (.slice la n n)) (ht : t < w.heap.size) (hsc : sc < w.heap.size) :
    Calls Yba.prog 8 #[.pointer (some ⟨t, 0, none⟩)] w fun e w' => e = .returned (.pointer (some ⟨w.heap.size, 0, none⟩)) ∧
      w' = ((w.alloc (.cells #[.pointer (some ⟨sc, 0, none⟩), .slice oa on oc, .pointer bv, .pointer st, .slice ga gn gc, .pointer (some ⟨w.heap.size + 1 + 1, 0, none⟩)] 34)).alloc
        (.cells (filled n n) 3)).alloc (.cells #[.slice (some ⟨w.heap.size + 1, 0, none⟩) n n, .slice none 0 0, .slice none 0 0, .slice none 0 0, .slice none 0 0, .int .i64 0, .int .i64 0] 43) := by
  have hm := make23 n hn
  go_enter Yba.func8, Yba.ntmps8
  go_wp2
  go_loopw [26] (fun i wr => ∃ k : Nat, k ≤ n ∧ i = .int .i64 k ∧ wr = ((w.alloc (.cells #[.pointer (some ⟨sc, 0, none⟩), .slice oa on oc, .pointer bv, .pointer st, .slice ga gn gc, .pointer (some ⟨w.heap.size + 1 + 1, 0, none⟩)] 34)).alloc
        (.cells (filled n k) 3)).alloc (.cells #[.slice (some ⟨w.heap.size + 1, 0, none⟩) n n, .slice none 0 0, .slice none 0 0, .slice none 0 0, .slice none 0 0, .int .i64 0, .int .i64 0] 43)) (fun i _ => n - (intOf i).toNat)
  case atStart =>
    exact ⟨0, Nat.zero_le _, rfl, by rw [filled_zero]⟩
  case round =>
    obtain ⟨k, hk, rfl, rfl⟩ := hrel
    by_cases hlt : k < n
    · have ha := filled_at n k hlt
      go_wp2
      go_roundw
      case rel => exact ⟨k + 1, by omega, by go_num, by rw [filled_step n k hlt]⟩
      case measure => simp [intOf]; omega
    · have e : k = n := by omega
      subst e
      go_wp2
      go_ret
      exact ⟨rfl, rfl⟩

end Go.Proofs.Ybulkzok
