import Derived.Test.YbulkzqaRows
import Derived.WalkKit
import Derived.WalkSpells
import Derived.WalkLawsBesides
import Derived.Deep.QuietTactic
import Derived.BigQuiet
import Derived.Lib.SliceRun
namespace Go.Proofs.Ybulkzqa
open Go.RowKit

theorem info5 : (Yba.prog.info? 5).map (fun i => (i.zero, i.size, i.bytes)) = some (some (.int .u8 0), 1, 1) := by kernel_rfl
theorem nil22 (w : World) (a : Option Addr) (n c n' c' : Nat) : (binOp .eql 22 (.slice a n c) (.slice none n' c')).run Yba.prog w = .ok (.bool a.isNone) w :=
  Lib.run_eql_slice_nil w _ _ a n c n' c' Yba.underlying22

set_option maxHeartbeats 400000 in
theorem same_zero (ao bo : Option Addr) (ca cb : Nat) (w : World) :
    Calls Yba.prog 6 #[.slice ao 0 ca, .slice bo 0 cb] w fun e w' => e = .returned (.bool true) ∧ w' = w := by
  go_enter Yba.func6, Yba.ntmps6
  go_wp2
  go_loop [5] (fun i => i = .int .i64 0) (fun _ => 0)
  case atStart => rfl
  case round =>
    subst hrel
    go_wp2
    go_ret
    exact ⟨rfl, rfl⟩

set_option maxHeartbeats 400000 in
theorem same_pos (x y : Addr) (l ca cb : Nat) (hl : l ≤ 2000) (f : Nat → Int) (w : World) (hx : ∀ j, j < l → w.cell? (x.add j) = some (.int .u8 (f j))) (hy : ∀ j, j < l → w.cell? (y.add j) = some (.int .u8 (f j))) :
    Calls Yba.prog 6 #[.slice (some x) l ca, .slice (some y) l cb] w fun e w' => e = .returned (.bool true) ∧ ∃ n, w' = w.drewN n := by
  have HX : Hid (∀ j, j < l → w.cell? (x.add j) = some (.int .u8 (f j))) := hx
  have HY : Hid (∀ j, j < l → w.cell? (y.add j) = some (.int .u8 (f j))) := hy
  clear hx hy
  go_enter Yba.func6, Yba.ntmps6
  go_wp2
  go_loopw [5] (fun i wr => ∃ k q : Nat, k ≤ l ∧ i = .int .i64 k ∧ wr = w.drewN q) (fun i _ => l - (intOf i).toNat)
  case atStart => exact ⟨0, 0, Nat.zero_le _, rfl, rfl⟩
  case round =>
    obtain ⟨k, q, hk, rfl, rfl⟩ := hrel
    by_cases hlt : k < l
    · have x1 := HX.out k hlt
      have y1 := HY.out k hlt
      have i0 : (0 : Int) ≤ (k : Int) := by omega
      have i1 : (k : Int) < (l : Int) := by omega
      go_wp2
      go_quiet (fail)
      go_wp2
      go_roundw
      case rel => exact ⟨k + 1, _, by omega, by go_num, rfl⟩
      case measure => simp [intOf]; omega
    · go_wp2
      go_ret
      exact ⟨rfl, _, rfl⟩

theorem same_any (ao bo : Option Addr) (l ca cb : Nat) (hl : l ≤ 2000) (f : Nat → Int) (w : World) (hx : 0 < l → ∃ x, ao = some x ∧ ∀ j, j < l → w.cell? (x.add j) = some (.int .u8 (f j))) (hy : 0 < l → ∃ y, bo = some y ∧ ∀ j, j < l → w.cell? (y.add j) = some (.int .u8 (f j))) :
    Calls Yba.prog 6 #[.slice ao l ca, .slice bo l cb] w fun e w' => e = .returned (.bool true) ∧ ∃ n, w' = w.drewN n := by
  by_cases h : l = 0
  · subst h
    refine (same_zero ao bo ca cb w).mono ?_
    rintro e w' ⟨rfl, rfl⟩
    exact ⟨rfl, 0, rfl⟩
  · obtain ⟨x, rfl, h1⟩ := hx (by omega)
    obtain ⟨y, rfl, h2⟩ := hy (by omega)
    exact same_pos x y l ca cb hl f w h1 h2

set_option maxHeartbeats 1000000 in
theorem clone_some (x : Addr) (n c : Nat) (hn : n ≤ 2000) (cs : List Value) (w : World) (hl : cs.length = n) (h1 : ∀ v ∈ cs, v.oneCell' = true) (hc : ∀ j v, cs[j]? = some v → w.cell? (x.add j) = some v) :
    Calls Yba.prog 7 #[.slice (some x) n c] w fun e w' => ∃ v', e = .returned v' ∧ w'.ownsRow w.heap.size 5 1 v' n cs ∧ v' ≠ .slice none 0 0 ∧ Below w.heap.size w w' := by
  obtain ⟨i0, hi, hz0, hz1, hz2⟩ := info_parts info5
  have q22 := nil22
  have A : Hid (∀ j v, cs[j]? = some v → w.cell? (x.add j) = some v) := hc
  have HL : Hid (cs.length = n) := hl
  clear hc hl
  go_enter Yba.func7, Yba.ntmps7
  go_wp2_with (at_builtin; refine wpList_append_own _ rfl _ _ 22 rfl w.heap.size 5 i0 (.int .u8 0) 1 1 Yba.underlying22 hi hz0 hz1 hz2 rfl (by decide) _ _ _ rfl (World.ownsRow_made w #[] 0 (Nat.le_refl _) (Nat.zero_le _) rfl) x n c cs rfl ?qc1 ?qc2 ?qc3 ?qc4 ?qc5 ?qc6 ?_)
  case qc1 => have := HL.out; omega
  case qc2 => exact fun j u hj => Lib.cell?_alloc_some _ (A.out j u hj)
  case qc3 => exact h1
  case qc4 => unfold maxLen; omega
  case qc5 => omega
  case qc6 => simp
  intro v' w1 hown hgrow hnil
  go_wp2
  go_ret
  refine ⟨v', rfl, by simpa using hown, hnil, ?_⟩
  exact ((Below.refl _ w).alloc (Nat.le_refl _) _).grown hgrow (by simp) (by intro k hk; simp [Value.ownBlock] at hk; omega)

theorem clone_cells (x : Addr) (n c : Nat) (hn : n ≤ 2000) (cs : List Value) (w : World) (hl : cs.length = n) (h1 : ∀ v ∈ cs, v.oneCell' = true) (hc : ∀ j v, cs[j]? = some v → w.cell? (x.add j) = some v) :
    Calls Yba.prog 7 #[.slice (some x) n c] w fun e w' => ∃ g cap : Nat, e = .returned (.slice (some ⟨g, 0, none⟩) n cap) ∧ w.heap.size ≤ g ∧ (∀ j v, cs[j]? = some v → w'.cell? ⟨g, j, none⟩ = some v) ∧ Below w.heap.size w w' := by
  refine (clone_some x n c hn cs w hl h1 hc).mono ?_
  rintro e w' ⟨v', rfl, hown, hnil, hb⟩
  rcases hown.2 with ⟨h, _⟩ | ⟨g, cap, cur, rfl, hg, hh, _, _, _, ht⟩
  · exact absurd h hnil
  · refine ⟨g, cap, rfl, hg, ?_, hb⟩
    intro j v hj
    rw [← ht, List.getElem?_take] at hj
    split at hj
    · simpa [World.cell?, hh] using hj
    · cases hj

end Go.Proofs.Ybulkzqa
