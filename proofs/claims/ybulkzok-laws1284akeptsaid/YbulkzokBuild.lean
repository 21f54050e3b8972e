import Derived.Test.YbulkzokWorker
import Derived.Laws.CopyOwn
namespace Go.Proofs.Ybulkzok
open Go.RowKit

theorem make_of (t e : TypeId) (ht : Yba.prog.underlying t = some (.slice e)) (hb : (Yba.prog.info? e).map (fun i => decide (i.bytes * 1024 ≤ 281474976710656) && i.zero.isSome) = some true) :
    ∃ C : Nat → Array Value, ∀ n : Nat, n ≤ 1024 → ∀ w : World, (Instr.makeSlice t (.int .i64 (n : Int)) (.int .i64 (n : Int))).run Yba.prog w = .ok (.slice (some ⟨w.heap.size, 0, none⟩) n n) (w.alloc (.cells (C n) e)) := by
  obtain ⟨i, hi, hz⟩ := Option.map_eq_some_iff.1 hb
  simp only [Bool.and_eq_true, decide_eq_true_eq] at hz
  obtain ⟨z, hz2⟩ := Option.isSome_iff_exists.1 hz.2
  refine ⟨fun n => madeCells z.cells (n * i.size), fun n hn w => ?_⟩
  have hm : i.bytes * n ≤ i.bytes * 1024 := Nat.mul_le_mul_left _ hn
  have hb' : (i.bytes : Int) * (n : Int) ≤ 281474976710656 := by
    have h : ((i.bytes * n : Nat) : Int) ≤ 281474976710656 := by omega
    rwa [Int.natCast_mul] at h
  have hr := run_make (P := Yba.prog) w t e i z ht hi hz2 .i64 .i64 n n (by omega) (Int.le_refl _) hb' (by omega)
  simpa using hr

theorem make87 : ∃ C : Nat → Array Value, ∀ n : Nat, n ≤ 1024 → ∀ w : World, (Instr.makeSlice 87 (.int .i64 (n : Int)) (.int .i64 (n : Int))).run Yba.prog w = .ok (.slice (some ⟨w.heap.size, 0, none⟩) n n) (w.alloc (.cells (C n) 133)) :=
  make_of 87 133 Yba.underlying87 (by kernel_rfl)
theorem make28 : ∃ C : Nat → Array Value, ∀ n : Nat, n ≤ 1024 → ∀ w : World, (Instr.makeSlice 28 (.int .i64 (n : Int)) (.int .i64 (n : Int))).run Yba.prog w = .ok (.slice (some ⟨w.heap.size, 0, none⟩) n n) (w.alloc (.cells (C n) 71)) :=
  make_of 28 71 Yba.underlying28 (by kernel_rfl)
theorem make31 : ∃ C : Nat → Array Value, ∀ n : Nat, n ≤ 1024 → ∀ w : World, (Instr.makeSlice 31 (.int .i64 (n : Int)) (.int .i64 (n : Int))).run Yba.prog w = .ok (.slice (some ⟨w.heap.size, 0, none⟩) n n) (w.alloc (.cells (C n) 115)) :=
  make_of 31 115 Yba.underlying31 (by kernel_rfl)

theorem neq23 (w : World) (a : Option Addr) (n c n' c' : Nat) : (binOp .neq 23 (.slice a n c) (.slice none n' c')).run Yba.prog w = .ok (.bool (!a.isNone)) w :=
  run_neq_slice_nil_any w _ _ a n c n' c' Yba.underlying23

/-- what zzs1284abuild leaves: the tracer in block t, its scene, and its lines l -/
def Built (w' : World) (n m t : Nat) (l : Option Addr) : Prop :=
  ∃ sc ob bv st gr la : Nat, w'.heap[t]? = some (.cells #[.pointer (some ⟨sc, 0, none⟩), .slice (some ⟨ob, 0, none⟩) m m, .pointer (some ⟨bv, 0, none⟩), .pointer (some ⟨st, 0, none⟩), .slice (some ⟨gr, 0, none⟩) n n, .pointer l] 34) ∧
    w'.cell? ⟨sc, 12, none⟩ = some (.slice (some ⟨la, 0, none⟩) n n)

theorem heap_new (w : World) (o : Obj) (n : Nat) (h : n = w.heap.size) : (w.alloc o).heap[n]? = some o := by
  subst h; show (w.heap.push o)[w.heap.size]? = _; simp
theorem heap_drew (w : World) : w.drew.heap = w.heap := rfl

set_option maxRecDepth 20000 in
set_option maxHeartbeats 400000 in
theorem build_nil (n m : Nat) (hn : n ≤ 1024) (hm : m ≤ 1024) (w : World) :
    Calls Yba.prog 7 #[.int .i64 n, .int .i64 m, .slice none 0 0] w fun e w' => ∃ t, e = .returned (.pointer (some ⟨t, 0, none⟩)) ∧ Built w' n m t none ∧ Below w.heap.size w w' := by
  obtain ⟨C1, m1⟩ := make87
  obtain ⟨C2, m2⟩ := make28
  obtain ⟨C3, m3⟩ := make31
  have m1 := m1 n hn
  have m2 := m2 m hm
  have m3 := m3 n hn
  have q1 := neq23
  go_enter Yba.func7, Yba.ntmps7
  go_wp2
  go_region
  all_goals go_wp2
  all_goals go_ret
  all_goals
    refine ⟨_, rfl, ⟨_, _, _, _, _, _, by rw [heap_drew]; exact heap_new _ _ _ (by simp), by go_simp; rfl⟩, ?_⟩
    repeat (first | exact Below.refl _ _ | apply Below.drew | refine Below.alloc ?_ (by simp; omega) _ | refine Below.alloc ?_ (by simp) _)

theorem setRow_new (W : World) (C D : Array Value) (t : TypeId) (g : Nat) (hg : g = W.heap.size) : (W.alloc (.cells C t)).drew.setRow g D = (W.alloc (.cells D t)).drew := by
  subst hg
  unfold World.setRow World.alloc World.drew
  congr 1
  apply Array.ext_getElem?
  intro i
  rw [Array.getElem?_modify, Array.getElem?_push, Array.getElem?_push]
  by_cases e : W.heap.size = i
  · subst e; simp
  · have e' : i ≠ W.heap.size := fun h => e h.symm
    simp [e, e']

theorem copy_fresh (W : World) (g : Nat) (x : Addr) (len cap : Nat) (cs : List Value) (hcl : cs.length = len) (h1 : ∀ v ∈ cs, v.oneCell' = true) (hg : g = W.heap.size)
    (hsrc : ∀ j v, cs[j]? = some v → W.cell? (x.add j) = some v) :
    (Builtin.copy_ #[23, 23] 3 #[.slice (some ⟨g, 0, none⟩) len len, .slice (some x) len cap]).run Yba.prog (W.alloc (.cells (madeCells #[.int .i64 0] len) 3)).drew =
      .ok (goInt len) (W.alloc (.cells cs.toArray 3)).drew := by
  have hr := run_copy_row (P := Yba.prog) (W.alloc (.cells (madeCells #[.int .i64 0] len) 3)).drew 23 23 3 3 g 0 len len x len cap (madeCells #[.int .i64 0] len) 3 cs Yba.underlying23 (by kernel_rfl)
    (by rw [heap_drew]; exact heap_new _ _ _ hg) (by simp [hcl]) (fun j v hj => Lib.cell?_alloc_some _ (hsrc j v hj)) (by simp [madeCells, hcl]) h1
  rw [hr, setRow_new _ _ _ _ _ hg, hcl]
  have e : ((madeCells #[.int .i64 0] len).toList.take 0 ++ cs ++ (madeCells #[Value.int .i64 0] len).toList.drop (0 + len)) = cs := by
    simp [madeCells]
  rw [e]

set_option maxRecDepth 20000 in
set_option maxHeartbeats 1000000 in
theorem build_some (n m len cap : Nat) (hn : n ≤ 1024) (hm : m ≤ 1024) (hl : len ≤ 1024) (x : Addr) (cs : List Value) (hcl : cs.length = len) (h1 : ∀ v ∈ cs, v.oneCell' = true) (w : World)
    (hsrc : ∀ j v, cs[j]? = some v → w.cell? (x.add j) = some v) :
    Calls Yba.prog 7 #[.int .i64 n, .int .i64 m, .slice (some x) len cap] w fun e w' => ∃ t ls hd : Nat, e = .returned (.pointer (some ⟨t, 0, none⟩)) ∧ Built w' n m t (some ⟨ls, 0, none⟩) ∧
      w'.heap[ls]? = some (.cells #[.slice (some ⟨hd, 0, none⟩) len len, .slice none 0 0, .slice none 0 0, .slice none 0 0, .slice none 0 0, .int .i64 0, .int .i64 0] 43) ∧
      (∀ j v, cs[j]? = some v → w'.cell? ⟨hd, j, none⟩ = some v) ∧ Below w.heap.size w w' := by
  obtain ⟨C1, m1⟩ := make87
  obtain ⟨C2, m2⟩ := make28
  obtain ⟨C3, m3⟩ := make31
  have m1 := m1 n hn
  have m2 := m2 m hm
  have m3 := m3 n hn
  have m4 := make23 len hl
  have q1 := neq23
  have HS : Hid (∀ j v, cs[j]? = some v → w.cell? (x.add j) = some v) := hsrc
  have HL : Hid (cs.length = len) := hcl
  clear hsrc hcl
  go_enter Yba.func7, Yba.ntmps7
  go_wp2
  go_region
  all_goals go_wp2
  all_goals rw [copy_fresh _ _ x len cap cs HL.out h1 (by simp) (fun j v hj => cell_later (by repeat (first | exact Below.refl _ _ | refine Below.alloc ?_ (by simp; omega) _ | refine Below.alloc ?_ (by simp) _)) (HS.out j v hj))]
  all_goals go_wp2
  all_goals go_ret
  all_goals
    refine ⟨_, w.heap.size + 1 + 1 + 1 + 1 + 1, w.heap.size + 1 + 1 + 1 + 1, rfl, ⟨_, _, _, _, _, _, by rw [heap_drew]; exact heap_new _ _ _ (by simp), by go_simp; rfl⟩, ?_, ?_, ?_⟩
    · rw [heap_drew, Below.heap_alloc _ _ _ (by simp), Below.heap_alloc _ _ _ (by simp), Below.heap_alloc _ _ _ (by simp), Below.heap_alloc _ _ _ (by simp)]
      exact heap_new _ _ _ (by simp)
    · intro j v hj
      go_simp
    · repeat (first | exact Below.refl _ _ | apply Below.drew | refine Below.alloc ?_ (by simp; omega) _ | refine Below.alloc ?_ (by simp) _)

end Go.Proofs.Ybulkzok
