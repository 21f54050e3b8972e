import Derived.Test.YbulkzokHid
import Derived.Lib.Builder
namespace Go.Proofs.Ybulkzok
open Go.RowKit

theorem info_some (e : TypeId) (h : (Yba.prog.info? e).isSome = true) : ∃ j, Yba.prog.info? e = some j := Option.isSome_iff_exists.1 h

theorem same32 (a : Addr) (w : World) : (binOp .neq 32 (.pointer (some a)) (.pointer (some a))).run Yba.prog w = .ok (.bool false) w := by
  obtain ⟨j, hj⟩ := info_some 43 (by kernel_rfl)
  exact Lib.run_neq_ptr_same w a Yba.underlying32 hj
theorem same27 (a : Addr) (w : World) : (binOp .neq 27 (.pointer (some a)) (.pointer (some a))).run Yba.prog w = .ok (.bool false) w := by
  obtain ⟨j, hj⟩ := info_some 91 (by kernel_rfl)
  exact Lib.run_neq_ptr_same w a Yba.underlying27 hj
theorem same29 (a : Addr) (w : World) : (binOp .neq 29 (.pointer (some a)) (.pointer (some a))).run Yba.prog w = .ok (.bool false) w := by
  obtain ⟨j, hj⟩ := info_some 38 (by kernel_rfl)
  exact Lib.run_neq_ptr_same w a Yba.underlying29 hj
theorem same30 (a : Addr) (w : World) : (binOp .neq 30 (.pointer (some a)) (.pointer (some a))).run Yba.prog w = .ok (.bool false) w := by
  obtain ⟨j, hj⟩ := info_some 93 (by kernel_rfl)
  exact Lib.run_neq_ptr_same w a Yba.underlying30 hj
theorem same46 (a : Addr) (w : World) : (binOp .neq 46 (.pointer (some a)) (.pointer (some a))).run Yba.prog w = .ok (.bool false) w := by
  obtain ⟨j, hj⟩ := info_some 71 (by kernel_rfl)
  exact Lib.run_neq_ptr_same w a Yba.underlying46 hj

theorem other24 (w : World) (p t : Nat) (C D : Array Value) (hp : w.heap[p]? = some (.cells C 34)) (ht : w.heap[t]? = some (.cells D 34)) (h : p ≠ t) :
    (binOp .eql 24 (.pointer (some ⟨p, 0, none⟩)) (.pointer (some ⟨t, 0, none⟩))).run Yba.prog w = .ok (.bool false) w := by
  obtain ⟨j, hj⟩ := info_some 34 (by kernel_rfl)
  have hsz : (Yba.prog.info? 34).map (fun i => decide (i.size ≠ 0)) = some true := by kernel_rfl
  rw [hj] at hsz
  exact run_eql_ptr_other w Yba.underlying24 hj (by simpa using hsz) (fun e => h (by injection e)) hp ht
theorem other32 (w : World) (p t : Nat) (C D : Array Value) (hp : w.heap[p]? = some (.cells C 43)) (ht : w.heap[t]? = some (.cells D 43)) (h : p ≠ t) :
    (binOp .eql 32 (.pointer (some ⟨p, 0, none⟩)) (.pointer (some ⟨t, 0, none⟩))).run Yba.prog w = .ok (.bool false) w := by
  obtain ⟨j, hj⟩ := info_some 43 (by kernel_rfl)
  have hsz : (Yba.prog.info? 43).map (fun i => decide (i.size ≠ 0)) = some true := by kernel_rfl
  rw [hj] at hsz
  exact run_eql_ptr_other w Yba.underlying32 hj (by simpa using hsz) (fun e => h (by injection e)) hp ht

theorem worker_kept (n m t sc ob bv st gr : Nat) (l : Option Addr) (hn : n ≤ 1024) (w : World) (hB : Built w n m t l)
    (ht : w.heap[t]? = some (.cells #[.pointer (some ⟨sc, 0, none⟩), .slice (some ⟨ob, 0, none⟩) m m, .pointer (some ⟨bv, 0, none⟩), .pointer (some ⟨st, 0, none⟩), .slice (some ⟨gr, 0, none⟩) n n, .pointer l] 34)) :
    Calls Yba.prog 8 #[.pointer (some ⟨t, 0, none⟩)] w fun e w' => ∃ p ls : Nat, ∃ L : Array Value, e = .returned (.pointer (some ⟨p, 0, none⟩)) ∧ Below w.heap.size w w' ∧ w.heap.size ≤ p ∧ w.heap.size ≤ ls ∧
      w'.heap[p]? = some (.cells #[.pointer (some ⟨sc, 0, none⟩), .slice (some ⟨ob, 0, none⟩) m m, .pointer (some ⟨bv, 0, none⟩), .pointer (some ⟨st, 0, none⟩), .slice (some ⟨gr, 0, none⟩) n n, .pointer (some ⟨ls, 0, none⟩)] 34) ∧
      w'.heap[ls]? = some (.cells L 43) := by
  refine (worker_built n m t l hn w hB).mono ?_
  rintro e w' ⟨rfl, sc', ob', bv', st', gr', ht', rfl⟩
  rw [ht] at ht'
  simp at ht'
  obtain ⟨rfl, rfl, rfl, rfl, rfl⟩ := ht'
  refine ⟨w.heap.size, w.heap.size + 1 + 1, _, rfl, ?_, Nat.le_refl _, by omega, ?_, heap_new _ _ _ (by simp)⟩
  · exact (((Below.refl _ _).alloc (Nat.le_refl _) _).alloc (by simp) _).alloc (by simp; omega) _
  · rw [Below.heap_alloc _ _ _ (by simp; omega), Below.heap_alloc _ _ _ (by simp)]
    exact heap_new _ _ _ rfl

theorem six_cells {w : World} {t : Nat} {a b c d e f : Value} {ty : TypeId} (h : w.heap[t]? = some (.cells #[a, b, c, d, e, f] ty)) :
    w.cell? ⟨t, 0, none⟩ = some a ∧ w.cell? ⟨t, 1, none⟩ = some b ∧ w.cell? ⟨t, 2, none⟩ = some c ∧ w.cell? ⟨t, 3, none⟩ = some d ∧ w.cell? ⟨t, 4, none⟩ = some e ∧ w.cell? ⟨t, 5, none⟩ = some f :=
  ⟨cell_of_heap h 0, cell_of_heap h 1, cell_of_heap h 2, cell_of_heap h 3, cell_of_heap h 4, cell_of_heap h 5⟩

theorem heap_later {B : Nat} {w w' : World} (h : Below B w w') {t : Nat} {o : Obj} (ht : w.heap[t]? = some o) (hlt : t < B) : w'.heap[t]? = some o := (h.block t hlt).trans ht

set_option maxRecDepth 20000 in
set_option maxHeartbeats 2000000 in
theorem kept_nil (n m : Nat) (hn : n ≤ 1024) (hm : m ≤ 255) (w : World) :
    Calls Yba.prog 4 #[.int .u16 n, .int .u8 m, .slice none 0 0] w fun e w' => e = .returned (.bool true) ∧ Below w.heap.size w w' := by
  have q2 := same27
  have q3 := same29
  have q4 := same30
  have q5 := same46
  go_enter Yba.func4, Yba.ntmps4
  go_wp2_with fail
  refine (build_nil n m hn (by omega) w).mono ?_
  rintro e w1 ⟨t, rfl, hB, hb⟩
  have HB : Hid (Built w1 n m t none) := hB
  obtain ⟨sc, ob, bv, st, gr, la, ht, hs⟩ := hB
  obtain ⟨c0, c1, c2, c3, c4, c5⟩ := six_cells ht
  have HT : Hid (w1.heap[t]? = some (.cells #[.pointer (some ⟨sc, 0, none⟩), .slice (some ⟨ob, 0, none⟩) m m, .pointer (some ⟨bv, 0, none⟩), .pointer (some ⟨st, 0, none⟩), .slice (some ⟨gr, 0, none⟩) n n, .pointer none] 34)) := ht
  clear ht hs
  go_wp2
  go_quiet (fail)
  go_wp2_with fail
  refine (worker_kept n m t sc ob bv st gr none hn _ (by exact HB.out) (by exact HT.out)).mono ?_
  rintro e w2 ⟨p, ls, L, rfl, hb2, hlp, hll, hp, hls⟩
  have htl : t < w1.heap.size := lt_of_heap HT.out
  have ht2 := heap_later hb2 (t := t) HT.out htl
  have o24 := other24 w2 p t _ _ hp ht2 (by simp at hlp; omega)
  obtain ⟨d0, d1, d2, d3, d4, d5⟩ := six_cells hp
  obtain ⟨e0, e1, e2, e3, e4, e5⟩ := six_cells ht2
  have HW : Hid (Below w.heap.size w w2) := hb.trans ((below_drewN (Below.refl _ _) _).trans (hb2.mono (by have := hb.size; simp; omega)))
  clear hp ht2 hls hb2 hlp hll c0 c1 c2 c3 c4 c5 HT HB hb htl
  go_wp2
  go_quiet (fail)
  go_wp2
  by_cases hm0 : 0 < m
  · have hm1 : (0 : Int) < (m : Int) := by omega
    have hd : decide ((0 : Int) < (m : Int)) = true := by simp; omega
    go_quiet (fail)
    go_wp2
    go_ret
    exact ⟨rfl, below_drewN HW.out _⟩
  · have hd : decide ((0 : Int) < (m : Int)) = false := by simp; omega
    go_quiet (fail)
    go_wp2
    go_ret
    exact ⟨rfl, below_drewN HW.out _⟩

set_option maxRecDepth 20000 in
set_option maxHeartbeats 2000000 in
theorem kept_some (n m len cap : Nat) (hn : n ≤ 1024) (hm : m ≤ 255) (hl : len ≤ 1024) (x : Addr) (zs : List Int) (hz : zs.length = len) (w : World)
    (hsrc : ∀ j, j < len → w.cell? (x.add j) = some (.int .i64 (zs.getD j 0))) :
    Calls Yba.prog 4 #[.int .u16 n, .int .u8 m, .slice (some x) len cap] w fun e w' => e = .returned (.bool true) ∧ Below w.heap.size w w' := by
  have q1 := same32
  have q2 := same27
  have q3 := same29
  have q4 := same30
  have q5 := same46
  have hbuild := build_some n m len cap hn (by omega) hl x (zs.map (Value.int .i64)) (by simpa using hz) (by intro v hv; simp only [List.mem_map] at hv; obtain ⟨q, _, rfl⟩ := hv; rfl) w
    (by
      intro j v hj
      simp only [List.getElem?_map, Option.map_eq_some_iff] at hj
      obtain ⟨q, hq, rfl⟩ := hj
      have hlt : j < zs.length := (List.getElem?_eq_some_iff.1 hq).1
      rw [hsrc j (by omega), List.getD_eq_getElem?_getD, hq]
      rfl)
  have HBB := hbuild
  replace HBB : Hid _ := HBB
  clear hbuild
  have HS : Hid (∀ j, j < len → w.cell? (x.add j) = some (.int .i64 (zs.getD j 0))) := hsrc
  have HZ : Hid (zs.length = len) := hz
  clear hsrc hz
  go_enter Yba.func4, Yba.ntmps4
  go_wp2_with fail
  refine Calls.mono HBB.out ?_
  rintro e w1 ⟨t, l0, hd, rfl, hB, hL, hcs, hb⟩
  have HB : Hid (Built w1 n m t (some ⟨l0, 0, none⟩)) := hB
  obtain ⟨sc, ob, bv, st, gr, la, ht, hs⟩ := hB
  obtain ⟨c0, c1, c2, c3, c4, c5⟩ := six_cells ht
  have HT : Hid (w1.heap[t]? = some (.cells #[.pointer (some ⟨sc, 0, none⟩), .slice (some ⟨ob, 0, none⟩) m m, .pointer (some ⟨bv, 0, none⟩), .pointer (some ⟨st, 0, none⟩), .slice (some ⟨gr, 0, none⟩) n n, .pointer (some ⟨l0, 0, none⟩)] 34)) := ht
  have HL : Hid (w1.heap[l0]? = some (.cells #[.slice (some ⟨hd, 0, none⟩) len len, .slice none 0 0, .slice none 0 0, .slice none 0 0, .slice none 0 0, .int .i64 0, .int .i64 0] 43)) := hL
  have HC : Hid (∀ j v, (zs.map (Value.int .i64))[j]? = some v → w1.cell? ⟨hd, j, none⟩ = some v) := hcs
  clear ht hs hL hcs HBB
  go_wp2
  go_quiet (fail)
  go_wp2_with fail
  refine (worker_kept n m t sc ob bv st gr (some ⟨l0, 0, none⟩) hn _ (by exact HB.out) (by exact HT.out)).mono ?_
  rintro e w2 ⟨p, ls, L, rfl, hb2, hlp, hll, hp, hls⟩
  have htl : t < w1.heap.size := lt_of_heap HT.out
  have hl0 : l0 < w1.heap.size := lt_of_heap HL.out
  have ht2 := heap_later hb2 (t := t) HT.out htl
  have hL2 := heap_later hb2 (t := l0) HL.out hl0
  have o24 := other24 w2 p t _ _ hp ht2 (by simp at hlp; omega)
  have o32 := other32 w2 ls l0 _ _ hls hL2 (by simp at hll; omega)
  obtain ⟨d0, d1, d2, d3, d4, d5⟩ := six_cells hp
  obtain ⟨e0, e1, e2, e3, e4, e5⟩ := six_cells ht2
  have g0 : w2.cell? ⟨l0, 0, none⟩ = some (.slice (some ⟨hd, 0, none⟩) len len) := cell_of_heap hL2 0
  have HW : Hid (Below w.heap.size w w2) := hb.trans ((below_drewN (Below.refl _ _) _).trans (hb2.mono (by have := hb.size; simp; omega)))
  have HX : Hid (∀ j, j < len → w2.cell? (x.add j) = some (.int .i64 (zs.getD j 0)) ∧ w2.cell? ⟨hd, j, none⟩ = some (.int .i64 (zs.getD j 0))) := by
    intro j hj
    refine ⟨cell_later HW.out (HS.out j hj), ?_⟩
    have h1 := HC.out j (.int .i64 (zs.getD j 0)) (by
      have : j < zs.length := by have := HZ.out; omega
      simp [this])
    exact cell_later hb2 h1
  clear hp ht2 hls hL2 hb2 hlp hll c0 c1 c2 c3 c4 c5 HT HB HL HC HS hb htl hl0
  go_wp2
  go_quiet (fail)
  go_wp2
  by_cases hm0 : 0 < m
  · have hm1 : (0 : Int) < (m : Int) := by omega
    have hd : decide ((0 : Int) < (m : Int)) = true := by simp; omega
    go_quiet (fail)
    go_wp2
    go_loopw [13] (fun i wr => ∃ k q : Nat, k ≤ len ∧ i = .int .i64 k ∧ wr = w2.drewN q) (fun i _ => len - (intOf i).toNat)
    case atStart => exact ⟨0, _, Nat.zero_le _, rfl, rfl⟩
    case round =>
      obtain ⟨k, q, hk, rfl, rfl⟩ := hrel
      by_cases hlt : k < len
      · obtain ⟨x1, x2⟩ := HX.out k hlt
        have i0 : (0 : Int) ≤ (k : Int) := by omega
        have i1 : (k : Int) < (len : Int) := by omega
        go_wp2
        go_quiet (fail)
        go_wp2
        go_roundw
        case rel => exact ⟨k + 1, _, by omega, by go_num, rfl⟩
        case measure => simp [intOf]; omega
      · go_wp2
        go_ret
        exact ⟨rfl, below_drewN HW.out _⟩
  · have hd : decide ((0 : Int) < (m : Int)) = false := by simp; omega
    go_quiet (fail)
    go_wp2
    go_loopw [13] (fun i wr => ∃ k q : Nat, k ≤ len ∧ i = .int .i64 k ∧ wr = w2.drewN q) (fun i _ => len - (intOf i).toNat)
    case atStart => exact ⟨0, _, Nat.zero_le _, rfl, rfl⟩
    case round =>
      obtain ⟨k, q, hk, rfl, rfl⟩ := hrel
      by_cases hlt : k < len
      · obtain ⟨x1, x2⟩ := HX.out k hlt
        have i0 : (0 : Int) ≤ (k : Int) := by omega
        have i1 : (k : Int) < (len : Int) := by omega
        go_wp2
        go_quiet (fail)
        go_wp2
        go_roundw
        case rel => exact ⟨k + 1, _, by omega, by go_num, rfl⟩
        case measure => simp [intOf]; omega
      · go_wp2
        go_ret
        exact ⟨rfl, below_drewN HW.out _⟩

set_option maxRecDepth 20000 in
set_option maxHeartbeats 400000 in
theorem kept_big (n m len cap : Nat) (hn : n ≤ 65535) (h : 1024 < n ∨ 1024 < len) (hlm : len ≤ maxLen) (a : Option Addr) (w : World) :
    Calls Yba.prog 4 #[.int .u16 n, .int .u8 m, .slice a len cap] w fun e w' => e = .returned (.bool true) ∧ Below w.heap.size w w' := by
  unfold maxLen at hlm
  by_cases h1 : 1024 < n
  · go_enter Yba.func4, Yba.ntmps4
    go_wp2
    go_ret
    exact ⟨rfl, Below.refl _ _⟩
  · have h2 : 1024 < len := by omega
    go_enter Yba.func4, Yba.ntmps4
    go_wp2
    go_ret
    exact ⟨rfl, Below.refl _ _⟩

end Go.Proofs.Ybulkzok
