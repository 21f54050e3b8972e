import Derived.Test.YbulkzokBuild
namespace Go.Proofs.Ybulkzok
open Go.RowKit

theorem cell_of_heap {w : World} {t : Nat} {C : Array Value} {ty : TypeId} (h : w.heap[t]? = some (.cells C ty)) (i : Nat) : w.cell? ⟨t, i, none⟩ = C[i]? := by
  simp [World.cell?, h]
theorem lt_of_heap {w : World} {t : Nat} {o : Obj} (h : w.heap[t]? = some o) : t < w.heap.size := (Array.getElem?_eq_some_iff.1 h).1

/-- the tracer's lines, and what they hold -/
def Lines (w' : World) (l a : Option Addr) (len : Nat) (cs : List Value) : Prop :=
  (a = none ∧ l = none) ∨ ∃ ls hd : Nat, a.isSome = true ∧ l = some ⟨ls, 0, none⟩ ∧
    w'.heap[ls]? = some (.cells #[.slice (some ⟨hd, 0, none⟩) len len, .slice none 0 0, .slice none 0 0, .slice none 0 0, .slice none 0 0, .int .i64 0, .int .i64 0] 43) ∧
    ∀ j v, cs[j]? = some v → w'.cell? ⟨hd, j, none⟩ = some v

theorem build_any (n m len cap : Nat) (hn : n ≤ 1024) (hm : m ≤ 1024) (hl : len ≤ 1024) (a : Option Addr) (ha : a = none → len = 0 ∧ cap = 0) (cs : List Value) (hcl : cs.length = len) (h1 : ∀ v ∈ cs, v.oneCell' = true) (w : World)
    (hsrc : ∀ x, a = some x → ∀ j v, cs[j]? = some v → w.cell? (x.add j) = some v) :
    Calls Yba.prog 7 #[.int .i64 n, .int .i64 m, .slice a len cap] w fun e w' => ∃ (t : Nat) (l : Option Addr), e = .returned (.pointer (some ⟨t, 0, none⟩)) ∧ Built w' n m t l ∧ Lines w' l a len cs ∧ Below w.heap.size w w' := by
  cases a with
  | none =>
    obtain ⟨rfl, rfl⟩ := ha rfl
    refine (build_nil n m hn hm w).mono ?_
    rintro e w' ⟨t, rfl, hB, hb⟩
    exact ⟨t, none, rfl, hB, .inl ⟨rfl, rfl⟩, hb⟩
  | some x =>
    refine (build_some n m len cap hn hm hl x cs hcl h1 w (hsrc x rfl)).mono ?_
    rintro e w' ⟨t, ls, hd, rfl, hB, hh, hc, hb⟩
    exact ⟨t, _, rfl, hB, .inr ⟨ls, hd, rfl, rfl, hh, hc⟩, hb⟩

theorem worker_built (n m t : Nat) (l : Option Addr) (hn : n ≤ 1024) (w : World) (hB : Built w n m t l) :
    Calls Yba.prog 8 #[.pointer (some ⟨t, 0, none⟩)] w fun e w' => e = .returned (.pointer (some ⟨w.heap.size, 0, none⟩)) ∧
      ∃ sc ob bv st gr : Nat, w.heap[t]? = some (.cells #[.pointer (some ⟨sc, 0, none⟩), .slice (some ⟨ob, 0, none⟩) m m, .pointer (some ⟨bv, 0, none⟩), .pointer (some ⟨st, 0, none⟩), .slice (some ⟨gr, 0, none⟩) n n, .pointer l] 34) ∧
      w' = ((w.alloc (.cells #[.pointer (some ⟨sc, 0, none⟩), .slice (some ⟨ob, 0, none⟩) m m, .pointer (some ⟨bv, 0, none⟩), .pointer (some ⟨st, 0, none⟩), .slice (some ⟨gr, 0, none⟩) n n, .pointer (some ⟨w.heap.size + 1 + 1, 0, none⟩)] 34)).alloc
        (.cells (filled n n) 3)).alloc (.cells #[.slice (some ⟨w.heap.size + 1, 0, none⟩) n n, .slice none 0 0, .slice none 0 0, .slice none 0 0, .slice none 0 0, .int .i64 0, .int .i64 0] 43) := by
  obtain ⟨sc, ob, bv, st, gr, la, ht, hs⟩ := hB
  have hc := cell_of_heap ht
  refine (worker_any t sc n hn (some ⟨la, 0, none⟩) (some ⟨ob, 0, none⟩) (some ⟨gr, 0, none⟩) m m n n (some ⟨bv, 0, none⟩) (some ⟨st, 0, none⟩) l w (hc 0) (hc 1) (hc 2) (hc 3) (hc 4) (hc 5) hs (lt_of_heap ht) (World.block_lt_of_cell? _ _ hs)).mono ?_
  rintro e w' ⟨rfl, rfl⟩
  exact ⟨rfl, sc, ob, bv, st, gr, ht, rfl⟩

theorem nil39 (w : World) (a : Option Addr) (n c n' c' : Nat) : (binOp .eql 39 (.slice a n c) (.slice none n' c')).run Yba.prog w = .ok (.bool a.isNone) w :=
  Lib.run_eql_slice_nil w _ _ a n c n' c' Yba.underlying39
theorem nil35 (w : World) (a : Option Addr) (n c n' c' : Nat) : (binOp .eql 35 (.slice a n c) (.slice none n' c')).run Yba.prog w = .ok (.bool a.isNone) w :=
  Lib.run_eql_slice_nil w _ _ a n c n' c' Yba.underlying35
theorem nil36 (w : World) (a : Option Addr) (n c n' c' : Nat) : (binOp .eql 36 (.slice a n c) (.slice none n' c')).run Yba.prog w = .ok (.bool a.isNone) w :=
  Lib.run_eql_slice_nil w _ _ a n c n' c' Yba.underlying36
theorem nil23 (w : World) (a : Option Addr) (n c n' c' : Nat) : (binOp .eql 23 (.slice a n c) (.slice none n' c')).run Yba.prog w = .ok (.bool a.isNone) w :=
  Lib.run_eql_slice_nil w _ _ a n c n' c' Yba.underlying23

set_option maxRecDepth 20000 in
set_option maxHeartbeats 400000 in
theorem hid_small (n m len cap : Nat) (hn : n ≤ 1024) (hm : m ≤ 255) (hl : len ≤ 1024) (a : Option Addr) (ha : a = none → len = 0 ∧ cap = 0) (cs : List Value) (hcl : cs.length = len) (h1 : ∀ v ∈ cs, v.oneCell' = true) (w : World)
    (hsrc : ∀ x, a = some x → ∀ j v, cs[j]? = some v → w.cell? (x.add j) = some v) :
    Calls Yba.prog 3 #[.int .u16 n, .int .u8 m, .slice a len cap] w fun e w' => e = .returned (.bool true) ∧ Below w.heap.size w w' := by
  have hbuild := build_any n m len cap hn (by omega) hl a ha cs hcl h1 w hsrc
  have HB : Hid (Calls Yba.prog 7 #[.int .i64 n, .int .i64 m, .slice a len cap] w fun e w' => ∃ (t : Nat) (l : Option Addr), e = .returned (.pointer (some ⟨t, 0, none⟩)) ∧ Built w' n m t l ∧ Lines w' l a len cs ∧ Below w.heap.size w w') := hbuild
  clear hbuild hsrc h1 hcl ha
  have q1 := nil39
  have q2 := nil35
  have q3 := nil36
  have q4 := nil23
  go_enter Yba.func3, Yba.ntmps3
  go_wp2_with (first
    | (go_at_call 7; refine HB.out.mono ?_; rintro e w1 ⟨t, l, rfl, hB, hL, hb⟩)
    | (go_at_call 8; refine (worker_built n m t l hn _ hB).mono ?_; rintro e w2 ⟨rfl, sc, ob, bv, st, gr, ht, rfl⟩))
  go_loop [10] (fun i => ∃ k : Nat, k ≤ n ∧ i = .int .i64 k) (fun i => n - (intOf i).toNat)
  case atStart => exact ⟨0, Nat.zero_le _, rfl⟩
  case round =>
    obtain ⟨k, hk, rfl⟩ := hrel
    by_cases hlt : k < n
    · have hd := filled_done n k hlt
      go_wp2
      go_round
      case rel => exact ⟨k + 1, by omega, by go_num⟩
      case measure => simp [intOf]; omega
    · go_wp2
      go_ret
      refine ⟨rfl, ?_⟩
      have hz := hb.size
      exact ((hb.alloc (by omega) _).alloc (by simp; omega) _).alloc (by simp; omega) _

set_option maxHeartbeats 400000 in
theorem hid_big (n m len cap : Nat) (hn : n ≤ 65535) (h : 1024 < n ∨ 1024 < len) (hlm : len ≤ maxLen) (a : Option Addr) (w : World) :
    Calls Yba.prog 3 #[.int .u16 n, .int .u8 m, .slice a len cap] w fun e w' => e = .returned (.bool true) ∧ Below w.heap.size w w' := by
  unfold maxLen at hlm
  by_cases h1 : 1024 < n
  · go_enter Yba.func3, Yba.ntmps3
    go_wp2
    go_ret
    exact ⟨rfl, Below.refl _ _⟩
  · have h2 : 1024 < len := by omega
    go_enter Yba.func3, Yba.ntmps3
    go_wp2
    go_ret
    exact ⟨rfl, Below.refl _ _⟩

end Go.Proofs.Ybulkzok
