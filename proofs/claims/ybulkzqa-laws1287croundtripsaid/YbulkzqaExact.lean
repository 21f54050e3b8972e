import Derived.Test.YbulkzqaRead
namespace Go.Proofs.Ybulkzqa
open Go.RowKit

/-- m bytes, f(s) .. -/
def bytesAt (f : Nat → Int) (s m : Nat) : List Value := (List.range m).map fun j => .int .u8 (f (s + j))
theorem bytesAt_length (f : Nat → Int) (s m : Nat) : (bytesAt f s m).length = m := by simp [bytesAt]
theorem bytesAt_get (f : Nat → Int) (s m j : Nat) (h : j < m) : (bytesAt f s m)[j]? = some (.int .u8 (f (s + j))) := by simp [bytesAt, h]
theorem bytesAt_of {f : Nat → Int} {s m j : Nat} {v : Value} (h : (bytesAt f s m)[j]? = some v) : j < m ∧ v = .int .u8 (f (s + j)) := by
  have hj : j < m := by have := (List.getElem?_eq_some_iff.1 h).1; rwa [bytesAt_length] at this
  rw [bytesAt_get f s m j hj] at h
  exact ⟨hj, (Option.some.inj h).symm⟩
theorem bytesAt_one (f : Nat → Int) (s m : Nat) : ∀ v ∈ bytesAt f s m, v.oneCell' = true := by
  intro v hv
  simp only [bytesAt, List.mem_map] at hv
  obtain ⟨j, _, rfl⟩ := hv
  rfl

theorem same_eq (ao bo : Option Addr) (l l' ca cb : Nat) (hl : l ≤ 2000) (he : l' = l) (f : Nat → Int) (w : World) (hx : 0 < l → ∃ x, ao = some x ∧ ∀ j, j < l → w.cell? (x.add j) = some (.int .u8 (f j))) (hy : 0 < l → ∃ y, bo = some y ∧ ∀ j, j < l → w.cell? (y.add j) = some (.int .u8 (f j))) :
    Calls Yba.prog 6 #[.slice ao l ca, .slice bo l' cb] w fun e w' => e = .returned (.bool true) ∧ ∃ n, w' = w.drewN n := by
  subst he
  exact same_any ao bo l' ca cb hl f w hx hy

theorem quiet_of2 {f : FuncId} {args : Array Value} {w : World} {q n : Nat} {v : Value}
    (h : Calls Yba.prog f args (w.drewN (q + n)) fun e w' => e = .returned v ∧ ∃ m, w' = (w.drewN (q + n)).drewN m) : Calls Yba.prog f args (w.drewN (q + n)) fun e w'' => e = .returned v ∧ ∃ m, w'' = w.drewN (q + m) :=
  h.mono fun _ _ ⟨he, m, hm⟩ => ⟨he, n + m, by rw [hm, World.drewN_drewN, Nat.add_assoc]⟩

/-- ReadLeaf where it answers, whatever the capacity -/
theorem read_good (b off len cap n : Nat) (hlc : len ≤ cap) (hlm : len ≤ 2000) (hcm : cap ≤ maxLen) (hn : n ≤ 255) (hfit : 33 + n ≤ len) (f : Nat → Int) (h32 : f 32 = n) (w : World)
    (hc : ∀ j, j < len → w.cell? ⟨b, off + j, none⟩ = some (.int .u8 (f j))) :
    Calls Yba.prog 5 #[.slice (some ⟨b, off, none⟩) len cap] w fun e w' => ∃ (ro : Addr) (rc : Nat), e = .returned (.tuple #[.pointer (some ⟨w.heap.size, 0, none⟩), .slice (some ro) (len - 33 - n) rc, .bool true]) ∧
      (33 + n < len → ro = ⟨b, off + 33 + n, none⟩) ∧ ReadOk w w' w.heap.size n (bytesAt f 0 32) (bytesAt f 33 n) := by
  have hks : ∀ j v, (bytesAt f 0 32)[j]? = some v → w.cell? ⟨b, off + j, none⟩ = some v := by
    intro j v hj
    obtain ⟨h1, rfl⟩ := bytesAt_of hj
    rw [Nat.zero_add]
    exact hc j (by omega)
  by_cases h33 : 33 < cap
  · refine read_ok b off len cap n (by omega) hlc hlm hcm hn hfit h33 _ _ (bytesAt_length _ _ _) (bytesAt_length _ _ _) (bytesAt_one _ _ _) w hks (by rw [hc 32 (by omega), h32]) ?_
    intro j v hj
    obtain ⟨h1, rfl⟩ := bytesAt_of hj
    rw [Nat.add_assoc]
    exact hc (33 + j) (by omega)
  · obtain rfl : cap = 33 := by omega
    obtain rfl : len = 33 := by omega
    obtain rfl : n = 0 := by omega
    refine (read_ok33 b off _ (bytesAt_length _ _ _) w hks (by rw [hc 32 (by omega), h32]; rfl)).mono ?_
    rintro e w' ⟨ro, rc, rfl, hr⟩
    exact ⟨ro, rc, rfl, fun h => absurd h (by omega), hr⟩

set_option maxRecDepth 20000 in
set_option maxHeartbeats 1000000 in
theorem exact_good (b off len cap n : Nat) (hlc : len ≤ cap) (hlm : len ≤ 1024) (hcm : cap ≤ maxLen) (hn : n ≤ 255) (hfit : 33 + n ≤ len) (f : Nat → Int) (h32 : f 32 = n) (w : World)
    (hc : ∀ j, j < len → w.cell? ⟨b, off + j, none⟩ = some (.int .u8 (f j))) :
    Calls Yba.prog 3 #[.slice (some ⟨b, off, none⟩) len cap] w fun e w' => e = .returned (.bool true) ∧ Below w.heap.size w w' := by
  have hread := read_good b off len cap n hlc (by omega) hcm hn hfit f h32 w hc
  have q1 := nil22
  have HC : Hid (∀ j, j < len → w.cell? ⟨b, off + j, none⟩ = some (.int .u8 (f j))) := hc
  have H32 : Hid (f 32 = n) := h32
  unfold maxLen at hcm
  have HR : Hid _ := hread
  clear hread hc h32
  go_enter Yba.func3, Yba.ntmps3
  go_wp2_with fail
  refine Calls.mono HR.out ?_
  rintro e w1 ⟨ro, rc, rfl, hro, g, cp, hb1, hkey, hval, hvs⟩
  have HRO : Hid (33 + n < len → ro = ⟨b, off + 33 + n, none⟩) := hro
  have HB1 : Hid (Below w.heap.size w w1) := hb1
  have c32 : w1.cell? ⟨b, off + 32, none⟩ = some (.int .u8 n) := by rw [← H32.out]; exact cell_later hb1 (HC.out 32 (by omega))
  have HX : Hid (∀ j, j < 32 → w1.cell? ⟨w.heap.size, j, none⟩ = some (.int .u8 (f j)) ∧ w1.cell? ⟨b, off + j, none⟩ = some (.int .u8 (f j))) := by
    intro j hj
    refine ⟨?_, cell_later hb1 (HC.out j (by omega))⟩
    have := hkey j _ (bytesAt_get f 0 32 j hj)
    simpa using this
  have HV : Hid (∀ j, j < n → w1.cell? ⟨g, j, none⟩ = some (.int .u8 (f (33 + j)))) := fun j hj => hvs j _ (bytesAt_get f 33 n j hj)
  clear hro hb1 hkey hvs HR
  go_wp2
  go_loopw [7] (fun i wr => ∃ k q : Nat, k ≤ 32 ∧ i = .int .i64 k ∧ wr = w1.drewN q) (fun i _ => 32 - (intOf i).toNat)
  case atStart => exact ⟨0, 0, Nat.zero_le _, rfl, rfl⟩
  case round =>
    obtain ⟨k, q, hk, rfl, rfl⟩ := hrel
    by_cases hlt : k < 32
    · obtain ⟨x1, x2⟩ := HX.out k hlt
      have i0 : (0 : Int) ≤ (k : Int) := by omega
      have i1 : (k : Int) < 32 := by omega
      have i2 : (k : Int) < (len : Int) := by omega
      go_wp2
      go_quiet (fail)
      go_wp2
      go_roundw
      case rel => exact ⟨k + 1, _, by omega, by go_num, rfl⟩
      case measure => simp [intOf]; omega
    · go_wp2
      have HY : Hid (∀ j, j < n → w1.cell? ⟨b, off + 33 + j, none⟩ = some (.int .u8 (f (33 + j)))) := fun j hj => by
        rw [Nat.add_assoc]; exact cell_later HB1.out (HC.out (33 + j) (by omega))
      have HZ : Hid (∀ j, j < len - 33 - n → w1.cell? ⟨b, off + 33 + n + j, none⟩ = some (.int .u8 (f (33 + n + j)))) := fun j hj => by
        rw [show off + 33 + n + j = off + (33 + n + j) by omega]; exact cell_later HB1.out (HC.out (33 + n + j) (by omega))
      by_cases h33 : cap = 33
      · obtain rfl : cap = 33 := h33
        obtain rfl : len = 33 := by omega
        obtain rfl : n = 0 := by omega
        go_quiet ((go_at_call 6; refine quiet_of2 (same_eq _ _ 0 _ _ _ (by omega) ?_ (fun j => f (33 + j)) _ ?_ ?_); (first | rfl | omega); (exact fun h => absurd h (by omega)); (exact fun h => absurd h (by omega))))
        go_wp2_with (go_at_call 6; refine (same_eq _ _ 0 _ _ _ (by omega) ?_ (fun j => f (33 + j)) _ ?_ ?_).mono ?_; (first | rfl | omega); (exact fun h => absurd h (by omega)); (exact fun h => absurd h (by omega)); (rintro e w2 ⟨rfl, q2, rfl⟩))
        go_ret
        exact ⟨rfl, below_drewN HB1.out _⟩
      · have b1 : (33 : Int) ≤ 33 + (n : Int) := by omega
        have b2 : 33 + (n : Int) ≤ (cap : Int) := by omega
        have b3 : 33 + (n : Int) ≤ (len : Int) := by omega
        go_quiet ((go_at_call 6; refine quiet_of2 (same_eq _ _ n _ _ _ (by omega) ?_ (fun j => f (33 + j)) _ ?_ ?_); (first | rfl | omega); (exact fun h => ⟨_, rfl, fun j hj => by rw [Addr.add_mid, Nat.zero_add]; exact HV.out j hj⟩); (exact fun h => ⟨_, rfl, fun j hj => by rw [Addr.add_mid]; exact HY.out j hj⟩)))
        by_cases hcn : cap = 33 + n
        · obtain rfl : cap = 33 + n := hcn
          obtain rfl : len = 33 + n := by omega
          go_wp2_with (go_at_call 6; refine (same_eq _ _ 0 _ _ _ (by omega) ?_ (fun j => f (33 + j)) _ ?_ ?_).mono ?_; (first | rfl | omega); (exact fun h => absurd h (by omega)); (exact fun h => absurd h (by omega)); (rintro e w2 ⟨rfl, q2, rfl⟩))
          go_ret
          exact ⟨rfl, below_drewN HB1.out _⟩
        · go_wp2_with (go_at_call 6; refine (same_eq _ _ (len - 33 - n) _ _ _ (by omega) ?_ (fun j => f (33 + n + j)) _ ?_ ?_).mono ?_; (first | rfl | omega); (exact fun h => ⟨_, rfl, fun j hj => by rw [HRO.out (by omega), Addr.add_mid]; exact HZ.out j hj⟩); (exact fun h => ⟨_, rfl, fun j hj => by rw [Addr.add_mid, ← Nat.add_assoc off 33 n]; exact HZ.out j hj⟩); (rintro e w2 ⟨rfl, q2, rfl⟩))
          go_ret
          exact ⟨rfl, below_drewN HB1.out _⟩

set_option maxRecDepth 20000 in
set_option maxHeartbeats 400000 in
theorem exact_big (ao : Option Addr) (len cap : Nat) (hl : 1024 < len) (hlm : len ≤ maxLen) (w : World) :
    Calls Yba.prog 3 #[.slice ao len cap] w fun e w' => e = .returned (.bool true) ∧ Below w.heap.size w w' := by
  unfold maxLen at hlm
  go_enter Yba.func3, Yba.ntmps3
  go_wp2
  go_ret
  exact ⟨rfl, Below.refl _ _⟩

set_option maxRecDepth 20000 in
set_option maxHeartbeats 400000 in
theorem exact_short (ao : Option Addr) (len cap : Nat) (hl : len < 33) (w : World) :
    Calls Yba.prog 3 #[.slice ao len cap] w fun e w' => e = .returned (.bool true) ∧ Below w.heap.size w w' := by
  have q1 := nil22
  go_enter Yba.func3, Yba.ntmps3
  go_wp2_with (go_at_call 5; refine (read_short ao len cap hl _).mono ?_; rintro e w' ⟨rfl, rfl⟩)
  go_ret
  exact ⟨rfl, Below.refl _ _⟩

set_option maxRecDepth 20000 in
set_option maxHeartbeats 400000 in
theorem exact_long (b off len cap n : Nat) (hl : 33 ≤ len) (hlc : len ≤ cap) (hlm : len ≤ 1024) (hcm : cap ≤ maxLen) (hn : n ≤ 255) (hbig : len < 33 + n) (f : Nat → Int) (h32 : f 32 = n) (w : World)
    (hc : ∀ j, j < len → w.cell? ⟨b, off + j, none⟩ = some (.int .u8 (f j))) :
    Calls Yba.prog 3 #[.slice (some ⟨b, off, none⟩) len cap] w fun e w' => e = .returned (.bool true) ∧ Below w.heap.size w w' := by
  have hread := read_long b off len cap n hl hlc (by omega) hcm hn hbig (bytesAt f 0 32) (bytesAt_length _ _ _) w (by
    intro j v hj
    obtain ⟨h1, rfl⟩ := bytesAt_of hj
    rw [Nat.zero_add]
    exact hc j (by omega)) (by rw [hc 32 (by omega), h32])
  have q1 := nil22
  have C32 : Hid (w.cell? ⟨b, off + 32, none⟩ = some (.int .u8 n)) := by show _ = _; rw [hc 32 (by omega), h32]
  unfold maxLen at hcm
  have HR : Hid _ := hread
  clear hread hc h32
  go_enter Yba.func3, Yba.ntmps3
  go_wp2_with fail
  refine Calls.mono HR.out ?_
  rintro e w1 ⟨rfl, hb1⟩
  have HB1 : Hid (Below w.heap.size w w1) := hb1
  have c32 : w1.cell? ⟨b, off + 32, none⟩ = some (.int .u8 n) := cell_later hb1 C32.out
  clear hb1 HR
  go_wp2
  go_ret
  exact ⟨rfl, HB1.out⟩

end Go.Proofs.Ybulkzqa
