import Derived.Test.YbulkzqoBytes
import Derived.Lib.ConvBytes
namespace Go.Proofs.Ybulkzqo
open Go.RowKit
open Go.Maps (Keyed)

theorem conv_any (s : ByteArray) (w : World) : ∃ (cap : Nat) (w' : World), (convert 9 27 (.string s)).run Yba.prog w = .ok (.slice (some ⟨w.heap.size, 0, none⟩) s.size cap) w' ∧ w.grownBy w' none :=
  ⟨_, _, Lib.run_convert_string_bytes (P := Yba.prog) w 9 27 5 s Yba.underlying9 Yba.underlying27 Yba.underlying5,
    ⟨rfl, rfl, rfl, by rw [Lib.bytesWorld_size]; omega, fun k hk _ => Lib.bytesWorld_at_old w 5 s k hk⟩⟩

/-- the first k entries: a key's bytes, and the length of its value -/
def itemsTo (ks : Nat → ByteArray) (vl : Nat → Nat) (k : Nat) : List (List UInt8 × Nat) := (List.range k).map fun i => ((ks i).data.toList, vl i)
theorem itemsTo_succ (ks : Nat → ByteArray) (vl : Nat → Nat) (k : Nat) : itemsTo ks vl (k + 1) = itemsTo ks vl k ++ [((ks k).data.toList, vl k)] := by simp [itemsTo, List.range_succ]

/-- the sum over the places from j on, of k, at which a key stands for the last time -/
def tailSum (ks : Nat → ByteArray) (vl : Nat → Nat) (k j : Nat) : Int := gsum (fun _ => true) ((itemsTo ks vl k).drop j)

theorem itemsTo_length (ks : Nat → ByteArray) (vl : Nat → Nat) (k : Nat) : (itemsTo ks vl k).length = k := by simp [itemsTo]
theorem itemsTo_get (ks : Nat → ByteArray) (vl : Nat → Nat) (k j : Nat) (h : j < k) : (itemsTo ks vl k)[j]'(by rw [itemsTo_length]; exact h) = ((ks j).data.toList, vl j) := by simp [itemsTo]

theorem tail_cons (ks : Nat → ByteArray) (vl : Nat → Nat) (k j : Nat) (hj : j < k) :
    tailSum ks vl k j = (if !(((itemsTo ks vl k).drop (j + 1)).any fun y => y.1 == (ks j).data.toList) then wt (ks j).size (vl j) else 0) + tailSum ks vl k (j + 1) := by
  unfold tailSum
  rw [List.drop_eq_getElem_cons (by rw [itemsTo_length]; exact hj), itemsTo_get ks vl k j hj]
  simp only [gsum, Bool.true_and]
  rfl

theorem tail_last (ks : Nat → ByteArray) (vl : Nat → Nat) (k j : Nat) (hj : j < k) (h : ∀ y, j < y → y < k → (ks y).data.toList ≠ (ks j).data.toList) :
    tailSum ks vl k j = tailSum ks vl k (j + 1) + wt (ks j).size (vl j) := by
  rw [tail_cons ks vl k j hj]
  have hn : (((itemsTo ks vl k).drop (j + 1)).any fun y => y.1 == (ks j).data.toList) = false := by
    rw [List.any_eq_false]
    intro p hp
    obtain ⟨i, hi⟩ := List.getElem?_of_mem hp
    rw [List.getElem?_drop] at hi
    have hlt : j + 1 + i < k := by have := (List.getElem?_eq_some_iff.1 hi).1; rwa [itemsTo_length] at this
    have he := (List.getElem?_eq_some_iff.1 hi).2
    rw [itemsTo_get ks vl k _ hlt] at he
    rw [← he]
    simpa using h (j + 1 + i) (by omega) hlt
  rw [hn]
  simp; omega

theorem tail_not (ks : Nat → ByteArray) (vl : Nat → Nat) (k j u : Nat) (hj : j < k) (hu : j + 1 ≤ u) (huk : u < k) (h : (ks u).data.toList = (ks j).data.toList) :
    tailSum ks vl k j = tailSum ks vl k (j + 1) := by
  rw [tail_cons ks vl k j hj]
  have hn : (((itemsTo ks vl k).drop (j + 1)).any fun y => y.1 == (ks j).data.toList) = true := by
    rw [List.any_eq_true]
    refine ⟨((ks u).data.toList, vl u), ?_, by simpa using h⟩
    rw [List.mem_iff_getElem?]
    refine ⟨u - (j + 1), ?_⟩
    rw [List.getElem?_drop, show j + 1 + (u - (j + 1)) = u by omega, List.getElem?_eq_getElem (by rw [itemsTo_length]; exact huk), itemsTo_get ks vl k u huk]
  rw [hn]
  simp

theorem tail_end (ks : Nat → ByteArray) (vl : Nat → Nat) (k : Nat) : tailSum ks vl k k = 0 := by
  unfold tailSum
  rw [List.drop_of_length_le (by rw [itemsTo_length]; exact Nat.le_refl _)]
  rfl

/-- a slice that came in: where it has elements it leads to them -/
def Has (w : World) (a : Option Addr) (n : Nat) (val : Nat → Value) : Prop := 0 < n → ∃ x, a = some x ∧ ∀ j, j < n → w.cell? (x.add j) = some (val j)

theorem Has.later {w w' : World} {a : Option Addr} {n : Nat} {val : Nat → Value} (h : Has w a n val) (hb : Below w.heap.size w w') : Has w' a n val := fun hn => by
  obtain ⟨x, hx, hc⟩ := h hn
  exact ⟨x, hx, fun j hj => cell_later hb (hc j hj)⟩

set_option maxRecDepth 100000 in
set_option maxHeartbeats 2000000 in
theorem law_small (ka va da : Option Addr) (nk ck nv cv nd cd : Nat) (hnk : nk ≤ 1024) (hnv : nv ≤ 1024) (hnd : nd ≤ 1024) (ks vs : Nat → ByteArray) (ds : Nat → Bool) (w : World)
    (hk : Has w ka nk (fun j => .string (ks j))) (hv : Has w va nv (fun j => .string (vs j))) (hd : Has w da nd (fun j => .bool (ds j))) (hks : ∀ j, j < nk → (ks j).size ≤ maxLen) :
    Calls Yba.prog 3 #[.slice ka nk ck, .slice va nv cv, .slice da nd cd] w fun e w' => e = .returned (.bool true) ∧ Below w.heap.size w w' := by
  have hmm := @run_makeMap Yba.prog
  have HK : Hid (Has w ka nk (fun j => .string (ks j))) := hk
  have HV : Hid (Has w va nv (fun j => .string (vs j))) := hv
  have HD : Hid (Has w da nd (fun j => .bool (ds j))) := hd
  have HKS : Hid (∀ j, j < nk → (ks j).size ≤ maxLen) := hks
  clear hk hv hd hks
  obtain ⟨vl, hvl⟩ : ∃ vl : Nat → Nat, vl = fun i => if 0 < nv then (vs (i % nv)).size else 0 := ⟨_, rfl⟩
  have HVL : Hid (vl = fun i => if 0 < nv then (vs (i % nv)).size else 0) := hvl
  clear hvl
  go_enter Yba.func3, Yba.ntmps3
  go_wp2_with (go_at_call 4; refine (bytes_nil _).mono ?_; rintro e w' ⟨rfl, rfl⟩)
  go_loopw [36] (fun i wr => ∃ k : Nat, k ≤ nk ∧ i = .int .i64 k ∧ wr.ownsMap Yba.prog 9 lenElem (w.heap.size + 1) k (mapOf (itemsTo ks vl k)) ∧ Below w.heap.size w wr)
    (fun i _ => nk - (intOf i).toNat)
  case atStart =>
    refine ⟨0, Nat.zero_le _, rfl, ?_, ?_⟩
    · have h0 : mapOf (itemsTo ks vl 0) = .map [] := rfl
      rw [h0]
      have := World.ownsMap_made (w.alloc (.mapIter none 0 #[] 0)) Yba.prog 9 lenElem
      simpa using this
    · exact ((Below.refl _ _).alloc (Nat.le_refl _) _).alloc (by simp) _
  case round =>
    obtain ⟨k, hk, rfl, hown, hbel⟩ := hrel
    by_cases hlt : k < nk
    · obtain ⟨x, rfl, hx⟩ := HK.out.later hbel (by omega)
      have xk := hx k hlt
      clear hx
      have i0 : (0 : Int) ≤ (k : Int) := by omega
      have i1 : (k : Int) < (nk : Int) := by omega
      by_cases hv0 : 0 < nv
      · obtain ⟨y, rfl, hy⟩ := HV.out.later hbel hv0
        have yk := hy (k % nv) (Nat.mod_lt _ hv0)
        clear hy
        have v0 : (0 : Int) ≤ (k : Int) % (nv : Int) := Int.emod_nonneg _ (by omega)
        have v1 : (k : Int) % (nv : Int) < (nv : Int) := Int.emod_lt_of_pos _ (by omega)
        obtain ⟨cap, w1, hrun, hg1⟩ := conv_any (vs (k % nv)) wr
        have hown1 := hown.kept hg1 (by simp)
        have hbel1 : Below w.heap.size w w1 := hbel.grown hg1 hbel.size (fun j hj => by cases hj)
        clear hg1
        by_cases hd0 : 0 < nd
        · obtain ⟨z, rfl, hz⟩ := HD.out.later hbel1 hd0
          have zk := hz (k % nd) (Nat.mod_lt _ hd0)
          clear hz
          have e0 : (0 : Int) ≤ (k : Int) % (nd : Int) := Int.emod_nonneg _ (by omega)
          have e1 : (k : Int) % (nd : Int) < (nd : Int) := Int.emod_lt_of_pos _ (by omega)
          have e2 : (0 : Int) < (nd : Int) := by omega
          have e3 : decide ((0 : Int) < (nd : Int)) = true := by simp; omega
          go_wp2_with (first
            | (at_mapUpdate; refine wpList_mapUpdate_own _ rfl _ _ _ 26 rfl 9 30 law9 Yba.underlying26 lenElem (w.heap.size + 1) k _ rfl hown1 (by unfold maxLen; omega) _ _ _ rfl rfl (WideMaps.keyOf_string_mk Yba.underlying9 (HKS.out k hlt)) _ [] (lenElem_mk _ _ _ _ _) ?_; intro w2 hown2 hg2)
            | go_in)
          have HR2 : Hid (w2.ownsMap Yba.prog 9 lenElem (w.heap.size + 1) (k + 1) (mapOf (itemsTo ks vl (k + 1)))) := by
            have hvk : vl k = (vs (k % nv)).size := by rw [HVL.out]; simp [hv0]
            rw [itemsTo_succ, mapOf_snoc]
            simp only [hvk]
            exact hown2
          have HB2 : Hid (Below w.heap.size w w2) := hbel1.grown hg2 hbel1.size (fun j hj => by cases hj; omega)
          clear hown2 hg2
          go_wp2
          go_roundw
          case rel => exact ⟨k + 1, by omega, by go_num, HR2.out, HB2.out⟩
          case measure => simp [intOf]; omega

        · have e3 : decide ((0 : Int) < (nd : Int)) = false := by simp; omega
          go_wp2_with (first
            | (at_mapUpdate; refine wpList_mapUpdate_own _ rfl _ _ _ 26 rfl 9 30 law9 Yba.underlying26 lenElem (w.heap.size + 1) k _ rfl hown1 (by unfold maxLen; omega) _ _ _ rfl rfl (WideMaps.keyOf_string_mk Yba.underlying9 (HKS.out k hlt)) _ [] (lenElem_mk _ _ _ _ _) ?_; intro w2 hown2 hg2)
            | go_in)
          have HR2 : Hid (w2.ownsMap Yba.prog 9 lenElem (w.heap.size + 1) (k + 1) (mapOf (itemsTo ks vl (k + 1)))) := by
            have hvk : vl k = (vs (k % nv)).size := by rw [HVL.out]; simp [hv0]
            rw [itemsTo_succ, mapOf_snoc]
            simp only [hvk]
            exact hown2
          have HB2 : Hid (Below w.heap.size w w2) := hbel1.grown hg2 hbel1.size (fun j hj => by cases hj; omega)
          clear hown2 hg2
          go_wp2
          go_roundw
          case rel => exact ⟨k + 1, by omega, by go_num, HR2.out, HB2.out⟩
          case measure => simp [intOf]; omega

      · by_cases hd0 : 0 < nd
        · obtain ⟨z, rfl, hz⟩ := HD.out.later hbel hd0
          have zk := hz (k % nd) (Nat.mod_lt _ hd0)
          clear hz
          have e0 : (0 : Int) ≤ (k : Int) % (nd : Int) := Int.emod_nonneg _ (by omega)
          have e1 : (k : Int) % (nd : Int) < (nd : Int) := Int.emod_lt_of_pos _ (by omega)
          have e2 : (0 : Int) < (nd : Int) := by omega
          have e3 : decide ((0 : Int) < (nd : Int)) = true := by simp; omega
          go_wp2_with (first
            | (at_mapUpdate; refine wpList_mapUpdate_own _ rfl _ _ _ 26 rfl 9 30 law9 Yba.underlying26 lenElem (w.heap.size + 1) k _ rfl hown (by unfold maxLen; omega) _ _ _ rfl rfl (WideMaps.keyOf_string_mk Yba.underlying9 (HKS.out k hlt)) _ [] (lenElem_mk _ _ _ _ _) ?_; intro w2 hown2 hg2)
            | go_in)
          have HR2 : Hid (w2.ownsMap Yba.prog 9 lenElem (w.heap.size + 1) (k + 1) (mapOf (itemsTo ks vl (k + 1)))) := by
            have hvk : vl k = 0 := by rw [HVL.out]; simp [hv0]
            rw [itemsTo_succ, mapOf_snoc]
            simp only [hvk]
            exact hown2
          have HB2 : Hid (Below w.heap.size w w2) := hbel.grown hg2 hbel.size (fun j hj => by cases hj; omega)
          clear hown2 hg2
          go_wp2
          go_roundw
          case rel => exact ⟨k + 1, by omega, by go_num, HR2.out, HB2.out⟩
          case measure => simp [intOf]; omega

        · have e3 : decide ((0 : Int) < (nd : Int)) = false := by simp; omega
          go_wp2_with (first
            | (at_mapUpdate; refine wpList_mapUpdate_own _ rfl _ _ _ 26 rfl 9 30 law9 Yba.underlying26 lenElem (w.heap.size + 1) k _ rfl hown (by unfold maxLen; omega) _ _ _ rfl rfl (WideMaps.keyOf_string_mk Yba.underlying9 (HKS.out k hlt)) _ [] (lenElem_mk _ _ _ _ _) ?_; intro w2 hown2 hg2)
            | go_in)
          have HR2 : Hid (w2.ownsMap Yba.prog 9 lenElem (w.heap.size + 1) (k + 1) (mapOf (itemsTo ks vl (k + 1)))) := by
            have hvk : vl k = 0 := by rw [HVL.out]; simp [hv0]
            rw [itemsTo_succ, mapOf_snoc]
            simp only [hvk]
            exact hown2
          have HB2 : Hid (Below w.heap.size w w2) := hbel.grown hg2 hbel.size (fun j hj => by cases hj; omega)
          clear hown2 hg2
          go_wp2
          go_roundw
          case rel => exact ⟨k + 1, by omega, by go_num, HR2.out, HB2.out⟩
          case measure => simp [intOf]; omega

    · obtain rfl : k = nk := by omega
      clear hlt hk
      have HO : Hid (wr.ownsMap Yba.prog 9 lenElem (w.heap.size + 1) k (mapOf (itemsTo ks vl k))) := hown
      have HB : Hid (Below w.heap.size w wr) := hbel
      clear hown
      go_wp2
      go_loop [12, 73] (fun want i => ∃ j : Nat, j ≤ k ∧ i = .int .i64 j ∧ want = .int .i64 (wrap64 (tailSum ks vl k 0 - tailSum ks vl k j))) (fun _ i => k - (intOf i).toNat)
      case atStart => exact ⟨0, Nat.zero_le _, rfl, by rw [Int.sub_self, wrap_zero]⟩
      case round =>
        obtain ⟨j, hj, rfl, rfl⟩ := hrel
        by_cases hjk : j < k
        · obtain ⟨x, rfl, hx⟩ := HK.out.later HB.out (by omega)
          have HX : Hid (∀ u, u < k → wr.cell? (x.add u) = some (.string (ks u))) := hx
          have xj := hx j hjk
          clear hx
          have i0 : (0 : Int) ≤ (j : Int) := by omega
          have i1 : (j : Int) < (k : Int) := by omega
          go_wp2
          go_loop [15, 16] (fun l t => l = .bool true ∧ ∃ u : Nat, j + 1 ≤ u ∧ u ≤ k ∧ t = .int .i64 u ∧ Hid (∀ y, j < y → y < u → (ks y).data.toList ≠ (ks j).data.toList)) (fun _ t => k - (intOf t).toNat)
          case atStart => exact ⟨rfl, j + 1, Nat.le_refl _, by omega, by go_num, fun y h1 h2 => by omega⟩
          case round =>
            obtain ⟨rfl, u, hu1, hu2, rfl, hno⟩ := hrel
            by_cases hul : u < k
            · have xu := HX.out u hul
              have u0 : (0 : Int) ≤ (u : Int) := by omega
              have u1 : (u : Int) < (k : Int) := by omega
              go_wp2
              · have he : ((ks u).toList == (ks j).toList) = true := by assumption
                go_round
                case rel =>
                  refine ⟨j + 1, by omega, by go_num, ?_⟩
                  rw [tail_not ks vl k j u hjk hu1 hul (by rw [ByteArray.toList_eq, ByteArray.toList_eq] at he; simpa using he)]
                case measure => simp [intOf]; omega
              · have he : ((ks u).toList == (ks j).toList) = false := by assumption
                go_round
                case rel =>
                  refine ⟨rfl, u + 1, by omega, by omega, by go_num, fun y h1 h2 => ?_⟩
                  by_cases hy : y = u
                  · subst hy
                    rw [ByteArray.toList_eq, ByteArray.toList_eq] at he
                    simpa using he
                  · exact hno.out y h1 (by omega)
                case measure => simp [intOf]; omega
            · obtain rfl : u = k := by omega
              have HL : Hid (tailSum ks vl u j = tailSum ks vl u (j + 1) + wt (ks j).size (vl j)) := tail_last ks vl u j hjk hno.out
              clear hno
              by_cases hv0 : 0 < nv
              · obtain ⟨y, rfl, hy⟩ := HV.out.later HB.out hv0
                have yk := hy (j % nv) (Nat.mod_lt _ hv0)
                clear hy
                have v0 : (0 : Int) ≤ (j : Int) % (nv : Int) := Int.emod_nonneg _ (by omega)
                have v1 : (j : Int) % (nv : Int) < (nv : Int) := Int.emod_lt_of_pos _ (by omega)
                have HVJ : Hid (vl j = (vs (j % nv)).size) := by show _ = _; rw [HVL.out]; simp [hv0]
                go_wp2
                go_round
                case rel =>
                  refine ⟨j + 1, by omega, by go_num, ?_⟩
                  rw [← acc_step _ _ _ _ HL.out, HVJ.out]
                  rfl
                case measure => simp [intOf]; omega
              · have HVJ : Hid (vl j = 0) := by show _ = _; rw [HVL.out]; simp [hv0]
                go_wp2
                go_round
                case rel =>
                  refine ⟨j + 1, by omega, by go_num, ?_⟩
                  rw [← acc_step _ _ _ _ HL.out, HVJ.out]
                  simp [wt]
                case measure => simp [intOf]; omega
        · obtain rfl : j = k := by omega
          have HE : Hid (wrap64 (tailSum ks vl j 0 - tailSum ks vl j j) = wrap64 (gsum (fun _ => true) (itemsTo ks vl j))) := by
            show _ = _
            rw [tail_end, Int.sub_zero]; rfl
          go_wp2_with (go_at_call 4; refine (bytes_map _ _ (itemsTo ks vl j) _ HO.out).mono ?_; rintro e w9 ⟨rfl, hb9⟩)
          go_ret
          refine ⟨?_, HB.out.trans (hb9.mono HB.out.size)⟩
          show Ending.returned (.bool (wrap64 (gsum (fun _ => true) (itemsTo ks vl j)) == wrap64 (tailSum ks vl j 0 - tailSum ks vl j j))) = _
          rw [HE.out]
          simp

set_option maxRecDepth 100000 in
set_option maxHeartbeats 400000 in
theorem law_big (ka va da : Option Addr) (nk ck nv cv nd cd : Nat) (h : 1024 < nk ∨ 1024 < nv ∨ 1024 < nd) (m1 : nk ≤ maxLen) (m2 : nv ≤ maxLen) (m3 : nd ≤ maxLen) (w : World) :
    Calls Yba.prog 3 #[.slice ka nk ck, .slice va nv cv, .slice da nd cd] w fun e w' => e = .returned (.bool true) ∧ Below w.heap.size w w' := by
  unfold maxLen at m1 m2 m3
  by_cases h1 : 1024 < nk
  · go_enter Yba.func3, Yba.ntmps3
    go_wp2
    go_ret
    exact ⟨rfl, Below.refl _ _⟩
  · by_cases h2 : 1024 < nv
    · go_enter Yba.func3, Yba.ntmps3
      go_wp2
      go_ret
      exact ⟨rfl, Below.refl _ _⟩
    · have h3 : 1024 < nd := by omega
      go_enter Yba.func3, Yba.ntmps3
      go_wp2
      go_ret
      exact ⟨rfl, Below.refl _ _⟩

end Go.Proofs.Ybulkzqo
