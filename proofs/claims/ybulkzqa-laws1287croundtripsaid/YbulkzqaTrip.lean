import Derived.Test.YbulkzqaExact
import Derived.Deep.DeepCutAuto
import Derived.Deep.RegionHeld3
import Derived.Stop.BytesEq
namespace Go.Proofs.Ybulkzqa
open Go.RowKit

theorem taken {zs : List Int} {n j : Nat} {u : Value} (h : ((zs.take n).map (Value.int .u8))[j]? = some u) (hn : n ≤ zs.length) : j < n ∧ u = .int .u8 (zs.getD j 0) := by
  have hj : j < n := by have := (List.getElem?_eq_some_iff.1 h).1; simp at this; omega
  refine ⟨hj, ?_⟩
  simp only [List.getElem?_map, Option.map_eq_some_iff, List.getElem?_take, if_pos hj] at h
  obtain ⟨q, hq, rfl⟩ := h
  rw [List.getD_eq_getElem?_getD, hq]
  rfl

theorem neq26 (kz : List Int) (hk : kz.length = 32) (w : World) :
    (binOp .neq 26 (.agg (kz.map (Value.int .u8)).toArray) (.agg (kz.map (Value.int .u8)).toArray)).run Yba.prog w = .ok (.bool false) w := by
  have hsz : ∀ w, (Go.sizeOf 5).run Yba.prog w = .ok 1 w := fun w => by kernel_rfl
  have key : (Op.equalIn 10000 26 (.agg (kz.map (Value.int .u8)).toArray) (.agg (kz.map (Value.int .u8)).toArray)).run Yba.prog w = .ok true w := by
    rw [show (10000 : Nat) = 9998 + 1 + 1 from rfl, Op.equalIn]
    simp only [Sem.run_bind, run_underlying Yba.underlying26, Result.andThen_ok, hsz, Std.Legacy.Range.forIn_eq_forIn_range', Std.Legacy.Range.size, Nat.sub_zero, Nat.add_sub_cancel, Nat.div_one]
    have hl : ∀ i ∈ List.range' 0 32 1, i < 32 := fun i hi => by simpa using (List.mem_range'_1.1 hi).2
    generalize List.range' 0 32 1 = l at hl ⊢
    induction l with
    | nil => simp
    | cons i l ih =>
      have hi : i < 32 := hl i (by simp)
      have px : (part 5 (kz.map (Value.int .u8)).toArray (i * 1)).run Yba.prog w = .ok (.int .u8 (kz.getD i 0)) w := by
        simp [part, isAgg, run_underlying Yba.underlying5, List.getElem?_eq_getElem (show i < kz.length by omega)]
      have pe : (Op.equalIn (9998 + 1) 5 (.int .u8 (kz.getD i 0)) (.int .u8 (kz.getD i 0))).run Yba.prog w = .ok true w := by
        rw [run_equalIn_int w 9998 5 .u8 .u8 _ _ Yba.underlying5]
        simp
      simp only [List.forIn_cons, Sem.run_bind, px, pe, Result.andThen_ok]
      simp only [Bool.not_true, Bool.false_eq_true, if_false, Sem.run_pure, Result.andThen_ok]
      exact ih fun j hj => hl j (by simp [hj])
  simp only [binOp]
  simp [Op.equal, Op.maxDepth, key]

theorem quiet_load26 {C : World → Prop} {K : Act → Prop} {o : Oper} {a : Act} (x : Operand) (ho : o.op = .load 26 x) (b off : Nat) (hx : a.eval x = .pointer (some ⟨b, off, none⟩)) (cs : List Value) (hl : cs.length = 32) (hC : ∀ w, C w → w.rangeAt b off cs)
    (hk : K (a.put o.dst (.agg cs.toArray))) : o.quiet Yba.prog a C K :=
  ⟨.agg cs.toArray, fun w hw => by
    have hr := run_loadAt_mid (P := Yba.prog) w b off 26 cs _ (hC w hw) Yba.underlying26 rfl (by rw [hl]; kernel_rfl)
    unfold Oper.quietAt execOp
    simp only [ho, hx, Sem.run_bind, hr, Result.andThen_ok, Sem.run_pure]
    exact ⟨rfl, rfl⟩, hk⟩

theorem own_cells {w : World} {base : Nat} {e : TypeId} {g n c : Nat} {xs : List Value} (h : w.ownsRow base e 1 (.slice (some ⟨g, 0, none⟩) n c) n xs) : ∀ j v, xs[j]? = some v → w.cell? ⟨g, j, none⟩ = some v := by
  rcases h.2 with ⟨h, _⟩ | ⟨g', cap, cur, hv, hg, hh, _, _, _, ht⟩
  · cases h
  · cases hv
    intro j v hj
    rw [← ht, List.getElem?_take] at hj
    split at hj
    · simpa [World.cell?, hh] using hj
    · cases hj

theorem row_get (kz vz tz : List Int) (hk : kz.length = 32) (nv : Nat) (hv : vz.length = nv) (lt : Nat) (ht : tz.length = lt) (j : Nat) (hj : j < 33 + nv + lt) :
    ((kz.map (Value.int .u8)).toArray.toList ++ [Value.int .u8 nv] ++ vz.map (Value.int .u8) ++ tz.map (Value.int .u8))[j]? = some (.int .u8 ((kz ++ [(nv : Int)] ++ vz ++ tz).getD j 0)) := by
  have e : ((kz.map (Value.int .u8)).toArray.toList ++ [Value.int .u8 nv] ++ vz.map (Value.int .u8) ++ tz.map (Value.int .u8)) = (kz ++ [(nv : Int)] ++ vz ++ tz).map (Value.int .u8) := by simp
  have hl : j < (kz ++ [(nv : Int)] ++ vz ++ tz).length := by simp [hk, hv, ht]; omega
  rw [e, List.getElem?_map, List.getElem?_eq_getElem hl, List.getD_eq_getElem?_getD, List.getElem?_eq_getElem hl]
  rfl

theorem row_facts (kz vz tz : List Int) (hk : kz.length = 32) (nv : Nat) (hv : vz.length = nv) (lt : Nat) (_ht : tz.length = lt) :
    (fun j => (kz ++ [(nv : Int)] ++ vz ++ tz).getD j 0) 32 = nv ∧ (∀ j, j < 32 → (fun j => (kz ++ [(nv : Int)] ++ vz ++ tz).getD j 0) j = kz.getD j 0) ∧
    (∀ j, j < nv → (fun j => (kz ++ [(nv : Int)] ++ vz ++ tz).getD j 0) (33 + j) = vz.getD j 0) ∧ ∀ j, (fun j => (kz ++ [(nv : Int)] ++ vz ++ tz).getD j 0) (33 + nv + j) = tz.getD j 0 := by
  refine ⟨?_, ?_, ?_, ?_⟩
  · simp [hk]
  · intro j hj
    simp [List.getElem?_append, hk, hj]
  · intro j hj
    simp [List.getElem?_append, hk, hv, show ¬ 33 + j < 32 by omega, show 33 + j - 32 = j + 1 by omega, hj]
  · intro j
    simp [List.getElem?_append, hk, hv, show ¬ 33 + nv + j < 32 by omega, show 33 + nv + j - 32 = nv + j + 1 by omega, show ¬ nv + j < nv by omega]

set_option maxRecDepth 20000 in
set_option maxHeartbeats 1000000 in
theorem trip_small (kz : List Int) (hk : kz.length = 32) (va ta : Option Addr) (lv cv lt ct : Nat) (cut : Nat) (hcut : cut ≤ 65535) (vz tz : List Int) (w : World)
    (hlv : lv ≤ maxLen) (hlvc : lv ≤ cv) (hcv : cv ≤ maxLen) (hlt : lt ≤ 1024) (hvz : vz.length = lv) (htz : tz.length = lt)
    (hvn : va = none → lv = 0 ∧ cv = 0) (htn : ta = none → lt = 0 ∧ ct = 0)
    (hv : ∀ x, va = some x → ∀ j, j < lv → w.cell? (x.add j) = some (.int .u8 (vz.getD j 0))) (ht : ∀ x, ta = some x → ∀ j, j < lt → w.cell? (x.add j) = some (.int .u8 (tz.getD j 0))) :
    Calls Yba.prog 4 #[.agg (kz.map (Value.int .u8)).toArray, .slice va lv cv, .slice ta lt ct, .int .u16 cut] w fun e w' => e = .returned (.bool true) ∧ Below w.heap.size w w' := by
  unfold maxLen at hlv hcv
  obtain ⟨kc, hkc⟩ : ∃ kc : Array Value, kc = (kz.map (Value.int .u8)).toArray := ⟨_, rfl⟩
  rw [← hkc]
  have HKC : Hid (kc = (kz.map (Value.int .u8)).toArray) := hkc
  clear hkc
  have HV : Hid (∀ x, va = some x → ∀ j, j < lv → w.cell? (x.add j) = some (.int .u8 (vz.getD j 0))) := hv
  have HT : Hid (∀ x, ta = some x → ∀ j, j < lt → w.cell? (x.add j) = some (.int .u8 (tz.getD j 0))) := ht
  have HVN : Hid (va = none → lv = 0 ∧ cv = 0) := hvn
  have HTN : Hid (ta = none → lt = 0 ∧ ct = 0) := htn
  have HVZ : Hid (vz.length = lv) := hvz
  have HTZ : Hid (tz.length = lt) := htz
  have HK : Hid (kz.length = 32) := hk
  clear hv ht hvn htn hvz htz hk
  go_enter Yba.func4, Yba.ntmps4
  go_upto_if 23 with fail
  go_cut [1] (fun v wc => ∃ nv : Nat, nv ≤ 255 ∧ nv ≤ lv ∧ v = .slice va nv cv ∧ wc = w.alloc (.cells kc 26))
  case first =>
    by_cases hb : 255 < lv
    · go_wp2
      go_meet
      case rel => exact ⟨255, by omega, by omega, rfl, rfl⟩
    · go_wp2
      go_meet
      case rel => exact ⟨lv, by omega, by omega, rfl, rfl⟩
  case rest =>
    obtain ⟨nv, hnv, hnl, rfl, rfl⟩ := hcut
    obtain ⟨i0, hi, hz0, hz1, hz2⟩ := info_parts info5
    go_wp2_with (at_make; refine wpList_make_own _ rfl _ _ 22 rfl (w.heap.size + 1) 5 i0 (.int .u8 0) 1 Yba.underlying22 hi hz0 hz1 _ _ _ (33 + nv + lt) rfl rfl (by omega) ?b2 ?b3 (by simp) ?_)
    case b2 => rw [hz2]; omega
    case b3 => unfold maxLen; omega
    intro w0 hown0 hgrow0
    have O0 : w0.ownsRow (w.heap.size + 1) 5 1 (.slice (some ⟨w.heap.size + 1, 0, none⟩) 0 (33 + nv + lt)) 0 [] := by simpa using hown0
    have B0 : Below w.heap.size w w0 := ((Below.refl _ w).alloc (Nat.le_refl _) _).grown hgrow0 (by simp) (fun k h => by cases h)
    have K0 : ∀ j u, kc.toList[j]? = some u → w0.cell? ((⟨w.heap.size, 0, none⟩ : Addr).add j) = some u := by
      intro j u hj
      rw [Addr.add_mid, Nat.zero_add]
      refine hgrow0.cell ?_ (by simp)
      rw [World.cell?_alloc_at _ _ _ _ rfl]
      simpa using hj
    have H0 : Hid (_ ∧ _ ∧ _) := ⟨O0, B0, K0⟩
    clear O0 B0 K0 hown0 hgrow0
    go_wp2_with (at_builtin; refine wpList_append_fits_any _ rfl (.tmp 33) (.tmp 34) 22 rfl (w.heap.size + 1) 5 i0 1 Yba.underlying22 hi hz1 (w.heap.size + 1) 0 (33 + nv + lt) [] rfl H0.out.1 (some ⟨w.heap.size, 0, none⟩) 32 32 kc.toList rfl ?n1 ?n2 ?n3 ?n4 ?n5 ?_)
    case n1 => rw [HKC.out]; simp [HK.out]
    case n2 => intro h; cases h
    case n3 => intro ad e; cases e; exact H0.out.2.2
    case n4 => rw [HKC.out]; exact ints_oneCell _ _
    case n5 => omega
    intro w1 hown1 hgrow1
    have O1 : w1.ownsRow (w.heap.size + 1) 5 1 (.slice (some ⟨w.heap.size + 1, 0, none⟩) 32 (33 + nv + lt)) 32 kc.toList := by simpa using hown1
    have B1 : Below w.heap.size w w1 := H0.out.2.1.grown hgrow1 H0.out.2.1.size (fun k h => by cases h; omega)
    have K1 : ∀ j u, kc.toList[j]? = some u → w1.cell? ((⟨w.heap.size, 0, none⟩ : Addr).add j) = some u := by
      intro j u hj
      exact hgrow1.cell (H0.out.2.2 j u hj) (by rw [Addr.add_mid]; intro e; injection e with e; simp at e)
    have H1 : Hid (_ ∧ _ ∧ _) := ⟨O1, B1, K1⟩
    clear O1 B1 K1 hown1 hgrow1 H0
    go_wp2_with (at_builtin; refine wpList_append_fits_any _ rfl (.tmp 36) (.tmp 40) 22 rfl (w.heap.size + 1) 5 i0 1 Yba.underlying22 hi hz1 (w.heap.size + 1) 32 (33 + nv + lt) kc.toList rfl (H1.out.1.alloc _) (some ⟨w1.heap.size, 0, none⟩) 1 1 [.int .u8 nv] rfl ?m1 ?m2 ?m3 ?m4 ?m5 ?_)
    case m1 => rfl
    case m2 => intro h; cases h
    case m3 => intro ad e; cases e; exact cell_one_new _ _ _
    case m4 => intro u hu; simp at hu; subst hu; rfl
    case m5 => omega
    intro w2 hown2 hgrow2
    have O2 : w2.ownsRow (w.heap.size + 1) 5 1 (.slice (some ⟨w.heap.size + 1, 0, none⟩) 33 (33 + nv + lt)) 33 (kc.toList ++ [.int .u8 nv]) := hown2
    have B2 : Below w.heap.size w w2 := (H1.out.2.1.alloc H1.out.2.1.size _).grown hgrow2 (by have := H1.out.2.1.size; simp; omega) (fun k h => by cases h; omega)
    have K2 : ∀ j u, kc.toList[j]? = some u → w2.cell? ((⟨w.heap.size, 0, none⟩ : Addr).add j) = some u := by
      intro j u hj
      exact hgrow2.cell (Lib.cell?_alloc_some _ (H1.out.2.2 j u hj)) (by rw [Addr.add_mid]; intro e; injection e with e; simp at e)
    have H2 : Hid (_ ∧ _ ∧ _) := ⟨O2, B2, K2⟩
    clear O2 B2 K2 hown2 hgrow2 H1
    go_wp2_with (at_builtin; refine wpList_append_fits_any _ rfl (.tmp 42) (.tmp 43) 22 rfl (w.heap.size + 1) 5 i0 1 Yba.underlying22 hi hz1 (w.heap.size + 1) 33 (33 + nv + lt) (kc.toList ++ [.int .u8 nv]) rfl H2.out.1 va nv cv ((vz.take nv).map (Value.int .u8)) rfl ?p1 ?p2 ?p3 ?p4 ?p5 ?_)
    case p1 => simp [HVZ.out]; omega
    case p2 => intro h; have := HVN.out h; omega
    case p3 =>
      intro ad e j u hj
      obtain ⟨hjn, rfl⟩ := taken hj (by rw [HVZ.out]; omega)
      exact cell_later H2.out.2.1 (HV.out ad e j (by omega))
    case p4 => exact ints_oneCell _ _
    case p5 => omega
    intro w3 hown3 hgrow3
    have O3 : w3.ownsRow (w.heap.size + 1) 5 1 (.slice (some ⟨w.heap.size + 1, 0, none⟩) (33 + nv) (33 + nv + lt)) (33 + nv) (kc.toList ++ [.int .u8 nv] ++ (vz.take nv).map (Value.int .u8)) := by simpa using hown3
    have B3 : Below w.heap.size w w3 := H2.out.2.1.grown hgrow3 H2.out.2.1.size (fun k h => by cases h; omega)
    have K3 : ∀ j u, kc.toList[j]? = some u → w3.cell? ((⟨w.heap.size, 0, none⟩ : Addr).add j) = some u := by
      intro j u hj
      exact hgrow3.cell (H2.out.2.2 j u hj) (by rw [Addr.add_mid]; intro e; injection e with e; simp at e)
    have H3 : Hid (_ ∧ _ ∧ _) := ⟨O3, B3, K3⟩
    clear O3 B3 K3 hown3 hgrow3 H2
    go_wp2_with (at_builtin; refine wpList_append_fits_any _ rfl (.tmp 45) (.tmp 46) 22 rfl (w.heap.size + 1) 5 i0 1 Yba.underlying22 hi hz1 (w.heap.size + 1) (33 + nv) (33 + nv + lt) (kc.toList ++ [.int .u8 nv] ++ (vz.take nv).map (Value.int .u8)) rfl H3.out.1 ta lt ct (tz.map (Value.int .u8)) rfl ?r1 ?r2 ?r3 ?r4 ?r5 ?_)
    case r1 => simp [HTZ.out]
    case r2 => exact HTN.out
    case r3 =>
      intro ad e j u hj
      obtain ⟨hjn, rfl⟩ := taken (n := lt) (by rw [List.take_of_length_le (by rw [HTZ.out]; omega)]; exact hj) (by rw [HTZ.out]; omega)
      exact cell_later H3.out.2.1 (HT.out ad e j (by omega))
    case r4 => exact ints_oneCell _ _
    case r5 => omega
    intro w4 hown4 hgrow4
    have O4 : w4.ownsRow (w.heap.size + 1) 5 1 (.slice (some ⟨w.heap.size + 1, 0, none⟩) (33 + nv + lt) (33 + nv + lt)) (33 + nv + lt) (kc.toList ++ [.int .u8 nv] ++ (vz.take nv).map (Value.int .u8) ++ tz.map (Value.int .u8)) := by simpa using hown4
    have B4 : Below w.heap.size w w4 := H3.out.2.1.grown hgrow4 H3.out.2.1.size (fun k h => by cases h; omega)
    have K4 : ∀ j u, kc.toList[j]? = some u → w4.cell? ((⟨w.heap.size, 0, none⟩ : Addr).add j) = some u := by
      intro j u hj
      exact hgrow4.cell (H3.out.2.2 j u hj) (by rw [Addr.add_mid]; intro e; injection e with e; simp at e)
    have H4 : Hid (_ ∧ _ ∧ _) := ⟨O4, B4, K4⟩
    clear O4 B4 K4 hown4 hgrow4 H3
    obtain ⟨f, hf⟩ : ∃ f : Nat → Int, f = fun j => (kz ++ [(nv : Int)] ++ vz.take nv ++ tz).getD j 0 := ⟨_, rfl⟩
    have F := row_facts kz (vz.take nv) tz HK.out nv (by simp [HVZ.out]; omega) lt HTZ.out
    rw [← hf] at F
    have C4 : Hid (∀ j, j < 33 + nv + lt → w4.cell? ⟨w.heap.size + 1, 0 + j, none⟩ = some (.int .u8 (f j))) := by
      intro j hj
      rw [Nat.zero_add]
      have hx := own_cells H4.out.1 j
      refine hx _ ?_
      rw [HKC.out, hf]
      exact row_get kz (vz.take nv) tz HK.out nv (by simp [HVZ.out]; omega) lt HTZ.out j hj
    have HF : Hid (_ ∧ _ ∧ _ ∧ _) := F
    have hlt5 := H4.out.2.1.size
    clear F hf
    go_wp2_with fail
    refine Calls.mono (read_good (w.heap.size + 1) 0 (33 + nv + lt) (33 + nv + lt) nv (Nat.le_refl _) (by omega) (by unfold maxLen; omega) hnv (by omega) f HF.out.1 w4 C4.out) ?_
    rintro e w5 ⟨ro, rc, rfl, hro, g, cp, hb5, hkey, hval, hvs⟩
    obtain ⟨ks, hks⟩ : ∃ ks : List Value, ks = kz.map (Value.int .u8) := ⟨_, rfl⟩
    have L26 : ks.length = 32 := by rw [hks]; simpa using HK.out
    have T5 : Hid (Below w.heap.size w w5 ∧ w5.rangeAt w4.heap.size 0 ks ∧ w5.rangeAt w.heap.size 0 ks ∧ (∀ v ∈ ks, v.oneCell' = true) ∧ (∀ w', (binOp .neq 26 (.agg ks.toArray) (.agg ks.toArray)).run Yba.prog w' = .ok (.bool false) w') ∧
        (∀ j, j < nv → w5.cell? ⟨g, 0 + j, none⟩ = some (.int .u8 (vz.getD j 0))) ∧ (0 < lt → ro = ⟨w.heap.size + 1, 0 + 33 + nv, none⟩) ∧ (∀ j, j < lt → w5.cell? ⟨w.heap.size + 1, 0 + 33 + nv + j, none⟩ = some (.int .u8 (tz.getD j 0)))) := by
      refine ⟨H4.out.2.1.trans (hb5.mono hlt5), ?_, ?_, ?_, ?_, ?_, ?_, ?_⟩
      · intro j v hj
        rw [hks] at hj
        obtain ⟨hj1, rfl⟩ := taken (n := 32) (by rw [List.take_of_length_le (by rw [HK.out]; omega)]; exact hj) (by rw [HK.out]; omega)
        rw [← HF.out.2.1 j hj1]
        exact hkey j _ (by rw [bytesAt_get f 0 32 j hj1, Nat.zero_add])
      · intro j v hj
        have := H4.out.2.2 j v (by rw [HKC.out, ← hks]; exact hj)
        rw [Addr.add_mid] at this
        exact cell_later hb5 this
      · rw [hks]; exact ints_oneCell _ _
      · intro w'; rw [hks]; exact neq26 kz HK.out w'
      · intro j hj
        have e := HF.out.2.2.1 j hj
        have e2 : (vz.take nv).getD j 0 = vz.getD j 0 := by simp [hj]
        rw [Nat.zero_add, ← e2, ← e]
        exact hvs j _ (bytesAt_get f 33 nv j hj)
      · intro h; exact hro (by omega)
      · intro j hj
        have e := HF.out.2.2.2 j
        have c := cell_later hb5 (C4.out (33 + nv + j) (by omega))
        rw [e, show 0 + (33 + nv + j) = 0 + 33 + nv + j by omega] at c
        exact c
    have R5 : Hid (∀ j, j < 33 + nv + lt → w5.cell? ⟨w.heap.size + 1, 0 + j, none⟩ = some (.int .u8 (f j))) := fun j hj => cell_later hb5 (C4.out j hj)
    clear hro hb5 hkey hvs C4 hks
    have r4 := T5.out.2.2.2.2.1
    go_wp2
    refine wp_region_quiet_lit (by kernel_rfl) (by kernel_rfl) ?_
    go_big_quiet_step (fail)
    go_big_quiet_step (fail)
    go_big_quiet_step (fail)
    refine BigFrame.wpQuiet_want rfl (fun K hK => quiet_load26 (.tmp 62) rfl w4.heap.size 0 rfl ks L26 ?_ (hK _ ?_))
    · rintro w' ⟨q, rfl⟩; exact T5.out.2.1
    clear hK K
    refine BigFrame.wpQuiet_want rfl (fun K hK => quiet_load26 (.tmp 4) rfl w.heap.size 0 rfl ks L26 ?_ (hK _ ?_))
    · rintro w' ⟨q, rfl⟩; exact T5.out.2.2.1
    clear hK K
    simp only [Act.put, List.setIfInBounds_toArray, List.set_cons_zero, List.set_cons_succ]
    go_big_quiet_step (fail)
    refine wpQuiet_nil ?_
    intro w6 hw6
    obtain ⟨q6, hw6'⟩ := hw6
    subst hw6'
    go_wp2_with fail
    refine Calls.mono (same_any (some ⟨g, 0, none⟩) va nv cp cv (by omega) (fun j => vz.getD j 0) _ (fun _ => ⟨_, rfl, fun j hj => by rw [Addr.add_mid]; exact T5.out.2.2.2.2.2.1 j hj⟩) ?_) ?_
    · intro h0
      cases hva : va with
      | none => have := HVN.out hva; omega
      | some y => exact ⟨y, rfl, fun j hj => cell_later (below_drewN T5.out.1 _) (HV.out y hva j (by omega))⟩
    rintro e w7 ⟨rfl, q7, rfl⟩
    go_wp2_with fail
    refine Calls.mono (same_eq (some ro) ta (33 + nv + lt - 33 - nv) lt rc ct (by omega) (by omega) (fun j => tz.getD j 0) _ (fun h0 => ⟨_, rfl, fun j hj => by rw [T5.out.2.2.2.2.2.2.1 (by omega), Addr.add_mid]; exact T5.out.2.2.2.2.2.2.2 j (by omega)⟩) ?_) ?_
    · intro h0
      cases hta : ta with
      | none => have := HTN.out hta; omega
      | some y => exact ⟨y, rfl, fun j hj => cell_later (below_drewN T5.out.1 _) (HT.out y hta j (by omega))⟩
    rintro e w8 ⟨rfl, q8, rfl⟩
    have hm0 : (0 : Int) < 33 + (nv : Int) := by omega
    have hm1 : (0 : Int) ≤ (cut : Int) % (33 + (nv : Int)) := Int.emod_nonneg _ (by omega)
    have hm2 : (cut : Int) % (33 + (nv : Int)) ≤ 33 + (nv : Int) + (lt : Int) := by have := Int.emod_lt_of_pos (cut : Int) hm0; omega
    have hm3 : cut % (33 + nv) < 33 + nv := Nat.mod_lt _ (by omega)
    have q22 := nil22
    go_wp2_with fail
    by_cases hc : cut % (33 + nv) < 33
    · refine Calls.mono (read_short _ _ _ hc _) ?_
      rintro e w9 ⟨rfl, rfl⟩
      go_wp2
      go_ret
      exact ⟨rfl, below_drewN T5.out.1 _⟩
    · refine Calls.mono (read_long (w.heap.size + 1) 0 (cut % (33 + nv)) (33 + nv + lt) nv (by omega) (by omega) (by omega) (by unfold maxLen; omega) hnv hm3 (bytesAt f 0 32) (bytesAt_length _ _ _) _ ?_ ?_) ?_
      · intro j v hj
        obtain ⟨hj1, rfl⟩ := bytesAt_of hj
        rw [Nat.zero_add j]
        have := R5.out j (by omega)
        rwa [Nat.zero_add] at this
      · have := R5.out 32 (by omega)
        rw [HF.out.1] at this
        exact this
      rintro e w9 ⟨rfl, hb9⟩
      have HB9 : Hid (Below w.heap.size w w9) := (below_drewN T5.out.1 _).trans (hb9.mono (by have := T5.out.1.size; simp; omega))
      clear hb9
      go_wp2
      go_ret
      exact ⟨rfl, HB9.out⟩

set_option maxRecDepth 20000 in
set_option maxHeartbeats 400000 in
theorem trip_big (kc : Array Value) (va ta : Option Addr) (lv cv lt ct : Nat) (cut : Nat) (hlt : 1024 < lt) (hlm : lt ≤ maxLen) (w : World) :
    Calls Yba.prog 4 #[.agg kc, .slice va lv cv, .slice ta lt ct, .int .u16 cut] w fun e w' => e = .returned (.bool true) ∧ Below w.heap.size w w' := by
  unfold maxLen at hlm
  go_enter Yba.func4, Yba.ntmps4
  go_wp2
  go_ret
  exact ⟨rfl, (Below.refl _ _).alloc (Nat.le_refl _) _⟩

end Go.Proofs.Ybulkzqa
