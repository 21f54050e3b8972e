import Derived.Test.YbulkzqaTrip
import Derived.ProofKit
import Derived.OpenShut
import Derived.ShutString
import Derived.ChangeOld
import Derived.Below
namespace Go.Proofs.Ybulkzqa.lawS1287CRoundTrip
open Go.ChangeShapes Go.WideShapes Go.ChangeAt Go.RowKit

theorem own : ownKnob Yba.prog.godebug = none := by kernel_rfl
theorem laidOut : laidOutB Yba.prog = true := by kernel_rfl
theorem cells26 : Yba.prog.cellsOf 26 = 32 := by kernel_rfl
theorem cells5 : Yba.prog.cellsOf 5 = 1 := by kernel_rfl

/-- WHAT THE WALK IS TOLD OF A SLICE OF INTEGERS THAT CAME IN: it is nil; or it leads to a row of 'cap' cells, the numbers 'zs' (the first 'len' are its elements, the rest its spare room), each fitting its kind. -/
def IsRow (k : IntKind) (w : World) (a : Option Addr) (len cap : Nat) (zs : List Int) : Prop :=
  (a = none ∧ len = 0 ∧ cap = 0 ∧ zs = []) ∨
  ∃ x, a = some x ∧ len ≤ cap ∧ cap ≤ maxLen ∧ zs.length = cap ∧ (∀ i, i < zs.length → w.cell? (x.add i) = some (.int k (zs.getD i 0))) ∧ ∀ n ∈ zs, (Lit.int k n).wf = true


/-- a key, opened: 32 bytes -/
theorem open_key {H : Type} {enc : TypeId × Value → H} {W : World} {base : Nat} {spare : Nat → Bool} {held : Bool} {cs : Array Value} {d : DataW H} {ps : List MemPlace} (hs : cs.size = 32)
    (h : DataW.Trod enc Yba.prog W base spare held 26 (.agg cs) d ps) : ∃ kz : List Int, kz.length = 32 ∧ cs = (kz.map (Value.int .u8)).toArray := by
  obtain ⟨fuel, hf⟩ := h
  obtain ⟨xs, m, _, _, _, hlen, hall⟩ := DataW.trod_array Yba.underlying26 hf
  rw [cells5] at hall
  have hcell : ∀ i, i < 32 → ∃ z : Int, cs[i]? = some (.int .u8 z) := by
    intro i hi
    have h1 := hall i hi
    have hx : ∃ y, xs[i]? = some y := ⟨xs[i]'(by omega), List.getElem?_eq_getElem (by omega)⟩
    obtain ⟨y, hy⟩ := hx
    rw [hy] at h1
    obtain ⟨z, e1, _, _⟩ := DataW.trod_int Yba.underlying5 h1
    refine ⟨z, ?_⟩
    have e2 : (cs.toList.drop i).take 1 = [Value.int .u8 z] := by simpa [Value.cells] using e1
    have e3 : ((cs.toList.drop i).take 1)[0]? = some (Value.int .u8 z) := by rw [e2]; rfl
    simpa using e3
  refine ⟨cs.toList.map (fun v => match v with | .int _ z => z | _ => 0), by simp [hs], ?_⟩
  apply Array.ext
  · simp
  · intro i h1 h2
    obtain ⟨z, hz⟩ := hcell i (by omega)
    have hz' : cs[i] = .int .u8 z := by
      have := Array.getElem?_eq_some_iff.1 hz
      exact this.2
    simp [hz']

theorem walk (kz : List Int) (hk : kz.length = 32) (a1 a2 : Option Addr) (len1 cap1 len2 cap2 : Nat) (z1 z2 : List Int) (a3 : Int) (w : World) (w1 : IsRow .u8 w a1 len1 cap1 z1) (w2 : IsRow .u8 w a2 len2 cap2 z2) (w3 : (Lit.int .u16 a3).wf = true) :
    Calls Yba.prog 4 #[.agg (kz.map (Value.int .u8)).toArray, .slice a1 len1 cap1, .slice a2 len2 cap2, .int .u16 a3] w fun e w' => e = .returned (.bool true) ∧ Below w.heap.size w w' := by
  have b3 := bounds_u16 w3
  obtain ⟨cut, rfl⟩ := Int.eq_ofNat_of_zero_le b3.1
  have hm1 : len1 ≤ cap1 ∧ cap1 ≤ maxLen := by
    rcases w1 with ⟨_, rfl, rfl, _⟩ | ⟨x, _, hl, hm, _⟩
    · exact ⟨Nat.le_refl _, Nat.zero_le _⟩
    · exact ⟨hl, hm⟩
  have hm2 : len2 ≤ cap2 ∧ cap2 ≤ maxLen := by
    rcases w2 with ⟨_, rfl, rfl, _⟩ | ⟨x, _, hl, hm, _⟩
    · exact ⟨Nat.le_refl _, Nat.zero_le _⟩
    · exact ⟨hl, hm⟩
  by_cases h : 1024 < len2
  · exact trip_big _ a1 a2 len1 cap1 len2 cap2 cut h (Nat.le_trans hm2.1 hm2.2) w
  · refine trip_small kz hk a1 a2 len1 cap1 len2 cap2 cut (by omega) (z1.take len1) (z2.take len2) w (Nat.le_trans hm1.1 hm1.2) hm1.1 hm1.2 (by omega) ?_ ?_ ?_ ?_ ?_ ?_
    · rcases w1 with ⟨_, rfl, rfl, rfl⟩ | ⟨x, _, hl, hm, hz, _⟩
      · rfl
      · simp; omega
    · rcases w2 with ⟨_, rfl, rfl, rfl⟩ | ⟨x, _, hl, hm, hz, _⟩
      · rfl
      · simp; omega
    · rcases w1 with ⟨_, h1, h2, _⟩ | ⟨x, rfl, _⟩
      · exact fun _ => ⟨h1, h2⟩
      · intro e; cases e
    · rcases w2 with ⟨_, h1, h2, _⟩ | ⟨x, rfl, _⟩
      · exact fun _ => ⟨h1, h2⟩
      · intro e; cases e
    · rcases w1 with ⟨rfl, _⟩ | ⟨x, rfl, hl, hm, hz, hc, _⟩
      · intro x e; cases e
      · intro y e j hj
        cases e
        rw [hc j (by omega)]
        simp [hj]
    · rcases w2 with ⟨rfl, _⟩ | ⟨x, rfl, hl, hm, hz, hc, _⟩
      · intro x e; cases e
      · intro y e j hj
        cases e
        rw [hc j (by omega)]
        simp [hj]

theorem row_of {H : Type} {enc : TypeId × Value → H} {W : World} {base : Nat} {spare : Nat → Bool} {held : Bool} {a : Option Addr} {len cap : Nat} {d : DataW H} {ps : List MemPlace}
    (h : DataW.Trod enc Yba.prog W base spare held 22 (.slice a len cap) d ps) (hs : spare = fun _ => true) : ∃ zs, IsRow .u8 W a len cap zs := by
  subst hs
  obtain ⟨fuel, hf⟩ := h
  rcases open_ints Yba.underlying22 Yba.underlying5 (by kernel_rfl) hf with ⟨hcs, _⟩ | ⟨x, l, c, zs, hcs, _, hl, hm, hz, _, hcell, hwz⟩
  · simp [Value.cells] at hcs
    obtain ⟨rfl, rfl, rfl⟩ := hcs
    exact ⟨[], .inl ⟨rfl, rfl, rfl, rfl⟩⟩
  · simp [Value.cells] at hcs
    obtain ⟨rfl, rfl, rfl⟩ := hcs
    exact ⟨zs, .inr ⟨_, rfl, hl, hm, by simpa using hz, hcell, hwz⟩⟩

set_option maxRecDepth 100000 in
theorem lifted (os : Os) (started : os.Started) (H : Type) (enc : TypeId × Value → H) :
    ReturnsInHanded {} Yba.checked os 4 .any (Rows.lawS1287CRoundTripSpec.pre6 enc Yba.prog Yba.f4 Rows.lawS1287CRoundTripRow.domain false) (Rows.lawS1287CRoundTripSpec.post enc Yba.prog Yba.f4 false true false false) := by
  refine returnsInHanded_of_change (C := Yba.checked) own started (by kernel_rfl) Yba.func4
    (ChangeSpec.witness6 (enc := enc) (C := Yba.checked) false ⟨#[], #[.agg (Array.replicate 32 (.int .u8 0)), .slice none 0 0, .slice none 0 0, .int .u16 0], []⟩ 8 (by kernel_rfl) (by kernel_rfl) (by kernel_rfl) (by kernel_rfl)) ?_
  intro W base args ds gs before hval0 hW hcnd _
  have hval : ∀ (j : Nat) t v, Yba.f4.params[j]? = some t → args[j]? = some v → Value.okWide Yba.prog W .any base t v := hval0
  have hW' := hW
  obtain ⟨p, q, hA0, hV, rfl, hfz, hnd⟩ := hW
  have hA : DataW.TrodAll enc Yba.prog W 0 (fun _ => true) true Yba.f4.params.toList args.toList ds p := hA0
  rw [Yba.params4] at hA hval
  obtain ⟨v0, vs0, d0, ds0, p0, q0, hargs, rfl, rfl, h0, r0⟩ := trodAll_cons hA
  obtain ⟨v1, vs1, d1, ds1, p1, q1, rfl, rfl, rfl, h1, r1⟩ := trodAll_cons r0
  obtain ⟨v2, vs2, d2, ds2, p2, q2, rfl, rfl, rfl, h2, r2⟩ := trodAll_cons r1
  obtain ⟨v3, vs3, d3, ds3, p3, q3, rfl, rfl, rfl, h3, r3⟩ := trodAll_cons r2
  obtain ⟨rfl, rfl, rfl⟩ := trodAll_nil r3
  obtain rfl : args = #[v0, v1, v2, v3] := by cases args; simp_all
  obtain ⟨rfl, rfl⟩ := trodVars_none hV
  obtain ⟨cs, rfl, hsz, _⟩ : ∃ cs, v0 = .agg cs ∧ cs.size = Yba.prog.cellsOf 26 ∧ Row.okWide Yba.prog W .any base 26 cs := by
    have := hval 0 26 v0 rfl rfl
    simpa [Value.okWide, Yba.underlying26] using this
  obtain ⟨a1, len1, cap1, rfl⟩ := okWide_slice Yba.underlying22 (hval 1 22 v1 rfl rfl)
  obtain ⟨a2, len2, cap2, rfl⟩ := okWide_slice Yba.underlying22 (hval 2 22 v2 rfl rfl)
  obtain ⟨a3, rfl, rfl, rfl, w3⟩ := open_int Yba.underlying31 (hval 3 31 v3 rfl rfl) h3
  obtain ⟨kz, hk, rfl⟩ := open_key (by rw [hsz, cells26]) h0
  obtain ⟨z1, w1⟩ := row_of h1 rfl
  obtain ⟨z2, w2⟩ := row_of h2 rfl
  have lt0 : ∀ x ∈ p0, x.block < W.heap.size := by obtain ⟨m, hm⟩ := h0; exact DataW.trod_lt m _ _ _ hm
  have lt1 : ∀ x ∈ p1, x.block < W.heap.size := by obtain ⟨m, hm⟩ := h1; exact DataW.trod_lt m _ _ _ hm
  have lt2 : ∀ x ∈ p2, x.block < W.heap.size := by obtain ⟨m, hm⟩ := h2; exact DataW.trod_lt m _ _ _ hm
  clear hA0 hval0
  refine (walk kz hk a1 a2 len1 cap1 len2 cap2 z1 z2 a3 W w1 w2 w3).mono fun e W' ⟨he, bel⟩ => ?_
  subst he
  exact ⟨_, rfl, _, _, _, [], _, [], hW', trodAll_mk1 (shut_bool Yba.underlying4 _), (trodAll_cons_mk (Below.trod laidOut (by kernel_rfl) (of_decide_eq_true (by kernel_rfl)) h0 bel lt0) (trodAll_cons_mk (Below.trod laidOut (by kernel_rfl) (of_decide_eq_true (by kernel_rfl)) h1 bel lt1) (trodAll_cons_mk (Below.trod laidOut (by kernel_rfl) (of_decide_eq_true (by kernel_rfl)) h2 bel lt2) (trodAll_cons_mk (shut_int Yba.underlying31 w3) trodAll_mk0)))), rfl, bel.frame _, fun h => by cases h⟩

theorem over : Rows.lawS1287CRoundTripRow.holds Yba.pinned (OpenSpec.ofChange Rows.lawS1287CRoundTripSpec) :=
  OpenClaim.holds_of_wide 4 Yba.f4 rfl rfl rfl rfl rfl rfl rfl ⟨rfl, rfl, rfl, rfl, rfl⟩ rfl rfl rfl rfl rfl (by kernel_rfl) Yba.func4 (by kernel_rfl)
    (of_decide_eq_true (by kernel_rfl)) (by unfold Func.isWrapper; first | (rw [if_pos (by decide +kernel)]; kernel_rfl) | (rw [if_neg (by decide +kernel)]; exact ⟨rfl, rfl⟩))
    (fun os started H enc _ => lifted os started H enc)

theorem proved : Rows.LawS1287CRoundTripSaid := over
end Go.Proofs.Ybulkzqa.lawS1287CRoundTrip
