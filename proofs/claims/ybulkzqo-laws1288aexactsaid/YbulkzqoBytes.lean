import Derived.Test.YbulkzqoRows
import Derived.Test.YbulkzqoPlain
import Derived.WalkKit
import Derived.WalkSpells
import Derived.WalkLawsBesides
import Derived.Maps.RangeWalk
namespace Go.Proofs.Ybulkzqo
open Go.RowKit
open Go.Maps (Keyed)

theorem law9 : Keyed Yba.prog 9 := Maps.string_keyed Yba.underlying9

/-- an element of the batch, read as the length of its value -/
def lenElem : Value → Option (DataW Unit × List MemPlace)
  | .agg ⟨[.slice _ n _, .int .i64 _, .bool _]⟩ => some (.lit (.int .i64 n), [])
  | _ => none

theorem lenElem_mk (a : Option Addr) (n c : Nat) (z : Int) (d : Bool) : lenElem (.agg #[.slice a n c, .int .i64 z, .bool d]) = some (.lit (.int .i64 n), []) := rfl

theorem lenElem_inv {v : Value} {y : DataW Unit × List MemPlace} (h : lenElem v = some y) : ∃ (a : Option Addr) (n c : Nat) (z : Int) (d : Bool), v = .agg #[.slice a n c, .int .i64 z, .bool d] ∧ y = (.lit (.int .i64 n), []) := by
  unfold lenElem at h
  split at h
  · cases h; exact ⟨_, _, _, _, _, rfl, rfl⟩
  · cases h

set_option maxHeartbeats 400000 in
theorem held_any (s : ByteArray) (a : Option Addr) (n c : Nat) (w : World) :
    Calls Yba.prog 5 #[.string s, .slice a n c] w fun e w' => e = .returned (.int .i64 (wt s.size n)) ∧ w' = w := by
  go_enter Yba.func5, Yba.ntmps5
  go_wp2
  go_ret
  exact ⟨rfl, rfl⟩

set_option maxHeartbeats 400000 in
theorem bytes_nil (w : World) :
    Calls Yba.prog 4 #[.map none] w fun e w' => e = .returned (.int .i64 0) ∧ w' = w.alloc (.mapIter none 0 #[] 0) := by
  have hrg := run_range_nilMap (P := Yba.prog) w 26 9 30 Yba.underlying26
  have hnx : ∀ ty, (Instr.next (.pointer (some ⟨w.heap.size, 0, none⟩)) false ty).run Yba.prog (w.alloc (.mapIter none 0 #[] 0)) = _ := fun ty => run_next_nilMap w ty 0 0 #[]
  go_enter Yba.func4, Yba.ntmps4
  go_wp2
  refine wp_loop_rounds 1 ?_
  rw [rounds_succ]
  go_wp2
  go_ret
  exact ⟨rfl, rfl⟩

theorem key_inv {key : Value} {kl : Lit} (h : keyOf Yba.prog 9 key = some kl) : ∃ s : ByteArray, key = .string s ∧ kl = .string s.data.toList := by
  cases key <;> simp [keyOf, Yba.underlying9, mapKey] at h
  exact ⟨_, rfl, h.2.symm⟩

theorem acc_step (T L L' v : Int) (h : L = L' + v) : wrap64 (wrap64 (T - L) + v) = wrap64 (T - L') := by
  rw [wrap_add]
  congr 1
  omega

/-- an element's parts -/
structure Held where
  a : Option Addr
  n : Nat
  c : Nat
  z : Int
  d : Bool
def Held.val (h : Held) : Value := .agg #[.slice h.a h.n h.c, .int .i64 h.z, .bool h.d]

/-- a step of the range over the batch -/
theorem wpList_next_held (w : World) {ops : Array Oper} {rest : List Oper} {o : Oper} {a : Act} {Q : Exit → Act → World → Prop} (hg : o.guard = none) (it : Operand) (hop : o.op = Op.next it false)
    (b r n : Nat) (D : DataW Unit) (left : Lit → Bool) (cnt : Nat) (hit : a.eval it = .pointer (some ⟨r, 0, none⟩)) (h : w.ranges Yba.prog 9 lenElem b r n D left cnt)
    (hDone : cnt = 0 → (∀ kl, left kl = false) → wpList Yba.prog ops Q rest (a.put o.dst (.tuple #[.bool false])) w)
    (hMore : ∀ (s : ByteArray) (x : Held) (w' : World) (cnt' : Nat), left (.string s.data.toList) = true → (∀ zd, D.atKey (.string s.data.toList) zd = .lit (.int .i64 x.n)) → w'.ranges Yba.prog 9 lenElem b r n D (fun z => left z && !z.sameKey (.string s.data.toList)) cnt' → cnt' < cnt →
      w.grownBy w' (some r) → w'.heap.size = w.heap.size → (Instr.entry (.pointer (some ⟨r, 0, none⟩))).run Yba.prog w' = .ok (.tuple #[.string s, .agg #[.slice x.a x.n x.c, .int .i64 x.z, .bool x.d]]) w' →
      wpList Yba.prog ops Q rest (a.put o.dst (.tuple #[.bool true, .string s, .agg #[.slice x.a x.n x.c, .int .i64 x.z, .bool x.d]])) w') :
    wpList Yba.prog ops Q (o :: rest) a w :=
  wpList_next_ranges w hg it hop 9 law9 lenElem Value.string Held.val (fun key kl h => by obtain ⟨s, rfl, _⟩ := key_inv h; exact ⟨s, rfl⟩)
    (fun v y h => by obtain ⟨a, m, c, z, d, rfl, _⟩ := lenElem_inv h; exact ⟨⟨a, m, c, z, d⟩, rfl⟩) b r n D left cnt hit h hDone
    (fun s x kl y w' cnt' hkey hlk hR hat hrg hlt hgr hsz hen => by
      obtain ⟨s', hs', rfl⟩ := key_inv hkey
      cases hs'
      have hy : y = (.lit (.int .i64 x.n), []) := (Option.some.inj ((lenElem_mk x.a x.n x.c x.z x.d).symm.trans hR)).symm
      subst hy
      exact hMore s x w' cnt' hlk hat hrg hlt hgr hsz hen)

theorem wrap_zero : wrap64 0 = 0 := by unfold wrap64; omega

set_option maxRecDepth 100000 in
set_option maxHeartbeats 1000000 in
theorem bytes_any (b n : Nat) (D : DataW Unit) (w : World) (hown : w.ownsMap Yba.prog 9 lenElem b n D) :
    Calls Yba.prog 4 #[.map (some b)] w fun e w' => e = .returned (.int .i64 (wrap64 (tot (Maps.has D) D))) ∧ Below w.heap.size w w' := by
  obtain ⟨es, hD, hpw, _⟩ := hown.entries law9
  have HD : Hid (D = .map es) := hD
  clear hD
  have hbl := hown.lt
  go_enter Yba.func4, Yba.ntmps4
  go_wp2_with (first
    | (at_range; refine wpList_range_own _ rfl _ 26 rfl 9 30 law9 Yba.underlying26 _ b n _ rfl hown ?_; intro w0 hrg0 hg0 hs0)
    | go_in)
  go_frame
  go_loopw [3] (fun acc wr => ∃ (left : Lit → Bool) (cnt : Nat), wr.ranges Yba.prog 9 lenElem b w.heap.size n D left cnt ∧ acc = .int .i64 (wrap64 (tot (Maps.has D) D - tot left D)) ∧ Below w.heap.size w wr)
    (fun _ wr => wr.rangeLeft b w.heap.size)
  case atStart =>
    refine ⟨_, _, hrg0, ?_, (Below.refl _ _).grown hg0 (Nat.le_refl _) (fun j hj => by cases hj)⟩
    rw [Int.sub_self, wrap_zero]
  case round =>
    obtain ⟨left, cnt, hrg, rfl, hbel⟩ := hrel
    go_wp2_with (first
      | (at_next; refine wpList_next_held _ rfl _ rfl b w.heap.size n _ _ _ rfl hrg ?_ ?_)
      | go_in)
    · intro hc0 hl0
      have e0 := tot_none left D hl0
      have E0 : Hid (tot left D = 0) := e0
      clear e0
      go_wp2
      go_ret
      refine ⟨?_, hbel⟩
      show Ending.returned (.int .i64 (wrap64 (tot (Maps.has D) D - tot left D))) = _
      rw [E0.out, Int.sub_zero]
    · intro s x w1 cnt1 hlk hat hrg1 hlt hg1 hs1 hen
      obtain ⟨a, m, c, z, d⟩ := x
      have HST : Hid (tot left D = tot (fun z => left z && !z.sameKey (.string s.data.toList)) D + wt s.size m) := by
        have := tot_step (.string s.data.toList) (.lit (.int .i64 m)) left hlk es hpw (by rw [← HD.out]; exact hat)
        rw [← HD.out] at this
        rw [this]
        show _ = _ + wt s.data.toList.length m
        congr 2
      have HG : Hid (wr.grownBy w1 (some w.heap.size)) := hg1
      have HRG : Hid (w1.ranges Yba.prog 9 lenElem b w.heap.size n D (fun z => left z && !z.sameKey (.string s.data.toList)) cnt1) := hrg1
      have HLT : Hid (cnt1 < cnt) := hlt
      clear hlk hat hrg1 hlt hg1 hs1
      go_wp2_with (go_at_call 5; refine (held_any _ _ _ _ _).mono ?_; rintro e w' ⟨rfl, rfl⟩)
      have hrg2 := HRG.out.alloc (.cells #[.slice a m c, .int .i64 z, .bool d] 30)
      go_roundw
      case rel =>
        refine ⟨_, cnt1, hrg2, ?_, ?_⟩
        · rw [← acc_step _ _ _ _ HST.out]
        · exact (hbel.grown HG.out hbel.size (fun j hj => by cases hj; exact Nat.le_refl _)).alloc (by have := HG.out.size; have := hbel.size; omega) _
      case measure => rw [hrg2.left_eq, hrg.left_eq]; exact HLT.out

theorem tot_all {b n : Nat} {D : DataW Unit} {w : World} (hown : w.ownsMap Yba.prog 9 lenElem b n D) : tot (Maps.has D) D = tot (fun _ => true) D := by
  obtain ⟨es, rfl, _, hk⟩ := hown.entries law9
  simp only [tot]
  apply sumOn_congr
  intro p hp
  have : Maps.has (DataW.map es) p.1 = true := List.any_eq_true.2 ⟨p, hp, WideAt.sameKey_self (hk p hp)⟩
  simp [this]

theorem bytes_map (b n : Nat) (l : List (List UInt8 × Nat)) (w : World) (hown : w.ownsMap Yba.prog 9 lenElem b n (mapOf l)) :
    Calls Yba.prog 4 #[.map (some b)] w fun e w' => e = .returned (.int .i64 (wrap64 (gsum (fun _ => true) l))) ∧ Below w.heap.size w w' := by
  refine (bytes_any b n (mapOf l) w hown).mono ?_
  rintro e w' ⟨rfl, hb⟩
  exact ⟨by rw [tot_all hown, tot_mapOf], hb⟩

end Go.Proofs.Ybulkzqo
