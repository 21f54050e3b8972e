import Derived.Test.YbulkzqaSmall
import Derived.Deep.MidRow
import Derived.Laws.Cover3
namespace Go.Proofs.Ybulkzqa
open Go.RowKit

set_option maxHeartbeats 400000 in
theorem read_short (ao : Option Addr) (len cap : Nat) (hl : len < 33) (w : World) :
    Calls Yba.prog 5 #[.slice ao len cap] w fun e w' => e = .returned (.tuple #[.pointer none, .slice none 0 0, .bool false]) ∧ w' = w := by
  go_enter Yba.func5, Yba.ntmps5
  go_wp2
  go_ret3
  exact ⟨rfl, rfl⟩

/-- a Leaf's cells: the key's 32, then the value's slice -/
def leafCells (ks : List Value) (v : Value) : Array Value := (ks ++ [v]).toArray

theorem build28 (ks : List Value) (h : ks.length = 32) (w : World) : (Instr.build 28 #[(0, .agg ks.toArray)]).run Yba.prog w = .ok (.agg (leafCells ks (.slice none 0 0))) w :=
  match ks, h with
  | [x0, x1, x2, x3, x4, x5, x6, x7, x8, x9, x10, x11, x12, x13, x14, x15, x16, x17, x18, x19, x20, x21, x22, x23, x24, x25, x26, x27, x28, x29, x30, x31], _ => by kernel_rfl

theorem leaf_at (ks : List Value) (h : ks.length = 32) (v : Value) : (leafCells ks v)[32]? = some v := by simp [leafCells, h]
theorem leaf_key (ks : List Value) (h : ks.length = 32) (v : Value) (j : Nat) (hj : j < 32) : (leafCells ks v)[j]? = ks[j]? := by
  simp [leafCells, List.getElem?_append, h, hj]

theorem load26 (b o : Nat) (ks : List Value) (h : ks.length = 32) (w : World) (hc : ∀ j v, ks[j]? = some v → w.cell? ⟨b, o + j, none⟩ = some v) :
    (Instr.loadAt 26 (.pointer (some ⟨b, o, none⟩))).run Yba.prog w = .ok (.agg ks.toArray) w :=
  run_loadAt_mid w b o 26 ks _ hc Yba.underlying26 rfl (by rw [h]; kernel_rfl)

theorem arr26 (a : Option Addr) (cap : Nat) (w : World) : (Instr.arrayAt 26 (.slice a 32 cap)).run Yba.prog w = .ok (.pointer a) w :=
  run_arrayAt w 26 5 32 a 32 cap Yba.underlying26 (Nat.le_refl _)

theorem wpList_build28 {ops : Array Oper} {rest : List Oper} {o : Oper} {a : Act} {w : World} {Q : Exit → Act → World → Prop} (hg : o.guard = none) (x : Operand) (hop : o.op = .build 28 #[(0, x)]) (ks : List Value) (hk : ks.length = 32) (hx : a.eval x = .agg ks.toArray)
    (hK : wpList Yba.prog ops Q rest (a.put o.dst (.agg (leafCells ks (.slice none 0 0)))) w) : wpList Yba.prog ops Q (o :: rest) a w := by
  refine wpList_plain hg fun K hK' => ?_
  have hrun := build28 ks hk w
  unfold Oper.wp
  simp [execOp, hop, hx, hrun, Result.andThen]
  exact hK' _ _ hK

set_option maxHeartbeats 400000 in
theorem read_long (b off len cap n : Nat) (hl : 33 ≤ len) (hlc : len ≤ cap) (hlm : len ≤ 2000) (hcm : cap ≤ maxLen) (hn : n ≤ 255) (hbig : len < 33 + n) (ks : List Value) (hk : ks.length = 32) (w : World)
    (hks : ∀ j v, ks[j]? = some v → w.cell? ⟨b, off + j, none⟩ = some v) (h32 : w.cell? ⟨b, off + 32, none⟩ = some (.int .u8 n)) :
    Calls Yba.prog 5 #[.slice (some ⟨b, off, none⟩) len cap] w fun e w' => e = .returned (.tuple #[.pointer none, .slice none 0 0, .bool false]) ∧ Below w.heap.size w w' := by
  unfold maxLen at hcm
  have hb := World.block_lt_of_cell? _ _ h32
  have l2 := arr26
  have HK : Hid (w.rangeAt b off ks) := hks
  have h26 : (Yba.prog.info? 26).map (·.size) = some ks.length := by rw [hk]; kernel_rfl
  have H26 : Hid ((Yba.prog.info? 26).map (·.size) = some ks.length) := h26
  have HL : Hid (ks.length = 32) := hk
  clear hks h26 hk
  go_enter Yba.func5, Yba.ntmps5
  go_wp2_with (first
    | ((with_reducible refine wpList_load_mid (op := ⟨some 13, .load 26 (.tmp 12), 26, _, _, none⟩) ?_ 26 (.tmp 12) ?_ b off ?_ ks _ ?_ Yba.underlying26 ?_ ?_ ?_); (rfl); (rfl); (rfl); (exact HK.out); (rfl); (exact H26.out); skip)
    | ((with_reducible refine wpList_build28 (o := ⟨some 14, .build 28 #[(0, .tmp 13)], 28, _, _, none⟩) ?_ (.tmp 13) ?_ ks HL.out ?_ ?_); (rfl); (rfl); (rfl); skip))
  all_goals go_ret3
  all_goals exact ⟨rfl, (Below.refl _ _).alloc (Nat.le_refl _) _⟩

/-- what ReadLeaf leaves where it answers: the leaf in block l, its value's row, its rest -/
def ReadOk (w w' : World) (l n : Nat) (ks vs : List Value) : Prop :=
  ∃ g cp : Nat, Below w.heap.size w w' ∧ (∀ j v, ks[j]? = some v → w'.cell? ⟨l, 0 + j, none⟩ = some v) ∧ w'.cell? ⟨l, 32, none⟩ = some (.slice (some ⟨g, 0, none⟩) n cp) ∧ ∀ j v, vs[j]? = some v → w'.cell? ⟨g, j, none⟩ = some v

theorem readOk_mk (w w1 : World) (ks vs : List Value) (hk : ks.length = 32) (n g cp : Nat) (hb : Below (w.alloc (.cells (leafCells ks (.slice none 0 0)) 28)).heap.size (w.alloc (.cells (leafCells ks (.slice none 0 0)) 28)) w1)
    (hg : (w.alloc (.cells (leafCells ks (.slice none 0 0)) 28)).heap.size ≤ g) (hv : ∀ j v, vs[j]? = some v → w1.cell? ⟨g, j, none⟩ = some v) (q : Nat) :
    ReadOk w ((w1.setCell ⟨w.heap.size, 32, none⟩ (.slice (some ⟨g, 0, none⟩) n cp)).drewN q) w.heap.size n ks vs := by
  have hz : w.heap.size < (w.alloc (.cells (leafCells ks (.slice none 0 0)) 28)).heap.size := by simp
  have hcell : ∀ j, w1.cell? ⟨w.heap.size, j, none⟩ = (leafCells ks (.slice none 0 0))[j]? := fun j => by
    rw [hb.cell (by exact hz)]; exact World.cell?_alloc_at _ _ _ _ rfl
  refine ⟨g, cp, below_drewN (Below.setCell (((Below.refl _ w).alloc (Nat.le_refl _) _).trans (hb.mono (by omega))) (by simp) _) q, ?_, ?_, ?_⟩
  · intro j v hj
    have hlt : j < ks.length := (List.getElem?_eq_some_iff.1 hj).1
    show (w1.setCell _ _).cell? _ = _
    rw [World.cell?_setCell_other _ _ _ _ (by intro e; injection e with _ e2; omega), Nat.zero_add, hcell, leaf_key ks hk _ j (by omega)]
    exact hj
  · show (w1.setCell _ _).cell? _ = _
    exact World.cell?_setCell_same _ _ _ ((hcell 32).trans (leaf_at ks hk _))
  · intro j v hj
    show (w1.setCell _ _).cell? _ = _
    rw [World.cell?_setCell_other _ _ _ _ (by intro e; injection e with e1 _; omega)]
    exact hv j v hj

theorem ret_three {p : Value} {a : Addr} {l l' c : Nat} (h : l = l') : Ending.returned (.tuple #[p, .slice (some a) l c, .bool true]) = .returned (.tuple #[p, .slice (some a) l' c, .bool true]) := by rw [h]

set_option maxHeartbeats 1000000 in
theorem read_ok (b off len cap n : Nat) (hl : 33 ≤ len) (hlc : len ≤ cap) (hlm : len ≤ 2000) (hcm : cap ≤ maxLen) (hn : n ≤ 255) (hfit : 33 + n ≤ len) (h33 : 33 < cap) (ks vs : List Value) (hk : ks.length = 32) (hv : vs.length = n) (h1 : ∀ v ∈ vs, v.oneCell' = true) (w : World)
    (hks : ∀ j v, ks[j]? = some v → w.cell? ⟨b, off + j, none⟩ = some v) (h32 : w.cell? ⟨b, off + 32, none⟩ = some (.int .u8 n)) (hvs : ∀ j v, vs[j]? = some v → w.cell? ⟨b, off + 33 + j, none⟩ = some v) :
    Calls Yba.prog 5 #[.slice (some ⟨b, off, none⟩) len cap] w fun e w' => ∃ (ro : Addr) (rc : Nat), e = .returned (.tuple #[.pointer (some ⟨w.heap.size, 0, none⟩), .slice (some ro) (len - 33 - n) rc, .bool true]) ∧
      (33 + n < len → ro = ⟨b, off + 33 + n, none⟩) ∧ ReadOk w w' w.heap.size n ks vs := by
  unfold maxLen at hcm
  have hb := World.block_lt_of_cell? _ _ h32
  have l2 := arr26
  have HK : Hid (w.rangeAt b off ks) := hks
  have h26 : (Yba.prog.info? 26).map (·.size) = some ks.length := by rw [hk]; kernel_rfl
  have H26 : Hid ((Yba.prog.info? 26).map (·.size) = some ks.length) := h26
  have HL : Hid (ks.length = 32) := hk
  have HV : Hid (vs.length = n) := hv
  have HVS : Hid (∀ j v, vs[j]? = some v → w.cell? ⟨b, off + 33 + j, none⟩ = some v) := hvs
  clear hks h26 hk hv hvs
  have hne : ¬ cap = 33 := by omega
  go_enter Yba.func5, Yba.ntmps5
  go_wp2_with (first
    | ((with_reducible refine wpList_load_mid (op := ⟨some 13, .load 26 (.tmp 12), 26, _, _, none⟩) ?_ 26 (.tmp 12) ?_ b off ?_ ks _ ?_ Yba.underlying26 ?_ ?_ ?_); (rfl); (rfl); (rfl); (exact HK.out); (rfl); (exact H26.out); skip)
    | ((with_reducible refine wpList_build28 (o := ⟨some 14, .build 28 #[(0, .tmp 13)], 28, _, _, none⟩) ?_ (.tmp 13) ?_ ks HL.out ?_ ?_); (rfl); (rfl); (rfl); skip))
  refine (clone_cells _ n _ (by omega) vs _ HV.out h1 ?_).mono ?_
  · intro j v hj
    rw [Addr.add_mid]
    exact Lib.cell?_alloc_some _ (HVS.out j v hj)
  rintro e w1 ⟨g, cp, rfl, hg, hv, hb1⟩
  have hz : w.heap.size < (w.alloc (.cells (leafCells ks (.slice none 0 0)) 28)).heap.size := by simp
  have s1 : w1.cell? ⟨w.heap.size, 32, none⟩ = some (.slice none 0 0) := by
    rw [hb1.cell (by exact hz)]
    exact (World.cell?_alloc_at _ _ _ _ rfl).trans (leaf_at ks HL.out _)
  have s2 : w1.frozen? ⟨w.heap.size, 32, none⟩ = false := by
    rw [hb1.frozen (by exact hz)]
    exact World.frozen?_alloc_at _ _ _ _ rfl
  have R := readOk_mk w w1 ks vs HL.out n g cp hb1 hg hv
  have HR : Hid (∀ q : Nat, ReadOk w ((w1.setCell ⟨w.heap.size, 32, none⟩ (.slice (some ⟨g, 0, none⟩) n cp)).drewN q) w.heap.size n ks vs) := R
  clear R hb1 hg hv hz
  go_wp2
  by_cases hcn : cap - 33 = n
  · have hcn' : cap = n + 33 := by omega
    subst hcn'
    go_quiet (fail)
    go_wp2
    go_ret3
    exact ⟨_, _, ret_three (by omega), fun h => absurd h (by omega), HR.out _⟩
  · go_quiet (fail)
    go_wp2
    go_ret3
    exact ⟨_, _, ret_three (by omega), fun _ => rfl, HR.out _⟩

set_option maxHeartbeats 1000000 in
theorem read_ok33 (b off : Nat) (ks : List Value) (hk : ks.length = 32) (w : World)
    (hks : ∀ j v, ks[j]? = some v → w.cell? ⟨b, off + j, none⟩ = some v) (h32 : w.cell? ⟨b, off + 32, none⟩ = some (.int .u8 0)) :
    Calls Yba.prog 5 #[.slice (some ⟨b, off, none⟩) 33 33] w fun e w' => ∃ (ro : Addr) (rc : Nat), e = .returned (.tuple #[.pointer (some ⟨w.heap.size, 0, none⟩), .slice (some ro) 0 rc, .bool true]) ∧
      ReadOk w w' w.heap.size 0 ks [] := by
  have hb := World.block_lt_of_cell? _ _ h32
  have l2 := arr26
  have HK : Hid (w.rangeAt b off ks) := hks
  have h26 : (Yba.prog.info? 26).map (·.size) = some ks.length := by rw [hk]; kernel_rfl
  have H26 : Hid ((Yba.prog.info? 26).map (·.size) = some ks.length) := h26
  have HL : Hid (ks.length = 32) := hk
  clear hks h26 hk
  go_enter Yba.func5, Yba.ntmps5
  go_wp2_with (first
    | ((with_reducible refine wpList_load_mid (op := ⟨some 13, .load 26 (.tmp 12), 26, _, _, none⟩) ?_ 26 (.tmp 12) ?_ b off ?_ ks _ ?_ Yba.underlying26 ?_ ?_ ?_); (rfl); (rfl); (rfl); (exact HK.out); (rfl); (exact H26.out); skip)
    | ((with_reducible refine wpList_build28 (o := ⟨some 14, .build 28 #[(0, .tmp 13)], 28, _, _, none⟩) ?_ (.tmp 13) ?_ ks HL.out ?_ ?_); (rfl); (rfl); (rfl); skip))
  refine (clone_cells _ 0 _ (by omega) [] _ rfl (by intro v h; cases h) (by intro j v h; cases h)).mono ?_
  rintro e w1 ⟨g, cp, rfl, hg, hv, hb1⟩
  have hz : w.heap.size < (w.alloc (.cells (leafCells ks (.slice none 0 0)) 28)).heap.size := by simp
  have s1 : w1.cell? ⟨w.heap.size, 32, none⟩ = some (.slice none 0 0) := by
    rw [hb1.cell (by exact hz)]
    exact (World.cell?_alloc_at _ _ _ _ rfl).trans (leaf_at ks HL.out _)
  have s2 : w1.frozen? ⟨w.heap.size, 32, none⟩ = false := by
    rw [hb1.frozen (by exact hz)]
    exact World.frozen?_alloc_at _ _ _ _ rfl
  have R := readOk_mk w w1 ks [] HL.out 0 g cp hb1 hg hv
  have HR : Hid (∀ q : Nat, ReadOk w ((w1.setCell ⟨w.heap.size, 32, none⟩ (.slice (some ⟨g, 0, none⟩) 0 cp)).drewN q) w.heap.size 0 ks []) := R
  clear R hb1 hg hv hz
  go_wp2
  go_quiet (fail)
  go_wp2
  go_ret3
  exact ⟨_, _, ret_three rfl, HR.out _⟩

end Go.Proofs.Ybulkzqa
