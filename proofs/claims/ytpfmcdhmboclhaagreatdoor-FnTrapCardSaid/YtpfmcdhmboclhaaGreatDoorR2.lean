/- spec: a trap as it is told: what is taken. -/
import Derived.Test.YtpfmcdhmboclhaaGreatDoorG31
set_option linter.unusedVariables false
set_option linter.unusedSimpArgs false
namespace Go.Proofs.YtpfmcdhmboclhaaGreatDoor
open Go.RowKit

/-- What TrapTold takes. -/
structure TrpOk (ver : Int) (com : ByteArray) (kind id st ix : Int) (n : Nat) (ent agent : ByteArray) (gen spec time : Int) (arcs ip : List Nat) : Prop where
  arcs : arcsOf (bytesOf ent) = some arcs
  ip : ipOf (bytesOf agent) = some ip
  kind : kind = 164
  ver : ver = 0
  com : com.size ≤ 127
  gen0 : 0 ≤ gen
  gen1 : gen ≤ 127
  spec0 : 0 ≤ spec
  spec1 : spec < 2147483648
  time : time < 2147483648
  n : n ≤ 20
  id : id = 0
  st : st = 0
  ix : ix = 0
/-- What TrapTold returns. -/
def RetTrp (w : World) (ver : Int) (com : ByteArray) (kind id st ix : Int) (n : Nat) (rs : List Raw) (ent agent : ByteArray) (gen spec time : Int) (e : Ending) (w' : World) : Prop :=
  (e = .returned (.tuple #[noMsg, .bool false]) ∨ ∃ arcs ip vo l, e = .returned (.tuple #[msgV 0 com 164 0 0 0 vo (dot arcs) agent gen spec time, .bool true]) ∧ TrpOk ver com kind id st ix n ent agent gen spec time arcs ip ∧ AVs rs l ∧ OwnC 40 5 w' w.heap.size vo l.length (toldC l)) ∧ Below w.heap.size w w'
theorem setAll12 {W : World} {Q : Nat} {a0 a1 a2 a3 a4 a5 a6 a7 a8 a9 a10 a11 u0 u1 u2 u3 u4 u5 u6 u7 u8 u9 u10 u11 : Value} (h : W.heap[Q]? = some (.cells #[u0, u1, u2, u3, u4, u5, u6, u7, u8, u9, u10, u11] 26 (0, 0))) : ((((((((((((W.setCell ⟨Q, 0, none⟩ a0).setCell ⟨Q, 1, none⟩ a1).setCell ⟨Q, 2, none⟩ a2).setCell ⟨Q, 3, none⟩ a3).setCell ⟨Q, 4, none⟩ a4).setCell ⟨Q, 5, none⟩ a5).setCell ⟨Q, 6, none⟩ a6).setCell ⟨Q, 7, none⟩ a7).setCell ⟨Q, 8, none⟩ a8).setCell ⟨Q, 9, none⟩ a9).setCell ⟨Q, 10, none⟩ a10).setCell ⟨Q, 11, none⟩ a11).heap[Q]? = some (.cells #[a0, a1, a2, a3, a4, a5, a6, a7, a8, a9, a10, a11] 26 (0, 0)) := by
  have h0 : (W.setCell ⟨Q, 0, none⟩ a0).heap[Q]? = some (.cells #[a0, u1, u2, u3, u4, u5, u6, u7, u8, u9, u10, u11] 26 (0, 0)) := Lib.heap_setCell_same (i := 0) h a0
  have h1 : ((W.setCell ⟨Q, 0, none⟩ a0).setCell ⟨Q, 1, none⟩ a1).heap[Q]? = some (.cells #[a0, a1, u2, u3, u4, u5, u6, u7, u8, u9, u10, u11] 26 (0, 0)) := Lib.heap_setCell_same (i := 1) h0 a1
  have h2 : (((W.setCell ⟨Q, 0, none⟩ a0).setCell ⟨Q, 1, none⟩ a1).setCell ⟨Q, 2, none⟩ a2).heap[Q]? = some (.cells #[a0, a1, a2, u3, u4, u5, u6, u7, u8, u9, u10, u11] 26 (0, 0)) := Lib.heap_setCell_same (i := 2) h1 a2
  have h3 : ((((W.setCell ⟨Q, 0, none⟩ a0).setCell ⟨Q, 1, none⟩ a1).setCell ⟨Q, 2, none⟩ a2).setCell ⟨Q, 3, none⟩ a3).heap[Q]? = some (.cells #[a0, a1, a2, a3, u4, u5, u6, u7, u8, u9, u10, u11] 26 (0, 0)) := Lib.heap_setCell_same (i := 3) h2 a3
  have h4 : (((((W.setCell ⟨Q, 0, none⟩ a0).setCell ⟨Q, 1, none⟩ a1).setCell ⟨Q, 2, none⟩ a2).setCell ⟨Q, 3, none⟩ a3).setCell ⟨Q, 4, none⟩ a4).heap[Q]? = some (.cells #[a0, a1, a2, a3, a4, u5, u6, u7, u8, u9, u10, u11] 26 (0, 0)) := Lib.heap_setCell_same (i := 4) h3 a4
  have h5 : ((((((W.setCell ⟨Q, 0, none⟩ a0).setCell ⟨Q, 1, none⟩ a1).setCell ⟨Q, 2, none⟩ a2).setCell ⟨Q, 3, none⟩ a3).setCell ⟨Q, 4, none⟩ a4).setCell ⟨Q, 5, none⟩ a5).heap[Q]? = some (.cells #[a0, a1, a2, a3, a4, a5, u6, u7, u8, u9, u10, u11] 26 (0, 0)) := Lib.heap_setCell_same (i := 5) h4 a5
  have h6 : (((((((W.setCell ⟨Q, 0, none⟩ a0).setCell ⟨Q, 1, none⟩ a1).setCell ⟨Q, 2, none⟩ a2).setCell ⟨Q, 3, none⟩ a3).setCell ⟨Q, 4, none⟩ a4).setCell ⟨Q, 5, none⟩ a5).setCell ⟨Q, 6, none⟩ a6).heap[Q]? = some (.cells #[a0, a1, a2, a3, a4, a5, a6, u7, u8, u9, u10, u11] 26 (0, 0)) := Lib.heap_setCell_same (i := 6) h5 a6
  have h7 : ((((((((W.setCell ⟨Q, 0, none⟩ a0).setCell ⟨Q, 1, none⟩ a1).setCell ⟨Q, 2, none⟩ a2).setCell ⟨Q, 3, none⟩ a3).setCell ⟨Q, 4, none⟩ a4).setCell ⟨Q, 5, none⟩ a5).setCell ⟨Q, 6, none⟩ a6).setCell ⟨Q, 7, none⟩ a7).heap[Q]? = some (.cells #[a0, a1, a2, a3, a4, a5, a6, a7, u8, u9, u10, u11] 26 (0, 0)) := Lib.heap_setCell_same (i := 7) h6 a7
  have h8 : (((((((((W.setCell ⟨Q, 0, none⟩ a0).setCell ⟨Q, 1, none⟩ a1).setCell ⟨Q, 2, none⟩ a2).setCell ⟨Q, 3, none⟩ a3).setCell ⟨Q, 4, none⟩ a4).setCell ⟨Q, 5, none⟩ a5).setCell ⟨Q, 6, none⟩ a6).setCell ⟨Q, 7, none⟩ a7).setCell ⟨Q, 8, none⟩ a8).heap[Q]? = some (.cells #[a0, a1, a2, a3, a4, a5, a6, a7, a8, u9, u10, u11] 26 (0, 0)) := Lib.heap_setCell_same (i := 8) h7 a8
  have h9 : ((((((((((W.setCell ⟨Q, 0, none⟩ a0).setCell ⟨Q, 1, none⟩ a1).setCell ⟨Q, 2, none⟩ a2).setCell ⟨Q, 3, none⟩ a3).setCell ⟨Q, 4, none⟩ a4).setCell ⟨Q, 5, none⟩ a5).setCell ⟨Q, 6, none⟩ a6).setCell ⟨Q, 7, none⟩ a7).setCell ⟨Q, 8, none⟩ a8).setCell ⟨Q, 9, none⟩ a9).heap[Q]? = some (.cells #[a0, a1, a2, a3, a4, a5, a6, a7, a8, a9, u10, u11] 26 (0, 0)) := Lib.heap_setCell_same (i := 9) h8 a9
  have h10 : (((((((((((W.setCell ⟨Q, 0, none⟩ a0).setCell ⟨Q, 1, none⟩ a1).setCell ⟨Q, 2, none⟩ a2).setCell ⟨Q, 3, none⟩ a3).setCell ⟨Q, 4, none⟩ a4).setCell ⟨Q, 5, none⟩ a5).setCell ⟨Q, 6, none⟩ a6).setCell ⟨Q, 7, none⟩ a7).setCell ⟨Q, 8, none⟩ a8).setCell ⟨Q, 9, none⟩ a9).setCell ⟨Q, 10, none⟩ a10).heap[Q]? = some (.cells #[a0, a1, a2, a3, a4, a5, a6, a7, a8, a9, a10, u11] 26 (0, 0)) := Lib.heap_setCell_same (i := 10) h9 a10
  have h11 : ((((((((((((W.setCell ⟨Q, 0, none⟩ a0).setCell ⟨Q, 1, none⟩ a1).setCell ⟨Q, 2, none⟩ a2).setCell ⟨Q, 3, none⟩ a3).setCell ⟨Q, 4, none⟩ a4).setCell ⟨Q, 5, none⟩ a5).setCell ⟨Q, 6, none⟩ a6).setCell ⟨Q, 7, none⟩ a7).setCell ⟨Q, 8, none⟩ a8).setCell ⟨Q, 9, none⟩ a9).setCell ⟨Q, 10, none⟩ a10).setCell ⟨Q, 11, none⟩ a11).heap[Q]? = some (.cells #[a0, a1, a2, a3, a4, a5, a6, a7, a8, a9, a10, a11] 26 (0, 0)) := Lib.heap_setCell_same (i := 11) h10 a11
  exact h11
theorem setHeap12 {W : World} {Q p : Nat} {a0 a1 a2 a3 a4 a5 a6 a7 a8 a9 a10 a11 : Value} (hq : p ≠ Q) : ((((((((((((W.setCell ⟨Q, 0, none⟩ a0).setCell ⟨Q, 1, none⟩ a1).setCell ⟨Q, 2, none⟩ a2).setCell ⟨Q, 3, none⟩ a3).setCell ⟨Q, 4, none⟩ a4).setCell ⟨Q, 5, none⟩ a5).setCell ⟨Q, 6, none⟩ a6).setCell ⟨Q, 7, none⟩ a7).setCell ⟨Q, 8, none⟩ a8).setCell ⟨Q, 9, none⟩ a9).setCell ⟨Q, 10, none⟩ a10).setCell ⟨Q, 11, none⟩ a11).heap[p]? = W.heap[p]? := by
  rw [Below.heap_setCell _ _ _ _ (by simpa using hq), Below.heap_setCell _ _ _ _ (by simpa using hq), Below.heap_setCell _ _ _ _ (by simpa using hq), Below.heap_setCell _ _ _ _ (by simpa using hq), Below.heap_setCell _ _ _ _ (by simpa using hq), Below.heap_setCell _ _ _ _ (by simpa using hq), Below.heap_setCell _ _ _ _ (by simpa using hq), Below.heap_setCell _ _ _ _ (by simpa using hq), Below.heap_setCell _ _ _ _ (by simpa using hq), Below.heap_setCell _ _ _ _ (by simpa using hq), Below.heap_setCell _ _ _ _ (by simpa using hq), Below.heap_setCell _ _ _ _ (by simpa using hq)]
theorem setBel12 {B : Nat} {w W : World} {Q : Nat} {a0 a1 a2 a3 a4 a5 a6 a7 a8 a9 a10 a11 : Value} (h : Below B w W) (hq : B ≤ Q) : Below B w ((((((((((((W.setCell ⟨Q, 0, none⟩ a0).setCell ⟨Q, 1, none⟩ a1).setCell ⟨Q, 2, none⟩ a2).setCell ⟨Q, 3, none⟩ a3).setCell ⟨Q, 4, none⟩ a4).setCell ⟨Q, 5, none⟩ a5).setCell ⟨Q, 6, none⟩ a6).setCell ⟨Q, 7, none⟩ a7).setCell ⟨Q, 8, none⟩ a8).setCell ⟨Q, 9, none⟩ a9).setCell ⟨Q, 10, none⟩ a10).setCell ⟨Q, 11, none⟩ a11) :=
  ((((((((((((h.setCell hq _).setCell hq _).setCell hq _).setCell hq _).setCell hq _).setCell hq _).setCell hq _).setCell hq _).setCell hq _).setCell hq _).setCell hq _).setCell hq _)
theorem twelveF {W : World} {Q : Nat} {a0 a1 a2 a3 a4 a5 a6 a7 a8 a9 a10 a11 : Value} (hh : W.heap[Q]? = some (.cells #[a0, a1, a2, a3, a4, a5, a6, a7, a8, a9, a10, a11] 26 (0, 0))) : W.cell? ⟨Q, 0, none⟩ = some a0 ∧ W.cell? ⟨Q, 1, none⟩ = some a1 ∧ W.cell? ⟨Q, 2, none⟩ = some a2 ∧ W.cell? ⟨Q, 3, none⟩ = some a3 ∧ W.cell? ⟨Q, 4, none⟩ = some a4 ∧ W.cell? ⟨Q, 5, none⟩ = some a5 ∧ W.cell? ⟨Q, 6, none⟩ = some a6 ∧ W.cell? ⟨Q, 7, none⟩ = some a7 ∧ W.cell? ⟨Q, 8, none⟩ = some a8 ∧ W.cell? ⟨Q, 9, none⟩ = some a9 ∧ W.cell? ⟨Q, 10, none⟩ = some a10 ∧ W.cell? ⟨Q, 11, none⟩ = some a11 ∧ ∀ i, W.frozen? ⟨Q, i, none⟩ = false :=
  ⟨by rw [Lib.cell_of_heap hh]; rfl, by rw [Lib.cell_of_heap hh]; rfl, by rw [Lib.cell_of_heap hh]; rfl, by rw [Lib.cell_of_heap hh]; rfl, by rw [Lib.cell_of_heap hh]; rfl, by rw [Lib.cell_of_heap hh]; rfl, by rw [Lib.cell_of_heap hh]; rfl, by rw [Lib.cell_of_heap hh]; rfl, by rw [Lib.cell_of_heap hh]; rfl, by rw [Lib.cell_of_heap hh]; rfl, by rw [Lib.cell_of_heap hh]; rfl, by rw [Lib.cell_of_heap hh]; rfl, fun i => Lib.frozen_of_heap hh i⟩
theorem trapM {W : World} {Q : Nat} {a0 a1 a2 a3 a4 a5 a6 a7 a8 a9 a10 a11 : Value} (hh : W.heap[Q]? = some (.cells #[a0, a1, a2, a3, a4, a5, a6, a7, a8, a9, a10, a11] 26 (0, 0))) : W.cell? ⟨Q, 1, none⟩ = some a1 ∧ W.cell? ⟨Q, 8, none⟩ = some a8 ∧ W.cell? ⟨Q, 9, none⟩ = some a9 ∧ W.cell? ⟨Q, 10, none⟩ = some a10 ∧ W.cell? ⟨Q, 11, none⟩ = some a11 :=
  ⟨by rw [Lib.cell_of_heap hh]; rfl, by rw [Lib.cell_of_heap hh]; rfl, by rw [Lib.cell_of_heap hh]; rfl, by rw [Lib.cell_of_heap hh]; rfl, by rw [Lib.cell_of_heap hh]; rfl⟩
theorem heapB {w W : World} {Q : Nat} {o : Obj} (hb : Below w.heap.size w W) (h : w.heap[Q]? = some o) : W.heap[Q]? = some o := (hb.block _ (Lib.lt_of_heap h)).trans h
theorem heapAl {W : World} {Q : Nat} {o u : Obj} (h : W.heap[Q]? = some o) : (W.alloc u).heap[Q]? = some o := (Below.heap_alloc _ _ _ (Lib.lt_of_heap h)).trans h
theorem heapS12 {W : World} {Q p : Nat} {o : Obj} {a0 a1 a2 a3 a4 a5 a6 a7 a8 a9 a10 a11 : Value} (hq : Q ≠ p) (h : W.heap[p]? = some o) : ((((((((((((W.setCell ⟨Q, 0, none⟩ a0).setCell ⟨Q, 1, none⟩ a1).setCell ⟨Q, 2, none⟩ a2).setCell ⟨Q, 3, none⟩ a3).setCell ⟨Q, 4, none⟩ a4).setCell ⟨Q, 5, none⟩ a5).setCell ⟨Q, 6, none⟩ a6).setCell ⟨Q, 7, none⟩ a7).setCell ⟨Q, 8, none⟩ a8).setCell ⟨Q, 9, none⟩ a9).setCell ⟨Q, 10, none⟩ a10).setCell ⟨Q, 11, none⟩ a11).heap[p]? = some o := (setHeap12 (fun e => hq e.symm)).trans h
end Go.Proofs.YtpfmcdhmboclhaaGreatDoor
