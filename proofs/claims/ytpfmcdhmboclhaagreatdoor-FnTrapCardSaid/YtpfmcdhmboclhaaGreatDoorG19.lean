/- impl: Decode. -/
import Derived.Test.YtpfmcdhmboclhaaGreatDoorG18
set_option linter.unusedVariables false
set_option linter.unusedSimpArgs false
namespace Go.Proofs.YtpfmcdhmboclhaaGreatDoor
open Go.RowKit

/-- The cells of variables that are told. -/
def toldC (l : List AV) : List Value := l.flatMap fun x => [.string (dot x.arcs), .int .i64 x.pay.typ, .int .i64 (toldI x.pay), .int .u64 (toldU x.pay), .string (toldT x.pay)]
theorem toldC_snoc (l : List AV) (x : AV) : toldC (l ++ [x]) = toldC l ++ [.string (dot x.arcs), .int .i64 x.pay.typ, .int .i64 (toldI x.pay), .int .u64 (toldU x.pay), .string (toldT x.pay)] := by simp [toldC]
theorem three56 {W : World} {r : Nat} {a b c : Value} (h : W.heap[r]? = some (.cells #[a, b, c] 56 (0, 0))) : W.cell? ⟨r, 0, none⟩ = some a ∧ W.cell? ⟨r, 1, none⟩ = some b ∧ W.cell? ⟨r, 2, none⟩ = some c := ⟨by rw [Lib.cell_of_heap h]; rfl, by rw [Lib.cell_of_heap h]; rfl, by rw [Lib.cell_of_heap h]; rfl⟩
theorem keep2 {W : World} {Q P i i0 i1 : Nat} {a b v : Value} (h : W.drew.cell? ⟨P, i0, none⟩ = some a ∧ W.drew.cell? ⟨P, i1, none⟩ = some b) (hq : Q ≠ P) :
    (W.setCell ⟨Q, i, none⟩ v).drew.cell? ⟨P, i0, none⟩ = some a ∧ (W.setCell ⟨Q, i, none⟩ v).drew.cell? ⟨P, i1, none⟩ = some b := by
  have key : ∀ j, (W.setCell ⟨Q, i, none⟩ v).drew.cell? ⟨P, j, none⟩ = W.drew.cell? ⟨P, j, none⟩ := fun j => by
    show (W.setCell ⟨Q, i, none⟩ v).cell? ⟨P, j, none⟩ = W.cell? ⟨P, j, none⟩
    exact World.cell?_setCell_other _ _ _ _ (by intro e; injection e with e1; first | exact hq e1 | exact hq e1.symm)
  simp only [key]
  exact h
section
variable {W : World} {pk : Nat} {c0 c1 c2 c3 c4 c5 c6 c7 c8 c9 c10 c11 c12 c13 c14 c15 c16 c17 : Value}
theorem fourC (h : W.heap[pk]? = some (.cells #[c0, c1, c2, c3, c4, c5, c6, c7, c8, c9, c10, c11, c12, c13, c14, c15, c16, c17] 52 (0, 0))) : W.cell? ⟨pk, 0, none⟩ = some c0 ∧ W.cell? ⟨pk, 1, none⟩ = some c1 ∧ W.cell? ⟨pk, 2, none⟩ = some c2 ∧ W.cell? ⟨pk, 4, none⟩ = some c4 :=
  ⟨by rw [Lib.cell_of_heap h]; rfl, by rw [Lib.cell_of_heap h]; rfl, by rw [Lib.cell_of_heap h]; rfl, by rw [Lib.cell_of_heap h]; rfl⟩
theorem fourA {o : Obj} (h : W.heap[pk]? = some (.cells #[c0, c1, c2, c3, c4, c5, c6, c7, c8, c9, c10, c11, c12, c13, c14, c15, c16, c17] 52 (0, 0))) : (W.alloc o).drew.cell? ⟨pk, 0, none⟩ = some c0 ∧ (W.alloc o).drew.cell? ⟨pk, 1, none⟩ = some c1 ∧ (W.alloc o).drew.cell? ⟨pk, 2, none⟩ = some c2 ∧ (W.alloc o).drew.cell? ⟨pk, 4, none⟩ = some c4 :=
  fourC (W := (W.alloc o).drew) (show (W.alloc o).heap[pk]? = _ by rw [Below.heap_alloc _ _ _ (Lib.lt_of_heap h)]; exact h)
end
/-- What Decode returns. -/
def RetDec (w : World) (f : Value → Value) (l : List AV) (e : Ending) (w' : World) : Prop :=
  ∃ v, e = .returned (.tuple #[f v, .bool true]) ∧ OwnC 40 5 w' w.heap.size v l.length (toldC l) ∧ Below w.heap.size w w'
theorem elem23 : Elem 23 40 5 56 := by
  refine ⟨by kernel_rfl, ?_, by omega⟩
  have h : (Tryz.prog.info? 40).map (fun i => (i.zero, i.size, i.bytes, (i.zero.getD .nilIface).cells.size)) = some (some (.agg #[.string ⟨#[]⟩, .int .i64 0, .int .i64 0, .int .u64 0, .string ⟨#[]⟩]), 5, 56, 5) := by kernel_rfl
  cases hi : Tryz.prog.info? 40 with
  | none => rw [hi] at h; cases h
  | some i =>
    rw [hi] at h
    simp at h
    obtain ⟨h1, h2, h3, h4⟩ := h
    exact ⟨i, _, rfl, h1, h2, h3, by rw [h1] at h4; simpa using h4⟩
theorem decC_at : ∀ (l : List AV) (vs : List Value) (i : Nat) (x : AV) (v : Value), l[i]? = some x → vs[i]? = some v → (decC l vs)[i * 3]? = some v ∧ (decC l vs)[i * 3 + 1]? = some (.string (dot x.arcs)) ∧ (decC l vs)[i * 3 + 2]? = some (.int .u8 x.pay.typ)
  | y :: r, u :: us, 0, x, v, h, hv => by
    obtain rfl : y = x := by simpa using h
    obtain rfl : u = v := by simpa using hv
    simp [decC]
  | y :: r, u :: us, i + 1, x, v, h, hv => by
    have := decC_at r us i x v (by simpa using h) (by simpa using hv)
    rw [show (i + 1) * 3 = i * 3 + 3 by omega]
    simpa [decC] using this
/-- The state of Decode's loop. -/
structure DecAt (w W0 : World) (Q pk : Nat) (f : Value → Array Value) (l : List AV) (k : Nat) (vo : Value) (wr : World) : Prop where
  le : k ≤ l.length
  out : wr.heap[Q]? = some (.cells (f vo) 26 (0, 0))
  own : OwnC 40 5 wr (Q + 1) vo k (toldC (l.take k))
  kp : Kp [Q] W0 wr
end Go.Proofs.YtpfmcdhmboclhaaGreatDoor
