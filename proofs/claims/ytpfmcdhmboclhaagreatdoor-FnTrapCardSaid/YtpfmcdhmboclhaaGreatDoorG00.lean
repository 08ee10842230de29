/- WORDS OF THIS SEAT's PROOFS: a frame with exceptions (Kp), a slice of bytes that is read (Rd), a row of bytes that is owned (Own), with their movers. No program in sight. bytes.Buffer, ONLY WRITTEN: its methods' contracts at this program. DERIVED: THE SHELF's CONTRACTS AT THIS DUMP, IN PLAIN WORDS (tools/lay-plain.mjs out of 'TryzShelf.lean', which tools/lay-shelf.mjs wrote): THE SAME DECLARATIONS UNDER THE SAME NAMES: 'import', 'namespace', 'open', 'def', 'theorem' AND NOTHING ELSE: no command of the shelf's: FOR A HAND-IN. Each laying: the table of numbers ('.._ren') and one theorem, a field a fact of the dump's own or the kernel's comparison; each contract: ONE APPLICATION. bytes.Buffer, ONLY WRITTEN: grow, and the writers, with a frame that names the two blocks that may turn. bytes.Buffer, ONLY WRITTEN: grow where nothing was written yet. bytes.Buffer, ONLY WRITTEN: Write, WriteByte, WriteString. -/
import Derived.WalkKit
import Derived.WalkSpells
import Derived.Maps.AppendAt
import Derived.Deep.AppendLies
import Derived.Lib.Hide
import Derived.Lib.Buffer
import Derived.Deep.Draws
import Derived.Test.YtpfmcdhmboclhaaGreatDoorProg
import Derived.WalkLawsBesides
import Derived.Deep.QuietTactic
import Derived.BigQuiet
import Derived.Lib.Walk
import Derived.Shelf.LaysM
import Derived.Shelf.Bytes.GrowSliceCatch
import Derived.Shelf.Bytes.GrowSlice
import Derived.Ground.MnProg
import Derived.Shelf.Bin.BEPutUint32
import Derived.Shelf.Bin.BEPutUint64
import Derived.Deep.RegionWith
import Derived.RegionTactic
import Derived.Lib.BufferGrow
import Derived.Laws.CopyRow
import Derived.Laws.IdiomCopy
import Derived.Lib.BufferWrite
set_option linter.unusedVariables false
set_option linter.unusedSimpArgs false
namespace Go.Proofs.YtpfmcdhmboclhaaGreatDoor
open Go.RowKit

/-- The numbers as cells of bytes. -/
def by8 (l : List Int) : List Value := l.map (Value.int .u8)
theorem by8_length (l : List Int) : (by8 l).length = l.length := by simp [by8]
theorem by8_append (a b : List Int) : by8 (a ++ b) = by8 a ++ by8 b := by simp [by8]
theorem by8_one (l : List Int) : ∀ u ∈ by8 l, u.oneCell' = true := by
  intro u hu
  simp only [by8, List.mem_map] at hu
  obtain ⟨q, _, rfl⟩ := hu
  rfl
theorem by8_get (l : List Int) (j : Nat) (h : j < l.length) : (by8 l)[j]? = some (.int .u8 (l[j])) := by simp [by8, h]
/-- All blocks that were there but for those of X stand as they stood; the streams too. -/
structure Kp (X : List Nat) (w w' : World) : Prop where
  os : w'.os = w.os
  tape : w'.tape = w.tape
  output : w'.output = w.output
  size : w.heap.size ≤ w'.heap.size
  block : ∀ k, k < w.heap.size → k ∉ X → w'.heap[k]? = w.heap[k]?
theorem Kp.refl (X : List Nat) (w : World) : Kp X w w := ⟨rfl, rfl, rfl, Nat.le_refl _, fun _ _ _ => rfl⟩
theorem Kp.trans {X : List Nat} {a b c : World} (h : Kp X a b) (k : Kp X b c) : Kp X a c :=
  ⟨k.os.trans h.os, k.tape.trans h.tape, k.output.trans h.output, Nat.le_trans h.size k.size, fun i hi hx => (k.block i (Nat.lt_of_lt_of_le hi h.size) hx).trans (h.block i hi hx)⟩
theorem Kp.mono {X Y : List Nat} {w w' : World} (h : Kp X w w') (hs : ∀ k, k < w.heap.size → k ∈ X → k ∈ Y) : Kp Y w w' :=
  ⟨h.os, h.tape, h.output, h.size, fun k hk hy => h.block k hk (fun hx => hy (hs k hk hx))⟩
/-- Two steps, each with its own exceptions: those of the second that were there already count. -/
theorem Kp.then {X Y Z : List Nat} {a b c : World} (h : Kp X a b) (k : Kp Y b c) (h1 : ∀ q, q < a.heap.size → q ∈ X → q ∈ Z) (h2 : ∀ q, q < a.heap.size → q ∈ Y → q ∈ Z) : Kp Z a c :=
  ⟨k.os.trans h.os, k.tape.trans h.tape, k.output.trans h.output, Nat.le_trans h.size k.size,
   fun i hi hz => (k.block i (Nat.lt_of_lt_of_le hi h.size) (fun hy => hz (h2 i hi hy))).trans (h.block i hi (fun hx => hz (h1 i hi hx)))⟩
theorem Kp.drew {X : List Nat} {a w : World} (h : Kp X a w) : Kp X a w.drew := ⟨h.os, h.tape, h.output, h.size, h.block⟩
theorem Kp.drewN {X : List Nat} {a w : World} (h : Kp X a w) (n : Nat) : Kp X a (w.drewN n) := ⟨h.os, h.tape, h.output, h.size, h.block⟩
theorem Kp.alloc {X : List Nat} {a w : World} (h : Kp X a w) (o : Obj) : Kp X a (w.alloc o) :=
  h.trans ⟨rfl, rfl, rfl, by simp, fun k hk _ => Below.heap_alloc _ _ _ hk⟩
theorem Kp.setCell {X : List Nat} {a w : World} (h : Kp X a w) {p : Addr} (hp : p.block ∈ X ∨ a.heap.size ≤ p.block) (u : Value) : Kp X a (w.setCell p u) :=
  ⟨h.os, h.tape, h.output, by simpa [World.setCell] using h.size, fun k hk hx => by
    rw [Below.heap_setCell _ _ _ _ (by rintro rfl; rcases hp with hp | hp; exact hx hp; omega)]
    exact h.block k hk hx⟩
theorem Kp.grown {X : List Nat} {a w w' : World} (h : Kp X a w) {row : Option Nat} (hg : w.grownBy w' row) (hr : ∀ k, row = some k → k ∈ X ∨ a.heap.size ≤ k) : Kp X a w' :=
  ⟨hg.os.trans h.os, hg.tape.trans h.tape, hg.output.trans h.output, Nat.le_trans h.size hg.size, fun k hk hx => by
    rw [hg.block k (Nat.lt_of_lt_of_le hk h.size) (fun e => by rcases hr k e.symm with hp | hp; exact hx hp; omega)]
    exact h.block k hk hx⟩
theorem Kp.of_below {w w' : World} (h : Below w.heap.size w w') (X : List Nat) : Kp X w w' := ⟨h.os, h.tape, h.output, h.size, fun k hk _ => h.block k hk⟩
theorem Kp.below {X : List Nat} {w w' : World} (h : Kp X w w') {n : Nat} (hn : n ≤ w.heap.size) (hx : ∀ k ∈ X, n ≤ k) : Below n w w' :=
  ⟨h.os, h.tape, h.output, h.size, fun k hk => h.block k (by omega) (fun hm => by have := hx k hm; omega)⟩
theorem Kp.add {X : List Nat} {a b c : World} (h : Kp X a b) (k : Below b.heap.size b c) : Kp X a c := h.trans (Kp.of_below k X)
theorem Kp.cell {X : List Nat} {w w' : World} (h : Kp X w w') {p : Addr} (hp : p.block < w.heap.size) (hx : p.block ∉ X) : w'.cell? p = w.cell? p := World.cell?_of_block (w := w) (h.block p.block hp hx)
theorem Kp.frozen {X : List Nat} {w w' : World} (h : Kp X w w') {p : Addr} (hp : p.block < w.heap.size) (hx : p.block ∉ X) : w'.frozen? p = w.frozen? p := World.frozen?_of_block (w := w) (h.block p.block hp hx)
theorem lt_of_cell {w : World} {p : Addr} {v : Value} (h : w.cell? p = some v) : p.block < w.heap.size := World.block_lt_of_cell? w p h
/-- What lies below n was there and stands. -/
theorem bthen {n : Nat} {a b c : World} (h : Below n a b) (k : Below b.heap.size b c) (hn : n ≤ b.heap.size) : Below n a c := h.trans (k.mono hn)
/-- A slice that reads as bytes: v, nil or not. -/
def Rd (w : World) (v : Value) (l : List Int) : Prop :=
  ∃ A c, v = .slice A l.length c ∧ l.length ≤ c ∧ c ≤ maxLen ∧ (0 < l.length → ∃ b o, A = some ⟨b, o, none⟩ ∧ ∀ j (h : j < l.length), w.cell? ⟨b, o + j, none⟩ = some (.int .u8 l[j]))
/-- A row of bytes of one's own, from base on. -/
def Own (w : World) (base : Nat) (v : Value) (l : List Int) : Prop := w.ownsRow base 5 1 v l.length (by8 l)
theorem Own.nil (w : World) (base : Nat) : Own w base (.slice none 0 0) [] := World.ownsRow_nil _ _ _ _
/-- A row that a literal or a make has just laid. -/
theorem Own.lit (w : World) (base : Nat) (l : List Int) (hb : base ≤ w.heap.size) (hl : l.length ≤ maxLen) : Own (w.alloc (.cells (by8 l).toArray 5)) base (.slice (some ⟨w.heap.size, 0, none⟩) l.length l.length) l := by
  have h := World.ownsRow_lit (base := base) (e := 5) (size := 1) w (by8 l).toArray l.length hb hl (by simp [by8])
  simpa [Own] using h
theorem Own.form {w : World} {base : Nat} {v : Value} {l : List Int} (h : Own w base v l) : (v = .slice none 0 0 ∧ l = []) ∨ ∃ g cap cur, v = .slice (some ⟨g, 0, none⟩) l.length cap ∧ base ≤ g ∧ w.heap[g]? = some (.cells cur 5 (0, 0)) ∧ l.length ≤ cap ∧ cap ≤ maxLen ∧ cur.size = cap ∧ cur.toList.take l.length = by8 l := by
  rcases h.2 with ⟨h1, h2⟩ | ⟨g, cap, cur, h1, h2, h3, h4, h5, h6, h7⟩
  · exact .inl ⟨h1, List.eq_nil_of_length_eq_zero h2⟩
  · exact .inr ⟨g, cap, cur, h1, h2, h3, h4, h5, by simpa using h6, by simpa using h7⟩
theorem Own.mk {w : World} {base g cap : Nat} {cur : Array Value} {l : List Int} (hb : base ≤ g) (hg : w.heap[g]? = some (.cells cur 5 (0, 0))) (h1 : l.length ≤ cap) (h2 : cap ≤ maxLen) (h3 : cur.size = cap) (h4 : cur.toList.take l.length = by8 l) : Own w base (.slice (some ⟨g, 0, none⟩) l.length cap) l :=
  ⟨by simp [by8], .inr ⟨g, cap, cur, rfl, hb, hg, h1, h2, by simpa using h3, by simpa using h4⟩⟩
theorem Own.base {w : World} {base base' : Nat} {v : Value} {l : List Int} (h : Own w base v l) (hb : base' ≤ base) : Own w base' v l := by
  rcases h.form with ⟨rfl, rfl⟩ | ⟨g, cap, cur, rfl, h2, h3, h4, h5, h6, h7⟩
  · exact Own.nil _ _
  · exact Own.mk (by omega) h3 h4 h5 h6 h7
theorem Own.lt {w : World} {base : Nat} {v : Value} {l : List Int} (h : Own w base v l) {k : Nat} (hk : v.ownBlock = some k) : base ≤ k ∧ k < w.heap.size := World.ownsRow.lt h k hk
theorem Own.kept {w w' : World} {base : Nat} {v : Value} {l : List Int} (h : Own w base v l) (hk : ∀ k, v.ownBlock = some k → w'.heap[k]? = w.heap[k]?) : Own w' base v l := by
  rcases h.form with ⟨rfl, rfl⟩ | ⟨g, cap, cur, rfl, h2, h3, h4, h5, h6, h7⟩
  · exact Own.nil _ _
  · exact Own.mk h2 ((hk g rfl).trans h3) h4 h5 h6 h7
theorem Own.keptKp {w w' : World} {base : Nat} {X : List Nat} {v : Value} {l : List Int} (h : Own w base v l) (hk : Kp X w w') (hx : ∀ k, v.ownBlock = some k → k ∉ X) : Own w' base v l :=
  h.kept fun k e => hk.block k (h.lt e).2 (hx k e)
theorem Own.keptBelow {w w' : World} {base : Nat} {v : Value} {l : List Int} (h : Own w base v l) (hk : Below w.heap.size w w') : Own w' base v l := h.kept fun k e => hk.block k (h.lt e).2
theorem Own.cells {w : World} {base : Nat} {v : Value} {l : List Int} (h : Own w base v l) {g : Nat} (hg : v.ownBlock = some g) : ∀ j u, (by8 l)[j]? = some u → w.cell? ((⟨g, 0, none⟩ : Addr).add j) = some u := World.ownsRow.cells h hg
theorem addr_add (b o j : Nat) : (⟨b, o, none⟩ : Addr).add j = ⟨b, o + j, none⟩ := Lib.addr_add b o j
/-- What is owned reads. -/
theorem Own.reads {w : World} {base : Nat} {v : Value} {l : List Int} (h : Own w base v l) : Rd w v l := by
  rcases h.form with ⟨rfl, rfl⟩ | ⟨g, cap, cur, rfl, h2, h3, h4, h5, h6, h7⟩
  · exact ⟨none, 0, rfl, Nat.le_refl _, Nat.zero_le _, fun h => absurd h (Nat.lt_irrefl 0)⟩
  · refine ⟨_, cap, rfl, h4, h5, fun _ => ⟨g, 0, rfl, fun j hj => ?_⟩⟩
    have := h.cells (g := g) rfl j _ (by8_get l j hj)
    rwa [addr_add] at this
theorem Own.slice {w : World} {base : Nat} {v : Value} {l : List Int} (h : Own w base v l) : ∃ A c, v = .slice A l.length c ∧ l.length ≤ c ∧ c ≤ maxLen := by
  obtain ⟨A, c, h1, h2, h3, _⟩ := h.reads
  exact ⟨A, c, h1, h2, h3⟩
theorem Rd.kept {w w' : World} {v : Value} {l : List Int} (h : Rd w v l) (hk : ∀ a n c, v = .slice (some a) n c → a.block < w.heap.size → w'.heap[a.block]? = w.heap[a.block]?) : Rd w' v l := by
  obtain ⟨A, c, rfl, h1, h2, h3⟩ := h
  refine ⟨A, c, rfl, h1, h2, fun hp => ?_⟩
  obtain ⟨b, o, rfl, hc⟩ := h3 hp
  refine ⟨b, o, rfl, fun j hj => ?_⟩
  rw [← hc j hj]
  have hlt : b < w.heap.size := lt_of_cell (hc j hj)
  exact World.cell?_of_block (w := w) (a := ⟨b, o + j, none⟩) (hk ⟨b, o, none⟩ _ _ rfl hlt)
theorem Rd.keptBelow {w w' : World} {v : Value} {l : List Int} (h : Rd w v l) (hk : Below w.heap.size w w') : Rd w' v l := h.kept fun a _ _ _ hlt => hk.block a.block hlt
/-- The block of a slice that is read, where it has one. -/
def apart (v : Value) (X : List Nat) : Prop := ∀ a n c, v = .slice (some a) n c → a.block ∉ X
theorem Rd.keptKp {w w' : World} {X : List Nat} {v : Value} {l : List Int} (h : Rd w v l) (hk : Kp X w w') (hx : apart v X) : Rd w' v l := h.kept fun a n c e hlt => hk.block a.block hlt (hx a n c e)
/-- As numbers of the model read them in a contract on a string. -/
def bytesOf (s : ByteArray) : List Int := s.data.toList.map fun b => (b.toNat : Int)
theorem bytesOf_length (s : ByteArray) : (bytesOf s).length = s.size := by rw [bytesOf, List.length_map, Array.length_toList]; rfl
end Go.Proofs.YtpfmcdhmboclhaaGreatDoor
namespace Go.Proofs.YtpfmcdhmboclhaaGreatDoor
open Go.RowKit

set_option maxHeartbeats 400000 in
theorem tryGrow_yes (b n len cap : Nat) (g : Addr) (w : World) (hc : w.cell? ⟨b, 0, none⟩ = some (.slice (some g) len cap)) (hf : w.frozen? ⟨b, 0, none⟩ = false)
    (hl : len ≤ cap) (hm : cap ≤ maxLen) (hn : n ≤ cap - len) :
    Calls Tryz.prog 68 #[.pointer (some ⟨b, 0, none⟩), .int .i64 n] w fun e w' => e = .returned (.tuple #[.int .i64 len, .bool true]) ∧ w.setCell ⟨b, 0, none⟩ (.slice (some g) (len + n) cap) = w' := by
  unfold maxLen at hm
  go_enter Tryz.func68, Tryz.ntmps68
  go_wp2
  go_ret2
  exact ⟨rfl, rfl⟩
set_option maxHeartbeats 400000 in
theorem tryGrow_no (b n len cap : Nat) (A : Option Addr) (w : World) (hc : w.cell? ⟨b, 0, none⟩ = some (.slice A len cap))
    (hl : len ≤ cap) (hm : cap ≤ maxLen) (hn : cap - len < n) :
    Calls Tryz.prog 68 #[.pointer (some ⟨b, 0, none⟩), .int .i64 n] w fun e w' => e = .returned (.tuple #[.int .i64 0, .bool false]) ∧ w = w' := by
  unfold maxLen at hm
  go_enter Tryz.func68, Tryz.ntmps68
  go_wp2
  go_ret2
  exact ⟨rfl, rfl⟩
set_option maxHeartbeats 400000 in
theorem bufLen (b len cap : Nat) (A : Option Addr) (w : World) (hc : w.cell? ⟨b, 0, none⟩ = some (.slice A len cap)) (hc1 : w.cell? ⟨b, 1, none⟩ = some (.int .i64 0))
    (hl : len ≤ cap) (hm : cap ≤ maxLen) :
    Calls Tryz.prog 56 #[.pointer (some ⟨b, 0, none⟩)] w fun e w' => e = .returned (.int .i64 len) ∧ ∃ n, w' = w.drewN n := by
  unfold maxLen at hm
  go_enter Tryz.func56, Tryz.ntmps56
  go_wp2
  go_quiet (fail)
  go_wp2
  go_ret
  exact ⟨rfl, _, rfl⟩
set_option maxHeartbeats 400000 in
theorem bufBytes (b len cap : Nat) (A : Option Addr) (w : World) (hc : w.cell? ⟨b, 0, none⟩ = some (.slice A len cap)) (hc1 : w.cell? ⟨b, 1, none⟩ = some (.int .i64 0))
    (hl : len ≤ cap) (hm : cap ≤ maxLen) :
    Calls Tryz.prog 58 #[.pointer (some ⟨b, 0, none⟩)] w fun e w' => e = .returned (.slice A len cap) ∧ ∃ n, w' = w.drewN n := by
  unfold maxLen at hm
  go_enter Tryz.func58, Tryz.ntmps58
  go_wp2
  go_quiet (fail)
  go_wp2
  go_ret
  exact ⟨rfl, _, rfl⟩
set_option maxHeartbeats 400000 in
theorem bufReset (b len cap : Nat) (g : Addr) (w : World) (off : Int) (lr : Int) (hc : w.cell? ⟨b, 0, none⟩ = some (.slice (some g) len cap)) (hc1 : w.cell? ⟨b, 1, none⟩ = some (.int .i64 off)) (hc2 : w.cell? ⟨b, 2, none⟩ = some (.int .i8 lr))
    (hf : w.frozen? ⟨b, 0, none⟩ = false) (hf1 : w.frozen? ⟨b, 1, none⟩ = false) (hf2 : w.frozen? ⟨b, 2, none⟩ = false) (hl : len ≤ cap) (hm : cap ≤ maxLen) :
    Calls Tryz.prog 75 #[.pointer (some ⟨b, 0, none⟩)] w fun e w' => e = .returned (.tuple #[]) ∧ ((w.setCell ⟨b, 0, none⟩ (.slice (some g) 0 cap)).setCell ⟨b, 1, none⟩ (.int .i64 0)).setCell ⟨b, 2, none⟩ (.int .i8 0) = w' := by
  unfold maxLen at hm
  go_enter Tryz.func75, Tryz.ntmps75
  go_wp2
  go_end0
  exact ⟨rfl, rfl⟩
end Go.Proofs.YtpfmcdhmboclhaaGreatDoor
namespace Go.Proofs.YtpfmcdhmboclhaaGreatDoor
open Go.Shelf
def Tryz.laysM290_ren : Go.Shelf.Ren := ⟨fun | 290 => 88 | 324 => 107 | n => n, fun | 37 => 30 | 3 => 3 | 0 => 0 | 4 => 4 | 20 => 20 | 75 => 60 | 5 => 5 | 80 => 115 | 9 => 9 | n => n, fun | 14 => 4 | n => n⟩
theorem Tryz.laysM290 : Go.Proofs.LaysM.n290 Tryz.prog Tryz.laysM290_ren := {
  mixed := by kernel_rfl
  f290 := Tryz.func88.trans (congrArg some (by kernel_rfl))
  f324 := Tryz.func107.trans (congrArg some (by kernel_rfl))
  t0 := Tryz.underlying0
  a0 := Tryz.isAgg0
  z0 := Tryz.sizeOf0
  v0 := Tryz.zeroValue0
  t3 := Tryz.underlying3
  a3 := Tryz.isAgg3
  z3 := Tryz.sizeOf3
  v3 := Tryz.zeroValue3
  t4 := Tryz.underlying4
  a4 := Tryz.isAgg4
  z4 := Tryz.sizeOf4
  v4 := Tryz.zeroValue4
  t20 := Tryz.underlying20
  a20 := Tryz.isAgg20
  z20 := Tryz.sizeOf20
  v20 := Tryz.zeroValue20
  t37 := Tryz.underlying30
  a37 := Tryz.isAgg30
  z37 := Tryz.sizeOf30
  v37 := Tryz.zeroValue30
  t75 := Tryz.underlying60
  a75 := Tryz.isAgg60
  z75 := Tryz.sizeOf60
  v75 := Tryz.zeroValue60
  g14 := by kernel_rfl
  t5 := Tryz.underlying5
  a5 := Tryz.isAgg5
  z5 := Tryz.sizeOf5
  v5 := Tryz.zeroValue5
  t9 := Tryz.underlying9
  a9 := Tryz.isAgg9
  z9 := Tryz.sizeOf9
  v9 := Tryz.zeroValue9
  t80 := Tryz.underlying115
  a80 := Tryz.isAgg115
  z80 := Tryz.sizeOf115
  v80 := Tryz.zeroValue115
  i0 := by kernel_rfl
  i3 := by kernel_rfl
  i4 := by kernel_rfl
  i5 := by kernel_rfl
  i9 := by kernel_rfl
  i20 := by kernel_rfl
  i37 := by kernel_rfl
  i75 := by kernel_rfl
  i80 := by kernel_rfl
  m14 := by kernel_rfl }
open Go.RowKit in
/-- bytes.growSlice: "growSlice grows b by n, preserving the original content of b.": OF A SLICE THAT LIES AT THE HEAD OF A ROW: a new row, number 'w.heap.size': it begins with b's l cells; its capacity has room for n more; whatever lay below is as it was. (LAID: no walk: one application.) -/
theorem Tryz.bytes_growSlice_row (g l c n : Nat) (cur : Array Value) (w : World) (hg : w.heap[g]? = some (.cells cur 5 (0, 0))) (hcs : cur.size = c) (hlc : l ≤ c) (hn : 1 ≤ n) (hlim : l + n ≤ 140737488355328) (hc2 : c ≤ 140737488355328) (h1 : ∀ v ∈ cur.toList.take l, v.oneCell' = true) :
    Calls Tryz.prog 88 #[.slice (some ⟨g, 0, none⟩) l c, .int .i64 n] w fun e w' => ∃ cap2 cells, e = .returned (.slice (some ⟨w.heap.size, 0, none⟩) l cap2) ∧ w'.heap[w.heap.size]? = some (.cells cells 5 (0, 0)) ∧
      cells.size = cap2 ∧ cells.toList.take l = cur.toList.take l ∧ l + n ≤ cap2 ∧ cap2 ≤ maxLen ∧ Below w.heap.size w w' := Any.bytes_growSlice_row Tryz.laysM290 g l c n cur w hg hcs hlc hn hlim hc2 h1
open Go.RowKit in
/-- .. OF THE NIL SLICE: a new row with room for n. (LAID: no walk: one application.) -/
theorem Tryz.bytes_growSlice_nil (n : Nat) (w : World) (hn : 1 ≤ n) (hlim : n ≤ 140737488355328) :
    Calls Tryz.prog 88 #[.slice none 0 0, .int .i64 n] w fun e w' => ∃ cap2 cells, e = .returned (.slice (some ⟨w.heap.size, 0, none⟩) 0 cap2) ∧ w'.heap[w.heap.size]? = some (.cells cells 5 (0, 0)) ∧
      cells.size = cap2 ∧ n ≤ cap2 ∧ cap2 ≤ maxLen ∧ Below w.heap.size w w' := Any.bytes_growSlice_nil Tryz.laysM290 n w hn hlim
def Tryz.laysBin40_ren : Go.Shelf.Ren := ⟨fun | 40 => 90 | n => n, fun | 37 => 154 | 22 => 30 | 29 => 22 | 0 => 0 | 5 => 5 | 45 => 24 | n => n, fun | n => n⟩
theorem Tryz.laysBin40 : Go.Proofs.LaysBin.n40 Tryz.prog Tryz.laysBin40_ren := {
  mixed := by kernel_rfl
  f40 := Tryz.func90.trans (congrArg some (by kernel_rfl))
  t0 := Tryz.underlying0
  a0 := Tryz.isAgg0
  z0 := Tryz.sizeOf0
  v0 := Tryz.zeroValue0
  i0 := by kernel_rfl
  t5 := Tryz.underlying5
  a5 := Tryz.isAgg5
  z5 := Tryz.sizeOf5
  v5 := Tryz.zeroValue5
  i5 := by kernel_rfl
  t22 := Tryz.underlying30
  a22 := Tryz.isAgg30
  z22 := Tryz.sizeOf30
  v22 := Tryz.zeroValue30
  i22 := by kernel_rfl
  t29 := Tryz.underlying22
  a29 := Tryz.isAgg22
  z29 := Tryz.sizeOf22
  v29 := Tryz.zeroValue22
  i29 := by kernel_rfl
  t37 := Tryz.underlying154
  a37 := Tryz.isAgg154
  z37 := Tryz.sizeOf154
  v37 := Tryz.zeroValue154
  i37 := by kernel_rfl
  t45 := Tryz.underlying24
  a45 := Tryz.isAgg24
  z45 := Tryz.sizeOf24
  v45 := Tryz.zeroValue24
  i45 := by kernel_rfl }
open Go.RowKit in
/-- binary.BigEndian.PutUint32: "PutUint32 stores v into b[0:4].": v's 4 BYTES, the greatest first ('Lib.beBytes 4 v'), ARE LAID IN THE SLICE's FIRST 4 CELLS ('World.setCells'); nothing else turns (the receiver, an empty struct, is laid in a new block without cells). (LAID: no walk: one application.) -/
theorem Tryz.binary_BE_PutUint32 (g o n c v : Nat) (hv : v < 4294967296) (x0 x1 x2 x3 : Value) (w : World) (hn : 4 ≤ n) (c0 : w.cell? ⟨g, o, none⟩ = some x0) (c1 : w.cell? ⟨g, o + 1, none⟩ = some x1) (c2 : w.cell? ⟨g, o + 2, none⟩ = some x2) (c3 : w.cell? ⟨g, o + 3, none⟩ = some x3) (f0 : w.frozen? ⟨g, o, none⟩ = false) (f1 : w.frozen? ⟨g, o + 1, none⟩ = false) (f2 : w.frozen? ⟨g, o + 2, none⟩ = false) (f3 : w.frozen? ⟨g, o + 3, none⟩ = false) :
    Calls Tryz.prog 90 #[.agg #[], .slice (some ⟨g, o, none⟩) n c, .int .u32 v] w fun e w' => e = .returned (.tuple #[]) ∧ w' = (w.alloc (.cells #[] 154)).setCells g o (Lib.byteCells (Lib.beBytes 4 v)) := Any.binary_BE_PutUint32 Tryz.laysBin40 g o n c v hv x0 x1 x2 x3 w hn c0 c1 c2 c3 f0 f1 f2 f3
def Tryz.laysBin43_ren : Go.Shelf.Ren := ⟨fun | 43 => 74 | n => n, fun | 37 => 154 | 22 => 30 | 33 => 38 | 0 => 0 | 5 => 5 | 45 => 24 | n => n, fun | n => n⟩
theorem Tryz.laysBin43 : Go.Proofs.LaysBin.n43 Tryz.prog Tryz.laysBin43_ren := {
  mixed := by kernel_rfl
  f43 := Tryz.func74.trans (congrArg some (by kernel_rfl))
  t0 := Tryz.underlying0
  a0 := Tryz.isAgg0
  z0 := Tryz.sizeOf0
  v0 := Tryz.zeroValue0
  i0 := by kernel_rfl
  t5 := Tryz.underlying5
  a5 := Tryz.isAgg5
  z5 := Tryz.sizeOf5
  v5 := Tryz.zeroValue5
  i5 := by kernel_rfl
  t22 := Tryz.underlying30
  a22 := Tryz.isAgg30
  z22 := Tryz.sizeOf30
  v22 := Tryz.zeroValue30
  i22 := by kernel_rfl
  t33 := Tryz.underlying38
  a33 := Tryz.isAgg38
  z33 := Tryz.sizeOf38
  v33 := Tryz.zeroValue38
  i33 := by kernel_rfl
  t37 := Tryz.underlying154
  a37 := Tryz.isAgg154
  z37 := Tryz.sizeOf154
  v37 := Tryz.zeroValue154
  i37 := by kernel_rfl
  t45 := Tryz.underlying24
  a45 := Tryz.isAgg24
  z45 := Tryz.sizeOf24
  v45 := Tryz.zeroValue24
  i45 := by kernel_rfl }
open Go.RowKit in
/-- binary.BigEndian.PutUint64: "PutUint64 stores v into b[0:8].": v's 8 BYTES, the greatest first ('Lib.beBytes 8 v'), ARE LAID IN THE SLICE's FIRST 8 CELLS ('World.setCells'); nothing else turns (the receiver, an empty struct, is laid in a new block without cells). (LAID: no walk: one application.) -/
theorem Tryz.binary_BE_PutUint64 (g o n c v : Nat) (hv : v < 18446744073709551616) (x0 x1 x2 x3 x4 x5 x6 x7 : Value) (w : World) (hn : 8 ≤ n) (c0 : w.cell? ⟨g, o, none⟩ = some x0) (c1 : w.cell? ⟨g, o + 1, none⟩ = some x1) (c2 : w.cell? ⟨g, o + 2, none⟩ = some x2) (c3 : w.cell? ⟨g, o + 3, none⟩ = some x3) (c4 : w.cell? ⟨g, o + 4, none⟩ = some x4) (c5 : w.cell? ⟨g, o + 5, none⟩ = some x5) (c6 : w.cell? ⟨g, o + 6, none⟩ = some x6) (c7 : w.cell? ⟨g, o + 7, none⟩ = some x7) (f0 : w.frozen? ⟨g, o, none⟩ = false) (f1 : w.frozen? ⟨g, o + 1, none⟩ = false) (f2 : w.frozen? ⟨g, o + 2, none⟩ = false) (f3 : w.frozen? ⟨g, o + 3, none⟩ = false) (f4 : w.frozen? ⟨g, o + 4, none⟩ = false) (f5 : w.frozen? ⟨g, o + 5, none⟩ = false) (f6 : w.frozen? ⟨g, o + 6, none⟩ = false) (f7 : w.frozen? ⟨g, o + 7, none⟩ = false) :
    Calls Tryz.prog 74 #[.agg #[], .slice (some ⟨g, o, none⟩) n c, .int .u64 v] w fun e w' => e = .returned (.tuple #[]) ∧ w' = (w.alloc (.cells #[] 154)).setCells g o (Lib.byteCells (Lib.beBytes 8 v)) := Any.binary_BE_PutUint64 Tryz.laysBin43 g o n c v hv x0 x1 x2 x3 x4 x5 x6 x7 w hn c0 c1 c2 c3 c4 c5 c6 c7 f0 f1 f2 f3 f4 f5 f6 f7
end Go.Proofs.YtpfmcdhmboclhaaGreatDoor
namespace Go.Proofs.YtpfmcdhmboclhaaGreatDoor
open Go.RowKit

/-- A block that holds a bytes.Buffer from which nothing was read. -/
def BufAt (w : World) (b : Nat) (v : Value) (lr : Int) : Prop := w.heap[b]? = some (.cells #[v, .int .i64 0, .int .i8 lr] 122 (0, 0))
theorem BufAt.c0 {w : World} {b : Nat} {v : Value} {lr : Int} (h : BufAt w b v lr) : w.cell? ⟨b, 0, none⟩ = some v := by rw [Lib.cell_of_heap h]; rfl
theorem BufAt.c1 {w : World} {b : Nat} {v : Value} {lr : Int} (h : BufAt w b v lr) : w.cell? ⟨b, 1, none⟩ = some (.int .i64 0) := by rw [Lib.cell_of_heap h]; rfl
theorem BufAt.c2 {w : World} {b : Nat} {v : Value} {lr : Int} (h : BufAt w b v lr) : w.cell? ⟨b, 2, none⟩ = some (.int .i8 lr) := by rw [Lib.cell_of_heap h]; rfl
theorem BufAt.f {w : World} {b : Nat} {v : Value} {lr : Int} (h : BufAt w b v lr) (i : Nat) : w.frozen? ⟨b, i, none⟩ = false := Lib.frozen_of_heap h i
theorem BufAt.lt {w : World} {b : Nat} {v : Value} {lr : Int} (h : BufAt w b v lr) : b < w.heap.size := Lib.lt_of_heap h
theorem BufAt.set0 {w : World} {b : Nat} {v : Value} {lr : Int} (h : BufAt w b v lr) (u : Value) : BufAt (w.setCell ⟨b, 0, none⟩ u) b u lr := Lib.heap_setCell_same (i := 0) h u
theorem BufAt.set1 {w : World} {b : Nat} {v : Value} {lr : Int} (h : BufAt w b v lr) : BufAt (w.setCell ⟨b, 1, none⟩ (.int .i64 0)) b v lr := Lib.heap_setCell_same (i := 1) h _
theorem BufAt.set2 {w : World} {b : Nat} {v : Value} {lr : Int} (h : BufAt w b v lr) (x : Int) : BufAt (w.setCell ⟨b, 2, none⟩ (.int .i8 x)) b v x := Lib.heap_setCell_same (i := 2) h _
theorem BufAt.of {w w' : World} {b : Nat} {v : Value} {lr : Int} (h : BufAt w b v lr) (e : w'.heap[b]? = w.heap[b]?) : BufAt w' b v lr := e.trans h
/-- What grow leaves. -/
def Grew (w : World) (b len n : Nat) (lr : Int) (first : List Value) (w' : World) : Prop :=
  ∃ G cap cells, BufAt w' b (.slice (some ⟨G, 0, none⟩) (len + n) cap) lr ∧ w.heap.size ≤ G ∧ w'.heap[G]? = some (.cells cells 5 (0, 0)) ∧ cells.size = cap ∧ cells.toList.take len = first ∧ len + n ≤ cap ∧ cap ≤ maxLen ∧ Kp [b] w w'
theorem grew_end {w w1 w2 : World} {b len n cap : Nat} {lr : Int} {v : Value} {first : List Value} {cells : Array Value} (hk : ∃ k, w1 = w.drewN k) (hb : BufAt w b v lr) (hbel : Below w1.heap.size w1 w2)
    (hN : w2.heap[w1.heap.size]? = some (.cells cells 5 (0, 0))) (h1 : cells.size = cap) (h2 : cells.toList.take len = first) (h3 : len + n ≤ cap) (h4 : cap ≤ maxLen) (u : Value) :
    Grew w b len n lr first (((w2.setCell ⟨b, 0, none⟩ u).setCell ⟨b, 1, none⟩ (.int .i64 0)).setCell ⟨b, 0, none⟩ (.slice (some ⟨w1.heap.size, 0, none⟩) (len + n) cap)) := by
  obtain ⟨k, rfl⟩ := hk
  have hlt := hb.lt
  have hsz : (w.drewN k).heap.size = w.heap.size := rfl
  have hb2 : BufAt w2 b v lr := hb.of (hbel.block b (by rw [hsz]; exact hlt))
  refine ⟨(w.drewN k).heap.size, cap, cells, ((hb2.set0 u).set1).set0 _, Nat.le_refl _, ?_, h1, h2, h3, h4, ?_⟩
  · rw [Below.heap_setCell _ _ _ _ (by simp only [hsz]; omega), Below.heap_setCell _ _ _ _ (by simp only [hsz]; omega), Below.heap_setCell _ _ _ _ (by simp only [hsz]; omega)]
    exact hN
  · refine (((((Kp.refl [b] w).drewN k).add hbel).setCell (.inl ?_) _).setCell (.inl ?_) _).setCell (.inl ?_) _ <;> exact List.mem_singleton.2 rfl
set_option maxHeartbeats 1000000 in
set_option maxRecDepth 100000 in
theorem grow_row (b g len cap n : Nat) (lr : Int) (cur : Array Value) (first : List Value) (w : World) (hb : BufAt w b (.slice (some ⟨g, 0, none⟩) len cap) lr) (hg : w.heap[g]? = some (.cells cur 5 (0, 0)))
    (hlen : 1 ≤ len) (hlc : len ≤ cap) (hcm : cap ≤ maxLen) (hcs : cur.size = cap) (htake : cur.toList.take len = first) (h1 : ∀ v ∈ first, v.oneCell' = true) (hn : 1 ≤ n) (hroom : cap - len < n) (hlim : len + n ≤ 1000000000000) :
    Calls Tryz.prog 69 #[.pointer (some ⟨b, 0, none⟩), .int .i64 n] w fun e w' => e = .returned (.int .i64 len) ∧ Grew w b len n lr first w' := by
  have hnil : ∀ W, (binOp .eql 30 (.slice (some ⟨g, 0, none⟩) len cap) (.slice none 0 0)).run Tryz.prog W = .ok (.bool false) W := fun W => Lib.run_eql_slice_some_nil W _ _ _ Tryz.underlying30
  have hcm' := hcm
  unfold maxLen at hcm'
  go_enter Tryz.func69, Tryz.ntmps69
  go_wp2_with (go_at_call 56; refine (bufLen b len cap (some ⟨g, 0, none⟩) _ hb.c0 hb.c1 hlc hcm).mono ?_)
  rintro e W0 ⟨rfl, k, hW0⟩
  have hb0 : BufAt W0 b (.slice (some ⟨g, 0, none⟩) len cap) lr := by rw [hW0]; exact hb
  have hg0 : W0.heap[g]? = some (.cells cur 5 (0, 0)) := by rw [hW0]; exact hg
  have c0 := hb0.c0
  have c1 := hb0.c1
  have f0 := hb0.f 0
  have f1 := hb0.f 1
  have HW0 := Lib.hid hW0
  clear hW0
  go_wp2_with (go_at_call 68; refine (tryGrow_no b n len cap _ _ c0 hlc hcm hroom).mono ?_; rintro e w' ⟨rfl, rfl⟩)
  have hc2 : cap ≤ 140737488355328 := by omega
  have h1' : ∀ v ∈ cur.toList.take len, v.oneCell' = true := by rw [htake]; exact h1
  have hbW := hb0.lt
  have hwn : IntKind.i64.wrap (n : Int) = n := by rw [IntKind.wrap_i64]; omega
  go_region_with (
      go_at_call 88
      refine (Tryz.bytes_growSlice_row g len cap n cur _ ?_ hcs hlc hn (by omega) hc2 h1').mono ?_
      exact hg0
      rintro e w2 ⟨cap2, cells, rfl, hN, hcsz, htk, hcap2, hcm2, hbel⟩
      have hb2 : BufAt w2 b (.slice (some ⟨g, 0, none⟩) len cap) lr := hb0.of (hbel.block b hbW)
      have d0 := hb2.c0
      have d1 := hb2.c1
      have e0 := hb2.f 0
      have e1 := hb2.f 1)
  all_goals (
    go_wp2
    go_ret
    exact ⟨rfl, grew_end (w1 := W0.drew) (by obtain ⟨k, hk⟩ : ∃ k, W0 = w.drewN k := ⟨_, HW0.out⟩; exact ⟨k + 1, by rw [hk]; rfl⟩) hb hbel hN hcsz (htk.trans htake) hcap2 hcm2 _⟩)
end Go.Proofs.YtpfmcdhmboclhaaGreatDoor
namespace Go.Proofs.YtpfmcdhmboclhaaGreatDoor
open Go.RowKit

theorem info5 : (Tryz.prog.info? 5).map (fun i => (i.zero, i.size, i.bytes)) = some (some (.int .u8 0), 1, 1) := by kernel_rfl
theorem grow_small_end {w w1 : World} {b n : Nat} {lr : Int} {M : Array Value} (hk : ∃ k, w1 = w.drewN k) (hb : BufAt w b (.slice none 0 0) lr) (hM : M.size = 64) (h64 : n ≤ 64) :
    Grew w b 0 n lr [] ((w1.setCell ⟨b, 0, none⟩ (.slice (some ⟨w1.heap.size, 0, none⟩) n 64)).alloc (.cells M 5)) := by
  obtain ⟨k, rfl⟩ := hk
  have hlt := hb.lt
  have hsz : (w.drewN k).heap.size = w.heap.size := rfl
  have hb1 : BufAt (w.drewN k) b (.slice none 0 0) lr := hb
  have hsz2 : ((w.drewN k).setCell ⟨b, 0, none⟩ (.slice (some ⟨(w.drewN k).heap.size, 0, none⟩) n 64)).heap.size = w.heap.size := by simp [World.setCell]
  refine ⟨(w.drewN k).heap.size, 64, M, ?_, Nat.le_refl _, ?_, hM, rfl, by omega, by unfold maxLen; omega, ?_⟩
  · rw [Nat.zero_add]
    exact (hb1.set0 _).of (Below.heap_alloc _ _ _ (by rw [hsz2]; exact hlt))
  · have := heap_alloc_new ((w.drewN k).setCell ⟨b, 0, none⟩ (.slice (some ⟨(w.drewN k).heap.size, 0, none⟩) n 64)) (.cells M 5)
    rwa [hsz2] at this
  · exact (((Kp.refl [b] w).drewN k).setCell (.inl (List.mem_singleton.2 rfl)) _).alloc _
set_option maxHeartbeats 1000000 in
set_option maxRecDepth 100000 in
theorem grow_nil_small (b n : Nat) (lr : Int) (w : World) (hb : BufAt w b (.slice none 0 0) lr) (hn : 1 ≤ n) (h64 : n ≤ 64) :
    Calls Tryz.prog 69 #[.pointer (some ⟨b, 0, none⟩), .int .i64 n] w fun e w' => e = .returned (.int .i64 0) ∧ Grew w b 0 n lr [] w' := by
  obtain ⟨i0, hi, hz0, hz1, hz2⟩ := info_parts info5
  obtain ⟨M, hM⟩ : ∃ M, M = madeCells (Value.int .u8 0).cells ((64 : Int).toNat * i0.size) := ⟨_, rfl⟩
  have hMs : M.size = 64 := by rw [hM, size_madeCells, hz1]; rfl
  have hmk : ∀ W : World, (Instr.makeSlice 30 (.int .i64 (n : Int)) (.int .i64 64)).run Tryz.prog W = .ok (.slice (some ⟨W.heap.size, 0, none⟩) n 64) (W.alloc (.cells M 5)) := fun W => by
    have h := run_makeSlice (P := Tryz.prog) W 30 5 i0 (.int .u8 0) Tryz.underlying30 hi hz0 .i64 .i64 (n : Int) 64 (by omega) (by omega) (by rw [hz1]; decide) (by rw [hz2]; decide) (by decide)
    rw [← hM] at h
    simpa using h
  clear hM hz0 hz1 hz2 hi
  have HM := Lib.hid hMs
  clear hMs
  have hnil : ∀ W, (binOp .eql 30 (.slice none 0 0) (.slice none 0 0)).run Tryz.prog W = .ok (.bool true) W := fun W => Lib.run_eql_slice_nil_nil W _ _ Tryz.underlying30
  go_enter Tryz.func69, Tryz.ntmps69
  go_wp2_with (go_at_call 56; refine (bufLen b 0 0 none _ hb.c0 hb.c1 (Nat.le_refl _) (Nat.zero_le _)).mono ?_)
  rintro e W0 ⟨rfl, k, hW0⟩
  have hb0 : BufAt W0 b (.slice none 0 0) lr := by rw [hW0]; exact hb
  have c0 := hb0.c0
  have c1 := hb0.c1
  have f0 := hb0.f 0
  have hbW0 := hb0.lt
  have c0a : ∀ o, (W0.alloc o).cell? ⟨b, 0, none⟩ = some (.slice none 0 0) := fun o => (World.cell?_of_block (a := ⟨b, 0, none⟩) (Below.heap_alloc W0 o b hbW0)).trans c0
  have f0a : ∀ o, (W0.alloc o).frozen? ⟨b, 0, none⟩ = false := fun o => (World.frozen?_of_block (a := ⟨b, 0, none⟩) (Below.heap_alloc W0 o b hbW0)).trans f0
  have HW0 := Lib.hid hW0
  clear hW0
  go_wp2_with (go_at_call 68; refine (tryGrow_no b n 0 0 none _ c0 (Nat.le_refl _) (Nat.zero_le _) (by omega)).mono ?_; rintro e w' ⟨rfl, rfl⟩)
  go_ret
  exact ⟨rfl, grow_small_end (by obtain ⟨k, hk⟩ : ∃ k, W0 = w.drewN k := ⟨_, HW0.out⟩; exact ⟨k, hk⟩) hb HM.out h64⟩
set_option maxHeartbeats 1000000 in
set_option maxRecDepth 100000 in
theorem grow_nil_big (b n : Nat) (lr : Int) (w : World) (hb : BufAt w b (.slice none 0 0) lr) (h64 : 64 < n) (hlim : n ≤ 1000000000000) :
    Calls Tryz.prog 69 #[.pointer (some ⟨b, 0, none⟩), .int .i64 n] w fun e w' => e = .returned (.int .i64 0) ∧ Grew w b 0 n lr [] w' := by
  have hnil : ∀ W, (binOp .eql 30 (.slice none 0 0) (.slice none 0 0)).run Tryz.prog W = .ok (.bool true) W := fun W => Lib.run_eql_slice_nil_nil W _ _ Tryz.underlying30
  go_enter Tryz.func69, Tryz.ntmps69
  go_wp2_with (go_at_call 56; refine (bufLen b 0 0 none _ hb.c0 hb.c1 (Nat.le_refl _) (Nat.zero_le _)).mono ?_)
  rintro e W0 ⟨rfl, k, hW0⟩
  have hb0 : BufAt W0 b (.slice none 0 0) lr := by rw [hW0]; exact hb
  have c0 := hb0.c0
  have c1 := hb0.c1
  have f0 := hb0.f 0
  have f1 := hb0.f 1
  have HW0 := Lib.hid hW0
  clear hW0
  go_wp2_with (go_at_call 68; refine (tryGrow_no b n 0 0 none _ c0 (Nat.le_refl _) (Nat.zero_le _) (by omega)).mono ?_; rintro e w' ⟨rfl, rfl⟩)
  have hbW := hb0.lt
  have hwn : IntKind.i64.wrap (n : Int) = n := by rw [IntKind.wrap_i64]; omega
  go_region_with (
      go_at_call 88
      refine (Tryz.bytes_growSlice_nil n _ (by omega) (by omega)).mono ?_
      rintro e w2 ⟨cap2, cells, rfl, hN, hcsz, hcap2, hcm2, hbel⟩
      have hb2 : BufAt w2 b (.slice none 0 0) lr := hb0.of (hbel.block b hbW)
      have d0 := hb2.c0
      have d1 := hb2.c1
      have e0 := hb2.f 0
      have e1 := hb2.f 1)
  all_goals (
    go_wp2
    go_ret
    have hend := grew_end (first := []) (len := 0) (n := n) (w1 := W0.drew) (by obtain ⟨k, hk⟩ : ∃ k, W0 = w.drewN k := ⟨_, HW0.out⟩; exact ⟨k + 1, by rw [hk]; rfl⟩) hb hbel hN hcsz (by simp) (by omega) hcm2 (.slice (some ⟨W0.drew.heap.size, 0, none⟩) 0 cap2)
    rw [Nat.zero_add] at hend
    exact ⟨rfl, hend⟩)
end Go.Proofs.YtpfmcdhmboclhaaGreatDoor
namespace Go.Proofs.YtpfmcdhmboclhaaGreatDoor
open Go.RowKit

/-- A buffer in block b, its slice v, its bytes l. -/
def Buf (w : World) (b : Nat) (v : Value) (l : List Int) : Prop := (∃ lr, BufAt w b v lr) ∧ Own w 0 v l ∧ v.ownBlock ≠ some b ∧ (v = .slice none 0 0 ∨ l ≠ [])
/-- What a writer leaves. -/
def Wrote (w : World) (b : Nat) (v : Value) (l : List Int) (w' : World) : Prop :=
  ∃ v', Buf w' b v' l ∧ (v'.ownBlock = v.ownBlock ∨ ∃ g, v'.ownBlock = some g ∧ w.heap.size ≤ g) ∧ Kp (b :: v.ownBlock.toList) w w'
/-- Room for n more has been made. -/
def Ready (w : World) (b : Nat) (v : Value) (l : List Int) (n g cap : Nat) (cur : Array Value) (W : World) : Prop :=
  (∃ lr, BufAt W b (.slice (some ⟨g, 0, none⟩) (l.length + n) cap) lr) ∧ W.heap[g]? = some (.cells cur 5 (0, 0)) ∧ cur.size = cap ∧ cur.toList.take l.length = by8 l ∧ l.length + n ≤ cap ∧ cap ≤ maxLen ∧ g ≠ b ∧
    (v.ownBlock = some g ∨ w.heap.size ≤ g) ∧ Kp [b] w W
theorem ready_of_grew {w w' : World} {b n : Nat} {v : Value} {l : List Int} {lr : Int} (hb : b < w.heap.size) (h : Grew w b l.length n lr (by8 l) w') : ∃ g cap cur, Ready w b v l n g cap cur w' := by
  obtain ⟨G, cap, cells, h1, h2, h3, h4, h5, h6, h7, h8⟩ := h
  exact ⟨G, cap, cells, ⟨lr, h1⟩, h3, h4, h5, h6, h7, by omega, .inr h2, h8⟩
theorem ready_room {w W : World} {b n g cap : Nat} {v : Value} {l : List Int} {cur : Array Value} {lr : Int} (hb : BufAt w b (.slice (some ⟨g, 0, none⟩) l.length cap) lr) (hg : w.heap[g]? = some (.cells cur 5 (0, 0))) (h1 : cur.size = cap) (h2 : cur.toList.take l.length = by8 l)
    (h3 : l.length + n ≤ cap) (h4 : cap ≤ maxLen) (h5 : g ≠ b) (hv : v = .slice (some ⟨g, 0, none⟩) l.length cap)
    (hW : (w.setCell ⟨b, 2, none⟩ (.int .i8 0)).setCell ⟨b, 0, none⟩ (.slice (some ⟨g, 0, none⟩) (l.length + n) cap) = W) : Ready w b v l n g cap cur W := by
  subst hW hv
  refine ⟨⟨0, (hb.set2 0).set0 _⟩, ?_, h1, h2, h3, h4, h5, .inl rfl, ?_⟩
  · rw [Below.heap_setCell _ _ _ _ h5, Below.heap_setCell _ _ _ _ h5]
    exact hg
  · exact (((Kp.refl [b] w).setCell (.inl (List.mem_singleton.2 rfl)) _).setCell (.inl (List.mem_singleton.2 rfl)) _)
/-- The bytes are laid in the room. -/
theorem wrote_row {w W : World} {b g cap : Nat} {v : Value} {l cs : List Int} {cur : Array Value} (h : Ready w b v l cs.length g cap cur W) (hne : cs ≠ []) :
    Wrote w b v (l ++ cs) (W.setRow g (by8 l ++ (by8 cs ++ cur.toList.drop (l.length + cs.length))).toArray) := by
  obtain ⟨⟨lr, h1⟩, h2, h3, h4, h5, h6, h7, h8, h9⟩ := h
  have hlen : (by8 l ++ (by8 cs ++ cur.toList.drop (l.length + cs.length))).length = cap := by
    simp only [List.length_append, List.length_drop, Array.length_toList, h3, by8_length]
    omega
  refine ⟨.slice (some ⟨g, 0, none⟩) (l.length + cs.length) cap, ⟨⟨lr, h1.of (setRow_other _ _ _ _ (Ne.symm h7))⟩, ?_, by simp [Value.ownBlock, h7], .inr (by simp [hne])⟩, ?_, ?_⟩
  · have := Own.mk (base := 0) (l := l ++ cs) (cap := cap) (Nat.zero_le g) (setRow_heap W g cur _ 5 (0, 0) h2) (by rw [List.length_append]; exact h5) h6 (by rw [List.size_toArray]; exact hlen) (by
      rw [List.toList_toArray, ← List.append_assoc, ← by8_append, List.length_append, List.take_append_of_le_length (by rw [by8_length, List.length_append]; omega), List.take_of_length_le (by rw [by8_length, List.length_append]; omega)])
    rwa [List.length_append] at this
  · rcases h8 with h8 | h8
    · exact .inl (by rw [h8]; rfl)
    · exact .inr ⟨g, rfl, h8⟩
  · refine ⟨h9.os, h9.tape, h9.output, by simpa [World.setRow] using h9.size, fun k hk hx => ?_⟩
    rw [setRow_other _ _ _ _ ?_]
    · exact h9.block k hk (fun e => hx (List.mem_cons.2 (.inl (List.mem_singleton.1 e))))
    · rintro rfl
      rcases h8 with h8 | h8
      · exact hx (by rw [h8]; simp)
      · omega
/-- One byte is laid. -/
theorem wrote_cell {w W : World} {b g cap : Nat} {v : Value} {l : List Int} {cur : Array Value} {x : Int} (h : Ready w b v l 1 g cap cur W) :
    Wrote w b v (l ++ [x]) (W.setCell ⟨g, l.length, none⟩ (.int .u8 x)) := by
  obtain ⟨⟨lr, h1⟩, h2, h3, h4, h5, h6, h7, h8, h9⟩ := h
  refine ⟨.slice (some ⟨g, 0, none⟩) (l.length + 1) cap, ⟨⟨lr, h1.of (Below.heap_setCell _ _ _ _ (Ne.symm h7))⟩, ?_, by simp [Value.ownBlock, h7], .inr (by simp)⟩, ?_, ?_⟩
  · have hlt : l.length < cur.size := by omega
    have := Own.mk (base := 0) (l := l ++ [x]) (cap := cap) (Nat.zero_le g) (Lib.heap_setCell_same (i := l.length) h2 (.int .u8 x)) (by rw [List.length_append]; exact h5) h6 (by rw [Array.size_setIfInBounds]; exact h3) (by
      rw [Array.toList_setIfInBounds, List.length_append, by8_append, ← h4]
      have e : (cur.toList.set l.length (.int .u8 x)).take (l.length + 1) = cur.toList.take l.length ++ [.int .u8 x] := by
        rw [List.take_add_one, List.take_set_of_le (Nat.le_refl _)]
        simp [List.getElem?_set, hlt]
      simpa [by8] using e)
    rwa [List.length_append] at this
  · rcases h8 with h8 | h8
    · exact .inl (by rw [h8]; rfl)
    · exact .inr ⟨g, rfl, h8⟩
  · refine h9.mono (Y := b :: v.ownBlock.toList) ?_ |>.setCell ?_ _
    · intro k _ hk; exact List.mem_cons.2 (.inl (List.mem_singleton.1 hk))
    · rcases h8 with h8 | h8
      · exact .inl (by rw [h8]; simp)
      · exact .inr h8
end Go.Proofs.YtpfmcdhmboclhaaGreatDoor
