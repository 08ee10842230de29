/- encoding/binary.BigEndian's PutUint32 and PutUint64 over a block of bytes. THE PLAIN MATHEMATICS OF BER NUMBERS: bytes of lengths, of numbers with and without a sign. No program in sight. gosnmp: the content of an INTEGER of 32 bits; of a length; an INTEGER whole. gosnmp: a length's bytes. gosnmp: a tag, a length and content, written to a buffer. -/
import Derived.Lib.BufferMore
import Derived.Test.YtpfmcdhmboclhaaGreatDoorG01
set_option linter.unusedVariables false
set_option linter.unusedSimpArgs false
namespace Go.Proofs.YtpfmcdhmboclhaaGreatDoor
open Go.RowKit

def Put (w : World) (g : Nat) (T : TypeId) (l : List Int) (w' : World) : Prop := w'.heap[g]? = some (.cells (by8 l).toArray T (0, 0)) ∧ Kp [g] w w'
theorem setCells_at {g : Nat} {T : TypeId} : ∀ (vs : List Value) (o : Nat) (w : World) (cur : Array Value), w.heap[g]? = some (.cells cur T (0, 0)) → o + vs.length ≤ cur.size →
    (w.setCells g o vs).heap[g]? = some (.cells (cur.toList.take o ++ vs ++ cur.toList.drop (o + vs.length)).toArray T (0, 0)) ∧ Kp [g] w (w.setCells g o vs)
  | [], o, w, cur, h, _ => by
    refine ⟨?_, Kp.refl _ _⟩
    simpa [World.setCells] using h
  | v :: r, o, w, cur, h, hs => by
    have h1 := Lib.heap_setCell_same (i := o) h v
    simp only [List.length_cons] at hs
    obtain ⟨h2, h3⟩ := setCells_at r (o + 1) _ _ h1 (by rw [Array.size_setIfInBounds]; omega)
    refine ⟨?_, ((Kp.refl [g] w).setCell (p := ⟨g, o, none⟩) (.inl (List.mem_singleton.2 rfl)) v).trans h3⟩
    show (World.setCells _ g (o + 1) r).heap[g]? = _
    rw [h2]
    have hlt : o < cur.toList.length := by rw [Array.length_toList]; omega
    have e1 : (cur.setIfInBounds o v).toList.take (o + 1) = cur.toList.take o ++ [v] := by
      rw [Array.toList_setIfInBounds, List.take_add_one, List.take_set_of_le (Nat.le_refl _)]
      simp [List.getElem?_set, hlt]
      have : o < cur.size := by simpa using hlt
      simp [this]
    have e2 : (cur.setIfInBounds o v).toList.drop (o + 1 + r.length) = cur.toList.drop (o + (v :: r).length) := by
      rw [Array.toList_setIfInBounds, List.drop_set_of_lt (by omega), List.length_cons]
      congr 1
      omega
    rw [e1, e2]
    simp
theorem be4 (v : Nat) (h : v < 4294967296) : Lib.byteCells (Lib.beBytes 4 v) = by8 [(v : Int) / 16777216, (v : Int) / 65536 % 256, (v : Int) / 256 % 256, (v : Int) % 256] := by
  simp [Lib.byteCells, Lib.beBytes, Lib.leBytes, by8]
  omega
theorem be8 (v : Nat) (h : v < 18446744073709551616) : Lib.byteCells (Lib.beBytes 8 v) = by8 [(v : Int) / 72057594037927936, (v : Int) / 281474976710656 % 256, (v : Int) / 1099511627776 % 256, (v : Int) / 4294967296 % 256, (v : Int) / 16777216 % 256, (v : Int) / 65536 % 256, (v : Int) / 256 % 256, (v : Int) % 256] := by
  simp [Lib.byteCells, Lib.beBytes, Lib.leBytes, by8]
  omega
theorem put32 (g : Nat) (v : Nat) (T : TypeId) (x0 x1 x2 x3 : Value) (w : World) (h1 : v < 4294967296) (hb : w.heap[g]? = some (.cells #[x0, x1, x2, x3] T (0, 0))) :
    Calls Tryz.prog 90 #[.agg #[], .slice (some ⟨g, 0, none⟩) 4 4, .int .u32 v] w fun e w' => e = .returned (.tuple #[]) ∧ Put w g T [(v : Int) / 16777216, (v : Int) / 65536 % 256, (v : Int) / 256 % 256, (v : Int) % 256] w' := by
  have hc : ∀ i x, #[x0, x1, x2, x3][i]? = some x → w.cell? ⟨g, i, none⟩ = some x := fun i x hx => by rw [Lib.cell_of_heap hb, hx]
  have hf : ∀ i, w.frozen? ⟨g, i, none⟩ = false := fun i => Lib.frozen_of_heap hb i
  refine (Tryz.binary_BE_PutUint32 g 0 4 4 v h1 x0 x1 x2 x3 w (Nat.le_refl _) (hc 0 _ rfl) (hc 1 _ rfl) (hc 2 _ rfl) (hc 3 _ rfl) (hf 0) (hf 1) (hf 2) (hf 3)).mono fun e w' ⟨he, hw⟩ => ⟨he, ?_⟩
  subst hw
  have hb' : (w.alloc (.cells #[] 154)).heap[g]? = some (.cells #[x0, x1, x2, x3] T (0, 0)) := by rw [Below.heap_alloc _ _ _ (Lib.lt_of_heap hb)]; exact hb
  rw [be4 v h1]
  obtain ⟨h2, h3⟩ := setCells_at (by8 [(v : Int) / 16777216, (v : Int) / 65536 % 256, (v : Int) / 256 % 256, (v : Int) % 256]) 0 _ _ hb' (by simp [by8])
  exact ⟨by simpa [by8] using h2, ((Kp.refl [g] w).alloc _).trans h3⟩
theorem put64 (g : Nat) (v : Nat) (T : TypeId) (x0 x1 x2 x3 x4 x5 x6 x7 : Value) (w : World) (h1 : v < 18446744073709551616) (hb : w.heap[g]? = some (.cells #[x0, x1, x2, x3, x4, x5, x6, x7] T (0, 0))) :
    Calls Tryz.prog 74 #[.agg #[], .slice (some ⟨g, 0, none⟩) 8 8, .int .u64 v] w fun e w' => e = .returned (.tuple #[]) ∧ Put w g T [(v : Int) / 72057594037927936, (v : Int) / 281474976710656 % 256, (v : Int) / 1099511627776 % 256, (v : Int) / 4294967296 % 256, (v : Int) / 16777216 % 256, (v : Int) / 65536 % 256, (v : Int) / 256 % 256, (v : Int) % 256] w' := by
  have hc : ∀ i x, #[x0, x1, x2, x3, x4, x5, x6, x7][i]? = some x → w.cell? ⟨g, i, none⟩ = some x := fun i x hx => by rw [Lib.cell_of_heap hb, hx]
  have hf : ∀ i, w.frozen? ⟨g, i, none⟩ = false := fun i => Lib.frozen_of_heap hb i
  refine (Tryz.binary_BE_PutUint64 g 0 8 8 v h1 x0 x1 x2 x3 x4 x5 x6 x7 w (Nat.le_refl _) (hc 0 _ rfl) (hc 1 _ rfl) (hc 2 _ rfl) (hc 3 _ rfl) (hc 4 _ rfl) (hc 5 _ rfl) (hc 6 _ rfl) (hc 7 _ rfl) (hf 0) (hf 1) (hf 2) (hf 3) (hf 4) (hf 5) (hf 6) (hf 7)).mono fun e w' ⟨he, hw⟩ => ⟨he, ?_⟩
  subst hw
  have hb' : (w.alloc (.cells #[] 154)).heap[g]? = some (.cells #[x0, x1, x2, x3, x4, x5, x6, x7] T (0, 0)) := by rw [Below.heap_alloc _ _ _ (Lib.lt_of_heap hb)]; exact hb
  rw [be8 v h1]
  obtain ⟨h2, h3⟩ := setCells_at (by8 [(v : Int) / 72057594037927936, (v : Int) / 281474976710656 % 256, (v : Int) / 1099511627776 % 256, (v : Int) / 4294967296 % 256, (v : Int) / 16777216 % 256, (v : Int) / 65536 % 256, (v : Int) / 256 % 256, (v : Int) % 256]) 0 _ _ hb' (by simp [by8])
  exact ⟨by simpa [by8] using h2, ((Kp.refl [g] w).alloc _).trans h3⟩
end Go.Proofs.YtpfmcdhmboclhaaGreatDoor
namespace Go.Proofs.YtpfmcdhmboclhaaGreatDoor

/-- A number to the base 256, the greatest figure first, as few as it takes (none of nought). -/
def be (n : Nat) : List Int := if h : n = 0 then [] else be (n / 256) ++ [((n % 256 : Nat) : Int)]
/-- .. at least one. -/
def be1 (n : Nat) : List Int := if n = 0 then [0] else be n
/-- A length's bytes, with w more than it takes. -/
def lenB (n w : Nat) : List Int := if n < 128 ∧ w = 0 then [(n : Int)] else ((128 + (be n).length + w : Nat) : Int) :: (List.replicate w 0 ++ be n)
/-- A number without a sign. -/
def uintB (n : Nat) : List Int := if (be1 n).headD 0 > 127 then 0 :: be1 n else be1 n
/-- An INTEGER. -/
def intB (n : Int) : List Int := if h : -128 ≤ n ∧ n ≤ 127 then [n % 256] else intB (n / 256) ++ [n % 256]
termination_by n.natAbs
decreasing_by omega
theorem be_zero : be 0 = [] := by rw [be]; rfl
theorem be_step (n : Nat) (h : 0 < n) : be n = be (n / 256) ++ [((n % 256 : Nat) : Int)] := by rw [be, dif_neg (by omega)]
theorem be_1 (n : Nat) (h : 0 < n) (h1 : n < 256) : be n = [(n : Int)] := by
  rw [be_step n h, Nat.div_eq_of_lt h1, be_zero, Nat.mod_eq_of_lt h1]; rfl
theorem be_2 (n : Nat) (h : 256 ≤ n) (h1 : n < 65536) : be n = [(n : Int) / 256, (n : Int) % 256] := by
  rw [be_step n (by omega), be_1 _ (by omega) (by omega)]; simp
theorem be_3 (n : Nat) (h : 65536 ≤ n) (h1 : n < 16777216) : be n = [(n : Int) / 65536, (n : Int) / 256 % 256, (n : Int) % 256] := by
  rw [be_step n (by omega), be_2 _ (by omega) (by omega)]
  simp
  omega
theorem be_4 (n : Nat) (h : 16777216 ≤ n) (h1 : n < 4294967296) : be n = [(n : Int) / 16777216, (n : Int) / 65536 % 256, (n : Int) / 256 % 256, (n : Int) % 256] := by
  rw [be_step n (by omega), be_3 _ (by omega) (by omega)]
  simp
  omega
theorem be1_1 (n : Nat) (h1 : n < 256) : be1 n = [(n : Int)] := by
  unfold be1
  split
  · rename_i h; subst h; rfl
  · exact be_1 n (by omega) h1
theorem be1_pos (n : Nat) (h : 0 < n) : be1 n = be n := if_neg (by omega)
theorem uintB_1 (n : Nat) (h : n < 128) : uintB n = [(n : Int)] := by
  unfold uintB; rw [be1_1 n (by omega)]; simp; omega
theorem uintB_1h (n : Nat) (h : 128 ≤ n) (h1 : n < 256) : uintB n = [0, (n : Int)] := by
  unfold uintB; rw [be1_1 n h1]; simp; omega
theorem uintB_2 (n : Nat) (h : 256 ≤ n) (h1 : n < 32768) : uintB n = [(n : Int) / 256, (n : Int) % 256] := by
  unfold uintB; rw [be1_pos n (by omega), be_2 n h (by omega)]; simp; omega
theorem uintB_2h (n : Nat) (h : 32768 ≤ n) (h1 : n < 65536) : uintB n = [0, (n : Int) / 256, (n : Int) % 256] := by
  unfold uintB; rw [be1_pos n (by omega), be_2 n (by omega) h1]; simp; omega
theorem uintB_3 (n : Nat) (h : 65536 ≤ n) (h1 : n < 8388608) : uintB n = [(n : Int) / 65536, (n : Int) / 256 % 256, (n : Int) % 256] := by
  unfold uintB; rw [be1_pos n (by omega), be_3 n h (by omega)]; simp; omega
theorem uintB_3h (n : Nat) (h : 8388608 ≤ n) (h1 : n < 16777216) : uintB n = [0, (n : Int) / 65536, (n : Int) / 256 % 256, (n : Int) % 256] := by
  unfold uintB; rw [be1_pos n (by omega), be_3 n (by omega) h1]; simp; omega
theorem uintB_4 (n : Nat) (h : 16777216 ≤ n) (h1 : n < 2147483648) : uintB n = [(n : Int) / 16777216, (n : Int) / 65536 % 256, (n : Int) / 256 % 256, (n : Int) % 256] := by
  unfold uintB; rw [be1_pos n (by omega), be_4 n h (by omega)]; simp; omega
theorem uintB_4h (n : Nat) (h : 2147483648 ≤ n) (h1 : n < 4294967296) : uintB n = [0, (n : Int) / 16777216, (n : Int) / 65536 % 256, (n : Int) / 256 % 256, (n : Int) % 256] := by
  unfold uintB; rw [be1_pos n (by omega), be_4 n (by omega) h1]; simp; omega
theorem intB_1 (n : Int) (h : -128 ≤ n ∧ n ≤ 127) : intB n = [n % 256] := by rw [intB, dif_pos h]
theorem intB_step (n : Int) (h : ¬ (-128 ≤ n ∧ n ≤ 127)) : intB n = intB (n / 256) ++ [n % 256] := by rw [intB, dif_neg h]
theorem intB_2 (n : Int) (h : ¬ (-128 ≤ n ∧ n ≤ 127)) (h1 : -32768 ≤ n ∧ n ≤ 32767) : intB n = [n / 256 % 256, n % 256] := by
  rw [intB_step n h, intB_1 _ (by omega)]; rfl
theorem intB_3 (n : Int) (h : ¬ (-32768 ≤ n ∧ n ≤ 32767)) (h1 : -8388608 ≤ n ∧ n ≤ 8388607) : intB n = [n / 65536 % 256, n / 256 % 256, n % 256] := by
  rw [intB_step n (by omega), intB_2 _ (by omega) (by omega)]
  simp
  omega
theorem intB_4 (n : Int) (h : ¬ (-8388608 ≤ n ∧ n ≤ 8388607)) (h1 : -2147483648 ≤ n ∧ n ≤ 2147483647) : intB n = [n / 16777216 % 256, n / 65536 % 256, n / 256 % 256, n % 256] := by
  rw [intB_step n (by omega), intB_3 _ (by omega) (by omega)]
  simp
  omega
/-! ### masks -/
theorem nat_high (i : Nat) (hi : i ≤ 32) (a : Nat) (ha : a < 2 ^ 32) : a &&& (2 ^ 32 - 2 ^ i) = a / 2 ^ i * 2 ^ i := by
  have e : 2 ^ 32 - 2 ^ i = (2 ^ (32 - i) - 1) <<< i := by
    rw [Nat.shiftLeft_eq, Nat.sub_mul, ← Nat.pow_add, Nat.sub_add_cancel hi, Nat.one_mul]
  rw [e, ← Nat.shiftRight_eq_div_pow, ← Nat.shiftLeft_eq]
  apply Nat.eq_of_testBit_eq
  intro j
  rw [Nat.testBit_and, Nat.testBit_shiftLeft, Nat.testBit_shiftLeft, Nat.testBit_two_pow_sub_one, Nat.testBit_shiftRight]
  by_cases h : i ≤ j
  · rw [Nat.add_sub_cancel' h]
    simp only [ge_iff_le, h, decide_true, Bool.true_and]
    by_cases h2 : j - i < 32 - i
    · simp [h2]
    · have : a.testBit j = false := Nat.testBit_lt_two_pow (Nat.lt_of_lt_of_le ha (Nat.pow_le_pow_right (by decide) (by omega)))
      simp [this]
  · simp [h]
theorem mask_high (i : Nat) (hi : i ≤ 32) (x : Int) (h0 : 0 ≤ x) (h1 : x < 4294967296) : bits .and .u32 x ((2 : Int) ^ 32 - 2 ^ i) = x / 2 ^ i * 2 ^ i := by
  obtain ⟨a, rfl⟩ := Int.eq_ofNat_of_zero_le h0
  have ha : a < 2 ^ 32 := by omega
  have hle : 2 ^ i ≤ 2 ^ 32 := Nat.pow_le_pow_right (by decide) hi
  have hp : 0 < 2 ^ i := Nat.two_pow_pos i
  have hc : ((2 : Int) ^ 32 - 2 ^ i) = ((2 ^ 32 - 2 ^ i : Nat) : Int) := by rw [Int.natCast_sub hle]; simp
  rw [hc, (bits_nat .u32 32 (by decide) (fun n h0 h1 => by rw [IntKind.wrap_u32]; omega) a _ ha (by omega)).1, nat_high i hi a ha]
  simp
theorem mask1 (x : Int) (h0 : 0 ≤ x) (h1 : x < 4294967296) : bits .and .u32 x 4294967168 = x / 128 * 128 := mask_high 7 (by decide) x h0 h1
theorem mask2 (x : Int) (h0 : 0 ≤ x) (h1 : x < 4294967296) : bits .and .u32 x 4294934528 = x / 32768 * 32768 := mask_high 15 (by decide) x h0 h1
theorem mask3 (x : Int) (h0 : 0 ≤ x) (h1 : x < 4294967296) : bits .and .u32 x 4286578688 = x / 8388608 * 8388608 := mask_high 23 (by decide) x h0 h1
end Go.Proofs.YtpfmcdhmboclhaaGreatDoor
namespace Go.Proofs.YtpfmcdhmboclhaaGreatDoor
open Go.RowKit

/-- A slice's block was made from block n on. -/
def newer (v : Value) (n : Nat) : Prop := ∀ a k c, v = .slice (some a) k c → n ≤ a.block
/-- A call that makes bytes: they, and no error. -/
def RetB (w : World) (l : List Int) (e : Ending) (w' : World) : Prop := ∃ v, e = .returned (.tuple #[v, .nilIface]) ∧ Rd w' v l ∧ newer v w.heap.size ∧ Below w.heap.size w w'
theorem Own.newer {w : World} {base : Nat} {v : Value} {l : List Int} (h : Own w base v l) : newer v base := by
  intro a k c e
  rcases h.form with ⟨rfl, _⟩ | ⟨g, cap, cur, rfl, h2, _⟩
  · cases e
  · injection e with e _ _
    injection e with e
    subst e
    exact h2
theorem retB_lit (w : World) (l : List Int) (hl : l.length ≤ 1000) : RetB w l (.returned (.tuple #[.slice (some ⟨w.heap.size, 0, none⟩) l.length l.length, .nilIface])) (w.alloc (.cells (by8 l).toArray 5)) :=
  have h := Own.lit w w.heap.size l (Nat.le_refl _) (by unfold maxLen; omega)
  ⟨_, rfl, h.reads, h.newer, (Below.refl _ _).alloc (Nat.le_refl _) _⟩
theorem retB_mk {w : World} {l : List Int} {k : Nat} {cs : Array Value} (h : (by8 l).toArray = cs) (hk : l.length = k) (hl : l.length ≤ 1000 := by simp) : RetB w l (.returned (.tuple #[.slice (some ⟨w.heap.size, 0, none⟩) k k, .nilIface])) (w.alloc (.cells cs 5)) := by
  subst h hk
  exact retB_lit w l hl
theorem mtrue {i : Int} {x m c : Int} (h : bits .and .u32 x m = i) (hc : i = c) : (bits .and .u32 x m == c) = true := by rw [h]; simpa using hc
theorem mfalse {i : Int} {x m c : Int} (h : bits .and .u32 x m = i) (hc : i ≠ c) : (bits .and .u32 x m == c) = false := by rw [h]; simpa using hc
set_option maxHeartbeats 400000 in
theorem int32_1p (n : Int) (w : World) (h0 : 0 ≤ n) (h1 : n ≤ 127) : Calls Tryz.prog 94 #[.int .i64 n] w (RetB w [n % 256]) := by
  have t0 := mtrue (c := 0) (mask1 n (by omega) (by omega)) (by omega)
  go_enter Tryz.func94, Tryz.ntmps94
  go_wp2
  go_ret2
  exact retB_mk (by simp [by8]; try omega) rfl
set_option maxHeartbeats 400000 in
theorem int32_1n (n : Int) (w : World) (h0 : -128 ≤ n) (h1 : n ≤ -1) : Calls Tryz.prog 94 #[.int .i64 n] w (RetB w [n % 256]) := by
  have t0 := mfalse (c := 0) (mask1 (n % 4294967296) (by omega) (by omega)) (by omega)
  have u0 := mtrue (c := 4294967168) (mask1 (n % 4294967296) (by omega) (by omega)) (by omega)
  go_enter Tryz.func94, Tryz.ntmps94
  go_wp2
  go_ret2
  exact retB_mk (by simp [by8]; try omega) rfl
set_option maxHeartbeats 400000 in
theorem int32_2p (n : Int) (w : World) (h0 : 128 ≤ n) (h1 : n ≤ 32767) : Calls Tryz.prog 94 #[.int .i64 n] w (RetB w [n / 256 % 256, n % 256]) := by
  have t0 := mfalse (c := 0) (mask1 n (by omega) (by omega)) (by omega)
  have u0 := mfalse (c := 4294967168) (mask1 n (by omega) (by omega)) (by omega)
  have t1 := mtrue (c := 0) (mask2 n (by omega) (by omega)) (by omega)
  go_enter Tryz.func94, Tryz.ntmps94
  go_wp2
  go_ret2
  exact retB_mk (by simp [by8]; try omega) rfl
set_option maxHeartbeats 400000 in
theorem int32_2n (n : Int) (w : World) (h0 : -32768 ≤ n) (h1 : n ≤ -129) : Calls Tryz.prog 94 #[.int .i64 n] w (RetB w [n / 256 % 256, n % 256]) := by
  have t0 := mfalse (c := 0) (mask1 (n % 4294967296) (by omega) (by omega)) (by omega)
  have u0 := mfalse (c := 4294967168) (mask1 (n % 4294967296) (by omega) (by omega)) (by omega)
  have t1 := mfalse (c := 0) (mask2 (n % 4294967296) (by omega) (by omega)) (by omega)
  have u1 := mtrue (c := 4294934528) (mask2 (n % 4294967296) (by omega) (by omega)) (by omega)
  go_enter Tryz.func94, Tryz.ntmps94
  go_wp2
  go_ret2
  exact retB_mk (by simp [by8]; try omega) rfl
set_option maxHeartbeats 400000 in
theorem int32_3p (n : Int) (w : World) (h0 : 32768 ≤ n) (h1 : n ≤ 8388607) : Calls Tryz.prog 94 #[.int .i64 n] w (RetB w [n / 65536 % 256, n / 256 % 256, n % 256]) := by
  have t0 := mfalse (c := 0) (mask1 n (by omega) (by omega)) (by omega)
  have u0 := mfalse (c := 4294967168) (mask1 n (by omega) (by omega)) (by omega)
  have t1 := mfalse (c := 0) (mask2 n (by omega) (by omega)) (by omega)
  have u1 := mfalse (c := 4294934528) (mask2 n (by omega) (by omega)) (by omega)
  have t2 := mtrue (c := 0) (mask3 n (by omega) (by omega)) (by omega)
  go_enter Tryz.func94, Tryz.ntmps94
  go_wp2
  go_ret2
  exact retB_mk (by simp [by8]; try omega) rfl
set_option maxHeartbeats 400000 in
theorem int32_3n (n : Int) (w : World) (h0 : -8388608 ≤ n) (h1 : n ≤ -32769) : Calls Tryz.prog 94 #[.int .i64 n] w (RetB w [n / 65536 % 256, n / 256 % 256, n % 256]) := by
  have t0 := mfalse (c := 0) (mask1 (n % 4294967296) (by omega) (by omega)) (by omega)
  have u0 := mfalse (c := 4294967168) (mask1 (n % 4294967296) (by omega) (by omega)) (by omega)
  have t1 := mfalse (c := 0) (mask2 (n % 4294967296) (by omega) (by omega)) (by omega)
  have u1 := mfalse (c := 4294934528) (mask2 (n % 4294967296) (by omega) (by omega)) (by omega)
  have t2 := mfalse (c := 0) (mask3 (n % 4294967296) (by omega) (by omega)) (by omega)
  have u2 := mtrue (c := 4286578688) (mask3 (n % 4294967296) (by omega) (by omega)) (by omega)
  go_enter Tryz.func94, Tryz.ntmps94
  go_wp2
  go_ret2
  exact retB_mk (by simp [by8]; try omega) rfl
set_option maxHeartbeats 400000 in
theorem int32_4p (n : Int) (w : World) (h0 : 8388608 ≤ n) (h1 : n ≤ 2147483647) : Calls Tryz.prog 94 #[.int .i64 n] w (RetB w [n / 16777216 % 256, n / 65536 % 256, n / 256 % 256, n % 256]) := by
  have t0 := mfalse (c := 0) (mask1 n (by omega) (by omega)) (by omega)
  have u0 := mfalse (c := 4294967168) (mask1 n (by omega) (by omega)) (by omega)
  have t1 := mfalse (c := 0) (mask2 n (by omega) (by omega)) (by omega)
  have u1 := mfalse (c := 4294934528) (mask2 n (by omega) (by omega)) (by omega)
  have t2 := mfalse (c := 0) (mask3 n (by omega) (by omega)) (by omega)
  have u2 := mfalse (c := 4286578688) (mask3 n (by omega) (by omega)) (by omega)
  go_enter Tryz.func94, Tryz.ntmps94
  go_wp2
  go_ret2
  exact retB_mk (by simp [by8]; try omega) rfl
set_option maxHeartbeats 400000 in
theorem int32_4n (n : Int) (w : World) (h0 : -2147483648 ≤ n) (h1 : n ≤ -8388609) : Calls Tryz.prog 94 #[.int .i64 n] w (RetB w [n / 16777216 % 256, n / 65536 % 256, n / 256 % 256, n % 256]) := by
  have t0 := mfalse (c := 0) (mask1 (n % 4294967296) (by omega) (by omega)) (by omega)
  have u0 := mfalse (c := 4294967168) (mask1 (n % 4294967296) (by omega) (by omega)) (by omega)
  have t1 := mfalse (c := 0) (mask2 (n % 4294967296) (by omega) (by omega)) (by omega)
  have u1 := mfalse (c := 4294934528) (mask2 (n % 4294967296) (by omega) (by omega)) (by omega)
  have t2 := mfalse (c := 0) (mask3 (n % 4294967296) (by omega) (by omega)) (by omega)
  have u2 := mfalse (c := 4286578688) (mask3 (n % 4294967296) (by omega) (by omega)) (by omega)
  go_enter Tryz.func94, Tryz.ntmps94
  go_wp2
  go_ret2
  exact retB_mk (by simp [by8]; try omega) rfl
theorem int32 (n : Int) (w : World) (h0 : -2147483648 ≤ n) (h1 : n ≤ 2147483647) : Calls Tryz.prog 94 #[.int .i64 n] w (RetB w (intB n)) := by
  by_cases c1 : -128 ≤ n ∧ n ≤ 127
  · rw [intB_1 n c1]
    by_cases c : 0 ≤ n
    · exact int32_1p n w c c1.2
    · exact int32_1n n w c1.1 (by omega)
  by_cases c2 : -32768 ≤ n ∧ n ≤ 32767
  · rw [intB_2 n c1 c2]
    by_cases c : 0 ≤ n
    · exact int32_2p n w (by omega) c2.2
    · exact int32_2n n w c2.1 (by omega)
  by_cases c3 : -8388608 ≤ n ∧ n ≤ 8388607
  · rw [intB_3 n c2 c3]
    by_cases c : 0 ≤ n
    · exact int32_3p n w (by omega) c3.2
    · exact int32_3n n w c3.1 (by omega)
  rw [intB_4 n c3 ⟨h0, h1⟩]
  by_cases c : 0 ≤ n
  · exact int32_4p n w (by omega) h1
  · exact int32_4n n w h0 (by omega)
end Go.Proofs.YtpfmcdhmboclhaaGreatDoor
namespace Go.Proofs.YtpfmcdhmboclhaaGreatDoor
open Go.RowKit

set_option maxHeartbeats 400000 in
theorem len_short (n : Nat) (w : World) (h : n < 128) : Calls Tryz.prog 55 #[.int .i64 n] w (RetB w (lenB n 0)) := by
  rw [show lenB n 0 = [(n : Int)] from if_pos ⟨h, rfl⟩]
  go_enter Tryz.func55, Tryz.ntmps55
  go_wp2
  go_ret2
  exact retB_mk (by simp [by8]; try omega) rfl
theorem wrap_u64_nat (n : Nat) (h : n < 65536) : IntKind.u64.wrap (n : Int) = n := by simp [IntKind.wrap, IntKind.bits, IntKind.signed]; omega
theorem put64s (g n : Nat) (T : TypeId) (w : World) (h : n < 65536) (hb : w.heap[g]? = some (.cells #[.int .u8 0, .int .u8 0, .int .u8 0, .int .u8 0, .int .u8 0, .int .u8 0, .int .u8 0, .int .u8 0] T (0, 0))) :
    Calls Tryz.prog 74 #[.agg #[], .slice (some ⟨g, 0, none⟩) 8 8, .int .u64 n] w fun e w' => e = .returned (.tuple #[]) ∧ Put w g T [0, 0, 0, 0, 0, 0, (n : Int) / 256, (n : Int) % 256] w' := by
  have hbig : n < 18446744073709551616 := Nat.lt_trans h (by decide)
  have hc := put64 g n T _ _ _ _ _ _ _ _ w hbig hb
  clear hbig
  refine hc.mono fun e w' ⟨he, hp⟩ => ⟨he, ?_⟩
  have e : [(n : Int) / 72057594037927936, (n : Int) / 281474976710656 % 256, (n : Int) / 1099511627776 % 256, (n : Int) / 4294967296 % 256, (n : Int) / 16777216 % 256, (n : Int) / 65536 % 256, (n : Int) / 256 % 256, (n : Int) % 256] = [0, 0, 0, 0, 0, 0, (n : Int) / 256, (n : Int) % 256] := by
    simp only [List.cons.injEq, and_true]
    omega
  rwa [e] at hp
theorem src_cells {W1 : World} {g : Nat} {m : List Int} {l : List Int} {o : Obj} {T : TypeId} {fr : Nat × Nat} {k : Nat} (h : W1.heap[g]? = some (.cells (by8 l).toArray T fr)) (hk : ∀ j, j < m.length → (by8 l)[k + j]? = (by8 m)[j]?) :
    ∀ j v, (by8 m)[j]? = some v → (W1.alloc o).drew.cell? ((⟨g, k, none⟩ : Addr).add j) = some v := by
  intro j v hj
  have hlt : j < m.length := by
    rcases Nat.lt_or_ge j m.length with h | h
    · exact h
    · rw [List.getElem?_eq_none (by rw [by8_length]; exact h)] at hj; cases hj
  have e : (W1.alloc o).drew.cell? ((⟨g, k, none⟩ : Addr).add j) = W1.cell? ⟨g, k + j, none⟩ := by
    rw [addr_add]
    exact World.cell?_of_block (w := W1) (a := ⟨g, k + j, none⟩) (Below.heap_alloc _ _ _ (Lib.lt_of_heap h))
  rw [e, Lib.cell_of_heap h, List.getElem?_toArray, hk j hlt, hj]
theorem retB_row {w W1 : World} {l : List Int} {m : Nat} {cs0 cs : Array Value} (hb : Below w.heap.size w W1) (hcs : cs = (by8 l).toArray) (hl : l.length = m) (hm : m ≤ 1000) :
    RetB w l (.returned (.tuple #[.slice (some ⟨W1.heap.size, 0, none⟩) m m, .nilIface])) ((W1.alloc (.cells cs0 5)).drew.setRow W1.heap.size cs) := by
  subst hcs hl
  have hg : (W1.alloc (.cells cs0 5)).drew.heap[W1.heap.size]? = some (.cells cs0 5 (0, 0)) := heap_alloc_new W1 _
  have h1 := setRow_heap _ _ _ (by8 l).toArray 5 (0, 0) hg
  have ho : Own ((W1.alloc (.cells cs0 5)).drew.setRow W1.heap.size (by8 l).toArray) w.heap.size (.slice (some ⟨W1.heap.size, 0, none⟩) l.length l.length) l :=
    Own.mk hb.size h1 (Nat.le_refl _) (by unfold maxLen; omega) (by simp [by8]) (by rw [List.toList_toArray, List.take_of_length_le (by rw [by8_length]; exact Nat.le_refl _)])
  refine ⟨_, rfl, ho.reads, ho.newer, hb.trans ⟨rfl, rfl, rfl, by simp [World.setRow], fun k hk => ?_⟩⟩
  have := hb.size
  rw [setRow_other _ _ _ _ (by omega)]
  exact Below.heap_alloc _ _ _ (by omega)
set_option maxHeartbeats 1000000 in
theorem len_two (n : Nat) (w : World) (h : 128 ≤ n) (h2 : n < 256) : Calls Tryz.prog 55 #[.int .i64 n] w (RetB w [129, (n : Int)]) := by
  go_enter Tryz.func55, Tryz.ntmps55
  go_wp2
  have hwu : IntKind.u64.wrap (n : Int) = n := wrap_u64_nat n (by omega)
  go_region_with (
    go_at_call 74
    refine (put64s w.heap.size n 153 _ ?_ ?_).mono ?_
    omega
    exact heap_alloc_new w _
    rintro e W1 ⟨rfl, hp, hk⟩)
  have hbel : Below w.heap.size w W1 := (((Below.refl _ w).alloc (Nat.le_refl _) _).drew).trans (hk.below (by simp [World.drew]) (by simp))
  have hdiv : (n : Int) / 256 = 0 := by omega
  have hmod : (n : Int) % 256 = n := by omega
  rw [hdiv, hmod] at hp
  clear hdiv hmod hwu
  have hc : ∀ k : Nat, k < 7 → W1.cell? ⟨w.heap.size, k, none⟩ = some (.int .u8 0) := fun k hk => by
    rw [Lib.cell_of_heap hp]
    match k, hk with
    | 0, _ | 1, _ | 2, _ | 3, _ | 4, _ | 5, _ | 6, _ => rfl
  have hcz : W1.cell? ⟨w.heap.size, 7, none⟩ = some (.int .u8 (n : Int)) := by rw [Lib.cell_of_heap hp]; rfl
  have HP := Lib.hid hp
  have HBel := Lib.hid hbel
  clear hp hbel hk
  go_wp2
  go_loop [5] (fun i => ∃ k : Nat, k ≤ 7 ∧ i = .int .i64 k) (fun i => 8 - (intOf i).toNat)
  case atStart => exact ⟨0, by omega, rfl⟩
  case round =>
    obtain ⟨k, hk, rfl⟩ := hrel
    by_cases hlt : k < 7
    · have hck := hc k hlt
      clear hc hcz
      go_wp2
      go_round
      case rel => exact ⟨k + 1, by omega, by go_num⟩
      case measure => simp [intOf]; omega
    · obtain rfl : k = 7 := by omega
      clear hc
      have hnz : ((n : Int) == 0) = false := by simp; omega
      have hmk : ∀ w, (Instr.makeSlice 30 (.int .i64 2) (.int .i64 2)).run Tryz.prog w = .ok (.slice (some ⟨w.heap.size, 0, none⟩) 2 2) (w.alloc (.cells #[.int .u8 0, .int .u8 0] 5)) := fun _ => by kernel_rfl
      have hor : bits .or .i64 128 1 = 129 := by kernel_rfl
      have hcp := run_copy_row (P := Tryz.prog) (W1.alloc (.cells #[.int .u8 129, .int .u8 0] 5)).drew 30 30 3 5 W1.heap.size 1 1 1 ⟨w.heap.size, 7, none⟩ 1 1 #[.int .u8 129, .int .u8 0] 5 (by8 [(n : Int)]) Tryz.underlying30 info5s (heap_alloc_new W1 _) rfl
        (src_cells HP.out (by intro j hj; match j, hj with | 0, _ => rfl)) (by simp [by8]) (by8_one _)
      go_wp2
      go_region
      all_goals go_wp2
      go_ret2
      exact retB_row HBel.out (by simp [by8]) rfl (by decide)
set_option maxHeartbeats 1000000 in
theorem len_three (n : Nat) (w : World) (h : 256 ≤ n) (h2 : n < 65536) : Calls Tryz.prog 55 #[.int .i64 n] w (RetB w [130, (n : Int) / 256, (n : Int) % 256]) := by
  go_enter Tryz.func55, Tryz.ntmps55
  go_wp2
  have hwu : IntKind.u64.wrap (n : Int) = n := wrap_u64_nat n (by omega)
  go_region_with (
    go_at_call 74
    refine (put64s w.heap.size n 153 _ ?_ ?_).mono ?_
    omega
    exact heap_alloc_new w _
    rintro e W1 ⟨rfl, hp, hk⟩)
  have hbel : Below w.heap.size w W1 := (((Below.refl _ w).alloc (Nat.le_refl _) _).drew).trans (hk.below (by simp [World.drew]) (by simp))
  clear hwu
  have hc : ∀ k : Nat, k < 6 → W1.cell? ⟨w.heap.size, k, none⟩ = some (.int .u8 0) := fun k hk => by
    rw [Lib.cell_of_heap hp]
    match k, hk with
    | 0, _ | 1, _ | 2, _ | 3, _ | 4, _ | 5, _ => rfl
  have hcz : W1.cell? ⟨w.heap.size, 6, none⟩ = some (.int .u8 ((n : Int) / 256)) := by rw [Lib.cell_of_heap hp]; rfl
  have HP := Lib.hid hp
  have HBel := Lib.hid hbel
  clear hp hbel hk
  go_wp2
  go_loop [5] (fun i => ∃ k : Nat, k ≤ 6 ∧ i = .int .i64 k) (fun i => 8 - (intOf i).toNat)
  case atStart => exact ⟨0, by omega, rfl⟩
  case round =>
    obtain ⟨k, hk, rfl⟩ := hrel
    by_cases hlt : k < 6
    · have hck := hc k hlt
      clear hc hcz
      go_wp2
      go_round
      case rel => exact ⟨k + 1, by omega, by go_num⟩
      case measure => simp [intOf]; omega
    · obtain rfl : k = 6 := by omega
      clear hc
      have hnz : ((n : Int) / 256 == 0) = false := by simp; omega
      have hmk : ∀ w, (Instr.makeSlice 30 (.int .i64 3) (.int .i64 3)).run Tryz.prog w = .ok (.slice (some ⟨w.heap.size, 0, none⟩) 3 3) (w.alloc (.cells #[.int .u8 0, .int .u8 0, .int .u8 0] 5)) := fun _ => by kernel_rfl
      have hor : bits .or .i64 128 2 = 130 := by kernel_rfl
      have hcp := run_copy_row (P := Tryz.prog) (W1.alloc (.cells #[.int .u8 130, .int .u8 0, .int .u8 0] 5)).drew 30 30 3 5 W1.heap.size 1 2 2 ⟨w.heap.size, 6, none⟩ 2 2 #[.int .u8 130, .int .u8 0, .int .u8 0] 5 (by8 [(n : Int) / 256, (n : Int) % 256]) Tryz.underlying30 info5s (heap_alloc_new W1 _) rfl
        (src_cells HP.out (by intro j hj; match j, hj with | 0, _ | 1, _ => rfl)) (by simp [by8]) (by8_one _)
      go_wp2
      go_region
      all_goals go_wp2
      go_ret2
      exact retB_row HBel.out (by simp [by8]) rfl (by decide)
theorem marshalLength (n : Nat) (w : World) (h : n < 65536) : Calls Tryz.prog 55 #[.int .i64 n] w (RetB w (lenB n 0)) := by
  by_cases h1 : n < 128
  · exact len_short n w h1
  by_cases h2 : n < 256
  · rw [show lenB n 0 = [129, (n : Int)] by unfold lenB; rw [if_neg (by omega), be_1 n (by omega) h2]; rfl]
    exact len_two n w (by omega) h2
  · rw [show lenB n 0 = [130, (n : Int) / 256, (n : Int) % 256] by unfold lenB; rw [if_neg (by omega), be_2 n (by omega) h]; rfl]
    exact len_three n w (by omega) h
end Go.Proofs.YtpfmcdhmboclhaaGreatDoor
namespace Go.Proofs.YtpfmcdhmboclhaaGreatDoor
open Go.RowKit

/-- A tag, a length (with wide bytes more than it takes) and content. -/
def sealB (tag : Int) (c : List Int) (wide : Nat) : List Int := tag :: (lenB c.length wide ++ c)
theorem Wrote.then {w w1 : World} {b : Nat} {v : Value} {l : List Int} (h : Wrote w b v l w1) : ∃ v1, Buf w1 b v1 l ∧ Kp (b :: v.ownBlock.toList) w w1 ∧ (∀ k, k < w.heap.size → v1.ownBlock = some k → v.ownBlock = some k) ∧ (∀ l' w2, Wrote w1 b v1 l' w2 → Wrote w b v l' w2) := by
  obtain ⟨v1, h1, h2, h3⟩ := h
  have key : ∀ k, k < w.heap.size → v1.ownBlock = some k → v.ownBlock = some k := by
    intro k hk e
    rcases h2 with h2 | ⟨g, h2, h4⟩
    · rw [← h2]; exact e
    · rw [h2] at e
      injection e with e
      omega
  refine ⟨v1, h1, h3, key, fun l' w2 h => ?_⟩
  obtain ⟨v2, g1, g2, g3⟩ := h
  refine ⟨v2, g1, ?_, h3.then g3 (fun _ _ hq => hq) ?_⟩
  · rcases g2 with g2 | ⟨g, g2, g4⟩
    · rcases h2 with h2 | ⟨g', h2, h4⟩
      · exact .inl (g2.trans h2)
      · exact .inr ⟨g', g2.trans h2, h4⟩
    · exact .inr ⟨g, g2, Nat.le_trans h3.size g4⟩
  · intro q hq hm
    rcases List.mem_cons.1 hm with rfl | hm
    · exact List.mem_cons_self
    · have := key q hq (by simpa using hm)
      rw [this]; simp
/-- What stands below stands for a writer behind it. -/
theorem Wrote.below {w w1 w2 : World} {b : Nat} {v : Value} {l : List Int} (hb : Below w.heap.size w w1) (h : Wrote w1 b v l w2) : Wrote w b v l w2 := by
  obtain ⟨v2, g1, g2, g3⟩ := h
  refine ⟨v2, g1, ?_, (Kp.of_below hb _).trans g3⟩
  rcases g2 with g2 | ⟨g, g2, g4⟩
  · exact .inl g2
  · exact .inr ⟨g, g2, Nat.le_trans hb.size g4⟩
theorem Buf.keptBelow {w w' : World} {b : Nat} {v : Value} {l : List Int} (h : Buf w b v l) (hk : Below w.heap.size w w') : Buf w' b v l := h.kept (hk.block b h.lt) (fun k e => hk.block k (h.2.1.lt e).2)
theorem newer.apart {v : Value} {n : Nat} {X : List Nat} (h : newer v n) (hx : ∀ k ∈ X, k < n) : apart v X := fun a k c e hm => by have := h a k c e; have := hx _ hm; omega
theorem Buf.old {w : World} {b : Nat} {v : Value} {l : List Int} (h : Buf w b v l) : ∀ k ∈ b :: v.ownBlock.toList, k < w.heap.size := by
  intro k hk
  rcases List.mem_cons.1 hk with rfl | hk
  · exact h.lt
  · exact (h.2.1.lt (by simpa using hk)).2
theorem apart.mono {v : Value} {X Y : List Nat} (h : apart v X) (hs : ∀ k ∈ Y, k ∈ X) : apart v Y := fun a k c e hm => h a k c e (hs _ hm)
theorem lenB_length (n w : Nat) (h : n < 65536) : (lenB n w).length ≤ 3 + w := by
  unfold lenB
  split
  · simp; omega
  · have : (be n).length ≤ 2 := by
      rcases Nat.eq_zero_or_pos n with h0 | h0
      · subst h0; rw [be_zero]; simp
      · by_cases h1 : n < 256
        · rw [be_1 n h0 h1]; simp
        · rw [be_2 n (by omega) h]; simp
    simp only [List.length_cons, List.length_append, List.length_replicate]
    omega
set_option maxHeartbeats 400000 in
theorem marshalTLV (w : World) (b : Nat) (v p : Value) (tag : Int) (l cs : List Int) (h : Buf w b v l) (hs : Rd w p cs) (hap : apart p (b :: v.ownBlock.toList)) (hlen : cs.length < 65536) (hlim : l.length ≤ 100000000000) :
    Calls Tryz.prog 92 #[.pointer (some ⟨b, 0, none⟩), .int .u8 tag, p] w fun e w' => e = .returned .nilIface ∧ Wrote w b v (l ++ sealB tag cs 0) w' := by
  have hs' := hs
  obtain ⟨A, c, rfl, hc1, hc2, -⟩ := hs
  have hll := lenB_length cs.length 0 hlen
  have hc2' := hc2
  unfold maxLen at hc2'
  go_enter Tryz.func92, Tryz.ntmps92
  go_wp2_with (go_at_call 55; refine (marshalLength cs.length _ hlen).mono ?_; rintro e W1 ⟨v1, rfl, hr1, hn1, hb1⟩; refine Hid.out ?_)
  refine Lib.hid ?_
  have hB1 := h.keptBelow hb1
  have hP1 := hs'.keptBelow hb1
  go_wp2_with (go_at_call 54; refine (writeByte _ b v l tag hB1 (by omega)).mono ?_; rintro e W2 ⟨rfl, hw2⟩; refine Hid.out ?_)
  refine Lib.hid ?_
  obtain ⟨v2, hB2, hk2, ho2, hw2'⟩ := hw2.then
  have hap2 : ∀ k ∈ b :: v.ownBlock.toList, k < w.heap.size := h.old
  have hR2 : Rd W2 v1 (lenB cs.length 0) := hr1.keptKp hk2 (hn1.apart hap2)
  go_wp2_with (go_at_call 50; refine (write _ b v2 v1 _ _ hB2 hR2 ?_ ?_ ?_).mono ?_)
  · exact (hn1.apart (X := [b]) (by intro k hk; rw [List.mem_singleton.1 hk]; exact h.lt))
  · exact .inl (by simp)
  · simp; omega
  rintro e W3 ⟨rfl, hw3⟩
  have hw3' := hw2' _ _ hw3
  obtain ⟨v3, hB3, hk3, ho3, hw3''⟩ := hw3'.then
  have hP3 : Rd W3 (.slice A cs.length c) cs := hP1.keptKp hk3 hap
  go_wp2_with (go_at_call 50; refine (write _ b v3 _ _ _ hB3 hP3 ?_ ?_ ?_).mono ?_)
  · exact hap.mono (by intro k hk; rw [List.mem_singleton.1 hk]; exact List.mem_cons_self)
  · exact .inl (by simp)
  · simp; omega
  rintro e W4 ⟨rfl, hw4⟩
  have hw4' := Wrote.below hb1 (hw3'' _ _ hw4)
  have HW := Lib.hid hw4'
  clear hw4' hw4 hw3 hw3' hw3'' hw2 hw2' hB1 hB2 hB3
  go_wp2
  go_ret
  refine ⟨rfl, ?_⟩
  have := HW.out
  simpa [sealB] using this
end Go.Proofs.YtpfmcdhmboclhaaGreatDoor
