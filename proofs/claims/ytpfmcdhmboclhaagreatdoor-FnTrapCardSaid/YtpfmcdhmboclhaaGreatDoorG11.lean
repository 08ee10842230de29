/- THE PLAIN MATHEMATICS OF READING: numbers out of bytes, to the base 256 and to the base 128. gosnmp: a length is read. gosnmp: numbers are read. DERIVED: THE SHELF's CONTRACTS AT THIS DUMP, IN PLAIN WORDS (tools/lay-plain.mjs out of 'TryzS2.lean', which tools/lay-shelf.mjs wrote): THE SAME DECLARATIONS UNDER THE SAME NAMES: 'import', 'namespace', 'open', 'def', 'theorem' AND NOTHING ELSE: no command of the shelf's: FOR A HAND-IN. Each laying: the table of numbers ('.._ren') and one theorem, a field a fact of the dump's own or the kernel's comparison; each contract: ONE APPLICATION. gosnmp: a number to the base 128 is read; strconv: decimal figures are appended. -/
import Derived.Handy
import Derived.Shelf.Strconv.AppendUint10
import Derived.WalkSmall
import Derived.Test.YtpfmcdhmboclhaaGreatDoorG04
set_option linter.unusedVariables false
set_option linter.unusedSimpArgs false
namespace Go.Proofs.YtpfmcdhmboclhaaGreatDoor

/-- What bytes tell, the greatest first. -/
def val (l : List Int) : Nat := l.foldl (fun a x => 256 * a + x.toNat) 0
theorem val_snoc (l : List Int) (x : Int) : val (l ++ [x]) = 256 * val l + x.toNat := by simp [val, List.foldl_append]
theorem val_zero_cons (l : List Int) : val (0 :: l) = val l := by simp [val]
theorem val_mono : ∀ (q p : List Int), val p ≤ val (p ++ q)
  | [], p => by simp
  | c :: q, p => by
    have h := val_mono q (p ++ [c])
    rw [val_snoc, List.append_assoc] at h
    have e : p ++ ([c] ++ q) = p ++ c :: q := rfl
    rw [e] at h
    omega
theorem val_be (n : Nat) : val (be n) = n := by
  induction n using Nat.strongRecOn with
  | ind n ih =>
    by_cases h : n = 0
    · subst h; rw [be_zero]; rfl
    · rw [be_step n (by omega), val_snoc, ih _ (by omega)]; omega
theorem val_be1 (n : Nat) : val (be1 n) = n := by
  unfold be1
  split
  · rename_i h; subst h; rfl
  · exact val_be n
theorem val_uintB (n : Nat) : val (uintB n) = n := by
  unfold uintB
  split
  · rw [val_zero_cons, val_be1]
  · exact val_be1 n
theorem val_pad (w : Nat) (l : List Int) : val (List.replicate w 0 ++ l) = val l := by
  induction w with
  | zero => rfl
  | succ w ih => rw [List.replicate_succ, List.cons_append, val_zero_cons, ih]
theorem be_byte (n : Nat) : ∀ c ∈ be n, 0 ≤ c ∧ c < 256 := by
  induction n using Nat.strongRecOn with
  | ind n ih =>
    intro c hc
    by_cases h : n = 0
    · subst h; rw [be_zero] at hc; cases hc
    · rw [be_step n (by omega)] at hc
      rcases List.mem_append.1 hc with hc | hc
      · exact ih _ (by omega) c hc
      · simp at hc; omega
theorem uintB_byte (n : Nat) : ∀ c ∈ uintB n, 0 ≤ c ∧ c < 256 := by
  have h1 : ∀ c ∈ be1 n, 0 ≤ c ∧ c < 256 := by
    intro c hc
    unfold be1 at hc
    split at hc
    · simp at hc; omega
    · exact be_byte n c hc
  intro c hc
  unfold uintB at hc
  split at hc
  · rcases List.mem_cons.1 hc with rfl | hc
    · omega
    · exact h1 c hc
  · exact h1 c hc
theorem intB_byte (n : Int) : ∀ c ∈ intB n, 0 ≤ c ∧ c < 256 := by
  generalize hk : n.natAbs = k
  induction k using Nat.strongRecOn generalizing n with
  | ind k ih =>
    intro c hc
    by_cases h : -128 ≤ n ∧ n ≤ 127
    · rw [intB_1 n h] at hc; simp at hc; omega
    · rw [intB_step n h] at hc
      rcases List.mem_append.1 hc with hc | hc
      · exact ih _ (by omega) (n / 256) rfl c hc
      · simp at hc; omega
/-- What figures to the base 128 tell. -/
def val128 (l : List Int) : Nat := l.foldl (fun a x => 128 * a + x.toNat % 128) 0
theorem val128_snoc (l : List Int) (x : Int) : val128 (l ++ [x]) = 128 * val128 l + x.toNat % 128 := by simp [val128, List.foldl_append]
theorem val128_mono : ∀ (q p : List Int), val128 p ≤ val128 (p ++ q)
  | [], p => by simp
  | c :: q, p => by
    have h := val128_mono q (p ++ [c])
    rw [val128_snoc, List.append_assoc] at h
    have e : p ++ ([c] ++ q) = p ++ c :: q := rfl
    rw [e] at h
    omega
theorem val128_hi (n : Nat) : val128 (hi128 n) = n := by
  induction n using Nat.strongRecOn with
  | ind n ih =>
    by_cases h : n = 0
    · subst h; rw [hi128_zero]; rfl
    · rw [hi128_step n (by omega), val128_snoc, ih _ (by omega)]
      have e : ((n % 128 + 128 : Nat) : Int).toNat = n % 128 + 128 := rfl
      rw [e]; omega
theorem val128_b128 (n : Nat) : val128 (b128 n) = n := by
  unfold b128
  rw [val128_snoc, val128_hi]
  have e : ((n % 128 : Nat) : Int).toNat = n % 128 := rfl
  rw [e]; omega
theorem hi128_byte (n : Nat) : ∀ c ∈ hi128 n, 128 ≤ c ∧ c < 256 := by
  induction n using Nat.strongRecOn with
  | ind n ih =>
    intro c hc
    by_cases h : n = 0
    · subst h; rw [hi128_zero] at hc; cases hc
    · rw [hi128_step n (by omega)] at hc
      rcases List.mem_append.1 hc with hc | hc
      · exact ih _ (by omega) c hc
      · simp at hc; omega
/-- Where a figure stands: the last one is small, all others have the mark. -/
theorem b128_split (n : Nat) (p : List Int) (x : Int) (q : List Int) (h : b128 n = p ++ x :: q) : 0 ≤ x ∧ x < 256 ∧ (q = [] → x < 128) ∧ (q ≠ [] → 128 ≤ x) := by
  rcases List.eq_nil_or_concat q with rfl | ⟨q', y, rfl⟩
  · unfold b128 at h
    have h2 := (List.append_inj' h rfl).2
    injection h2 with h2
    refine ⟨?_, ?_, fun _ => ?_, fun h => absurd rfl h⟩ <;> omega
  · unfold b128 at h
    have h3 : p ++ x :: (q' ++ [y]) = (p ++ x :: q') ++ [y] := by simp
    rw [List.concat_eq_append] at h
    rw [h3] at h
    have h2 := (List.append_inj' h rfl).1
    have := hi128_byte _ x (h2 ▸ (by simp : x ∈ p ++ x :: q'))
    refine ⟨by omega, by omega, fun h => absurd h (by simp), fun _ => by omega⟩
theorem b128_ne (n : Nat) : b128 n ≠ [] := by unfold b128; simp
end Go.Proofs.YtpfmcdhmboclhaaGreatDoor
namespace Go.Proofs.YtpfmcdhmboclhaaGreatDoor
open Go.RowKit

/-- A stretch of a block that holds these bytes. -/
def At (w : World) (b o : Nat) (l : List Int) : Prop := ∀ j (h : j < l.length), w.cell? ⟨b, o + j, none⟩ = some (.int .u8 l[j])
theorem At.cell {w : World} {b o : Nat} {l : List Int} (h : At w b o l) (j : Nat) (x : Int) (hx : l[j]? = some x) : w.cell? ⟨b, o + j, none⟩ = some (.int .u8 x) := by
  obtain ⟨hlt, rfl⟩ := List.getElem?_eq_some_iff.1 hx
  exact h j hlt
theorem At.drop {w : World} {b o : Nat} {l : List Int} (h : At w b o l) (k : Nat) : At w b (o + k) (l.drop k) := by
  intro j hj
  rw [List.length_drop] at hj
  have := h (k + j) (by omega)
  rw [Nat.add_assoc, this]
  simp
theorem At.left {w : World} {b o : Nat} {l r : List Int} (h : At w b o (l ++ r)) : At w b o l := by
  intro j hj
  have := h j (by rw [List.length_append]; omega)
  rw [this, List.getElem_append_left hj]
theorem At.right {w : World} {b o : Nat} {l r : List Int} (h : At w b o (l ++ r)) : At w b (o + l.length) r := by
  have := h.drop l.length
  rwa [List.drop_left] at this
theorem At.head {w : World} {b o : Nat} {x : Int} {r : List Int} (h : At w b o (x :: r)) : w.cell? ⟨b, o, none⟩ = some (.int .u8 x) := h 0 (by simp)
theorem At.below {w w' : World} {b o : Nat} {l : List Int} (h : At w b o l) (hb : Below w.heap.size w w') : At w' b o l := by
  intro j hj
  rw [← h j hj]
  exact World.cell?_of_block (w := w) (hb.block b (lt_of_cell (h j hj)))
theorem At.rd {w : World} {b o c : Nat} {l : List Int} (h : At w b o l) (h1 : l.length ≤ c) (h2 : c ≤ maxLen) : Rd w (.slice (some ⟨b, o, none⟩) l.length c) l :=
  ⟨_, c, rfl, h1, h2, fun _ => ⟨b, o, rfl, h⟩⟩
theorem At.of_rd {w : World} {b o n c : Nat} {l : List Int} (h : Rd w (.slice (some ⟨b, o, none⟩) n c) l) : At w b o l := by
  obtain ⟨A, c2, hv, h1, h2, h3⟩ := h
  injection hv with e1 e2 e3
  intro j hj
  obtain ⟨b2, o2, e4, h4⟩ := h3 (by omega)
  rw [← e1] at e4
  injection e4 with e4
  injection e4 with e5 e6
  subst e5 e6
  exact h4 j hj
/-- What parseLength returns: the length of all, where the content begins. -/
def RetL (w : World) (n k : Nat) (e : Ending) (w' : World) : Prop := e = .returned (.tuple #[.int .i64 n, .int .i64 k, .nilIface]) ∧ w' = w
set_option maxHeartbeats 4000000 in
set_option maxRecDepth 100000 in
theorem parseLength_0 (w : World) (b o n c : Nat) (v : Nat) (hv : v < 128) (hn : 2 ≤ n) (hnc : n ≤ c) (hc : c ≤ 9223372036854775807 ∧ n ≤ 1000000) (h1 : w.cell? ⟨b, o + 1, none⟩ = some (.int .u8 v)) :
    Calls Tryz.prog 76 #[.slice (some ⟨b, o, none⟩) n c] w (RetL w (v + 2) 2) := by
  go_enter Tryz.func76, Tryz.ntmps76
  go_wp2
  go_ret3
  refine ⟨?_, rfl⟩
  first | rfl | simp
theorem val_take_step (xs : List Int) (k : Nat) (x : Int) (hx : xs[k]? = some x) : val (xs.take (k + 1)) = 256 * val (xs.take k) + x.toNat := by
  rw [List.take_add_one, hx, Option.toList_some, val_snoc]
theorem val_take_le (xs : List Int) (k : Nat) : val (xs.take k) ≤ val xs := by
  have := val_mono (xs.drop k) (xs.take k)
  rwa [List.take_append_drop] at this
set_option maxHeartbeats 8000000 in
set_option maxRecDepth 100000 in
theorem parseLength_m (w : World) (b o n c m : Nat) (xs : List Int) (hm : xs.length = m) (hm1 : 1 ≤ m) (hm2 : m ≤ 4) (hx : ∀ x ∈ xs, 0 ≤ x ∧ x < 256) (hval : val xs < 1000000) (hn : 2 + m ≤ n) (hnc : n ≤ c) (hc : c ≤ 9223372036854775807 ∧ n ≤ 1000000)
    (h1 : w.cell? ⟨b, o + 1, none⟩ = some (.int .u8 (128 + m : Nat))) (hxs : At w b (o + 2) xs) :
    Calls Tryz.prog 76 #[.slice (some ⟨b, o, none⟩) n c] w (RetL w (val xs + 2 + m) (2 + m)) := by
  have hand : bits .and .i64 ((128 + m : Nat) : Int) 127 = m := by
    have h4 : m = 1 ∨ m = 2 ∨ m = 3 ∨ m = 4 := by omega
    rcases h4 with rfl | rfl | rfl | rfl
    · exact (by kernel_rfl : bits .and .i64 129 127 = 1)
    · exact (by kernel_rfl : bits .and .i64 130 127 = 2)
    · exact (by kernel_rfl : bits .and .i64 131 127 = 3)
    · exact (by kernel_rfl : bits .and .i64 132 127 = 4)
  have HX := Lib.hid hx
  have HXS := Lib.hid hxs
  have HV := Lib.hid hval
  have HM := Lib.hid hm
  obtain ⟨t, ht⟩ : ∃ t : Nat, t = 128 + m := ⟨_, rfl⟩
  rw [← ht] at h1 hand
  clear hx hxs hval hm
  have ht1 : 128 < t := by omega
  have ht2 : t ≤ 132 := by omega
  have hne : ((t : Int) == 128) = false := by simp; omega
  clear ht
  go_enter Tryz.func76, Tryz.ntmps76
  go_wp2
  go_loop [6, 15] (fun a i => ∃ k : Nat, k ≤ m ∧ i = .int .i64 k ∧ a = .int .i64 (val (xs.take k))) (fun _ i => m - (intOf i).toNat)
  case atStart => exact ⟨0, Nat.zero_le _, rfl, rfl⟩
  case round =>
    obtain ⟨k, hk, rfl, rfl⟩ := hrel
    obtain ⟨v, hv⟩ : ∃ v, v = val (xs.take k) := ⟨_, rfl⟩
    have hle : v < 1000000 := by rw [hv]; exact Nat.lt_of_le_of_lt (val_take_le xs k) HV.out
    rw [← hv]
    by_cases hlt : k < m
    · obtain ⟨x, hx⟩ : ∃ x, xs[k]? = some x := ⟨_, List.getElem?_eq_getElem (by rw [HM.out]; exact hlt)⟩
      have hcx : w.cell? ⟨b, o + (2 + k), none⟩ = some (.int .u8 x) := by rw [← Nat.add_assoc]; exact HXS.out.cell k x hx
      have hxr := HX.out x (List.mem_of_getElem? hx)
      have hs := val_take_step xs k x hx
      rw [← hv] at hs
      have HS := Lib.hid hs
      clear hx hs hv
      go_wp2
      go_round
      case rel => exact ⟨k + 1, by omega, by go_num, by rw [HS.out]; go_num⟩
      case measure => simp [intOf]; omega
    · obtain rfl : k = m := by omega
      rw [← HM.out, List.take_length] at hv
      have HVV := Lib.hid hv
      clear hv
      go_wp2
      go_ret3
      refine ⟨?_, rfl⟩
      rw [← HVV.out]
      first | rfl | (simp; omega)
theorem be_len2 (n : Nat) (h : n < 65536) : (be n).length ≤ 2 := by
  by_cases h0 : n = 0
  · subst h0; rw [be_zero]; simp
  by_cases h1 : n < 256
  · rw [be_1 n (by omega) h1]; simp
  · rw [be_2 n (by omega) h]; simp
/-- Where the content begins. -/
def hdr (n w : Nat) : Nat := 1 + (lenB n w).length
theorem hdr_ge (n w : Nat) : 2 ≤ hdr n w := by
  unfold hdr lenB
  split <;> simp <;> omega
theorem parseLength (w : World) (b o n c k wd : Nat) (t : Int) (rest : List Int) (hk : k < 65536) (hwd : wd ≤ 2) (hat : At w b o (t :: (lenB k wd ++ rest))) (hn : hdr k wd ≤ n) (hnc : n ≤ c) (hc : c ≤ 9223372036854775807 ∧ n ≤ 1000000) :
    Calls Tryz.prog 76 #[.slice (some ⟨b, o, none⟩) n c] w (RetL w (k + hdr k wd) (hdr k wd)) := by
  unfold hdr at hn ⊢
  by_cases hs : k < 128 ∧ wd = 0
  · have e : lenB k wd = [(k : Int)] := if_pos hs
    rw [e] at hat hn ⊢
    exact parseLength_0 w b o n c k hs.1 hn hnc hc (hat.cell 1 _ rfl)
  · have e : lenB k wd = ((128 + (be k).length + wd : Nat) : Int) :: (List.replicate wd 0 ++ be k) := if_neg hs
    rw [e] at hat hn ⊢
    have hlen : (List.replicate wd (0 : Int) ++ be k).length = (be k).length + wd := by simp; omega
    have h2 := be_len2 k hk
    have h1 : 1 ≤ (be k).length + wd := by
      by_cases hw : wd = 0
      · have hk0 : ¬ k < 128 := fun h => hs ⟨h, hw⟩
        rw [be_step k (by omega), List.length_append]; simp; omega
      · omega
    have hv : val (List.replicate wd (0 : Int) ++ be k) = k := by rw [val_pad, val_be]
    have := parseLength_m w b o n c ((be k).length + wd) (List.replicate wd 0 ++ be k) hlen h1 (by omega) (by
        intro x hx
        rcases List.mem_append.1 hx with hx | hx
        · rw [List.eq_of_mem_replicate hx]; omega
        · exact be_byte k x hx) (by rw [hv]; omega) (by simp at hn; omega) hnc hc (by rw [← Nat.add_assoc]; exact hat.cell 1 _ rfl) (by
        have := hat.drop 2
        exact this.left)
    rw [hv] at this
    have e1 : k + 2 + ((be k).length + wd) = k + (1 + (((128 + (be k).length + wd : Nat) : Int) :: (List.replicate wd 0 ++ be k)).length) := by rw [List.length_cons, hlen]; omega
    have e2 : 2 + ((be k).length + wd) = (1 + (((128 + (be k).length + wd : Nat) : Int) :: (List.replicate wd 0 ++ be k)).length) := by rw [List.length_cons, hlen]; omega
    rw [e1, e2] at this
    exact this
end Go.Proofs.YtpfmcdhmboclhaaGreatDoor
namespace Go.Proofs.YtpfmcdhmboclhaaGreatDoor
open Go.RowKit

theorem or8u (v : Nat) (x : Int) (h : 256 * v + x.toNat < 18446744073709551616) (hx : 0 ≤ x ∧ x < 256) : bits .or .u64 ((v : Int) * 256) x = ((256 * v + x.toNat : Nat) : Int) := by
  obtain ⟨y, rfl⟩ := Int.eq_ofNat_of_zero_le hx.1
  have e : ((v : Int) * 256) = ((2 ^ 8 * v : Nat) : Int) := by rw [Int.natCast_mul]; exact Int.mul_comm _ _
  have h2 := (bits_nat .u64 64 (by decide) (fun n h0 h1 => by rw [IntKind.wrap_u64]; omega) (2 ^ 8 * v) y (by omega) (by omega)).2
  rw [e, h2, ← Nat.two_pow_add_eq_or_of_lt (by omega)]
  simp
theorem or8i (v : Nat) (x : Int) (h : 256 * v + x.toNat < 9223372036854775808) (hx : 0 ≤ x ∧ x < 256) : bits .or .i64 ((v : Int) * 256) x = ((256 * v + x.toNat : Nat) : Int) := by
  obtain ⟨y, rfl⟩ := Int.eq_ofNat_of_zero_le hx.1
  have e : ((v : Int) * 256) = ((2 ^ 8 * v : Nat) : Int) := by rw [Int.natCast_mul]; exact Int.mul_comm _ _
  have h2 := (bits_nat .i64 63 (by decide) (fun n h0 h1 => by rw [IntKind.wrap_i64]; omega) (2 ^ 8 * v) y (by omega) (by omega)).2
  rw [e, h2, ← Nat.two_pow_add_eq_or_of_lt (by omega)]
  simp
set_option maxHeartbeats 8000000 in
set_option maxRecDepth 100000 in
theorem parseUint64 (w : World) (b o n c : Nat) (xs : List Int) (hm : xs.length = n) (hx : ∀ x ∈ xs, 0 ≤ x ∧ x < 256) (hval : val xs < 18446744073709551616) (h9 : n ≤ 8 ∨ (n = 9 ∧ xs[0]? = some 0)) (hnc : n ≤ c) (hc : c ≤ 9223372036854775807 ∧ n ≤ 1000000) (hat : At w b o xs) :
    Calls Tryz.prog 102 #[.slice (some ⟨b, o, none⟩) n c] w (fun e w' => e = .returned (.tuple #[.int .u64 (val xs), .nilIface]) ∧ w' = w) := by
  have HX := Lib.hid hx
  have HAT := Lib.hid hat
  have HV := Lib.hid hval
  have HM := Lib.hid hm
  clear hx hat hval hm
  have hn9 : n ≤ 9 := by omega
  have key : ∀ (x : Int) (v : Nat), True := fun _ _ => trivial
  clear key
  go_enter Tryz.func102, Tryz.ntmps102
  rcases h9 with h8 | ⟨rfl, h0⟩
  · go_wp2
    go_loop [4, 23] (fun a i => ∃ k : Nat, k ≤ n ∧ i = .int .i64 k ∧ a = .int .u64 (val (xs.take k))) (fun _ i => n - (intOf i).toNat)
    case atStart => exact ⟨0, Nat.zero_le _, rfl, rfl⟩
    case round =>
      obtain ⟨k, hk, rfl, rfl⟩ := hrel
      obtain ⟨v, hv⟩ : ∃ v, v = val (xs.take k) := ⟨_, rfl⟩
      rw [← hv]
      by_cases hlt : k < n
      · obtain ⟨x, hx⟩ : ∃ x, xs[k]? = some x := ⟨_, List.getElem?_eq_getElem (by rw [HM.out]; exact hlt)⟩
        have hcx : w.cell? ⟨b, o + k, none⟩ = some (.int .u8 x) := HAT.out.cell k x hx
        have hxr := HX.out x (List.mem_of_getElem? hx)
        have hs := val_take_step xs k x hx
        rw [← hv] at hs
        have hle : 256 * v + x.toNat < 18446744073709551616 := by rw [← hs]; exact Nat.lt_of_le_of_lt (val_take_le xs (k + 1)) HV.out
        have hor := or8u v x hle hxr
        have HS := Lib.hid hs
        clear hx hs hv
        go_wp2
        go_round
        case rel => exact ⟨k + 1, by omega, by go_num, by rw [HS.out]; go_num⟩
        case measure => simp [intOf]; omega
      · obtain rfl : k = n := by omega
        rw [← HM.out, List.take_length] at hv
        have HVV := Lib.hid hv
        clear hv
        go_wp2
        go_ret2
        exact ⟨by rw [← HVV.out]; rfl, rfl⟩
  · have hc0 : w.cell? ⟨b, o, none⟩ = some (.int .u8 0) := HAT.out.cell 0 0 h0
    clear h0
    go_wp2
    go_loop [4, 23] (fun a i => ∃ k : Nat, k ≤ 9 ∧ i = .int .i64 k ∧ a = .int .u64 (val (xs.take k))) (fun _ i => 9 - (intOf i).toNat)
    case atStart => exact ⟨0, Nat.zero_le _, rfl, rfl⟩
    case round =>
      obtain ⟨k, hk, rfl, rfl⟩ := hrel
      obtain ⟨v, hv⟩ : ∃ v, v = val (xs.take k) := ⟨_, rfl⟩
      rw [← hv]
      by_cases hlt : k < 9
      · obtain ⟨x, hx⟩ : ∃ x, xs[k]? = some x := ⟨_, List.getElem?_eq_getElem (by rw [HM.out]; exact hlt)⟩
        have hcx : w.cell? ⟨b, o + k, none⟩ = some (.int .u8 x) := HAT.out.cell k x hx
        have hxr := HX.out x (List.mem_of_getElem? hx)
        have hs := val_take_step xs k x hx
        rw [← hv] at hs
        have hle : 256 * v + x.toNat < 18446744073709551616 := by rw [← hs]; exact Nat.lt_of_le_of_lt (val_take_le xs (k + 1)) HV.out
        have hor := or8u v x hle hxr
        have HS := Lib.hid hs
        clear hx hs hv
        go_wp2
        go_round
        case rel => exact ⟨k + 1, by omega, by go_num, by rw [HS.out]; go_num⟩
        case measure => simp [intOf]; omega
      · obtain rfl : k = 9 := by omega
        have hv2 : v = val xs := by rw [hv, ← HM.out, List.take_length]
        have HVV := Lib.hid hv2
        clear hv hv2
        go_wp2
        go_ret2
        exact ⟨by rw [← HVV.out]; rfl, rfl⟩
/-- What n bytes tell, the first one with the sign. -/
def sval (xs : List Int) : Int := if 2 * val xs < 256 ^ xs.length then val xs else val xs - 256 ^ xs.length
set_option maxHeartbeats 8000000 in
set_option maxRecDepth 100000 in
theorem parseInt64 (w : World) (b o n c : Nat) (xs : List Int) (hm : xs.length = n) (hn1 : 1 ≤ n) (hn4 : n ≤ 4) (hx : ∀ x ∈ xs, 0 ≤ x ∧ x < 256) (hval : val xs < 256 ^ n) (hnc : n ≤ c) (hc : c ≤ 9223372036854775807 ∧ n ≤ 1000000) (hat : At w b o xs) :
    Calls Tryz.prog 96 #[.slice (some ⟨b, o, none⟩) n c] w (fun e w' => e = .returned (.tuple #[.int .i64 (sval xs), .nilIface]) ∧ w' = w) := by
  have hV32 : val xs < 4294967296 := Nat.lt_of_lt_of_le hval (Nat.pow_le_pow_right (by omega) hn4)
  have HX := Lib.hid hx
  have HAT := Lib.hid hat
  have HV := Lib.hid hval
  have HV32 := Lib.hid hV32
  have HM := Lib.hid hm
  clear hx hat hval hm hV32
  go_enter Tryz.func96, Tryz.ntmps96
  go_wp2
  go_loop [4, 18] (fun a i => ∃ k : Nat, k ≤ n ∧ i = .int .i64 k ∧ a = .int .i64 (val (xs.take k))) (fun _ i => n - (intOf i).toNat)
  case atStart => exact ⟨0, Nat.zero_le _, rfl, rfl⟩
  case round =>
    obtain ⟨k, hk, rfl, rfl⟩ := hrel
    obtain ⟨v, hv⟩ : ∃ v, v = val (xs.take k) := ⟨_, rfl⟩
    have hle : v < 4294967296 := by rw [hv]; exact Nat.lt_of_le_of_lt (val_take_le xs k) HV32.out
    rw [← hv]
    by_cases hlt : k < n
    · obtain ⟨x, hx⟩ : ∃ x, xs[k]? = some x := ⟨_, List.getElem?_eq_getElem (by rw [HM.out]; exact hlt)⟩
      have hcx : w.cell? ⟨b, o + k, none⟩ = some (.int .u8 x) := HAT.out.cell k x hx
      have hxr := HX.out x (List.mem_of_getElem? hx)
      have hs := val_take_step xs k x hx
      rw [← hv] at hs
      have hor := or8i v x (by omega) hxr
      have HS := Lib.hid hs
      clear hx hs hv
      go_wp2
      go_round
      case rel => exact ⟨k + 1, by omega, by go_num, by rw [HS.out]; go_num⟩
      case measure => simp [intOf]; omega
    · obtain rfl : k = n := by omega
      have hv2 : v = val xs := by rw [hv, ← HM.out, List.take_length]
      have HVV := Lib.hid hv2
      have hval : v < 256 ^ k := by rw [hv2]; exact HV.out
      clear hv hv2
      have h4 : k = 1 ∨ k = 2 ∨ k = 3 ∨ k = 4 := by omega
      rcases h4 with rfl | rfl | rfl | rfl
      · have hv1 : v < 256 := by simpa using hval
        have hsh : wrap64 ((v : Int) * 72057594037927936) / 72057594037927936 = sval xs := by
          unfold sval; rw [← HVV.out, HM.out]; unfold wrap64; omega
        clear hval
        go_wp2
        go_ret2
        exact ⟨by rw [← hsh]; rfl, rfl⟩
      · have hv1 : v < 65536 := by simpa using hval
        have hsh : wrap64 ((v : Int) * 281474976710656) / 281474976710656 = sval xs := by
          unfold sval; rw [← HVV.out, HM.out]; unfold wrap64; omega
        clear hval
        go_wp2
        go_ret2
        exact ⟨by rw [← hsh]; rfl, rfl⟩
      · have hv1 : v < 16777216 := by simpa using hval
        have hsh : wrap64 ((v : Int) * 1099511627776) / 1099511627776 = sval xs := by
          unfold sval; rw [← HVV.out, HM.out]; unfold wrap64; omega
        clear hval
        go_wp2
        go_ret2
        exact ⟨by rw [← hsh]; rfl, rfl⟩
      · have hv1 : v < 4294967296 := by simpa using hval
        have hsh : wrap64 ((v : Int) * 4294967296) / 4294967296 = sval xs := by
          unfold sval; rw [← HVV.out, HM.out]; unfold wrap64; omega
        clear hval
        go_wp2
        go_ret2
        exact ⟨by rw [← hsh]; rfl, rfl⟩
theorem sval_intB (n : Int) (h : -2147483648 ≤ n ∧ n ≤ 2147483647) : sval (intB n) = n ∧ val (intB n) < 256 ^ (intB n).length ∧ 1 ≤ (intB n).length ∧ (intB n).length ≤ 4 := by
  by_cases h1 : -128 ≤ n ∧ n ≤ 127
  · rw [intB_1 n h1]; simp only [sval, val, List.foldl, List.length_cons, List.length_nil, Nat.reduceAdd, Nat.reducePow]; omega
  by_cases h2 : -32768 ≤ n ∧ n ≤ 32767
  · rw [intB_2 n h1 h2]; simp only [sval, val, List.foldl, List.length_cons, List.length_nil, Nat.reduceAdd, Nat.reducePow]; omega
  by_cases h3 : -8388608 ≤ n ∧ n ≤ 8388607
  · rw [intB_3 n h2 h3]; simp only [sval, val, List.foldl, List.length_cons, List.length_nil, Nat.reduceAdd, Nat.reducePow]; omega
  · rw [intB_4 n h3 h]; simp only [sval, val, List.foldl, List.length_cons, List.length_nil, Nat.reduceAdd, Nat.reducePow]; omega
set_option maxHeartbeats 4000000 in
set_option maxRecDepth 100000 in
theorem parseInt (w : World) (b o m c : Nat) (n : Int) (h : -2147483648 ≤ n ∧ n ≤ 2147483647) (hm : (intB n).length = m) (hnc : m ≤ c) (hc : c ≤ 9223372036854775807 ∧ m ≤ 1000000) (hat : At w b o (intB n)) :
    Calls Tryz.prog 77 #[.slice (some ⟨b, o, none⟩) m c] w (fun e w' => e = .returned (.tuple #[.int .i64 n, .nilIface]) ∧ w' = w) := by
  obtain ⟨h1, h2, h3, h4⟩ := sval_intB n h
  have HC := Lib.hid (parseInt64 w b o m c (intB n) hm (by omega) (by omega) (intB_byte n) (by rw [← hm]; exact h2) hnc hc hat)
  rw [h1] at HC
  clear h1 h2 h3 h4 hat hm
  go_enter Tryz.func77, Tryz.ntmps77
  go_wp2_with (go_at_call 96; refine (HC.out).mono ?_; rintro e W1 ⟨rfl, rfl⟩; refine Hid.out ?_)
  refine Lib.hid ?_
  go_wp2
  go_ret2
  exact ⟨rfl, rfl⟩
theorem be_len (n k : Nat) (h : n < 256 ^ k) : (be n).length ≤ k := by
  induction k generalizing n with
  | zero => obtain rfl : n = 0 := by simpa using h
            rw [be_zero]; simp
  | succ k ih =>
    by_cases h0 : n = 0
    · subst h0; rw [be_zero]; simp
    · rw [be_step n (by omega), List.length_append]
      have := ih (n / 256) (by rw [Nat.pow_succ] at h; omega)
      simp; omega
theorem uintB_len8 (n : Nat) (h : n < 18446744073709551616) : (uintB n).length ≤ 8 ∨ ((uintB n).length = 9 ∧ (uintB n)[0]? = some 0) := by
  have h1 : (be1 n).length ≤ 8 := by
    unfold be1
    split
    · simp
    · exact be_len n 8 (by simpa using h)
  unfold uintB
  split
  · by_cases h8 : (be1 n).length = 8
    · right; exact ⟨by simp [h8], rfl⟩
    · left; simp; omega
  · exact .inl h1
theorem parseUint64B (w : World) (b o m c n : Nat) (h : n < 18446744073709551616) (hm : (uintB n).length = m) (hnc : m ≤ c) (hc : c ≤ 9223372036854775807 ∧ m ≤ 1000000) (hat : At w b o (uintB n)) :
    Calls Tryz.prog 102 #[.slice (some ⟨b, o, none⟩) m c] w (fun e w' => e = .returned (.tuple #[.int .u64 n, .nilIface]) ∧ w' = w) := by
  have := parseUint64 w b o m c (uintB n) hm (uintB_byte n) (by rw [val_uintB]; exact h) (by have := uintB_len8 n h; rw [hm] at this; exact this) hnc hc hat
  rwa [val_uintB] at this
set_option maxHeartbeats 4000000 in
set_option maxRecDepth 100000 in
theorem parseUint (w : World) (b o m c n : Nat) (h : n < 18446744073709551616) (hm : (uintB n).length = m) (hnc : m ≤ c) (hc : c ≤ 9223372036854775807 ∧ m ≤ 1000000) (hat : At w b o (uintB n)) :
    Calls Tryz.prog 80 #[.slice (some ⟨b, o, none⟩) m c] w (fun e w' => e = .returned (.tuple #[.int .u64 n, .nilIface]) ∧ w' = w) := by
  have HC := Lib.hid (parseUint64B w b o m c n h hm hnc hc hat)
  clear hat hm
  go_enter Tryz.func80, Tryz.ntmps80
  go_wp2_with (go_at_call 102; refine (HC.out).mono ?_; rintro e W1 ⟨rfl, rfl⟩; refine Hid.out ?_)
  refine Lib.hid ?_
  go_wp2
  go_ret2
  exact ⟨rfl, rfl⟩
set_option maxHeartbeats 4000000 in
set_option maxRecDepth 100000 in
theorem parseUint32 (w : World) (b o m c n : Nat) (h : n < 4294967296) (hm : (uintB n).length = m) (hnc : m ≤ c) (hc : c ≤ 9223372036854775807 ∧ m ≤ 1000000) (hat : At w b o (uintB n)) :
    Calls Tryz.prog 120 #[.slice (some ⟨b, o, none⟩) m c] w (fun e w' => e = .returned (.tuple #[.int .u32 n, .nilIface]) ∧ w' = w) := by
  have HC := Lib.hid (parseUint w b o m c n (by omega) hm hnc hc hat)
  clear hat hm
  go_enter Tryz.func120, Tryz.ntmps120
  go_wp2_with (go_at_call 80; refine (HC.out).mono ?_; rintro e W1 ⟨rfl, rfl⟩; refine Hid.out ?_)
  refine Lib.hid ?_
  go_wp2
  go_ret2
  exact ⟨rfl, rfl⟩
end Go.Proofs.YtpfmcdhmboclhaaGreatDoor
namespace Go.Proofs.YtpfmcdhmboclhaaGreatDoor
open Go.Shelf
def Tryz.laysM288_ren : Go.Shelf.Ren := ⟨fun | 288 => 112 | 283 => 123 | 284 => 124 | 285 => 125 | 286 => 126 | 129 => 135 | 317 => 134 | 318 => 136 | 319 => 137 | 320 => 138 | 337 => 145 | 338 => 146 | n => n, fun | 37 => 30 | 53 => 38 | 3 => 3 | 4 => 4 | 9 => 9 | 171 => 203 | 0 => 0 | 173 => 205 | 212 => 220 | 51 => 22 | 5 => 5 | 20 => 20 | 213 => 221 | 46 => 24 | 232 => 232 | 233 => 233 | n => n, fun | 17 => 18 | 18 => 21 | 19 => 22 | n => n⟩
theorem Tryz.laysM288 : Go.Proofs.LaysM.n288 Tryz.prog Tryz.laysM288_ren := {
  mixed := by kernel_rfl
  f129 := Tryz.func135.trans (congrArg some (by kernel_rfl))
  f283 := Tryz.func123.trans (congrArg some (by kernel_rfl))
  f284 := Tryz.func124.trans (congrArg some (by kernel_rfl))
  f285 := Tryz.func125.trans (congrArg some (by kernel_rfl))
  f286 := Tryz.func126.trans (congrArg some (by kernel_rfl))
  f288 := Tryz.func112.trans (congrArg some (by kernel_rfl))
  f317 := Tryz.func134.trans (congrArg some (by kernel_rfl))
  f318 := Tryz.func136.trans (congrArg some (by kernel_rfl))
  f319 := Tryz.func137.trans (congrArg some (by kernel_rfl))
  f320 := Tryz.func138.trans (congrArg some (by kernel_rfl))
  f337 := Tryz.func145.trans (congrArg some (by kernel_rfl))
  f338 := Tryz.func146.trans (congrArg some (by kernel_rfl))
  t0 := Tryz.underlying0
  a0 := Tryz.isAgg0
  z0 := Tryz.sizeOf0
  v0 := Tryz.zeroValue0
  t3 := Tryz.underlying3
  a3 := Tryz.isAgg3
  z3 := Tryz.sizeOf3
  v3 := Tryz.zeroValue3
  t4 := Tryz.underlying4
  a4 := Tryz.isAgg4
  z4 := Tryz.sizeOf4
  v4 := Tryz.zeroValue4
  t5 := Tryz.underlying5
  a5 := Tryz.isAgg5
  z5 := Tryz.sizeOf5
  v5 := Tryz.zeroValue5
  t9 := Tryz.underlying9
  a9 := Tryz.isAgg9
  z9 := Tryz.sizeOf9
  v9 := Tryz.zeroValue9
  t20 := Tryz.underlying20
  a20 := Tryz.isAgg20
  z20 := Tryz.sizeOf20
  v20 := Tryz.zeroValue20
  t37 := Tryz.underlying30
  a37 := Tryz.isAgg30
  z37 := Tryz.sizeOf30
  v37 := Tryz.zeroValue30
  t46 := Tryz.underlying24
  a46 := Tryz.isAgg24
  z46 := Tryz.sizeOf24
  v46 := Tryz.zeroValue24
  t51 := Tryz.underlying22
  a51 := Tryz.isAgg22
  z51 := Tryz.sizeOf22
  v51 := Tryz.zeroValue22
  t53 := Tryz.underlying38
  a53 := Tryz.isAgg38
  z53 := Tryz.sizeOf38
  v53 := Tryz.zeroValue38
  t171 := Tryz.underlying203
  a171 := Tryz.isAgg203
  z171 := Tryz.sizeOf203
  v171 := Tryz.zeroValue203
  t173 := Tryz.underlying205
  a173 := Tryz.isAgg205
  z173 := Tryz.sizeOf205
  v173 := Tryz.zeroValue205
  t212 := Tryz.underlying220
  a212 := Tryz.isAgg220
  z212 := Tryz.sizeOf220
  v212 := Tryz.zeroValue220
  t213 := Tryz.underlying221
  a213 := Tryz.isAgg221
  z213 := Tryz.sizeOf221
  t232 := Tryz.underlying232
  a232 := Tryz.isAgg232
  z232 := Tryz.sizeOf232
  v232 := Tryz.zeroValue232
  t233 := Tryz.underlying233
  a233 := Tryz.isAgg233
  z233 := Tryz.sizeOf233
  v233 := Tryz.zeroValue233
  g17 := by kernel_rfl
  g18 := by kernel_rfl
  g19 := by kernel_rfl
  i0 := by kernel_rfl
  i3 := by kernel_rfl
  i4 := by kernel_rfl
  i5 := by kernel_rfl
  i9 := by kernel_rfl
  i20 := by kernel_rfl
  i37 := by kernel_rfl
  i46 := by kernel_rfl
  i51 := by kernel_rfl
  i53 := by kernel_rfl
  i171 := by kernel_rfl
  i173 := by kernel_rfl
  i212 := by kernel_rfl
  i232 := by kernel_rfl
  i233 := by kernel_rfl
  m17 := by kernel_rfl
  m18 := by kernel_rfl
  m19 := by kernel_rfl }
open Go.RowKit Go.Sort Go.Lib in
/-- internal/strconv.AppendUint(dst, i, 10), i BELOW 100: WHAT COMES BACK OWNS dst's CELLS AND, BEHIND THEM, i's DECIMAL NUMERAL. No table is read. Below the call's own blocks nothing has turned. (LAID: no walk: one application.) -/
theorem Tryz.internal_strconv_AppendUint_10_small (B n u : Nat) (hu : u < 100) (sv : Value) (xs : List Value) (w : World) (hown : w.ownsRow B 5 1 sv n xs) (hBw : B ≤ w.heap.size) (hlim : n + 20 ≤ 140737488355328) :
    Calls Tryz.prog 112 #[sv, .int .u64 u, .int .i64 10] w fun e w' => ∃ v', e = .returned v' ∧ w'.ownsRow B 5 1 v' (n + (Lib.decDigits u).length) (xs ++ Lib.byteCells (Lib.decDigits u)) ∧ Below B w w' ∧ Lib.OthersKept 5 none w w' := Any.internal_strconv_AppendUint_10_small Tryz.laysM288 B n u hu sv xs w hown hBw hlim
open Go.RowKit Go.Sort Go.Lib in
/-- internal/strconv.AppendUint(dst, i, 10), i FROM 100 ON: likewise; the digits are laid in an array of the call's own and appended. (LAID: no walk: one application.) -/
theorem Tryz.internal_strconv_AppendUint_10_big (B n u : Nat) (hu : 100 ≤ u) (hu64 : u < 18446744073709551616) (sv : Value) (xs : List Value) (w : World) (hown : w.ownsRow B 5 1 sv n xs) (hBw : B ≤ w.heap.size) (hlim : n + 20 ≤ 140737488355328) (htab : Lib.TabIs Tryz.prog w "internal/strconv.uint64pow10" .u64 Lib.pow10Tab) :
    Calls Tryz.prog 112 #[sv, .int .u64 u, .int .i64 10] w fun e w' => ∃ v', e = .returned v' ∧ w'.ownsRow B 5 1 v' (n + (Lib.decDigits u).length) (xs ++ Lib.byteCells (Lib.decDigits u)) ∧ Below B w w' ∧ Lib.OthersKept 5 none w w' := Any.internal_strconv_AppendUint_10_big Tryz.laysM288 B n u hu hu64 sv xs w hown hBw hlim htab
end Go.Proofs.YtpfmcdhmboclhaaGreatDoor
namespace Go.Proofs.YtpfmcdhmboclhaaGreatDoor
open Go.RowKit

set_option maxRecDepth 100000 in
theorem and127 : ∀ x : Nat, x < 256 → x &&& 127 = x % 128 := by decide
set_option maxRecDepth 100000 in
theorem and128 : ∀ x : Nat, x < 256 → x &&& 128 = if x < 128 then 0 else 128 := by decide
theorem band127 (x : Int) (h : 0 ≤ x ∧ x < 256) : bits .and .u8 x 127 = x % 128 := by
  obtain ⟨y, rfl⟩ := Int.eq_ofNat_of_zero_le h.1
  have := (bits_nat .u8 8 (by decide) (fun n h0 h1 => by rw [IntKind.wrap_u8]; omega) y 127 (by omega) (by omega)).1
  rw [show ((127 : Int)) = ((127 : Nat) : Int) from rfl, this, and127 y (by omega)]
  simp
theorem band128 (x : Int) (h : 0 ≤ x ∧ x < 256) : bits .and .u8 x 128 = if x < 128 then 0 else 128 := by
  obtain ⟨y, rfl⟩ := Int.eq_ofNat_of_zero_le h.1
  have := (bits_nat .u8 8 (by decide) (fun n h0 h1 => by rw [IntKind.wrap_u8]; omega) y 128 (by omega) (by omega)).1
  rw [show ((128 : Int)) = ((128 : Nat) : Int) from rfl, this, and128 y (by omega)]
  by_cases h : y < 128
  · rw [if_pos h, if_pos (by omega)]; rfl
  · rw [if_neg h, if_neg (by omega)]
theorem or7u (v : Nat) (x : Int) (h : 128 * v + x.toNat < 18446744073709551616) (hx : 0 ≤ x ∧ x < 128) : bits .or .u64 ((v : Int) * 128) x = ((128 * v + x.toNat : Nat) : Int) := by
  obtain ⟨y, rfl⟩ := Int.eq_ofNat_of_zero_le hx.1
  have e : ((v : Int) * 128) = ((2 ^ 7 * v : Nat) : Int) := by rw [Int.natCast_mul]; exact Int.mul_comm _ _
  have h2 := (bits_nat .u64 64 (by decide) (fun n h0 h1 => by rw [IntKind.wrap_u64]; omega) (2 ^ 7 * v) y (by omega) (by omega)).2
  rw [e, h2, ← Nat.two_pow_add_eq_or_of_lt (by omega)]
  simp
set_option maxHeartbeats 8000000 in
set_option maxRecDepth 100000 in
theorem base128 (w : World) (b o n c k v : Nat) (L rest : List Int) (hn : L.length = n) (hv : v < 4294967296) (hL : L.drop k = b128 v ++ rest) (hnc : n ≤ c) (hc : c ≤ 9223372036854775807 ∧ n ≤ 1000000) (hat : At w b o L) :
    Calls Tryz.prog 97 #[.slice (some ⟨b, o, none⟩) n c, .int .i64 k] w (fun e w' => e = .returned (.tuple #[.int .u32 v, .int .i64 (k + (b128 v).length : Nat), .nilIface]) ∧ w' = w) := by
  have hkn : k + (b128 v).length ≤ n := by
    have := congrArg List.length hL
    rw [List.length_drop, List.length_append] at this
    have h0 : 0 < (b128 v).length := List.length_pos_iff.2 (b128_ne v)
    omega
  have hatk : At w b (o + k) (b128 v) := by have := hat.drop k; rw [hL] at this; exact this.left
  have HAT := Lib.hid hatk
  have HV := Lib.hid hv
  have HKN := Lib.hid hkn
  have hkb : k ≤ n := by omega
  clear hat hatk hL hv hkn hn
  go_enter Tryz.func97, Tryz.ntmps97
  go_wp2
  go_loop [7, 8] (fun r i => ∃ (p : List Int) (x : Int) (q : List Int), b128 v = p ++ x :: q ∧ i = .int .i64 (k + p.length : Nat) ∧ r = .int .u64 (val128 p)) (fun _ i => n - (intOf i).toNat)
  case atStart =>
    rcases hb : b128 v with _ | ⟨x, q⟩
    · exact absurd hb (b128_ne v)
    · exact ⟨[], x, q, rfl, rfl, rfl⟩
  case round =>
    obtain ⟨p, x, q, hpq, rfl, rfl⟩ := hrel
    obtain ⟨hx0, hx1, hq0, hq1⟩ := b128_split v p x q hpq
    have hlen : (b128 v).length = p.length + 1 + q.length := by rw [hpq]; simp; omega
    obtain ⟨j, hj⟩ : ∃ j, j = k + p.length := ⟨_, rfl⟩
    have hjn : j < n := by have := HKN.out; omega
    have hcx : w.cell? ⟨b, o + j, none⟩ = some (.int .u8 x) := by rw [hj, ← Nat.add_assoc]; exact HAT.out.cell p.length x (by rw [hpq]; simp)
    obtain ⟨r, hr⟩ : ∃ r, r = val128 p := ⟨_, rfl⟩
    have hs := val128_snoc p x
    have hle : val128 (p ++ [x]) ≤ v := by
      have := val128_mono q (p ++ [x])
      rw [List.append_assoc] at this
      have e : p ++ ([x] ++ q) = b128 v := by rw [hpq]; rfl
      rw [e, val128_b128] at this
      exact this
    rw [← hj, ← hr]
    rw [← hr] at hs
    have hrle : 128 * r + x.toNat % 128 < 4294967296 := by have := HV.out; omega
    have hrb : r < 33554432 := by omega
    have h127 := band127 x ⟨hx0, hx1⟩
    have h128 := band128 x ⟨hx0, hx1⟩
    have hor := or7u r (x % 128) (by omega) (by omega)
    have hmod0 : 0 ≤ x % 128 := by omega
    have hmod1 : x % 128 < 128 := by omega
    have HS := Lib.hid hs
    have HPQ := Lib.hid hpq
    have HLEN := Lib.hid hlen
    have HJ := Lib.hid hj
    have HR := Lib.hid hr
    have hxm : (x % 128).toNat = x.toNat % 128 := by omega
    rw [hxm] at hor
    obtain ⟨r2, hr2⟩ : ∃ r2, r2 = 128 * r + x.toNat % 128 := ⟨_, rfl⟩
    rw [← hr2] at hor hs hrle
    have HR2 := Lib.hid hr2
    have HS2 := Lib.hid hs
    have hle32 : ((r2 : Nat) : Int) ≤ 4294967295 := by omega
    clear hs hpq hlen hj hr hxm hr2 hle
    by_cases hq : q = []
    · have hx128 := hq0 hq
      rw [if_pos hx128] at h128
      have HQ := Lib.hid hq
      clear hq0 hq1 hq
      go_wp2
      go_ret3
      refine ⟨?_, rfl⟩
      have e1 : r2 = v := by rw [← HS2.out, ← val128_b128 v, HPQ.out, HQ.out]
      have e2 : (j : Int) + 1 = (k + (b128 v).length : Nat) := by rw [HLEN.out, HQ.out, HJ.out]; simp; omega
      show Ending.returned (.tuple #[.int .u32 (r2 : Nat), .int .i64 ((j : Int) + 1), .nilIface]) = Ending.returned (.tuple #[.int .u32 (v : Nat), .int .i64 ((k + (b128 v).length : Nat) : Int), .nilIface])
      rw [e2, e1]
    · have hx128 := hq1 hq
      rw [if_neg (by omega)] at h128
      have HQ := Lib.hid hq
      clear hq0 hq1 hq
      go_wp2
      go_round
      case rel =>
        rcases hqq : q with _ | ⟨y, q2⟩
        · exact absurd hqq HQ.out
        · refine ⟨p ++ [x], y, q2, by rw [HPQ.out, hqq]; simp, ?_, ?_⟩
          · rw [HJ.out]; simp; omega
          · rw [HS2.out]
      case measure => simp [intOf]; omega
/-- The table of powers of ten lies. -/
def Tab (w : World) : Prop := Lib.TabIs Tryz.prog w "internal/strconv.uint64pow10" .u64 Lib.pow10Tab
theorem Tab.below {w w' : World} (h : Tab w) (hb : Below w.heap.size w w') : Tab w' := by
  unfold Tab Lib.TabIs World.var? at *
  cases hg : Tryz.prog.globalNamed "internal/strconv.uint64pow10" with
  | none => simp [hg] at h
  | some g =>
    simp only [hg, Option.bind_some] at h ⊢
    have hlt : g < w.heap.size := by
      rcases Nat.lt_or_ge g w.heap.size with h' | h'
      · exact h'
      · rw [Array.getElem?_eq_none h'] at h; simp at h
    rw [hb.block g hlt]
    exact h
theorem decFigs (u : Nat) : (Lib.decDigits u).map (fun b => (b.toNat : Int)) = figs u := by
  induction u using Nat.strongRecOn with
  | ind u ih =>
    rw [Lib.decDigits]
    by_cases h : u < 10
    · rw [dif_pos h, figs_1 u h]
      have e : (UInt8.ofNat (48 + u)).toNat = 48 + u := by simp; omega
      simp only [List.map_cons, List.map_nil, e]
      rw [Int.natCast_add]; rfl
    · rw [dif_neg h, figs_step u (by omega), List.map_append, ih (u / 10) (by omega)]
      have e : (UInt8.ofNat (48 + u % 10)).toNat = 48 + u % 10 := by simp; omega
      simp only [List.map_cons, List.map_nil, e]
      rw [Int.natCast_add]; rfl
theorem byteCells_figs (u : Nat) : Lib.byteCells (Lib.decDigits u) = by8 (figs u) := by
  rw [← decFigs u]; simp [Lib.byteCells, by8]
theorem figs_len (u : Nat) : (figs u).length = (Lib.decDigits u).length := by rw [← decFigs u]; simp
end Go.Proofs.YtpfmcdhmboclhaaGreatDoor
