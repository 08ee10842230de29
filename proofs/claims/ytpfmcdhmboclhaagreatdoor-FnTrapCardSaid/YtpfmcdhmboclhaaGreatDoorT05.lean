/- spec: bytes that are read are cut. spec: the front of bytes is opened. spec: the content at the front of bytes with a tag; a number of one to four bytes. spec: a number without a sign of one to nine bytes. spec: a name out of its content. -/
import Derived.Lib.IndexBytes
import Derived.Test.YtpfmcdhmboclhaaGreatDoorG20
import Derived.Test.YtpfmcdhmboclhaaGreatDoorT02
set_option linter.unusedVariables false
set_option linter.unusedSimpArgs false
namespace Go.Proofs.YtpfmcdhmboclhaaGreatDoor
open Go.RowKit

theorem Rd.form {W : World} {v : Value} {l : List Int} (h : Rd W v l) : ∃ A c, v = .slice A l.length c := by
  obtain ⟨A, c, e, -⟩ := h
  exact ⟨A, c, e⟩
/-- What reads once, of one form, is cut wherever it reads. -/
theorem rd_sub {W0 : World} {v : Value} {l : List Int} (h : Rd W0 v l) (lo hi : Nat) (h1 : lo ≤ hi) (h2 : hi ≤ l.length) :
    ∃ v', (∀ W, (Instr.slice 30 v (some (.int .i64 lo)) (some (.int .i64 hi)) none).run Tryz.prog W = .ok v' W) ∧ (hi = l.length → ∀ W, (Instr.slice 30 v (some (.int .i64 lo)) none none).run Tryz.prog W = .ok v' W) ∧ ∀ W, Rd W v l → Rd W v' ((l.drop lo).take (hi - lo)) := by
  obtain ⟨A, c, rfl, hc1, hc2, -⟩ := h
  have hl : ((l.drop lo).take (hi - lo)).length = hi - lo := by rw [List.length_take, List.length_drop]; omega
  refine ⟨sliced A lo hi c 1, fun W => ?_, fun e W => ?_, fun W hW => ?_⟩
  · rw [run_slice_lh _ _ _ _ _ (by kernel_rfl) _ _ _ _ (by omega) (by omega) (by omega)]
    have : (sizeOf (Tryz.prog.elem 30)).run Tryz.prog W = .ok 1 W := by kernel_rfl
    rw [this]
    rfl
  · rw [run_slice_l _ _ _ _ _ (by kernel_rfl) _ _ (by omega) (by omega)]
    have : (sizeOf (Tryz.prog.elem 30)).run Tryz.prog W = .ok 1 W := by kernel_rfl
    rw [this, ← e]
    rfl
  · obtain ⟨A', c', e, -, -, hcell⟩ := hW
    injection e with e1 e2 e3
    subst e1; subst e3
    have hle : ∀ x, x = (l.drop lo).take (hi - lo) → x.length = hi - lo := fun x e => by rw [e]; exact hl
    refine ⟨if c = lo then A else A.map (·.add (lo * 1)), c - lo, by unfold sliced; rw [hl], by rw [hl]; omega, by omega, fun h0 => ?_⟩
    rw [hl] at h0
    obtain ⟨b, o, rfl, hc⟩ := hcell (by omega)
    have hne : ¬ c = lo := by omega
    rw [if_neg hne]
    refine ⟨b, o + lo, by rw [Option.map_some, Nat.mul_one, addr_add], fun j hj => ?_⟩
    rw [hl] at hj
    have := hc (lo + j) (by omega)
    rw [Nat.add_assoc, this]
    simp
end Go.Proofs.YtpfmcdhmboclhaaGreatDoor
namespace Go.Proofs.YtpfmcdhmboclhaaGreatDoor
open Go.RowKit

theorem rd_idx {W0 : World} {v : Value} {l : List Int} (h : Rd W0 v l) (k : Nat) (x : Int) (hx : l[k]? = some x) :
    ∃ a : Addr, (∀ W, (Instr.indexAt 30 v (.int .i64 k)).run Tryz.prog W = .ok (.pointer (some a)) W) ∧ ∀ W, Rd W v l → W.cell? a = some (.int .u8 x) := by
  obtain ⟨A, c, rfl, hc1, hc2, hcell⟩ := h
  obtain ⟨hlt, rfl⟩ := List.getElem?_eq_some_iff.1 hx
  obtain ⟨b, o, rfl, -⟩ := hcell (by omega)
  refine ⟨⟨b, o + k, none⟩, fun W => ?_, fun W hW => ?_⟩
  · rw [run_indexAt_slice _ _ _ _ _ _ _ (by kernel_rfl), if_pos (by omega)]
    have : (sizeOf (Tryz.prog.elem 30)).run Tryz.prog W = .ok 1 W := by kernel_rfl
    rw [this]
    show Result.ok (Value.pointer (some (Addr.add ⟨b, o, none⟩ ((k : Int).toNat * 1)))) W = _
    rw [addr_add]; simp
  · obtain ⟨A', c', e, -, -, hcell'⟩ := hW
    injection e with e1 e2 e3
    obtain ⟨b', o', e4, hc⟩ := hcell' (by omega)
    rw [← e1] at e4
    injection e4 with e4
    injection e4 with e5 e6 e7
    subst e5; subst e6
    exact hc k hlt
theorem Rd.drewN {W : World} {v : Value} {l : List Int} (h : Rd W v l) (k : Nat) : Rd (W.drewN k) v l := h.keptBelow (drewN_below _ _)
theorem Rd.lenAt {W0 : World} {v : Value} {l : List Int} (h : Rd W0 v l) (n : Nat) (hn : n = l.length) : ∀ W, (Builtin.len_ #[30] 3 #[v]).run Tryz.prog W = .ok (.int .i64 (n : Int)) W := fun W => h.len n hn W
/-- What Open returns. -/
def RetOpen (w : World) (tag : Nat) (c rest : List Int) (e : Ending) (w' : World) : Prop :=
  ∃ v1 v2, e = .returned (.tuple #[.int .i64 tag, v1, v2, .bool true]) ∧ Rd w' v1 c ∧ Rd w' v2 rest ∧ Below w.heap.size w w'
set_option maxHeartbeats 8000000 in
set_option maxRecDepth 100000 in
theorem open_short (v : Value) (w : World) (tag len : Nat) (c rest : List Int) (hr : Rd w v ((tag : Int) :: (len : Int) :: (c ++ rest))) (hlen : c.length = len) (h128 : len < 128) (htag : tag < 256) (hsz : rest.length ≤ 100000) :
    Calls Tryz.prog 44 #[v] w (RetOpen w tag c rest) := by
  obtain ⟨n, hn⟩ : ∃ n, n = ((tag : Int) :: (len : Int) :: (c ++ rest)).length := ⟨_, rfl⟩
  have hL := hr.lenAt n hn
  have hn2 : n = 2 + len + rest.length := by rw [hn]; simp; omega
  obtain ⟨a0, i0, k0⟩ := rd_idx hr 0 tag rfl
  obtain ⟨a1, i1, k1⟩ := rd_idx hr 1 len rfl
  obtain ⟨s1, r1, -, q1⟩ := rd_sub hr 2 (2 + len) (by omega) (by omega)
  obtain ⟨s2, -, r2, q2⟩ := rd_sub hr (2 + len) n (by omega) (by omega)
  have r2 := r2 hn
  have e1 : (((tag : Int) :: (len : Int) :: (c ++ rest)).drop 2).take (2 + len - 2) = c := by
    simp; rw [← hlen]; exact List.take_left' rfl
  have e2 : (((tag : Int) :: (len : Int) :: (c ++ rest)).drop (2 + len)).take (n - (2 + len)) = rest := by
    rw [show 2 + len = len + 1 + 1 by omega, List.drop_succ_cons, List.drop_succ_cons, ← hlen, List.drop_left' rfl]
    exact List.take_of_length_le (by omega)
  rw [e1] at q1
  rw [e2] at q2
  have HQ1 := Lib.hid q1
  have HQ2 := Lib.hid q2
  have HR := Lib.hid hr
  have c0 := k0 w hr
  have c1 := k1 w hr
  have i0' : ∀ W, (Instr.indexAt 30 v (.int .i64 0)).run Tryz.prog W = .ok (.pointer (some a0)) W := i0
  have i1' : ∀ W, (Instr.indexAt 30 v (.int .i64 1)).run Tryz.prog W = .ok (.pointer (some a1)) W := i1
  have r1' : ∀ W, (Instr.slice 30 v (some (.int .i64 2)) (some (.int .i64 (2 + (len : Int)))) none).run Tryz.prog W = .ok s1 W := fun W => by have := r1 W; simpa using this
  have r2' : ∀ W, (Instr.slice 30 v (some (.int .i64 (2 + (len : Int)))) none none).run Tryz.prog W = .ok s2 W := fun W => by have := r2 W; simpa using this
  have hw0 : IntKind.i64.wrap (tag : Int) = tag := by rw [IntKind.wrap_i64]; omega
  have hw1 : IntKind.i64.wrap (len : Int) = len := by rw [IntKind.wrap_i64]; omega
  have hnlt : ¬ (n : Int) < 2 := by omega
  have hn63 : (n : Int) ≤ 1000000 := by omega
  have hfin : ¬ (n : Int) - 2 < (len : Int) := by omega
  clear hr q1 q2 k0 k1 i0 i1 r1 r2 e1 e2 hn hn2
  go_enter Tryz.func44, Tryz.ntmps44
  go_wp2
  go_quiet (fail)
  go_wp2
  go_quiet (fail)
  go_wp2
  refine bodyPost_ret (v := .tuple #[.int .i64 tag, s1, s2, .bool true]) (by simp [results, Tryz.results44, go_sem]) rfl ?_
  exact ⟨s1, s2, rfl, HQ1.out _ ((HR.out.drewN _).drewN _), HQ2.out _ ((HR.out.drewN _).drewN _), (drewN_below w _).trans ((drewN_below _ _).mono (drewN_below w _).size)⟩
set_option maxHeartbeats 8000000 in
set_option maxRecDepth 100000 in
theorem open_long (v : Value) (w : World) (tag k len : Nat) (xs c rest : List Int) (hr : Rd w v ((tag : Int) :: ((128 + k : Nat) : Int) :: (xs ++ (c ++ rest)))) (hxk : xs.length = k) (hk1 : 1 ≤ k) (hk2 : k ≤ 2) (hxs : ∀ x ∈ xs, 0 ≤ x ∧ x < 256) (hval : val xs = len) (hlen : c.length = len) (hlen2 : len < 65536) (htag : tag < 256) (hsz : rest.length ≤ 100000) :
    Calls Tryz.prog 44 #[v] w (RetOpen w tag c rest) := by
  obtain ⟨n, hn⟩ : ∃ n, n = ((tag : Int) :: ((128 + k : Nat) : Int) :: (xs ++ (c ++ rest))).length := ⟨_, rfl⟩
  have hL := hr.lenAt n hn
  have hn2 : n = 2 + k + len + rest.length := by rw [hn]; simp; omega
  obtain ⟨a0, i0, k0⟩ := rd_idx hr 0 tag rfl
  obtain ⟨a1, i1, k1⟩ := rd_idx hr 1 _ rfl
  obtain ⟨s0, r0, -, q0⟩ := rd_sub hr 2 (2 + k) (by omega) (by omega)
  obtain ⟨s1, r1, -, q1⟩ := rd_sub hr (2 + k) (2 + k + len) (by omega) (by omega)
  obtain ⟨s2, -, r2, q2⟩ := rd_sub hr (2 + k + len) n (by omega) (by omega)
  have r2 := r2 hn
  have e0 : (((tag : Int) :: ((128 + k : Nat) : Int) :: (xs ++ (c ++ rest))).drop 2).take (2 + k - 2) = xs := by
    simp only [List.drop_succ_cons, List.drop_zero]; rw [← hxk]; exact List.take_left' (by omega)
  have e1 : (((tag : Int) :: ((128 + k : Nat) : Int) :: (xs ++ (c ++ rest))).drop (2 + k)).take (2 + k + len - (2 + k)) = c := by
    rw [show 2 + k = k + 1 + 1 by omega, List.drop_succ_cons, List.drop_succ_cons, ← hxk, List.drop_left' rfl, ← hlen]
    exact List.take_left' (by omega)
  have e2 : (((tag : Int) :: ((128 + k : Nat) : Int) :: (xs ++ (c ++ rest))).drop (2 + k + len)).take (n - (2 + k + len)) = rest := by
    rw [show 2 + k + len = k + len + 1 + 1 by omega, List.drop_succ_cons, List.drop_succ_cons, ← hxk, ← hlen, ← List.append_assoc, List.drop_left' (by simp)]
    exact List.take_of_length_le (by omega)
  rw [e0] at q0
  rw [e1] at q1
  rw [e2] at q2
  have HQ0 := Lib.hid q0
  have HQ1 := Lib.hid q1
  have HQ2 := Lib.hid q2
  have HR := Lib.hid hr
  have HX := Lib.hid hxs
  have HV := Lib.hid hval
  have HK := Lib.hid hxk
  have c0 := k0 w hr
  have c1 := k1 w hr
  have hs0 := q0 w hr
  have hL0 := hs0.lenAt k hxk.symm
  have i0' : ∀ W, (Instr.indexAt 30 v (.int .i64 0)).run Tryz.prog W = .ok (.pointer (some a0)) W := i0
  have i1' : ∀ W, (Instr.indexAt 30 v (.int .i64 1)).run Tryz.prog W = .ok (.pointer (some a1)) W := i1
  have r0' : ∀ W, (Instr.slice 30 v (some (.int .i64 2)) (some (.int .i64 (2 + (k : Int)))) none).run Tryz.prog W = .ok s0 W := fun W => by have := r0 W; simpa using this
  have r1' : ∀ W, (Instr.slice 30 v (some (.int .i64 (2 + (k : Int)))) (some (.int .i64 (2 + (k : Int) + (len : Int)))) none).run Tryz.prog W = .ok s1 W := fun W => by have := r1 W; simpa using this
  have r2' : ∀ W, (Instr.slice 30 v (some (.int .i64 (2 + (k : Int) + (len : Int)))) none none).run Tryz.prog W = .ok s2 W := fun W => by have := r2 W; simpa using this
  have hw0 : IntKind.i64.wrap (tag : Int) = tag := by rw [IntKind.wrap_i64]; omega
  obtain ⟨kk, hkk⟩ : ∃ kk : Nat, kk = 128 + k := ⟨_, rfl⟩
  rw [← hkk] at c1
  have hkk1 : 128 ≤ kk := by omega
  have hkk2 : kk ≤ 130 := by omega
  have hkk3 : (kk : Int) - 128 = (k : Int) := by omega
  have hw1 : IntKind.i64.wrap (kk : Int) = (kk : Int) := by rw [IntKind.wrap_i64]; omega
  have hk0 : ((k : Int) == 0) = false := by simp; omega
  have hk4 : ¬ 4 < (k : Int) := by omega
  have hnlt : ¬ (n : Int) < 2 := by omega
  have hnlt2 : ¬ (n : Int) < 2 + (k : Int) := by omega
  have hn63 : (n : Int) ≤ 1000000 := by omega
  have hfin : ¬ (n : Int) - (2 + (k : Int)) < (len : Int) := by omega
  clear hr q0 q1 q2 k0 k1 i0 i1 r0 r1 r2 e0 e1 e2 hn hn2 hxs hval hxk hkk
  go_enter Tryz.func44, Tryz.ntmps44
  go_wp2
  go_quiet (fail)
  go_wp2
  obtain ⟨wq, hwq⟩ : ∃ wq, wq = w.drewN nq := ⟨_, rfl⟩
  rw [← hwq]
  have HRQ : Hid (Rd wq v ((tag : Int) :: ((128 + k : Nat) : Int) :: (xs ++ (c ++ rest)))) := by unfold Hid; rw [hwq]; exact HR.out.drewN _
  have HS0 : Hid (Rd wq s0 xs) := HQ0.out _ HRQ.out
  have HBQ : Hid (Below w.heap.size w wq) := by unfold Hid; rw [hwq]; exact drewN_below _ _
  clear hwq hs0
  go_loop [7, 45] (fun m i => ∃ j : Nat, j ≤ k ∧ i = .int .i64 j ∧ m = .int .i64 (val (xs.take j) : Nat)) (fun _ i => k - (intOf i).toNat)
  case atStart => exact ⟨0, Nat.zero_le _, rfl, rfl⟩
  case round =>
    obtain ⟨j, hj, rfl, rfl⟩ := hrel
    by_cases hjk : j < k
    · obtain ⟨x, hx⟩ : ∃ x, xs[j]? = some x := ⟨_, List.getElem?_eq_getElem (by rw [HK.out]; exact hjk)⟩
      obtain ⟨aj, ij, kj⟩ := rd_idx HS0.out j x hx
      have cj := kj wq HS0.out
      obtain ⟨hx0, hx1⟩ := HX.out x (List.mem_of_getElem? hx)
      obtain ⟨V, hV⟩ : ∃ V, V = val (xs.take j) := ⟨_, rfl⟩
      have hVs : V < 256 := by
        have h1 : (xs.take j).length ≤ 1 := by rw [List.length_take]; omega
        have h2 : ∀ y ∈ xs.take j, 0 ≤ y ∧ y < 256 := fun y hy => HX.out y (List.mem_of_mem_take hy)
        rw [hV]
        match hq : xs.take j, h1 with
        | [], _ => simp [val]
        | [y], _ => have := h2 y (by rw [hq]; simp); simp [val]; omega
      have hor := or8i V x (by omega) ⟨hx0, hx1⟩
      have hnx : Hid (val (xs.take (j + 1)) = 256 * V + x.toNat) := by unfold Hid; rw [List.take_add_one, hx, Option.toList_some, val_snoc, hV]
      have hwx : IntKind.i64.wrap x = x := by rw [IntKind.wrap_i64]; omega
      have hwV : IntKind.i64.wrap ((V : Int) * 256) = (V : Int) * 256 := by rw [IntKind.wrap_i64]; omega
      rw [← hV]
      clear hx hV kj
      go_wp2
      go_round
      case rel => exact ⟨j + 1, hjk, by go_num, by rw [hnx.out]; refine congrArg (Value.int .i64) ?_; omega⟩
      case measure => simp [intOf]; omega
    · obtain rfl : j = k := by omega
      have hvl : val (xs.take j) = len := by rw [List.take_of_length_le (by rw [HK.out]; exact Nat.le_refl _)]; exact HV.out
      rw [hvl]
      clear hvl
      go_wp2
      go_quiet (fail)
      go_wp2
      refine bodyPost_ret (v := .tuple #[.int .i64 tag, s1, s2, .bool true]) (by simp [results, Tryz.results44, go_sem]) rfl ?_
      exact ⟨s1, s2, rfl, HQ1.out _ (HRQ.out.drewN _), HQ2.out _ (HRQ.out.drewN _), HBQ.out.trans ((drewN_below _ _).mono HBQ.out.size)⟩
theorem specOpen (v : Value) (w : World) (tag : Nat) (c rest : List Int) (hr : Rd w v (sealB tag c 0 ++ rest)) (htag : tag < 256) (hc : c.length < 65536) (hsz : rest.length ≤ 100000) :
    Calls Tryz.prog 44 #[v] w (RetOpen w tag c rest) := by
  by_cases h : c.length < 128
  · refine open_short v w tag c.length c rest ?_ rfl h htag hsz
    have e : sealB tag c 0 ++ rest = (tag : Int) :: (c.length : Int) :: (c ++ rest) := by unfold sealB lenB; rw [if_pos ⟨h, rfl⟩]; rfl
    rw [← e]; exact hr
  · have hp : 0 < (be c.length).length := List.length_pos_iff.2 (be_pos_ne _ (by omega))
    refine open_long v w tag (be c.length).length c.length (be c.length) c rest ?_ rfl hp (be_len c.length 2 hc) (be_byte _) (val_be _) rfl hc htag hsz
    have e : sealB tag c 0 ++ rest = (tag : Int) :: ((128 + (be c.length).length : Nat) : Int) :: (be c.length ++ (c ++ rest)) := by
      unfold sealB lenB; rw [if_neg (by omega)]; simp
    rw [← e]; exact hr
end Go.Proofs.YtpfmcdhmboclhaaGreatDoor
namespace Go.Proofs.YtpfmcdhmboclhaaGreatDoor
open Go.RowKit

theorem or8s (a : Int) (x : Int) (ha : -1099511627776 ≤ a ∧ a < 1099511627776) (hx : 0 ≤ x ∧ x < 256) : bits .or .i64 (a * 256) x = a * 256 + x := by
  obtain ⟨y, rfl⟩ := Int.eq_ofNat_of_zero_le hx.1
  obtain ⟨m, hm⟩ : ∃ m : Nat, (a * 256 % 18446744073709551616).toNat = 2 ^ 8 * m := ⟨(a * 256 % 18446744073709551616).toNat / 256, by omega⟩
  have hm2 : (BitVec.ofInt 64 (a * 256)).toNat = 2 ^ 8 * m := by rw [BitVec.toNat_ofInt]; exact hm
  have hy2 : (BitVec.ofInt 64 (y : Int)).toNat = y := by rw [BitVec.toNat_ofInt]; simp only [Nat.reducePow]; omega
  show IntKind.i64.wrap (((BitVec.ofInt 64 (a * 256)) ||| (BitVec.ofInt 64 (y : Int))).toNat : Int) = _
  rw [BitVec.toNat_or, hm2, hy2, ← Nat.two_pow_add_eq_or_of_lt (by omega), IntKind.wrap_i64]
  omega
/-- The number that bytes make, ahead of them a number. -/
def pre (n0 : Int) (xs : List Int) : Int := xs.foldl (fun a x => a * 256 + x) n0
theorem pre_snoc (n0 : Int) (xs : List Int) (x : Int) : pre n0 (xs ++ [x]) = pre n0 xs * 256 + x := by simp [pre]
theorem pre_bound (n0 : Int) (h0 : -1 ≤ n0 ∧ n0 ≤ 0) : ∀ (k : Nat) (xs : List Int), xs.length = k → (∀ x ∈ xs, 0 ≤ x ∧ x < 256) → -((256 ^ k : Nat) : Int) ≤ pre n0 xs ∧ pre n0 xs < ((256 ^ k : Nat) : Int)
  | 0, xs, h, _ => by obtain rfl := List.length_eq_zero_iff.1 h; simp [pre]; omega
  | k + 1, xs, h, hx => by
    have hne : xs ≠ [] := by intro e; subst e; simp at h
    have e := List.dropLast_concat_getLast hne
    have hl : xs.dropLast.length = k := by rw [List.length_dropLast]; omega
    have ih := pre_bound n0 h0 k xs.dropLast hl (fun x hm => hx x (List.dropLast_subset _ hm))
    have hb := hx _ (List.getLast_mem hne)
    rw [← e, pre_snoc, Nat.pow_succ]
    omega
theorem pre_intB (n : Int) : ∃ x r, intB n = x :: r ∧ 0 ≤ x ∧ x < 256 ∧ pre (if 127 < x then -1 else 0) (intB n) = n := by
  by_cases h : -128 ≤ n ∧ n ≤ 127
  · refine ⟨n % 256, [], intB_1 n h, by omega, by omega, ?_⟩
    rw [intB_1 n h]
    simp only [pre, List.foldl]
    split <;> omega
  · obtain ⟨x, r, e, h0, h1, h2⟩ := pre_intB (n / 256)
    refine ⟨x, r ++ [n % 256], by rw [intB_step n h, e]; rfl, h0, h1, ?_⟩
    rw [intB_step n h, pre_snoc, h2]
    omega
termination_by n.natAbs
decreasing_by omega
/-- What next returns. -/
def RetNext (w : World) (c rest : List Int) (e : Ending) (w' : World) : Prop :=
  ∃ v1 v2, e = .returned (.tuple #[v1, v2, .bool true]) ∧ Rd w' v1 c ∧ Rd w' v2 rest ∧ Below w.heap.size w w'
set_option maxHeartbeats 8000000 in
set_option maxRecDepth 100000 in
theorem specNext (v : Value) (w : World) (tag : Nat) (c rest : List Int) (hr : Rd w v (sealB tag c 0 ++ rest)) (htag : tag < 256) (hc : c.length < 65536) (hsz : rest.length ≤ 100000) :
    Calls Tryz.prog 25 #[v, .int .i64 tag] w (RetNext w c rest) := by
  have HO := Lib.hid (specOpen v w tag c rest hr htag hc hsz)
  clear hr
  go_enter Tryz.func25, Tryz.ntmps25
  go_wp2_with (go_at_call 44; refine (HO.out).mono ?_; rintro e W2 ⟨v1, v2, rfl, h1, h2, hb⟩; refine Hid.out ?_)
  refine Lib.hid ?_
  have HR : Hid (RetNext w c rest (.returned (.tuple #[v1, v2, .bool true])) W2) := ⟨v1, v2, rfl, h1, h2, hb⟩
  clear h1 h2 hb HO
  go_wp2
  refine bodyPost_ret (v := .tuple #[v1, v2, .bool true]) (by simp [results, Tryz.results25, go_sem]) rfl ?_
  exact HR.out
/-- What OfInt returns. -/
def RetN (w : World) (n : Int) (e : Ending) (w' : World) : Prop := e = .returned (.tuple #[.int .i64 n, .bool true]) ∧ Below w.heap.size w w'
set_option maxHeartbeats 8000000 in
set_option maxRecDepth 100000 in
theorem specOfInt (v : Value) (w : World) (n : Int) (hn : -2147483648 ≤ n ∧ n ≤ 2147483647) (hr : Rd w v (intB n)) :
    Calls Tryz.prog 45 #[v] w (RetN w n) := by
  obtain ⟨x0, r, e, hx0, hx1, hpre⟩ := pre_intB n
  obtain ⟨-, -, hl1, hl4⟩ := sval_intB n hn
  have HX := Lib.hid (intB_byte n)
  obtain ⟨xs, hxs⟩ : ∃ xs, xs = intB n := ⟨_, rfl⟩
  rw [← hxs] at HX hr hpre hl1 hl4 e
  clear hxs
  obtain ⟨k, hk⟩ : ∃ k, k = xs.length := ⟨_, rfl⟩
  have hL := hr.lenAt k hk
  have HK := Lib.hid hk
  rw [← hk] at hl1 hl4
  obtain ⟨a0, i0, k0⟩ := rd_idx hr 0 x0 (by rw [e]; rfl)
  have c0 := k0 w hr
  have i0' : ∀ W, (Instr.indexAt 30 v (.int .i64 0)).run Tryz.prog W = .ok (.pointer (some a0)) W := i0
  have HR := Lib.hid hr
  have HP := Lib.hid hpre
  have hk0 : ((k : Int) == 0) = false := by simp; omega
  have hk8 : ¬ 8 < (k : Int) := by omega
  clear hr hpre hk i0 k0 e
  by_cases hs : 127 < x0
  · have HP2 : Hid (pre (-1) xs = n) := by have := HP.out; rw [if_pos hs] at this; exact this
    clear HP
    go_enter Tryz.func45, Tryz.ntmps45
    go_wp2
    go_loop [4, 21] (fun m i => ∃ j : Nat, j ≤ k ∧ i = .int .i64 j ∧ m = .int .i64 (pre (-1) (xs.take j))) (fun _ i => k - (intOf i).toNat)
    case atStart => exact ⟨0, Nat.zero_le _, rfl, rfl⟩
    case round =>
      obtain ⟨j, hj, rfl, rfl⟩ := hrel
      by_cases hjk : j < k
      · obtain ⟨x, hx⟩ : ∃ x, xs[j]? = some x := ⟨_, List.getElem?_eq_getElem (by rw [← HK.out]; exact hjk)⟩
        obtain ⟨aj, ij, kj⟩ := rd_idx HR.out j x hx
        have cj := kj w HR.out
        obtain ⟨hx0, hx1⟩ := HX.out x (List.mem_of_getElem? hx)
        obtain ⟨V, hV⟩ : ∃ V, V = pre (-1) (xs.take j) := ⟨_, rfl⟩
        have hVs : -16777216 ≤ V ∧ V < 16777216 := by
          have h := pre_bound (-1) (by omega) (xs.take j).length (xs.take j) rfl (fun y hy => HX.out y (List.mem_of_mem_take hy))
          have h3 : (xs.take j).length ≤ 3 := by rw [List.length_take]; omega
          have h4 : (256 ^ (xs.take j).length : Nat) ≤ 256 ^ 3 := Nat.pow_le_pow_right (by omega) h3
          rw [← hV] at h
          generalize (256 ^ (xs.take j).length : Nat) = z at h h4
          omega
        obtain ⟨hV1, hV2⟩ := hVs
        have hor := or8s V x (by omega) ⟨hx0, hx1⟩
        have hnx : Hid (pre (-1) (xs.take (j + 1)) = V * 256 + x) := by unfold Hid; rw [List.take_add_one, hx, Option.toList_some, pre_snoc, hV]
        have hwx : IntKind.i64.wrap x = x := by rw [IntKind.wrap_i64]; omega
        have hwV : IntKind.i64.wrap (V * 256) = V * 256 := by rw [IntKind.wrap_i64]; omega
        rw [← hV]
        clear hx hV kj
        go_wp2
        go_round
        case rel => exact ⟨j + 1, hjk, by go_num, by rw [hnx.out]⟩
        case measure => simp [intOf]; omega
      · obtain rfl : j = k := by omega
        have hvl : pre (-1) (xs.take j) = n := by rw [List.take_of_length_le (by rw [← HK.out]; exact Nat.le_refl _)]; exact HP2.out
        rw [hvl]
        clear hvl
        go_wp2
        refine bodyPost_ret (v := .tuple #[.int .i64 n, .bool true]) (by simp [results, Tryz.results45, go_sem]) rfl ?_
        exact ⟨rfl, Below.refl _ _⟩
  · have HP2 : Hid (pre 0 xs = n) := by have := HP.out; rw [if_neg hs] at this; exact this
    clear HP
    go_enter Tryz.func45, Tryz.ntmps45
    go_wp2
    go_loop [4, 21] (fun m i => ∃ j : Nat, j ≤ k ∧ i = .int .i64 j ∧ m = .int .i64 (pre (0) (xs.take j))) (fun _ i => k - (intOf i).toNat)
    case atStart => exact ⟨0, Nat.zero_le _, rfl, rfl⟩
    case round =>
      obtain ⟨j, hj, rfl, rfl⟩ := hrel
      by_cases hjk : j < k
      · obtain ⟨x, hx⟩ : ∃ x, xs[j]? = some x := ⟨_, List.getElem?_eq_getElem (by rw [← HK.out]; exact hjk)⟩
        obtain ⟨aj, ij, kj⟩ := rd_idx HR.out j x hx
        have cj := kj w HR.out
        obtain ⟨hx0, hx1⟩ := HX.out x (List.mem_of_getElem? hx)
        obtain ⟨V, hV⟩ : ∃ V, V = pre (0) (xs.take j) := ⟨_, rfl⟩
        have hVs : -16777216 ≤ V ∧ V < 16777216 := by
          have h := pre_bound (0) (by omega) (xs.take j).length (xs.take j) rfl (fun y hy => HX.out y (List.mem_of_mem_take hy))
          have h3 : (xs.take j).length ≤ 3 := by rw [List.length_take]; omega
          have h4 : (256 ^ (xs.take j).length : Nat) ≤ 256 ^ 3 := Nat.pow_le_pow_right (by omega) h3
          rw [← hV] at h
          generalize (256 ^ (xs.take j).length : Nat) = z at h h4
          omega
        obtain ⟨hV1, hV2⟩ := hVs
        have hor := or8s V x (by omega) ⟨hx0, hx1⟩
        have hnx : Hid (pre (0) (xs.take (j + 1)) = V * 256 + x) := by unfold Hid; rw [List.take_add_one, hx, Option.toList_some, pre_snoc, hV]
        have hwx : IntKind.i64.wrap x = x := by rw [IntKind.wrap_i64]; omega
        have hwV : IntKind.i64.wrap (V * 256) = V * 256 := by rw [IntKind.wrap_i64]; omega
        rw [← hV]
        clear hx hV kj
        go_wp2
        go_round
        case rel => exact ⟨j + 1, hjk, by go_num, by rw [hnx.out]⟩
        case measure => simp [intOf]; omega
      · obtain rfl : j = k := by omega
        have hvl : pre (0) (xs.take j) = n := by rw [List.take_of_length_le (by rw [← HK.out]; exact Nat.le_refl _)]; exact HP2.out
        rw [hvl]
        clear hvl
        go_wp2
        refine bodyPost_ret (v := .tuple #[.int .i64 n, .bool true]) (by simp [results, Tryz.results45, go_sem]) rfl ?_
        exact ⟨rfl, Below.refl _ _⟩
set_option maxHeartbeats 8000000 in
set_option maxRecDepth 100000 in
theorem specWhole (v : Value) (w : World) (n : Int) (hn : -2147483648 ≤ n ∧ n ≤ 2147483647) (rest : List Int) (hr : Rd w v (sealB 2 (intB n) 0 ++ rest)) (hsz : rest.length ≤ 100000) :
    Calls Tryz.prog 26 #[v] w (fun e w' => ∃ v2, e = .returned (.tuple #[.int .i64 n, v2, .bool true]) ∧ Rd w' v2 rest ∧ Below w.heap.size w w') := by
  have HO := Lib.hid (specNext v w 2 (intB n) rest hr (by omega) (by have := (sval_intB n hn).2.2.2; omega) hsz)
  have HI : Hid (∀ W v, Rd W v (intB n) → Calls Tryz.prog 45 #[v] W (RetN W n)) := fun W v h => specOfInt v W n hn h
  clear hr
  go_enter Tryz.func26, Tryz.ntmps26
  go_wp2_with (go_at_call 25; refine (HO.out).mono ?_; rintro e W2 ⟨v1, v2, rfl, h1, h2, hb⟩; refine Hid.out ?_)
  refine Lib.hid ?_
  have HB := Lib.hid hb
  have H2 := Lib.hid h2
  have HI1 := Lib.hid (HI.out W2 v1 h1)
  clear h1 h2 hb HO HI
  go_wp2_with (go_at_call 45; refine (HI1.out).mono ?_; rintro e W3 ⟨rfl, hb3⟩; refine Hid.out ?_)
  refine Lib.hid ?_
  have HR : Hid (∃ v2', (Ending.returned (.tuple #[.int .i64 n, v2, .bool true])) = .returned (.tuple #[.int .i64 n, v2', .bool true]) ∧ Rd W3 v2' rest ∧ Below w.heap.size w W3) := ⟨v2, rfl, H2.out.keptBelow hb3, HB.out.trans (hb3.mono HB.out.size)⟩
  clear hb3 HI1
  go_wp2
  refine bodyPost_ret (v := .tuple #[.int .i64 n, v2, .bool true]) (by simp [results, Tryz.results26, go_sem]) rfl ?_
  exact HR.out
end Go.Proofs.YtpfmcdhmboclhaaGreatDoor
namespace Go.Proofs.YtpfmcdhmboclhaaGreatDoor
open Go.RowKit

/-- What OfUint returns. -/
def RetU (w : World) (n : Nat) (e : Ending) (w' : World) : Prop := e = .returned (.tuple #[.int .u64 n, .bool true]) ∧ Below w.heap.size w w'
set_option maxHeartbeats 8000000 in
set_option maxRecDepth 100000 in
theorem specOfUint (v : Value) (w : World) (n : Nat) (hn : n < 18446744073709551616) (hr : Rd w v (uintB n)) :
    Calls Tryz.prog 28 #[v] w (RetU w n) := by
  have hl1 := uintB_pos n
  have hl8 := uintB_len8 n hn
  have HX := Lib.hid (uintB_byte n)
  have hval := val_uintB n
  obtain ⟨xs, hxs⟩ : ∃ xs, xs = uintB n := ⟨_, rfl⟩
  rw [← hxs] at HX hr hval hl1 hl8
  clear hxs
  obtain ⟨k, hk⟩ : ∃ k, k = xs.length := ⟨_, rfl⟩
  have hL := hr.lenAt k hk
  rw [← hk] at hl1 hl8
  rcases hl8 with h8 | ⟨h9, h0⟩
  · have HK := Lib.hid hk
    have HR := Lib.hid hr
    have HP2 := Lib.hid hval
    have hk9 : ((k : Int) == 9) = false := by simp; omega
    have hk0 : ((k : Int) == 0) = false := by simp; omega
    have hk8 : ¬ 8 < (k : Int) := by omega
    clear hr hk hval
    go_enter Tryz.func28, Tryz.ntmps28
    go_wp2
    go_loop [4, 28] (fun m i => ∃ j : Nat, j ≤ k ∧ i = .int .i64 j ∧ m = .int .u64 (val (xs.take j))) (fun _ i => k - (intOf i).toNat)
    case atStart => exact ⟨0, Nat.zero_le _, rfl, rfl⟩
    case round =>
      obtain ⟨j, hj, rfl, rfl⟩ := hrel
      by_cases hjk : j < k
      · obtain ⟨x, hx⟩ : ∃ x, xs[j]? = some x := ⟨_, List.getElem?_eq_getElem (by rw [← HK.out]; exact hjk)⟩
        obtain ⟨aj, ij, kj⟩ := rd_idx HR.out j x hx
        have cj := kj w HR.out
        obtain ⟨hx0, hx1⟩ := HX.out x (List.mem_of_getElem? hx)
        obtain ⟨V, hV⟩ : ∃ V, V = val (xs.take j) := ⟨_, rfl⟩
        have hnx' := val_take_step xs j x hx
        rw [← hV] at hnx'
        have hle : 256 * V + x.toNat < 18446744073709551616 := by
          have h := val_take_le xs (j + 1)
          rw [HP2.out] at h
          omega
        have hor := or8u V x hle ⟨hx0, hx1⟩
        have hnx := Lib.hid hnx'
        have hwx : IntKind.u64.wrap x = x := by rw [IntKind.wrap_u64]; omega
        have hwV : IntKind.u64.wrap ((V : Int) * 256) = (V : Int) * 256 := by rw [IntKind.wrap_u64]; omega
        rw [← hV]
        clear hx hV kj hnx'
        go_wp2
        go_round
        case rel => exact ⟨j + 1, hjk, by go_num, by rw [hnx.out]; refine congrArg (Value.int .u64) ?_; omega⟩
        case measure => simp [intOf]; omega
      · obtain rfl : j = k := by omega
        have hvl : val (xs.take j) = n := by rw [List.take_of_length_le (by rw [← HK.out]; exact Nat.le_refl _)]; exact HP2.out
        rw [hvl]
        clear hvl
        go_wp2
        refine bodyPost_ret (v := .tuple #[.int .u64 n, .bool true]) (by simp [results, Tryz.results28, go_sem]) rfl ?_
        exact ⟨rfl, Below.refl _ _⟩
  · obtain ⟨a0, i0, k0⟩ := rd_idx hr 0 0 h0
    have c0 := k0 w hr
    have i0' : ∀ W, (Instr.indexAt 30 v (.int .i64 0)).run Tryz.prog W = .ok (.pointer (some a0)) W := i0
    obtain ⟨s1, -, r1, q1⟩ := rd_sub hr 1 9 (by omega) (by omega)
    have r1 := r1 (by omega)
    have r1' : ∀ W, (Instr.slice 30 v (some (.int .i64 1)) none none).run Tryz.prog W = .ok s1 W := r1
    obtain ⟨y, ys, rfl⟩ : ∃ y ys, xs = y :: ys := by cases xs with | nil => simp at hk; omega | cons y ys => exact ⟨_, _, rfl⟩
    have hy : y = 0 := by simpa using h0
    subst hy
    have hl : ys.length = 8 := by simp at hk; omega
    have e1 : ((((0 : Int) :: ys).drop 1).take (9 - 1)) = ys := by
      show ys.take 8 = ys
      exact List.take_of_length_le (by omega)
    rw [e1] at q1
    have hr1 := q1 w hr
    have hval1 : val ys = n := by rw [← hval]; simp [val]
    have HX1 : Hid (∀ c ∈ ys, 0 ≤ c ∧ c < 256) := fun c hc => HX.out c (List.mem_cons_of_mem _ hc)
    clear HX
    rename Hid (∀ c ∈ ys, 0 ≤ c ∧ c < 256) => HX
    subst h9
    clear h0 k0 i0 r1 q1 e1 hk hr hval hl1
    obtain ⟨xs, hxs⟩ : ∃ xs, xs = ys := ⟨_, rfl⟩
    rw [← hxs] at hr1 hval1 HX hl
    clear hxs
    have HP2 := Lib.hid hval1
    have HR := Lib.hid hr1
    obtain ⟨k, hk⟩ : ∃ k, k = xs.length := ⟨_, rfl⟩
    have hL1 := hr1.lenAt k hk
    have hk8' : k = 8 := by omega
    have HK := Lib.hid hk
    have hk0 : ((k : Int) == 0) = false := by simp; omega
    have hk8 : ¬ 8 < (k : Int) := by omega
    clear hk hval1 hr1 hl
    go_enter Tryz.func28, Tryz.ntmps28
    go_wp2
    go_loop [4, 28] (fun m i => ∃ j : Nat, j ≤ k ∧ i = .int .i64 j ∧ m = .int .u64 (val (xs.take j))) (fun _ i => k - (intOf i).toNat)
    case atStart => exact ⟨0, Nat.zero_le _, rfl, rfl⟩
    case round =>
      obtain ⟨j, hj, rfl, rfl⟩ := hrel
      by_cases hjk : j < k
      · obtain ⟨x, hx⟩ : ∃ x, xs[j]? = some x := ⟨_, List.getElem?_eq_getElem (by rw [← HK.out]; exact hjk)⟩
        obtain ⟨aj, ij, kj⟩ := rd_idx HR.out j x hx
        have cj := kj w HR.out
        obtain ⟨hx0, hx1⟩ := HX.out x (List.mem_of_getElem? hx)
        obtain ⟨V, hV⟩ : ∃ V, V = val (xs.take j) := ⟨_, rfl⟩
        have hnx' := val_take_step xs j x hx
        rw [← hV] at hnx'
        have hle : 256 * V + x.toNat < 18446744073709551616 := by
          have h := val_take_le xs (j + 1)
          rw [HP2.out] at h
          omega
        have hor := or8u V x hle ⟨hx0, hx1⟩
        have hnx := Lib.hid hnx'
        have hwx : IntKind.u64.wrap x = x := by rw [IntKind.wrap_u64]; omega
        have hwV : IntKind.u64.wrap ((V : Int) * 256) = (V : Int) * 256 := by rw [IntKind.wrap_u64]; omega
        rw [← hV]
        clear hx hV kj hnx'
        go_wp2
        go_round
        case rel => exact ⟨j + 1, hjk, by go_num, by rw [hnx.out]; refine congrArg (Value.int .u64) ?_; omega⟩
        case measure => simp [intOf]; omega
      · obtain rfl : j = k := by omega
        have hvl : val (xs.take j) = n := by rw [List.take_of_length_le (by rw [← HK.out]; exact Nat.le_refl _)]; exact HP2.out
        rw [hvl]
        clear hvl
        go_wp2
        refine bodyPost_ret (v := .tuple #[.int .u64 n, .bool true]) (by simp [results, Tryz.results28, go_sem]) rfl ?_
        exact ⟨rfl, Below.refl _ _⟩
end Go.Proofs.YtpfmcdhmboclhaaGreatDoor
namespace Go.Proofs.YtpfmcdhmboclhaaGreatDoor
open Go.RowKit

theorem hi128_head (n : Nat) (h : 0 < n) : ∃ x t, hi128 n = x :: t ∧ 128 < x := by
  induction n using Nat.strongRecOn with
  | ind n ih =>
    rw [hi128_step n h]
    by_cases h1 : n / 128 = 0
    · rw [h1, hi128_zero]; exact ⟨_, _, rfl, by omega⟩
    · obtain ⟨x, t, e, hx⟩ := ih (n / 128) (by omega) (by omega)
      rw [e]; exact ⟨x, _, rfl, hx⟩
theorem b128_head (n : Nat) (x : Int) (q : List Int) (h : b128 n = x :: q) : x ≠ 128 := by
  unfold b128 at h
  by_cases h1 : n / 128 = 0
  · rw [h1, hi128_zero] at h
    injection h with h _
    omega
  · obtain ⟨y, t, e, hy⟩ := hi128_head (n / 128) (by omega)
    rw [e] at h
    injection h with h _
    omega
/-- Where the reader of a name stands. -/
def NmPos (r done : List Nat) (p tail : List Int) : Prop :=
  (p = [] ∧ ∃ rest, r = done ++ rest ∧ tail = rest.flatMap b128) ∨ (p ≠ [] ∧ ∃ x rest q, q ≠ [] ∧ r = done ++ x :: rest ∧ b128 x = p ++ q ∧ tail = q ++ rest.flatMap b128)
theorem nmPos_end {r done : List Nat} {p : List Int} (h : NmPos r done p []) : p = [] ∧ r = done := by
  rcases h with ⟨hp, rest, hr, ht⟩ | ⟨hp, x, rest, q, hq, -, -, ht⟩
  · refine ⟨hp, ?_⟩
    cases rest with
    | nil => simpa using hr
    | cons y rest =>
      simp only [List.flatMap_cons] at ht
      exact absurd (List.append_eq_nil_iff.1 ht.symm).1 (b128_ne y)
  · exact absurd (List.append_eq_nil_iff.1 ht.symm).1 hq
theorem nmPos_step {r done : List Nat} {p T : List Int} {x : Int} (h : NmPos r done p (x :: T)) : ∃ cur rest q, b128 cur = p ++ x :: q ∧ T = q ++ rest.flatMap b128 ∧ r = done ++ cur :: rest := by
  rcases h with ⟨rfl, rest, hr, ht⟩ | ⟨hp, c, rest, q, hq, hr, hb, ht⟩
  · cases rest with
    | nil => simp at ht
    | cons y rest =>
      simp only [List.flatMap_cons] at ht
      obtain ⟨z, q, e⟩ := List.exists_cons_of_ne_nil (b128_ne y)
      rw [e] at ht
      injection ht with h1 h2
      subst h1
      exact ⟨y, rest, q, e, h2, hr⟩
  · obtain ⟨z, q', rfl⟩ := List.exists_cons_of_ne_nil hq
    injection ht with h1 h2
    subst h1
    exact ⟨c, rest, q', hb, h2, hr⟩
/-- What OfName returns. -/
def RetName (w : World) (arcs : List Nat) (e : Ending) (w' : World) : Prop :=
  ∃ v, e = .returned (.tuple #[v, .bool true]) ∧ OwnC 38 1 w' w.heap.size v arcs.length (by64 arcs) ∧ Below w.heap.size w w'
theorem own2 (w : World) (a b : Nat) : OwnC 38 1 (w.alloc (.cells #[.int .u64 a, .int .u64 b] 38)) w.heap.size (.slice (some ⟨w.heap.size, 0, none⟩) 2 2) 2 (by64 [a, b]) := ⟨rfl, .inr ⟨w.heap.size, 2, #[.int .u64 a, .int .u64 b], rfl, Nat.le_refl _, heap_alloc_new w _, Nat.le_refl _, by simp [maxLen], rfl, rfl⟩⟩
/-- The reader's state. -/
def NmAt (a b : Nat) (r : List Nat) (ys : List Int) (w : World) (out n op i : Value) (wr : World) : Prop :=
  ∃ (j : Nat) (done : List Nat) (p : List Int), i = .int .i64 j ∧ n = .int .u64 (val128 p) ∧ op = .bool (!p.isEmpty) ∧ OwnC 38 1 wr w.heap.size out (a :: b :: done).length (by64 (a :: b :: done)) ∧ Below w.heap.size w wr ∧ j ≤ ys.length ∧ NmPos r done p (ys.drop j)
end Go.Proofs.YtpfmcdhmboclhaaGreatDoor
