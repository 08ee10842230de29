/- gosnmp: the content of a number without a sign, of 64 bits. gosnmp: a variable's bytes: the state between the steps. gosnmp: a variable's bytes. gosnmp: a variable's bytes: the types with a content. -/
import Derived.Lib.ConvBytes
import Derived.Test.YtpfmcdhmboclhaaGreatDoorG05
set_option linter.unusedVariables false
set_option linter.unusedSimpArgs false
namespace Go.Proofs.YtpfmcdhmboclhaaGreatDoor
open Go.RowKit

/-- A number's figures to the base 256, k of them. -/
def beK : Nat → Nat → List Int
  | 0, _ => []
  | k + 1, n => beK k (n / 256) ++ [((n % 256 : Nat) : Int)]
theorem beK_length : ∀ k n, (beK k n).length = k
  | 0, _ => rfl
  | k + 1, n => by rw [beK, List.length_append, beK_length k]; rfl
theorem beK_zero : ∀ k, beK k 0 = List.replicate k 0
  | 0 => rfl
  | k + 1 => by rw [beK, Nat.zero_div, beK_zero k, List.replicate_succ']; rfl
theorem be_lead (n : Nat) : ∀ x, (be n).head? = some x → x ≠ 0 := by
  induction n using Nat.strongRecOn with
  | ind n ih =>
    intro x hx
    rcases Nat.eq_zero_or_pos n with h | h
    · subst h; rw [be_zero] at hx; cases hx
    · rw [be_step n h] at hx
      rcases Nat.eq_zero_or_pos (n / 256) with h1 | h1
      · rw [h1, be_zero] at hx
        simp at hx
        omega
      · have hne : be (n / 256) ≠ [] := by rw [be_step _ h1]; simp
        obtain ⟨y, ys, e⟩ := List.exists_cons_of_ne_nil hne
        exact ih (n / 256) (by omega) x (by rw [e] at hx ⊢; simpa using hx)
/-- The figures are noughts and then the number's own. -/
theorem beK_split : ∀ k n, n < 256 ^ k → beK k n = List.replicate (k - (be n).length) 0 ++ be n ∧ (be n).length ≤ k
  | 0, n, h => by
    obtain rfl : n = 0 := by omega
    rw [be_zero]; exact ⟨rfl, Nat.le_refl _⟩
  | k + 1, n, h => by
    rcases Nat.eq_zero_or_pos n with h0 | h0
    · subst h0; rw [be_zero, beK_zero]; exact ⟨by simp, Nat.zero_le _⟩
    · have h1 : n / 256 < 256 ^ k := by rw [Nat.pow_succ] at h; omega
      obtain ⟨h2, h3⟩ := beK_split k (n / 256) h1
      rw [beK, be_step n h0, h2, List.length_append]
      refine ⟨?_, by simp; omega⟩
      rw [List.append_assoc]
      congr 2
      simp
theorem be_pos_ne (n : Nat) (h : 0 < n) : be n ≠ [] := by rw [be_step n h]; simp
theorem be_range (n : Nat) : ∀ x ∈ be n, 0 ≤ x ∧ x < 256 := by
  induction n using Nat.strongRecOn with
  | ind n ih =>
    intro x hx
    rcases Nat.eq_zero_or_pos n with h | h
    · subst h; rw [be_zero] at hx; cases hx
    · rw [be_step n h] at hx
      rcases List.mem_append.1 hx with hx | hx
      · exact ih (n / 256) (by omega) x hx
      · simp at hx; omega
theorem beK_8 (n : Nat) : beK 8 n = [(n : Int) / 72057594037927936 % 256, (n : Int) / 281474976710656 % 256, (n : Int) / 1099511627776 % 256, (n : Int) / 4294967296 % 256, (n : Int) / 16777216 % 256, (n : Int) / 65536 % 256, (n : Int) / 256 % 256, (n : Int) % 256] := by
  simp [beK]
  omega
set_option maxHeartbeats 400000 in
theorem trim_some (g k : Nat) (l : List Int) (T : TypeId) (w : World) (hb : w.heap[g]? = some (.cells (by8 l).toArray T (0, 0))) (hl : l.length = 8) (hk : k < 8) (hz : ∀ j (h : j < l.length), j < k → l[j] = 0) (hnz : l[k]'(by omega) ≠ 0) :
    Calls Tryz.prog 122 #[.slice (some ⟨g, 0, none⟩) 8 8] w fun e w' => e = .returned (.slice (some ⟨g, k, none⟩) (8 - k) (8 - k)) ∧ w = w' := by
  have hc : ∀ j, j < k → w.cell? ⟨g, j, none⟩ = some (.int .u8 0) := fun j hj => by
    rw [Lib.cell_of_heap hb, List.getElem?_toArray, by8_get _ _ (by omega), hz j (by omega) hj]
  have hck : w.cell? ⟨g, k, none⟩ = some (.int .u8 (l[k]'(by omega))) := by rw [Lib.cell_of_heap hb, List.getElem?_toArray, by8_get _ _ (by omega)]
  obtain ⟨x, hx⟩ : ∃ x, x = l[k]'(by omega) := ⟨_, rfl⟩
  rw [← hx] at hck hnz
  have hxz : (x == 0) = false := by simpa using hnz
  clear hb hz hx hnz hl
  go_enter Tryz.func122, Tryz.ntmps122
  go_wp2
  go_loop [0] (fun t => ∃ j m : Nat, j + m = 8 ∧ j ≤ k ∧ t = .slice (some ⟨g, j, none⟩) m m) (fun t => match t with | .slice _ m _ => m | _ => 0)
  case atStart => exact ⟨0, 8, rfl, by omega, rfl⟩
  case round =>
    obtain ⟨j, m, hjm, hjk, rfl⟩ := hrel
    by_cases hlt : j < k
    · have hcj := hc j hlt
      have hm1 : 1 < m := by omega
      have HJ := Lib.hid hjm
      clear hc hck hxz hjm
      go_wp2
      go_round
      case rel => exact ⟨j + 1, m - 1, by have := HJ.out; omega, by omega, rfl⟩
      case measure => simp; omega
    · obtain rfl : j = k := by omega
      obtain rfl : m = 8 - j := by omega
      clear hc hjm
      go_wp2
      go_ret
      exact ⟨rfl, rfl⟩
set_option maxHeartbeats 400000 in
theorem trim_none (g : Nat) (T : TypeId) (w : World) (hb : w.heap[g]? = some (.cells (by8 (List.replicate 8 0)).toArray T (0, 0))) :
    Calls Tryz.prog 122 #[.slice (some ⟨g, 0, none⟩) 8 8] w fun e w' => e = .returned (.slice (some ⟨g, 7, none⟩) 0 0) ∧ w = w' := by
  have hc : ∀ j, j < 8 → w.cell? ⟨g, j, none⟩ = some (.int .u8 0) := fun j hj => by
    rw [Lib.cell_of_heap hb, List.getElem?_toArray, by8_get _ _ (by rw [List.length_replicate]; exact hj), List.getElem_replicate]
  clear hb
  go_enter Tryz.func122, Tryz.ntmps122
  go_wp2
  go_loop [0] (fun t => ∃ j m : Nat, ((j + m = 8 ∧ 1 ≤ m) ∨ (j = 7 ∧ m = 0)) ∧ t = .slice (some ⟨g, j, none⟩) m m) (fun t => match t with | .slice _ m _ => m | _ => 0)
  case atStart => exact ⟨0, 8, by omega, rfl⟩
  case round =>
    obtain ⟨j, m, hjm, rfl⟩ := hrel
    rcases hjm with ⟨hjm, hm⟩ | ⟨rfl, rfl⟩
    · have hcj := hc j (by omega)
      by_cases hm1 : m = 1
      · subst hm1
        obtain rfl : j = 7 := by omega
        clear hc hjm
        go_wp2
        go_round
        case rel => exact ⟨7, 0, by omega, rfl⟩
        case measure => simp
      · have hm2 : 1 < m := by omega
        have HJ := Lib.hid hjm
        clear hc hjm
        go_wp2
        go_round
        case rel => exact ⟨j + 1, m - 1, by have := HJ.out; omega, rfl⟩
        case measure => simp; omega
    · go_wp2
      go_ret
      exact ⟨rfl, rfl⟩
theorem ta_38 (v : Value) (w : World) : (Instr.typeAssert (.iface 38 v) 20 38 true).run Tryz.prog w = .ok (.tuple #[v, .bool true]) w := by kernel_rfl
theorem mk8 (w : World) : (Instr.makeSlice 30 (.int .i64 8) (.int .i64 8)).run Tryz.prog w = .ok (.slice (some ⟨w.heap.size, 0, none⟩) 8 8) (w.alloc (.cells #[.int .u8 0, .int .u8 0, .int .u8 0, .int .u8 0, .int .u8 0, .int .u8 0, .int .u8 0, .int .u8 0] 5)) := by kernel_rfl
theorem put64k (g n : Nat) (w : World) (h : n < 256 ^ 8) (hb : w.heap[g]? = some (.cells #[.int .u8 0, .int .u8 0, .int .u8 0, .int .u8 0, .int .u8 0, .int .u8 0, .int .u8 0, .int .u8 0] 5 (0, 0))) :
    Calls Tryz.prog 74 #[.agg #[], .slice (some ⟨g, 0, none⟩) 8 8, .int .u64 n] w fun e w' => e = .returned (.tuple #[]) ∧ Put w g 5 (beK 8 n) w' := by
  rw [beK_8]
  have e : (n : Int) / 72057594037927936 % 256 = (n : Int) / 72057594037927936 := by omega
  rw [e]
  exact put64 g n 5 _ _ _ _ _ _ _ _ w h hb
theorem headD_be (n : Nat) (h : 0 < n) : ∃ x r, be n = x :: r ∧ x ≠ 0 ∧ 0 ≤ x ∧ x < 256 := by
  obtain ⟨x, r, e⟩ := List.exists_cons_of_ne_nil (be_pos_ne n h)
  have hr := be_range n x (by rw [e]; exact List.mem_cons_self)
  exact ⟨x, r, e, be_lead n x (by rw [e]; rfl), hr.1, hr.2⟩
set_option maxHeartbeats 400000 in
theorem u64_zero (w : World) : Calls Tryz.prog 111 #[.iface 38 (.int .u64 0)] w (RetB w [0]) := by
  have hta := ta_38
  have hmk := mk8
  go_enter Tryz.func111, Tryz.ntmps111
  go_wp2_with (go_at_call 74; refine (put64k w.heap.size 0 _ ?_ ?_).mono ?_)
  · decide
  · exact heap_alloc_new w _
  rintro e W1 ⟨rfl, hp, hk⟩
  have hbel : Below w.heap.size w W1 := ((Below.refl _ w).alloc (Nat.le_refl _) _).trans (hk.below (by simp) (by simp))
  have HP := Lib.hid hp
  have HB := Lib.hid hbel
  clear hp hbel hk
  go_wp2_with (go_at_call 122; refine (trim_none w.heap.size 5 _ ?_).mono ?_)
  · rw [← beK_zero 8]; exact HP.out
  rintro e w' ⟨rfl, rfl⟩
  go_wp2
  go_ret2
  have hr := retB_own (w := w) (Own.lit W1 w.heap.size [0] HB.out.size (by simp [maxLen])) (HB.out.alloc HB.out.size _)
  exact hr
theorem u64_split (n : Nat) (h : n < 256 ^ 8) (h0 : 0 < n) : ∃ k, k < 8 ∧ (be n).length = 8 - k ∧ beK 8 n = List.replicate k 0 ++ be n := by
  obtain ⟨h1, h2⟩ := beK_split 8 n h
  have := List.length_pos_iff.2 (be_pos_ne n h0)
  exact ⟨8 - (be n).length, by omega, by omega, h1⟩
set_option maxHeartbeats 1000000 in
theorem u64_some (n : Nat) (w : World) (h : n < 256 ^ 8) (h0 : 0 < n) : Calls Tryz.prog 111 #[.iface 38 (.int .u64 n)] w (RetB w (uintB n)) := by
  obtain ⟨k, hk8, hkl, hks⟩ := u64_split n h h0
  obtain ⟨x, r, hx, hxn, hx0, hx1⟩ := headD_be n h0
  have hlen : (beK 8 n).length = 8 := beK_length 8 n
  have hz : ∀ j (h : j < (beK 8 n).length), j < k → (beK 8 n)[j] = 0 := by
    intro j hj hjk
    simp only [hks]
    rw [List.getElem_append_left (by rw [List.length_replicate]; exact hjk), List.getElem_replicate]
  have hkx : (beK 8 n)[k]? = some x := by
    rw [hks, List.getElem?_append_right (by rw [List.length_replicate]; exact Nat.le_refl _), List.length_replicate, Nat.sub_self, hx]
    rfl
  have hdrop : (beK 8 n).drop k = be n := by rw [hks, List.drop_left' (List.length_replicate ..)]
  have hu : uintB n = if x > 127 then 0 :: be n else be n := by unfold uintB; rw [be1_pos n h0, hx]; rfl
  have hta := ta_38
  have hmk := mk8
  have HH := Lib.hid h
  have HL := Lib.hid hlen
  have HZ := Lib.hid hz
  have HX := Lib.hid hkx
  have HD := Lib.hid hdrop
  have HU := Lib.hid hu
  have HK := Lib.hid hkl
  have HN := Lib.hid hxn
  have HS := Lib.hid hx
  clear hlen hz hkx hdrop hu hks hkl hx hxn h
  by_cases hhi : x > 127
  all_goals
    go_enter Tryz.func111, Tryz.ntmps111
    go_wp2_with (go_at_call 74; refine (put64k w.heap.size n _ HH.out (by exact heap_alloc_new w _)).mono ?_; rintro e W1 ⟨rfl, hp, hk⟩; refine Hid.out ?_)
    refine Lib.hid ?_
    have hbel : Below w.heap.size w W1 := ((Below.refl _ w).alloc (Nat.le_refl _) _).trans (hk.below (by simp) (by simp))
    have hck : W1.cell? ⟨w.heap.size, k, none⟩ = some (.int .u8 x) := by rw [Lib.cell_of_heap hp, List.getElem?_toArray, by8, List.getElem?_map, HX.out]; rfl
    have HP := Lib.hid hp
    have HB := Lib.hid hbel
    clear hp hbel hk
    go_wp2_with (go_at_call 122; refine (trim_some w.heap.size k (beK 8 n) 5 _ (by exact HP.out) HL.out hk8 HZ.out (by rw [(List.getElem?_eq_some_iff.1 HX.out).2]; exact HN.out)).mono ?_; rintro e w' ⟨rfl, rfl⟩; refine Hid.out ?_)
    refine Lib.hid ?_
    have hkpos : 0 < 8 - k := by omega
  · have hbit := high_yes x (by omega) hx1
    go_wp2_with (at_builtin; refine wpList_append8 _ rfl _ _ rfl w.heap.size _ _ [0] ((beK 8 n).drop k) rfl rfl ?_ ?_ ?_ ?_ ?_)
    · exact Own.lit W1 w.heap.size [0] HB.out.size (by simp [maxLen])
    · exact (rd_cut HP.out k _ (by rw [HD.out, HK.out]) (by rw [HL.out]; decide)).keptBelow ((Below.refl _ _).alloc (Nat.le_refl _) _)
    · have := HB.out.size; first | omega | (simp; omega)
    · rw [HD.out, HK.out]; simp; omega
    intro v' w' hO hg _
    have hb2 : Below w.heap.size w w' := (HB.out.alloc HB.out.size _).grown hg (by have := HB.out.size; simp; omega) (by rintro k e; injection e with e; subst e; exact HB.out.size)
    have hR : RetB w (uintB n) (.returned (.tuple #[v', .nilIface])) w' := by
      rw [HU.out, if_pos hhi, ← HD.out]
      exact retB_own hO hb2
    have HR := Lib.hid hR
    clear hO hg hb2 hR
    go_wp2
    go_ret2
    exact HR.out
  · have hbit := high_no x hx0 (by omega)
    go_wp2
    go_ret2
    rw [HU.out, if_neg (by omega), ← HD.out]
    exact retB_cut HP.out HB.out (Nat.le_refl _) k _ (by rw [HD.out, HK.out]) (by rw [HL.out]; decide)
theorem marshalUint64 (n : Nat) (w : World) (h : n < 18446744073709551616) : Calls Tryz.prog 111 #[.iface 38 (.int .u64 n)] w (RetB w (uintB n)) := by
  rcases Nat.eq_zero_or_pos n with h0 | h0
  · subst h0; exact u64_zero w
  · exact u64_some n w h h0
end Go.Proofs.YtpfmcdhmboclhaaGreatDoor
namespace Go.Proofs.YtpfmcdhmboclhaaGreatDoor
open Go.RowKit

theorem bufBytes' {b : Nat} {v : Value} {l : List Int} {w : World} (h : Buf w b v l) : Calls Tryz.prog 58 #[.pointer (some ⟨b, 0, none⟩)] w fun e w' => e = .returned v ∧ ∃ n, w' = w.drewN n := by
  obtain ⟨⟨lr, hb⟩, ho, -, -⟩ := h
  rcases ho.form with ⟨rfl, rfl⟩ | ⟨g, cap, cur, rfl, h2, h3, h4, h5, h6, h7⟩
  · exact bufBytes b 0 0 none w hb.c0 hb.c1 (Nat.le_refl _) (Nat.zero_le _)
  · exact bufBytes b l.length cap _ w hb.c0 hb.c1 h4 h5
theorem fresh_buf (w : World) : Buf (w.alloc (.cells #[.slice none 0 0, .int .i64 0, .int .i8 0] 122)) w.heap.size (.slice none 0 0) [] :=
  ⟨⟨0, heap_alloc_new w _⟩, Own.nil _ _, by simp [Value.ownBlock], .inl rfl⟩
/-- The state: two buffers, p (empty) and t (its slice vt, its bytes lt); the name's content. -/
structure VB (w : World) (p t : Nat) (oid : Value) (nm : List Int) (vt : Value) (lt : List Int) (W : World) : Prop where
  below : Below w.heap.size w W
  pb : Buf W p (.slice none 0 0) []
  tb : Buf W t vt lt
  wp : w.heap.size ≤ p
  pt : p < t
  own : ∀ k, vt.ownBlock = some k → t < k
  ro : Rd W oid nm
  oo : ∀ a n c, oid = .slice (some a) n c → a.block < p
theorem VB.start {w W1 : World} {oid : Value} {nm : List Int} (h : Rd W1 oid nm) (hb : Below w.heap.size w W1) (hlt : ∀ a n c, oid = .slice (some a) n c → a.block < W1.heap.size) :
    VB w W1.heap.size (W1.heap.size + 1) oid nm (.slice none 0 0) [] ((W1.alloc (.cells #[.slice none 0 0, .int .i64 0, .int .i8 0] 122)).alloc (.cells #[.slice none 0 0, .int .i64 0, .int .i8 0] 122)) := by
  have hs := hb.size
  have h1 := fresh_buf W1
  have h2 := fresh_buf (W1.alloc (.cells #[.slice none 0 0, .int .i64 0, .int .i8 0] 122))
  have hsz : (W1.alloc (.cells #[.slice none 0 0, .int .i64 0, .int .i8 0] 122)).heap.size = W1.heap.size + 1 := by simp
  rw [hsz] at h2
  refine ⟨(hb.alloc hs _).alloc (by rw [hsz]; omega) _, h1.keptBelow ((Below.refl _ _).alloc (Nat.le_refl _) _), h2, hs, by omega, by simp [Value.ownBlock], ?_, hlt⟩
  exact (h.keptBelow ((Below.refl _ _).alloc (Nat.le_refl _) _)).keptBelow ((Below.refl _ _).alloc (Nat.le_refl _) _)
end Go.Proofs.YtpfmcdhmboclhaaGreatDoor
namespace Go.Proofs.YtpfmcdhmboclhaaGreatDoor
section
open Go.RowKit
variable {w W W1 W2 : World} {p t : Nat} {oid vt c : Value} {nm lt cs l' : List Int}
theorem VB.sizes (h : VB w p t oid nm vt lt W) : w.heap.size < W.heap.size ∧ t < W.heap.size := by
  have := h.tb.lt; have := h.wp; have := h.pt; omega
/-- New blocks. -/
theorem VB.more (h : VB w p t oid nm vt lt W) (hb : Below W.heap.size W W1) : VB w p t oid nm vt lt W1 :=
  ⟨h.below.trans (hb.mono h.below.size), h.pb.keptBelow hb, h.tb.keptBelow hb, h.wp, h.pt, h.own, h.ro.keptBelow hb, h.oo⟩
/-- t has been written. -/
theorem VB.wrote (h : VB w p t oid nm vt lt W) (hw : Wrote W t vt l' W2) : ∃ vt', VB w p t oid nm vt' l' W2 := by
  obtain ⟨v', h1, h2, h3⟩ := hw
  have hs := h.sizes
  have hin : ∀ k ∈ t :: vt.ownBlock.toList, t ≤ k := by
    intro k hk
    rcases List.mem_cons.1 hk with rfl | hk
    · exact Nat.le_refl _
    · have := h.own k (by simpa using hk); omega
  have hpn : p ∉ t :: vt.ownBlock.toList := fun hm => by have := hin p hm; have := h.pt; omega
  refine ⟨v', ⟨h.below.trans (h3.below h.below.size (fun k hk => by have := hin k hk; have := h.wp; have := h.pt; omega)), ?_, h1, h.wp, h.pt, ?_, ?_, h.oo⟩⟩
  · exact h.pb.keptKp h3 hpn (by simp [Value.ownBlock])
  · intro k hk
    rcases h2 with h2 | ⟨g, h2, h4⟩
    · exact h.own k (h2 ▸ hk)
    · rw [h2] at hk
      injection hk with hk
      have := hs.2
      omega
  · refine h.ro.keptKp h3 (fun a n c' e hm => ?_)
    have := h.oo a n c' e
    have := hin _ hm
    have := h.pt
    omega
theorem VB.apart_oid (h : VB w p t oid nm vt lt W) : apart oid (t :: vt.ownBlock.toList) := by
  intro a n c e hm
  have := h.oo a n c e
  have := h.pt
  rcases List.mem_cons.1 hm with hm | hm
  · omega
  · have := h.own _ (by simpa using hm); omega
theorem VB.apart_new (h : VB w p t oid nm vt lt W) (hn : newer c W.heap.size) : apart c (t :: vt.ownBlock.toList) :=
  hn.apart h.tb.old
/-- p has got what t holds. -/
theorem VB.done {l : List Int} (h : VB w p t oid nm vt lt W) (hw : Wrote W p (.slice none 0 0) l W2) : ∃ vp, Buf W2 p vp l ∧ (∀ k, RetB w l (.returned (.tuple #[vp, .nilIface])) (W2.drewN k)) := by
  obtain ⟨v', h1, h2, h3⟩ := hw
  refine ⟨v', h1, fun k => ⟨v', rfl, (h1.drewN k).2.1.reads, ?_, ?_⟩⟩
  · intro a n c e
    have hs := h.sizes
    rcases h2 with h2 | ⟨g, h2, h4⟩
    · subst e; simp [Value.ownBlock] at h2
    · subst e
      simp [Value.ownBlock] at h2
      omega
  · have := h.below.trans (h3.below h.below.size (fun k hk => by
      rcases List.mem_cons.1 hk with rfl | hk
      · exact h.wp
      · simp [Value.ownBlock] at hk))
    exact ⟨this.os, this.tape, this.output, this.size, this.block⟩
theorem VB.apart_t (h : VB w p t oid nm vt lt W) : apart vt (p :: (Value.slice none 0 0).ownBlock.toList) := by
  intro a n c e hm
  have hp := h.pt
  simp [Value.ownBlock] at hm
  have := h.own a.block (by rw [e]; rfl)
  omega
end
end Go.Proofs.YtpfmcdhmboclhaaGreatDoor
namespace Go.Proofs.YtpfmcdhmboclhaaGreatDoor
open Go.RowKit

/-- A variable of the package in block b. -/
def PduAt (w : World) (b : Nat) (val : Value) (name : ByteArray) (typ : Int) : Prop := w.heap[b]? = some (.cells #[val, .string name, .int .u8 typ] 56 (0, 0))
theorem PduAt.more {w w' : World} {b : Nat} {val : Value} {name : ByteArray} {typ : Int} (h : PduAt w b val name typ) (hb : Below w.heap.size w w') : PduAt w' b val name typ := (hb.block b (Lib.lt_of_heap h)).trans h
theorem PduAt.c0 {w : World} {b : Nat} {val : Value} {name : ByteArray} {typ : Int} (h : PduAt w b val name typ) : w.cell? ⟨b, 0, none⟩ = some val := by rw [Lib.cell_of_heap h]; rfl
theorem PduAt.c1 {w : World} {b : Nat} {val : Value} {name : ByteArray} {typ : Int} (h : PduAt w b val name typ) : w.cell? ⟨b, 1, none⟩ = some (.string name) := by rw [Lib.cell_of_heap h]; rfl
theorem PduAt.c2 {w : World} {b : Nat} {val : Value} {name : ByteArray} {typ : Int} (h : PduAt w b val name typ) : w.cell? ⟨b, 2, none⟩ = some (.int .u8 typ) := by rw [Lib.cell_of_heap h]; rfl
theorem PduAt.in {w W : World} {b p t : Nat} {val oid vt : Value} {nm lt : List Int} {name : ByteArray} {typ : Int} (h : PduAt w b val name typ) (hv : VB w p t oid nm vt lt W) : PduAt W b val name typ := h.more hv.below
/-- What a name in dotted figures is worth. -/
structure Nm (s : ByteArray) (arcs : List Nat) : Prop where
  good : GoodArcs arcs
  text : bytesOf s = text arcs ∨ bytesOf s = (YtpfmcdhmboclhaaGreatDoor.text arcs).tail
  size : s.size ≤ 2147483647
theorem seal_lt {t : Int} {l : List Int} {k : Nat} (h : l.length ≤ k) (hk : k ≤ 20000) : (sealB t l 0).length ≤ k + 4 := by
  have := lenB_length l.length 0 (by omega)
  unfold sealB
  simp only [List.length_cons, List.length_append]
  omega
theorem Rd.lt {w : World} {v : Value} {l : List Int} (h : Rd w v l) (hl : l ≠ []) : ∀ a n c, v = .slice (some a) n c → a.block < w.heap.size := by
  obtain ⟨A, c, rfl, h1, h2, h3⟩ := h
  intro a n c' e
  obtain ⟨b, o, rfl, hc⟩ := h3 (List.length_pos_iff.2 hl)
  injection e with e _ _
  obtain rfl := Option.some.inj e
  exact lt_of_cell (hc 0 (List.length_pos_iff.2 hl))
theorem GoodArcs.ne {arcs : List Nat} (h : GoodArcs arcs) : nameB arcs ≠ [] := by
  have h2 := h.two
  match arcs, h2 with
  | a :: b :: r, _ => simp [nameB]
theorem two_alloc {w : World} {b : Nat} {val : Value} {name : ByteArray} {typ : Int} (h : PduAt w b val name typ) (o o' : Obj) : PduAt ((w.alloc o).alloc o') b val name typ :=
  h.more (((Below.refl _ _).alloc (Nat.le_refl _) o).alloc (by simp) o')
set_option maxHeartbeats 4000000 in
set_option maxRecDepth 100000 in
theorem vb_5 (w : World) (b : Nat) (name : ByteArray) (arcs : List Nat) (val : Value) (h : PduAt w b val name 5) (hn : Nm name arcs)  :
    Calls Tryz.prog 95 #[.pointer (some ⟨b, 0, none⟩)] w (RetB w (sealB 48 (sealB 6 (nameB arcs) 0 ++ [5, 0]) 0)) := by
  have c1 := h.c1
  have hL6 : (sealB 6 (nameB arcs) 0).length ≤ 104 := seal_lt hn.good.bytes (by omega)
  go_enter Tryz.func95, Tryz.ntmps95
  go_wp2_with (go_at_call 91; refine (marshalOID name arcs _ hn.good hn.text hn.size).mono ?_; rintro e W1 ⟨v1, rfl, hr1, hn1, hb1⟩; refine Hid.out ?_)
  refine Lib.hid ?_
  have c2 : ∀ o o', ((W1.alloc o).alloc o').cell? ⟨b, 2, none⟩ = some (.int .u8 5) := fun o o' => (two_alloc (h.more hb1) o o').c2
  have hV := VB.start hr1 hb1 (hr1.lt hn.good.ne)
  clear hb1 hr1 hn1 c1
  go_wp2_with (go_at_call 92; refine (marshalTLV _ _ _ v1 6 [] (nameB arcs) hV.tb hV.ro hV.apart_oid (by have := hn.good.bytes; omega) (by simp)).mono ?_; rintro e W3 ⟨rfl, hw3⟩; refine Hid.out ?_)
  refine Lib.hid ?_
  obtain ⟨v3, hV3⟩ := hV.wrote hw3
  rw [List.nil_append] at hV3
  have c0 := (h.in hV3).c0
  have c2 := (h.in hV3).c2
  clear hV hw3
  go_wp2_with (go_at_call 54; refine (writeByte _ _ v3 (sealB 6 (nameB arcs) 0) 5 hV3.tb (by omega)).mono ?_; rintro e W4 ⟨rfl, hw4⟩; refine Hid.out ?_)
  refine Lib.hid ?_
  obtain ⟨v4, hV4⟩ := hV3.wrote hw4
  clear c0 c2 hV3 hw4
  go_wp2_with (go_at_call 54; refine (writeByte _ _ v4 (sealB 6 (nameB arcs) 0 ++ [5]) 0 hV4.tb (by simp; omega)).mono ?_; rintro e W5 ⟨rfl, hw5⟩; refine Hid.out ?_)
  refine Lib.hid ?_
  obtain ⟨v5, hV5⟩ := hV4.wrote hw5
  rw [List.append_assoc] at hV5
  clear hV4 hw5
  have hL5 : (sealB 6 (nameB arcs) 0 ++ ([5] ++ [0])).length ≤ 10000 := by simp; omega
  go_wp2_with (go_at_call 58; refine (bufBytes' hV5.tb).mono ?_; rintro e W6 ⟨rfl, k6, rfl⟩; refine Hid.out ?_)
  refine Lib.hid ?_
  have hV6 := hV5.more (W1 := W5.drewN k6) ⟨rfl, rfl, rfl, Nat.le_refl _, fun _ _ => rfl⟩
  clear hV5
  go_wp2_with (go_at_call 92; refine (marshalTLV _ _ _ _ 48 [] _ hV6.pb hV6.tb.2.1.reads hV6.apart_t (by omega) (by simp)).mono ?_; rintro e W7 ⟨rfl, hw7⟩; refine Hid.out ?_)
  refine Lib.hid ?_
  obtain ⟨vp, hp, hR⟩ := hV6.done hw7
  rw [List.nil_append] at hp hR
  have HR := Lib.hid hR
  clear hV6 hw7 hR
  go_wp2_with (go_at_call 58; refine (bufBytes' hp).mono ?_; rintro e W8 ⟨rfl, k8, rfl⟩; refine Hid.out ?_)
  refine Lib.hid ?_
  clear hp
  go_wp2
  go_ret2
  exact HR.out k8
set_option maxHeartbeats 4000000 in
set_option maxRecDepth 100000 in
theorem vb_128 (w : World) (b : Nat) (name : ByteArray) (arcs : List Nat) (val : Value) (h : PduAt w b val name 128) (hn : Nm name arcs)  :
    Calls Tryz.prog 95 #[.pointer (some ⟨b, 0, none⟩)] w (RetB w (sealB 48 (sealB 6 (nameB arcs) 0 ++ [128, 0]) 0)) := by
  have c1 := h.c1
  have hL6 : (sealB 6 (nameB arcs) 0).length ≤ 104 := seal_lt hn.good.bytes (by omega)
  go_enter Tryz.func95, Tryz.ntmps95
  go_wp2_with (go_at_call 91; refine (marshalOID name arcs _ hn.good hn.text hn.size).mono ?_; rintro e W1 ⟨v1, rfl, hr1, hn1, hb1⟩; refine Hid.out ?_)
  refine Lib.hid ?_
  have c2 : ∀ o o', ((W1.alloc o).alloc o').cell? ⟨b, 2, none⟩ = some (.int .u8 128) := fun o o' => (two_alloc (h.more hb1) o o').c2
  have hV := VB.start hr1 hb1 (hr1.lt hn.good.ne)
  clear hb1 hr1 hn1 c1
  go_wp2_with (go_at_call 92; refine (marshalTLV _ _ _ v1 6 [] (nameB arcs) hV.tb hV.ro hV.apart_oid (by have := hn.good.bytes; omega) (by simp)).mono ?_; rintro e W3 ⟨rfl, hw3⟩; refine Hid.out ?_)
  refine Lib.hid ?_
  obtain ⟨v3, hV3⟩ := hV.wrote hw3
  rw [List.nil_append] at hV3
  have c0 := (h.in hV3).c0
  have c2 := (h.in hV3).c2
  clear hV hw3
  go_wp2_with (go_at_call 54; refine (writeByte _ _ v3 (sealB 6 (nameB arcs) 0) 128 hV3.tb (by omega)).mono ?_; rintro e W4 ⟨rfl, hw4⟩; refine Hid.out ?_)
  refine Lib.hid ?_
  obtain ⟨v4, hV4⟩ := hV3.wrote hw4
  clear c0 c2 hV3 hw4
  go_wp2_with (go_at_call 54; refine (writeByte _ _ v4 (sealB 6 (nameB arcs) 0 ++ [128]) 0 hV4.tb (by simp; omega)).mono ?_; rintro e W5 ⟨rfl, hw5⟩; refine Hid.out ?_)
  refine Lib.hid ?_
  obtain ⟨v5, hV5⟩ := hV4.wrote hw5
  rw [List.append_assoc] at hV5
  clear hV4 hw5
  have hL5 : (sealB 6 (nameB arcs) 0 ++ ([128] ++ [0])).length ≤ 10000 := by simp; omega
  go_wp2_with (go_at_call 58; refine (bufBytes' hV5.tb).mono ?_; rintro e W6 ⟨rfl, k6, rfl⟩; refine Hid.out ?_)
  refine Lib.hid ?_
  have hV6 := hV5.more (W1 := W5.drewN k6) ⟨rfl, rfl, rfl, Nat.le_refl _, fun _ _ => rfl⟩
  clear hV5
  go_wp2_with (go_at_call 92; refine (marshalTLV _ _ _ _ 48 [] _ hV6.pb hV6.tb.2.1.reads hV6.apart_t (by omega) (by simp)).mono ?_; rintro e W7 ⟨rfl, hw7⟩; refine Hid.out ?_)
  refine Lib.hid ?_
  obtain ⟨vp, hp, hR⟩ := hV6.done hw7
  rw [List.nil_append] at hp hR
  have HR := Lib.hid hR
  clear hV6 hw7 hR
  go_wp2_with (go_at_call 58; refine (bufBytes' hp).mono ?_; rintro e W8 ⟨rfl, k8, rfl⟩; refine Hid.out ?_)
  refine Lib.hid ?_
  clear hp
  go_wp2
  go_ret2
  exact HR.out k8
set_option maxHeartbeats 4000000 in
set_option maxRecDepth 100000 in
theorem vb_129 (w : World) (b : Nat) (name : ByteArray) (arcs : List Nat) (val : Value) (h : PduAt w b val name 129) (hn : Nm name arcs)  :
    Calls Tryz.prog 95 #[.pointer (some ⟨b, 0, none⟩)] w (RetB w (sealB 48 (sealB 6 (nameB arcs) 0 ++ [129, 0]) 0)) := by
  have c1 := h.c1
  have hL6 : (sealB 6 (nameB arcs) 0).length ≤ 104 := seal_lt hn.good.bytes (by omega)
  go_enter Tryz.func95, Tryz.ntmps95
  go_wp2_with (go_at_call 91; refine (marshalOID name arcs _ hn.good hn.text hn.size).mono ?_; rintro e W1 ⟨v1, rfl, hr1, hn1, hb1⟩; refine Hid.out ?_)
  refine Lib.hid ?_
  have c2 : ∀ o o', ((W1.alloc o).alloc o').cell? ⟨b, 2, none⟩ = some (.int .u8 129) := fun o o' => (two_alloc (h.more hb1) o o').c2
  have hV := VB.start hr1 hb1 (hr1.lt hn.good.ne)
  clear hb1 hr1 hn1 c1
  go_wp2_with (go_at_call 92; refine (marshalTLV _ _ _ v1 6 [] (nameB arcs) hV.tb hV.ro hV.apart_oid (by have := hn.good.bytes; omega) (by simp)).mono ?_; rintro e W3 ⟨rfl, hw3⟩; refine Hid.out ?_)
  refine Lib.hid ?_
  obtain ⟨v3, hV3⟩ := hV.wrote hw3
  rw [List.nil_append] at hV3
  have c0 := (h.in hV3).c0
  have c2 := (h.in hV3).c2
  clear hV hw3
  go_wp2_with (go_at_call 54; refine (writeByte _ _ v3 (sealB 6 (nameB arcs) 0) 129 hV3.tb (by omega)).mono ?_; rintro e W4 ⟨rfl, hw4⟩; refine Hid.out ?_)
  refine Lib.hid ?_
  obtain ⟨v4, hV4⟩ := hV3.wrote hw4
  clear c0 c2 hV3 hw4
  go_wp2_with (go_at_call 54; refine (writeByte _ _ v4 (sealB 6 (nameB arcs) 0 ++ [129]) 0 hV4.tb (by simp; omega)).mono ?_; rintro e W5 ⟨rfl, hw5⟩; refine Hid.out ?_)
  refine Lib.hid ?_
  obtain ⟨v5, hV5⟩ := hV4.wrote hw5
  rw [List.append_assoc] at hV5
  clear hV4 hw5
  have hL5 : (sealB 6 (nameB arcs) 0 ++ ([129] ++ [0])).length ≤ 10000 := by simp; omega
  go_wp2_with (go_at_call 58; refine (bufBytes' hV5.tb).mono ?_; rintro e W6 ⟨rfl, k6, rfl⟩; refine Hid.out ?_)
  refine Lib.hid ?_
  have hV6 := hV5.more (W1 := W5.drewN k6) ⟨rfl, rfl, rfl, Nat.le_refl _, fun _ _ => rfl⟩
  clear hV5
  go_wp2_with (go_at_call 92; refine (marshalTLV _ _ _ _ 48 [] _ hV6.pb hV6.tb.2.1.reads hV6.apart_t (by omega) (by simp)).mono ?_; rintro e W7 ⟨rfl, hw7⟩; refine Hid.out ?_)
  refine Lib.hid ?_
  obtain ⟨vp, hp, hR⟩ := hV6.done hw7
  rw [List.nil_append] at hp hR
  have HR := Lib.hid hR
  clear hV6 hw7 hR
  go_wp2_with (go_at_call 58; refine (bufBytes' hp).mono ?_; rintro e W8 ⟨rfl, k8, rfl⟩; refine Hid.out ?_)
  refine Lib.hid ?_
  clear hp
  go_wp2
  go_ret2
  exact HR.out k8
set_option maxHeartbeats 4000000 in
set_option maxRecDepth 100000 in
theorem vb_130 (w : World) (b : Nat) (name : ByteArray) (arcs : List Nat) (val : Value) (h : PduAt w b val name 130) (hn : Nm name arcs)  :
    Calls Tryz.prog 95 #[.pointer (some ⟨b, 0, none⟩)] w (RetB w (sealB 48 (sealB 6 (nameB arcs) 0 ++ [130, 0]) 0)) := by
  have c1 := h.c1
  have hL6 : (sealB 6 (nameB arcs) 0).length ≤ 104 := seal_lt hn.good.bytes (by omega)
  go_enter Tryz.func95, Tryz.ntmps95
  go_wp2_with (go_at_call 91; refine (marshalOID name arcs _ hn.good hn.text hn.size).mono ?_; rintro e W1 ⟨v1, rfl, hr1, hn1, hb1⟩; refine Hid.out ?_)
  refine Lib.hid ?_
  have c2 : ∀ o o', ((W1.alloc o).alloc o').cell? ⟨b, 2, none⟩ = some (.int .u8 130) := fun o o' => (two_alloc (h.more hb1) o o').c2
  have hV := VB.start hr1 hb1 (hr1.lt hn.good.ne)
  clear hb1 hr1 hn1 c1
  go_wp2_with (go_at_call 92; refine (marshalTLV _ _ _ v1 6 [] (nameB arcs) hV.tb hV.ro hV.apart_oid (by have := hn.good.bytes; omega) (by simp)).mono ?_; rintro e W3 ⟨rfl, hw3⟩; refine Hid.out ?_)
  refine Lib.hid ?_
  obtain ⟨v3, hV3⟩ := hV.wrote hw3
  rw [List.nil_append] at hV3
  have c0 := (h.in hV3).c0
  have c2 := (h.in hV3).c2
  clear hV hw3
  go_wp2_with (go_at_call 54; refine (writeByte _ _ v3 (sealB 6 (nameB arcs) 0) 130 hV3.tb (by omega)).mono ?_; rintro e W4 ⟨rfl, hw4⟩; refine Hid.out ?_)
  refine Lib.hid ?_
  obtain ⟨v4, hV4⟩ := hV3.wrote hw4
  clear c0 c2 hV3 hw4
  go_wp2_with (go_at_call 54; refine (writeByte _ _ v4 (sealB 6 (nameB arcs) 0 ++ [130]) 0 hV4.tb (by simp; omega)).mono ?_; rintro e W5 ⟨rfl, hw5⟩; refine Hid.out ?_)
  refine Lib.hid ?_
  obtain ⟨v5, hV5⟩ := hV4.wrote hw5
  rw [List.append_assoc] at hV5
  clear hV4 hw5
  have hL5 : (sealB 6 (nameB arcs) 0 ++ ([130] ++ [0])).length ≤ 10000 := by simp; omega
  go_wp2_with (go_at_call 58; refine (bufBytes' hV5.tb).mono ?_; rintro e W6 ⟨rfl, k6, rfl⟩; refine Hid.out ?_)
  refine Lib.hid ?_
  have hV6 := hV5.more (W1 := W5.drewN k6) ⟨rfl, rfl, rfl, Nat.le_refl _, fun _ _ => rfl⟩
  clear hV5
  go_wp2_with (go_at_call 92; refine (marshalTLV _ _ _ _ 48 [] _ hV6.pb hV6.tb.2.1.reads hV6.apart_t (by omega) (by simp)).mono ?_; rintro e W7 ⟨rfl, hw7⟩; refine Hid.out ?_)
  refine Lib.hid ?_
  obtain ⟨vp, hp, hR⟩ := hV6.done hw7
  rw [List.nil_append] at hp hR
  have HR := Lib.hid hR
  clear hV6 hw7 hR
  go_wp2_with (go_at_call 58; refine (bufBytes' hp).mono ?_; rintro e W8 ⟨rfl, k8, rfl⟩; refine Hid.out ?_)
  refine Lib.hid ?_
  clear hp
  go_wp2
  go_ret2
  exact HR.out k8
end Go.Proofs.YtpfmcdhmboclhaaGreatDoor
namespace Go.Proofs.YtpfmcdhmboclhaaGreatDoor
open Go.RowKit

theorem ta_3_5 (v : Value) (w : World) : (Instr.typeAssert (.iface 3 v) 20 5 true).run Tryz.prog w = .ok (.tuple #[.int .u8 0, .bool false]) w := by kernel_rfl
theorem ta_3_3 (v : Value) (w : World) : (Instr.typeAssert (.iface 3 v) 20 3 true).run Tryz.prog w = .ok (.tuple #[v, .bool true]) w := by kernel_rfl
theorem ta_9_30 (v : Value) (w : World) : (Instr.typeAssert (.iface 9 v) 20 30 true).run Tryz.prog w = .ok (.tuple #[.slice none 0 0, .bool false]) w := by kernel_rfl
theorem ta_9_9 (v : Value) (w : World) : (Instr.typeAssert (.iface 9 v) 20 9 true).run Tryz.prog w = .ok (.tuple #[v, .bool true]) w := by kernel_rfl
theorem ta_9_9f (v : Value) (w : World) : (Instr.typeAssert (.iface 9 v) 20 9 false).run Tryz.prog w = .ok v w := by kernel_rfl
theorem uintB_short (n : Nat) (h : n < 18446744073709551616) : (uintB n).length ≤ 9 := by
  have h1 := (beK_split 8 n (by omega)).2
  unfold uintB be1
  split <;> split <;> simp <;> omega
theorem intB_le (n : Int) (h : -2147483648 ≤ n ∧ n ≤ 2147483647) : (intB n).length ≤ 4 := by
  by_cases c1 : -128 ≤ n ∧ n ≤ 127
  · rw [intB_1 n c1]; simp
  by_cases c2 : -32768 ≤ n ∧ n ≤ 32767
  · rw [intB_2 n c1 c2]; simp
  by_cases c3 : -8388608 ≤ n ∧ n ≤ 8388607
  · rw [intB_3 n c2 c3]; simp
  rw [intB_4 n c3 h]; simp
theorem conv_bytes (w : World) (s : ByteArray) : (convert 9 30 (.string s)).run Tryz.prog w = .ok (.slice (some ⟨w.heap.size, 0, none⟩) s.size (grownCap w s.size 0 5)) (Lib.bytesWorld w 5 s) :=
  Lib.run_convert_string_bytes w 9 30 5 s (u := .string) (by kernel_rfl) (by kernel_rfl) (by kernel_rfl)
theorem rd_bytes (w : World) (s : ByteArray) (h : s.size ≤ maxLen) : Rd (Lib.bytesWorld w 5 s) (.slice (some ⟨w.heap.size, 0, none⟩) s.size (grownCap w s.size 0 5)) (bytesOf s) := by
  refine ⟨_, _, by rw [bytesOf_length], by rw [bytesOf_length]; exact grownCap_ge _ _ _ _, grownCap_le_maxLen _ _ _ _ h, fun h0 => ⟨_, _, rfl, fun j hj => ?_⟩⟩
  rw [bytesOf_length] at hj
  rw [Nat.zero_add, Lib.bytesWorld_cell _ _ _ _ hj]
  have : s.data.toList.length = s.size := by rw [Array.length_toList]; rfl
  simp [bytesOf, List.getD]
  simp only [Array.getElem?_eq_getElem (show j < s.data.size from hj)]
  rfl
theorem bytesWorld_below (w : World) (s : ByteArray) : Below w.heap.size w (Lib.bytesWorld w 5 s) := ⟨rfl, rfl, rfl, by rw [Lib.bytesWorld_size]; omega, fun k hk => Lib.bytesWorld_at_old w 5 s k hk⟩
set_option maxHeartbeats 4000000 in
set_option maxRecDepth 100000 in
theorem vb_2 (w : World) (b : Nat) (name : ByteArray) (arcs : List Nat) (n : Int) (h : PduAt w b (.iface 3 (.int .i64 n)) name 2) (hn : Nm name arcs) (hn2 : Hid (-2147483648 ≤ n ∧ n ≤ 2147483647)) :
    Calls Tryz.prog 95 #[.pointer (some ⟨b, 0, none⟩)] w (RetB w (sealB 48 (sealB 6 (nameB arcs) 0 ++ sealB 2 (intB n) 0) 0)) := by
  have c1 := h.c1
  have hL6 : (sealB 6 (nameB arcs) 0).length ≤ 104 := seal_lt hn.good.bytes (by omega)
  have hcs := intB_le n hn2.out
  have ta1 := ta_3_5
  have ta2 := ta_3_3
  go_enter Tryz.func95, Tryz.ntmps95
  go_wp2_with (go_at_call 91; refine (marshalOID name arcs _ hn.good hn.text hn.size).mono ?_; rintro e W1 ⟨v1, rfl, hr1, hn1, hb1⟩; refine Hid.out ?_)
  refine Lib.hid ?_
  have c2 : ∀ o o', ((W1.alloc o).alloc o').cell? ⟨b, 2, none⟩ = some (.int .u8 2) := fun o o' => (two_alloc (h.more hb1) o o').c2
  have hV := VB.start hr1 hb1 (hr1.lt hn.good.ne)
  clear hb1 hr1 hn1 c1
  go_wp2_with (go_at_call 92; refine (marshalTLV _ _ _ v1 6 [] (nameB arcs) hV.tb hV.ro hV.apart_oid (by have := hn.good.bytes; omega) (by simp)).mono ?_; rintro e W3 ⟨rfl, hw3⟩; refine Hid.out ?_)
  refine Lib.hid ?_
  obtain ⟨v3, hV3⟩ := hV.wrote hw3
  rw [List.nil_append] at hV3
  have c0 := (h.in hV3).c0
  have c2 := (h.in hV3).c2
  clear hV hw3
  go_wp2_with (go_at_call 94; refine (int32 n _ hn2.out.1 hn2.out.2).mono ?_; rintro e W4 ⟨vc, rfl, hr4, hn4, hb4⟩; refine Hid.out ?_)
  refine Lib.hid ?_
  have ha4 := hV3.apart_new hn4
  have hV4 := hV3.more hb4
  have c2 := (h.in hV4).c2
  clear c0 hV3 hn4 hb4
  go_wp2_with (go_at_call 92; refine (marshalTLV _ _ v3 vc 2 (sealB 6 (nameB arcs) 0) (intB n) hV4.tb hr4 ha4 (by have := hcs; omega) (by omega)).mono ?_; rintro e W5 ⟨rfl, hw5⟩; refine Hid.out ?_)
  refine Lib.hid ?_
  obtain ⟨v5, hV5⟩ := hV4.wrote hw5
  clear c2 hV4 hw5 hr4 ha4
  have hL5 : (sealB 6 (nameB arcs) 0 ++ sealB 2 (intB n) 0).length ≤ 10000 := by
    have : (sealB 2 (intB n) 0).length ≤ 4 + 4 := seal_lt hcs (by omega)
    simp; omega
  go_wp2_with (go_at_call 58; refine (bufBytes' hV5.tb).mono ?_; rintro e W6 ⟨rfl, k6, rfl⟩; refine Hid.out ?_)
  refine Lib.hid ?_
  have hV6 := hV5.more (W1 := W5.drewN k6) ⟨rfl, rfl, rfl, Nat.le_refl _, fun _ _ => rfl⟩
  clear hV5
  go_wp2_with (go_at_call 92; refine (marshalTLV _ _ _ _ 48 [] _ hV6.pb hV6.tb.2.1.reads hV6.apart_t (by omega) (by simp)).mono ?_; rintro e W7 ⟨rfl, hw7⟩; refine Hid.out ?_)
  refine Lib.hid ?_
  obtain ⟨vp, hp, hR⟩ := hV6.done hw7
  rw [List.nil_append] at hp hR
  have HR := Lib.hid hR
  clear hV6 hw7 hR
  go_wp2_with (go_at_call 58; refine (bufBytes' hp).mono ?_; rintro e W8 ⟨rfl, k8, rfl⟩; refine Hid.out ?_)
  refine Lib.hid ?_
  clear hp
  go_wp2
  go_ret2
  exact HR.out k8
set_option maxHeartbeats 4000000 in
set_option maxRecDepth 100000 in
theorem vb_65 (w : World) (b : Nat) (name : ByteArray) (arcs : List Nat) (n : Nat) (h : PduAt w b (.iface 24 (.int .u64 n)) name 65) (hn : Nm name arcs) (hn2 : Hid (n < 4294967296)) :
    Calls Tryz.prog 95 #[.pointer (some ⟨b, 0, none⟩)] w (RetB w (sealB 48 (sealB 6 (nameB arcs) 0 ++ sealB 65 (uintB n) 0) 0)) := by
  have c1 := h.c1
  have hL6 : (sealB 6 (nameB arcs) 0).length ≤ 104 := seal_lt hn.good.bytes (by omega)
  have hcs := uintB_short n (by have := hn2.out; omega)
  have ta1 := ta_24_22
  have ta2 := ta_24_24
  go_enter Tryz.func95, Tryz.ntmps95
  go_wp2_with (go_at_call 91; refine (marshalOID name arcs _ hn.good hn.text hn.size).mono ?_; rintro e W1 ⟨v1, rfl, hr1, hn1, hb1⟩; refine Hid.out ?_)
  refine Lib.hid ?_
  have c2 : ∀ o o', ((W1.alloc o).alloc o').cell? ⟨b, 2, none⟩ = some (.int .u8 65) := fun o o' => (two_alloc (h.more hb1) o o').c2
  have hV := VB.start hr1 hb1 (hr1.lt hn.good.ne)
  clear hb1 hr1 hn1 c1
  go_wp2_with (go_at_call 92; refine (marshalTLV _ _ _ v1 6 [] (nameB arcs) hV.tb hV.ro hV.apart_oid (by have := hn.good.bytes; omega) (by simp)).mono ?_; rintro e W3 ⟨rfl, hw3⟩; refine Hid.out ?_)
  refine Lib.hid ?_
  obtain ⟨v3, hV3⟩ := hV.wrote hw3
  rw [List.nil_append] at hV3
  have c0 := (h.in hV3).c0
  have c2 := (h.in hV3).c2
  clear hV hw3
  go_wp2_with (go_at_call 71; refine (marshalUint32 n _ hn2.out).mono ?_; rintro e W4 ⟨vc, rfl, hr4, hn4, hb4⟩; refine Hid.out ?_)
  refine Lib.hid ?_
  have ha4 := hV3.apart_new hn4
  have hV4 := hV3.more hb4
  have c2 := (h.in hV4).c2
  clear c0 hV3 hn4 hb4
  go_wp2_with (go_at_call 92; refine (marshalTLV _ _ v3 vc 65 (sealB 6 (nameB arcs) 0) (uintB n) hV4.tb hr4 ha4 (by have := hcs; omega) (by omega)).mono ?_; rintro e W5 ⟨rfl, hw5⟩; refine Hid.out ?_)
  refine Lib.hid ?_
  obtain ⟨v5, hV5⟩ := hV4.wrote hw5
  clear c2 hV4 hw5 hr4 ha4
  have hL5 : (sealB 6 (nameB arcs) 0 ++ sealB 65 (uintB n) 0).length ≤ 10000 := by
    have : (sealB 65 (uintB n) 0).length ≤ 9 + 4 := seal_lt hcs (by omega)
    simp; omega
  go_wp2_with (go_at_call 58; refine (bufBytes' hV5.tb).mono ?_; rintro e W6 ⟨rfl, k6, rfl⟩; refine Hid.out ?_)
  refine Lib.hid ?_
  have hV6 := hV5.more (W1 := W5.drewN k6) ⟨rfl, rfl, rfl, Nat.le_refl _, fun _ _ => rfl⟩
  clear hV5
  go_wp2_with (go_at_call 92; refine (marshalTLV _ _ _ _ 48 [] _ hV6.pb hV6.tb.2.1.reads hV6.apart_t (by omega) (by simp)).mono ?_; rintro e W7 ⟨rfl, hw7⟩; refine Hid.out ?_)
  refine Lib.hid ?_
  obtain ⟨vp, hp, hR⟩ := hV6.done hw7
  rw [List.nil_append] at hp hR
  have HR := Lib.hid hR
  clear hV6 hw7 hR
  go_wp2_with (go_at_call 58; refine (bufBytes' hp).mono ?_; rintro e W8 ⟨rfl, k8, rfl⟩; refine Hid.out ?_)
  refine Lib.hid ?_
  clear hp
  go_wp2
  go_ret2
  exact HR.out k8
end Go.Proofs.YtpfmcdhmboclhaaGreatDoor
