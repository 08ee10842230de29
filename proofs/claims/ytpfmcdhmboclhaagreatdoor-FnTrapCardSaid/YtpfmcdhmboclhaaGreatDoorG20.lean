/- spec: the bytes of numbers and lengths. spec: figures. spec: a name in dotted figures. spec: a length's bytes; a tag, a length and content; figures. spec: the content of a name. -/
import Derived.Test.YtpfmcdhmboclhaaGreatDoorG10
import Derived.Test.YtpfmcdhmboclhaaGreatDoorG12
set_option linter.unusedVariables false
set_option linter.unusedSimpArgs false
namespace Go.Proofs.YtpfmcdhmboclhaaGreatDoor
open Go.RowKit

theorem own_text1 {w : World} {base : Nat} {v : Value} {l : List Int} (h : Own w base v l) {l' : List Int} (e : l = l') : Own w base v l' := e ▸ h
theorem intB_last (n : Int) : ∃ pre, intB n = pre ++ [n % 256] := by
  by_cases h : -128 ≤ n ∧ n ≤ 127
  · exact ⟨[], by rw [intB_1 n h]; rfl⟩
  · exact ⟨intB (n / 256), intB_step n h⟩
theorem intB_len_k : ∀ (k : Nat) (n : Int), -(128 * 256 ^ k) ≤ n → n < 128 * 256 ^ k → (intB n).length ≤ k + 1
  | 0, n, h1, h2 => by rw [intB_1 n (by simp at h1 h2; omega)]; simp
  | k + 1, n, h1, h2 => by
    by_cases h : -128 ≤ n ∧ n ≤ 127
    · rw [intB_1 n h]; simp
    · rw [intB_step n h, List.length_append]
      have e : (256 : Int) ^ (k + 1) = 256 * 256 ^ k := by rw [Int.pow_succ, Int.mul_comm]
      rw [e] at h1 h2
      have := intB_len_k k (n / 256) (by omega) (by omega)
      simp; omega
theorem intB_len8 (n : Int) (h : -9223372036854775808 ≤ n ∧ n ≤ 9223372036854775807) : (intB n).length ≤ 8 := by
  have e : (128 * 256 ^ 7 : Int) = 9223372036854775808 := by decide
  exact intB_len_k 7 n (by omega) (by omega)
/-- What is laid so far goes on with the bytes of what is left. -/
def IntGo (n m : Int) (out : List Int) : Prop := ∃ pre, intB m = pre ++ [m % 256] ∧ intB n = pre ++ out
theorem IntGo.step {n m : Int} {out : List Int} (h : IntGo n m out) (hm : ¬ (-128 ≤ m ∧ m ≤ 127)) : IntGo n (m / 256) ((m / 256 % 256) :: out) := by
  obtain ⟨pre, h1, h2⟩ := h
  rw [intB_step m hm] at h1
  have h3 := (List.append_inj' h1 rfl).1
  obtain ⟨pre', h4⟩ := intB_last (m / 256)
  exact ⟨pre', h4, by rw [h2, ← h3, h4]; simp⟩
theorem IntGo.fin {n m : Int} {out : List Int} (h : IntGo n m out) (hm : -128 ≤ m ∧ m ≤ 127) : intB n = out := by
  obtain ⟨pre, h1, h2⟩ := h
  rw [intB_1 m hm] at h1
  have h3 := congrArg List.length h1
  simp at h3
  rw [h2, h3]; rfl
set_option maxHeartbeats 4000000 in
set_option maxRecDepth 100000 in
theorem specInt (n : Int) (w : World) (hn : -9223372036854775808 ≤ n ∧ n ≤ 9223372036854775807) : Calls Tryz.prog 33 #[.int .i64 n] w (RetO w (intB n)) := by
  have h0 : Hid (IntGo n n [n % 256]) := by
    obtain ⟨pre, h⟩ := intB_last n
    exact ⟨pre, h, h⟩
  have HL8 := Lib.hid (intB_len8 n hn)
  obtain ⟨hn1, hn2⟩ := hn
  have hw : IntKind.u8.wrap n = n % 256 := IntKind.wrap_u8 n
  go_enter Tryz.func33, Tryz.ntmps33
  go_wp2
  go_loopw [0, 3] (fun i v wr => ∃ (m : Int) (out : List Int), i = .int .i64 m ∧ -9223372036854775808 ≤ m ∧ m ≤ 9223372036854775807 ∧ IntGo n m out ∧ Own wr w.heap.size v out ∧ Below w.heap.size w wr) (fun i _ _ => (intOf i).natAbs)
  case atStart =>
    refine ⟨n, [n % 256], rfl, hn1, hn2, h0.out, ?_, (Below.refl _ _).alloc (Nat.le_refl _) _⟩
    exact Own.lit w w.heap.size [n % 256] (Nat.le_refl _) (by simp [maxLen])
  case round =>
    obtain ⟨m, out, rfl, hm1, hm2, hg, hO, hb⟩ := hrel
    obtain ⟨wo, rfl⟩ : ∃ wo : World, wo = wr := ⟨_, rfl⟩
    have HO := Lib.hid hO
    have HB := Lib.hid hb
    have HL : Hid (out.length ≤ 8) := by
      obtain ⟨pre, -, h2⟩ := hg
      have := HL8.out
      rw [h2, List.length_append] at this
      unfold Hid
      omega
    by_cases hin : -128 ≤ m ∧ m ≤ 127
    · have HR : Hid (RetO w (intB n) (.returned u3) wo) := ⟨u3, rfl, by rw [hg.fin hin]; exact HO.out, HB.out⟩
      obtain ⟨i1, i2⟩ := hin
      clear hg hO hb
      go_wp2
      go_ret
      exact HR.out
    · have HS := Lib.hid (hg.step hin)
      have hw2 : IntKind.u8.wrap (m / 256) = m / 256 % 256 := IntKind.wrap_u8 _
      clear hg hO hb
      by_cases h1 : m < -128
      · go_wp2_with (at_builtin; refine wpList_append8 _ rfl _ _ rfl w.heap.size _ _ [m / 256 % 256] out rfl rfl (by exact Own.lit _ _ [m / 256 % 256] HB.out.size (by simp [maxLen])) (by exact HO.out.reads.keptBelow ((Below.refl _ _).alloc (Nat.le_refl _) _)) (by have := HB.out.size; simp; omega) (by have := HL.out; simp; omega) ?_)
        intro v1 w1 hO1 hg1 _
        have HB1 : Hid (Below w.heap.size w w1) := (HB.out.alloc HB.out.size _).grown hg1 (by have := HB.out.size; simp; omega) (fun k e => by simp [Value.ownBlock] at e; have := HB.out.size; omega)
        have HO1 : Hid (Own w1 w.heap.size v1 ((m / 256 % 256) :: out)) := own_text1 hO1 (by simp)
        clear hO1 hg1
        go_wp2
        go_roundw
        case rel => exact ⟨m / 256, _, rfl, by omega, by omega, HS.out, HO1.out, HB1.out⟩
        case measure => simp [intOf]; omega
      have h2 : 127 < m := by omega
      · go_wp2_with (at_builtin; refine wpList_append8 _ rfl _ _ rfl w.heap.size _ _ [m / 256 % 256] out rfl rfl (by exact Own.lit _ _ [m / 256 % 256] HB.out.size (by simp [maxLen])) (by exact HO.out.reads.keptBelow ((Below.refl _ _).alloc (Nat.le_refl _) _)) (by have := HB.out.size; simp; omega) (by have := HL.out; simp; omega) ?_)
        intro v1 w1 hO1 hg1 _
        have HB1 : Hid (Below w.heap.size w w1) := (HB.out.alloc HB.out.size _).grown hg1 (by have := HB.out.size; simp; omega) (fun k e => by simp [Value.ownBlock] at e; have := HB.out.size; omega)
        have HO1 : Hid (Own w1 w.heap.size v1 ((m / 256 % 256) :: out)) := own_text1 hO1 (by simp)
        clear hO1 hg1
        go_wp2
        go_roundw
        case rel => exact ⟨m / 256, _, rfl, by omega, by omega, HS.out, HO1.out, HB1.out⟩
        case measure => simp [intOf]; omega
/-- A number without a sign, as few bytes as it takes. -/
theorem be1_step (n : Nat) (h : 255 < n) : be1 n = be1 (n / 256) ++ [((n % 256 : Nat) : Int)] := by
  rw [be1_pos n (by omega), be1_pos _ (by omega), be_step n (by omega)]
theorem be1_small (n : Nat) (h : n ≤ 255) : be1 n = [((n % 256 : Nat) : Int)] := by
  rw [be1_1 n (by omega), Nat.mod_eq_of_lt (by omega)]
def UintGo (n m : Nat) (out : List Int) : Prop := ∃ pre, be1 m = pre ++ [((m % 256 : Nat) : Int)] ∧ be1 n = pre ++ out
theorem be1_last (n : Nat) : ∃ pre, be1 n = pre ++ [((n % 256 : Nat) : Int)] := by
  by_cases h : n ≤ 255
  · exact ⟨[], by rw [be1_small n h]; rfl⟩
  · exact ⟨_, be1_step n (by omega)⟩
theorem UintGo.step {n m : Nat} {out : List Int} (h : UintGo n m out) (hm : 255 < m) : UintGo n (m / 256) (((m / 256 % 256 : Nat) : Int) :: out) := by
  obtain ⟨pre, h1, h2⟩ := h
  rw [be1_step m hm] at h1
  have h3 := (List.append_inj' h1 rfl).1
  obtain ⟨pre', h4⟩ := be1_last (m / 256)
  exact ⟨pre', h4, by rw [h2, ← h3, h4]; simp⟩
theorem UintGo.fin {n m : Nat} {out : List Int} (h : UintGo n m out) (hm : m ≤ 255) : be1 n = out := by
  obtain ⟨pre, h1, h2⟩ := h
  rw [be1_small m hm] at h1
  have h3 := congrArg List.length h1
  simp at h3
  rw [h2, h3]; rfl
theorem be_byte1 (n : Nat) : ∀ c ∈ be n, 0 ≤ c ∧ c < 256 := by
  induction n using Nat.strongRecOn with
  | ind n ih =>
    intro c hc
    by_cases h : n = 0
    · subst h; rw [be_zero] at hc; cases hc
    · rw [be_step n (by omega)] at hc
      rcases List.mem_append.1 hc with hc | hc
      · exact ih _ (by omega) c hc
      · simp at hc; omega
theorem be1_ne0 (n : Nat) : be1 n ≠ [] := by
  unfold be1
  split
  · simp
  · rename_i h
    rw [be_step n (by omega)]
    simp
theorem be1_byte (n : Nat) : ∀ c ∈ be1 n, 0 ≤ c ∧ c < 256 := by
  intro c hc
  unfold be1 at hc
  split at hc
  · simp at hc; omega
  · exact be_byte1 n c hc
theorem be_len_k : ∀ (k n : Nat), n < 256 ^ k → (be n).length ≤ k
  | 0, n, h => by rw [show n = 0 by simpa using h, be_zero]; simp
  | k + 1, n, h => by
    by_cases h0 : n = 0
    · subst h0; rw [be_zero]; simp
    · rw [be_step n (by omega), List.length_append]
      have := be_len_k k (n / 256) (by rw [Nat.pow_succ] at h; omega)
      simp; omega
theorem be1_len8 (n : Nat) (h : n < 18446744073709551616) : (be1 n).length ≤ 8 := by
  unfold be1
  split
  · simp
  · exact be_len_k 8 n (by simpa using h)
set_option maxHeartbeats 4000000 in
set_option maxRecDepth 100000 in
theorem specUint (n : Nat) (w : World) (hn : n < 18446744073709551616) : Calls Tryz.prog 34 #[.int .u64 n] w (RetO w (uintB n)) := by
  have h0 : Hid (UintGo n n [((n % 256 : Nat) : Int)]) := by
    obtain ⟨pre, h⟩ := be1_last n
    exact ⟨pre, h, h⟩
  have HL8 := Lib.hid (be1_len8 n hn)
  have hw : IntKind.u8.wrap (n : Int) = (n : Int) % 256 := IntKind.wrap_u8 _
  go_enter Tryz.func34, Tryz.ntmps34
  go_wp2
  go_loopw [0, 3] (fun i v wr => ∃ (m : Nat) (out : List Int), i = .int .u64 m ∧ m < 18446744073709551616 ∧ UintGo n m out ∧ Own wr w.heap.size v out ∧ Below w.heap.size w wr) (fun i _ _ => (intOf i).natAbs)
  case atStart =>
    refine ⟨n, [((n % 256 : Nat) : Int)], rfl, hn, h0.out, ?_, (Below.refl _ _).alloc (Nat.le_refl _) _⟩
    exact Own.lit w w.heap.size [((n % 256 : Nat) : Int)] (Nat.le_refl _) (by simp [maxLen])
  case round =>
    obtain ⟨m, out, rfl, hm, hg, hO, hb⟩ := hrel
    obtain ⟨wo, rfl⟩ : ∃ wo : World, wo = wr := ⟨_, rfl⟩
    have HO := Lib.hid hO
    have HB := Lib.hid hb
    have HL : Hid (out.length ≤ 8) := by
      obtain ⟨pre, -, h2⟩ := hg
      have := HL8.out
      rw [h2, List.length_append] at this
      unfold Hid
      omega
    by_cases hin : m ≤ 255
    · have hbe : be1 n = out := hg.fin hin
      have hne : out ≠ [] := by rw [← hbe]; exact be1_ne0 n
      obtain ⟨x, tl, hout⟩ := List.exists_cons_of_ne_nil hne
      have hx0 : 0 ≤ x ∧ x < 256 := by
        have hr : ∀ c ∈ be1 n, 0 ≤ c ∧ c < 256 := be1_byte n
        exact hr x (by rw [hbe, hout]; simp)
      subst hout
      obtain ⟨gb, cap, cur, rfl, hv2, hv3, hv4, hv5, hv6, hv7⟩ : ∃ g cap cur, u3 = .slice (some ⟨g, 0, none⟩) (x :: tl).length cap ∧ w.heap.size ≤ g ∧ wo.heap[g]? = some (.cells cur 5 (0, 0)) ∧ (x :: tl).length ≤ cap ∧ cap ≤ maxLen ∧ cur.size = cap ∧ cur.toList.take (x :: tl).length = by8 (x :: tl) := by
        rcases HO.out.form with ⟨-, h⟩ | h
        · cases h
        · exact h
      have hc0 : wo.cell? ⟨gb, 0, none⟩ = some (.int .u8 x) := by
        have := HO.out.cells (g := gb) rfl 0 (.int .u8 x) (by simp [by8])
        simpa [addr_add] using this
      have hlen1 : (x :: tl).length = tl.length + 1 := rfl
      rw [hlen1] at HO hv4 ⊢
      clear hg hO hb hv2 hv3 hv5 hv6 hv7
      by_cases h127 : 127 < x
      · have HU : Hid (uintB n = 0 :: x :: tl) := by unfold Hid uintB; rw [hbe, if_pos (by simpa using h127)]
        clear hbe hne
        go_wp2_with (at_builtin; refine wpList_append8 _ rfl _ _ rfl w.heap.size _ _ [0] (x :: tl) rfl rfl (by exact Own.lit _ _ [0] HB.out.size (by simp [maxLen])) (by exact HO.out.reads.keptBelow ((Below.refl _ _).alloc (Nat.le_refl _) _)) (by have := HB.out.size; simp; omega) (by have := HL.out; simp at this ⊢; omega) ?_)
        intro v1 w1 hO1 hg1 _
        have HB1 : Hid (Below w.heap.size w w1) := (HB.out.alloc HB.out.size _).grown hg1 (by have := HB.out.size; simp; omega) (fun k e => by simp [Value.ownBlock] at e; have := HB.out.size; omega)
        have HR : Hid (RetO w (uintB n) (.returned v1) w1) := ⟨v1, rfl, own_text1 hO1 (by simp [HU.out]), HB1.out⟩
        clear hO1 hg1
        go_wp2
        go_ret
        exact HR.out
      · have HR : Hid (RetO w (uintB n) (.returned (.slice (some ⟨gb, 0, none⟩) (tl.length + 1) cap)) wo) := ⟨_, rfl, by unfold uintB; rw [hbe, if_neg (by simpa using h127)]; exact HO.out, HB.out⟩
        clear hbe hne
        go_wp2
        go_ret
        exact HR.out
    · have HS := Lib.hid (hg.step (by omega))
      have hw2 : IntKind.u8.wrap ((m : Int) / 256) = (m : Int) / 256 % 256 := IntKind.wrap_u8 _
      have h2 : 255 < m := by omega
      clear hg hO hb
      go_wp2_with (at_builtin; refine wpList_append8 _ rfl _ _ rfl w.heap.size _ _ [(m : Int) / 256 % 256] out rfl rfl (by exact Own.lit _ _ [(m : Int) / 256 % 256] HB.out.size (by simp [maxLen])) (by exact HO.out.reads.keptBelow ((Below.refl _ _).alloc (Nat.le_refl _) _)) (by have := HB.out.size; simp; omega) (by have := HL.out; simp; omega) ?_)
      intro v1 w1 hO1 hg1 _
      have HB1 : Hid (Below w.heap.size w w1) := (HB.out.alloc HB.out.size _).grown hg1 (by have := HB.out.size; simp; omega) (fun k e => by simp [Value.ownBlock] at e; have := HB.out.size; omega)
      have HO1 : Hid (Own w1 w.heap.size v1 (((m / 256 % 256 : Nat) : Int) :: out)) := own_text1 hO1 (by simp)
      clear hO1 hg1
      go_wp2
      go_roundw
      case rel => exact ⟨m / 256, _, by go_num, by omega, HS.out, HO1.out, HB1.out⟩
      case measure => simp [intOf]; omega
end Go.Proofs.YtpfmcdhmboclhaaGreatDoor
namespace Go.Proofs.YtpfmcdhmboclhaaGreatDoor
open Go.RowKit

theorem cellB1 {w W : World} (hb : Below w.heap.size w W) {p : Addr} {x : Value} (h : w.cell? p = some x) : W.cell? p = some x := by
  rw [World.cell?_of_block (w := w) (hb.block p.block (lt_of_cell h))]; exact h
theorem bytesOf_append (a b : ByteArray) : bytesOf (a ++ b) = bytesOf a ++ bytesOf b := by simp [bytesOf]
theorem bytesOf_inj {a b : ByteArray} (h : bytesOf a = bytesOf b) : a = b := by
  have h1 : a.data.toList = b.data.toList := by
    unfold bytesOf at h
    have h2 := congrArg (List.map (fun n : Int => UInt8.ofNat n.toNat)) h
    rw [List.map_map, List.map_map] at h2
    have h3 : ∀ l : List UInt8, List.map ((fun n : Int => UInt8.ofNat n.toNat) ∘ fun b : UInt8 => (b.toNat : Int)) l = l := fun l => (List.map_congr_left (fun b _ => by simp)).trans (List.map_id _)
    rwa [h3, h3] at h2
  cases a with
  | mk x => cases b with
    | mk y =>
      congr 1
      exact Array.toList_inj.1 h1
theorem figs_len_k : ∀ (k n : Nat), n < 10 ^ (k + 1) → (figs n).length ≤ k + 1
  | 0, n, h => by rw [figs_1 n (by simpa using h)]; simp
  | k + 1, n, h => by
    by_cases h0 : n < 10
    · rw [figs_1 n h0]; simp
    · rw [figs_step n (by omega), List.length_append]
      have := figs_len_k k (n / 10) (by rw [Nat.pow_succ] at h; omega)
      simp; omega
set_option maxHeartbeats 4000000 in
set_option maxRecDepth 100000 in
theorem figures (n : Nat) (w : World) (hn : n < 18446744073709551616) : Calls Tryz.prog 29 #[.int .u64 n] w fun e w' => e = .returned (.string (txt (figs n))) ∧ Below w.heap.size w w' := by
  go_enter Tryz.func29, Tryz.ntmps29
  go_wp2
  go_loopw [0, 3] (fun i s wr => ∃ (m : Nat) (t : ByteArray), i = .int .u64 m ∧ s = .string t ∧ m < 18446744073709551616 ∧ figs n = figs m ++ bytesOf t ∧ Below w.heap.size w wr) (fun i _ _ => (intOf i).toNat)
  case atStart => exact ⟨n, ⟨#[]⟩, rfl, rfl, hn, by simp [bytesOf], Below.refl _ _⟩
  case round =>
    obtain ⟨m, t, rfl, rfl, hm, hf, hb⟩ := hrel
    obtain ⟨wo, rfl⟩ : ∃ wo : World, wo = wr := ⟨_, rfl⟩
    have HB := Lib.hid hb
    have HF := Lib.hid hf
    have hw : IntKind.u8.wrap (48 + (m : Int) % 10) = 48 + (m : Int) % 10 := by rw [IntKind.wrap_u8]; omega
    have hcv : (convert 30 9 (.slice (some ⟨wo.heap.size, 0, none⟩) 1 1)).run Tryz.prog (wo.alloc (.cells #[.int .u8 (48 + (m : Int) % 10)] 5)) = .ok (.string (txt [48 + (m : Int) % 10])) (wo.alloc (.cells #[.int .u8 (48 + (m : Int) % 10)] 5)) := conv_txt _ _ _ (rd_one wo _)
    have hbt : bytesOf (txt [48 + (m : Int) % 10] ++ t) = (48 + (m : Int) % 10) :: bytesOf t := by
      rw [bytesOf_append, bytesOf_txt _ (by intro x hx; simp at hx; omega)]; rfl
    have HBT := Lib.hid hbt
    have hsz : ¬ 9223372036854775807 < (txt [48 + (m : Int) % 10]).size + t.size := by
      have h20 := figs_len_k 19 n (by have : (10 : Nat) ^ (19 + 1) = 100000000000000000000 := by decide
                                      omega)
      rw [hf, List.length_append, bytesOf_length] at h20
      rw [txt_size]
      simp
      omega
    have HB1 : Hid (Below w.heap.size w (wo.alloc (.cells #[.int .u8 (48 + (m : Int) % 10)] 5))) := hb.alloc hb.size _
    clear hf hb hbt
    by_cases h10 : m < 10
    · have hz : (m : Int) / 10 = 0 := by omega
      have HE : Hid (txt [48 + (m : Int) % 10] ++ t = txt (figs n)) := by
        refine bytesOf_inj ?_
        rw [HBT.out, bytesOf_txt _ (fun c hc => by have := figs_range n c hc; omega), HF.out, figs_1 m h10]
        have : (m : Int) % 10 = m := by omega
        rw [this]; rfl
      go_wp2
      go_ret
      exact ⟨by rw [← HE.out]; rfl, HB1.out⟩
    · have hz : ((m : Int) / 10 == 0) = false := by simp; omega
      have HE : Hid (figs n = figs (m / 10) ++ bytesOf (txt [48 + (m : Int) % 10] ++ t)) := by
        unfold Hid
        rw [HBT.out, HF.out, figs_step m (by omega)]
        simp
      go_wp2
      go_roundw
      case rel => exact ⟨m / 10, _, by go_num, rfl, by omega, HE.out, HB1.out⟩
      case measure => simp [intOf]; omega
end Go.Proofs.YtpfmcdhmboclhaaGreatDoor
namespace Go.Proofs.YtpfmcdhmboclhaaGreatDoor
open Go.RowKit

/-- A row of numbers of 64 bits that is read. -/
def RdN (w : World) (v : Value) (l : List Nat) : Prop :=
  ∃ A c, v = .slice A l.length c ∧ (∀ (j : Nat) (x : Nat), l[j]? = some x → ∃ g o, A = some ⟨g, o, none⟩ ∧ w.cell? ⟨g, o + j, none⟩ = some (.int .u64 x))
theorem RdN.below {w w' : World} {v : Value} {l : List Nat} (h : RdN w v l) (hb : Below w.heap.size w w') : RdN w' v l := by
  obtain ⟨A, c, rfl, h⟩ := h
  refine ⟨A, c, rfl, fun j x hx => ?_⟩
  obtain ⟨g, o, rfl, hc⟩ := h j x hx
  refine ⟨g, o, rfl, ?_⟩
  rw [← hc]
  exact World.cell?_of_block (w := w) (hb.block g (lt_of_cell hc))
/-- Numbers as cells. -/
def by64 (l : List Nat) : List Value := l.map fun x : Nat => Value.int .u64 (x : Int)
theorem RdN.of_own {w : World} {base : Nat} {v : Value} {l : List Nat} (h : OwnC 38 1 w base v l.length (by64 l)) : RdN w v l := by
  obtain ⟨A, cap, hv⟩ := h.shape
  refine ⟨A, cap, hv, fun j x hx => ?_⟩
  have hlt := (List.getElem?_eq_some_iff.1 hx).1
  obtain ⟨g, cap2, hv2, -, hc⟩ := h.cell (by omega)
  rw [hv] at hv2
  injection hv2 with e1 e2 e3
  refine ⟨g, 0, e1, ?_⟩
  rw [Nat.zero_add]
  exact hc j _ (by simp [by64, hx])
set_option maxHeartbeats 4000000 in
set_option maxRecDepth 100000 in
theorem dotted (v : Value) (arcs : List Nat) (w : World) (hr : RdN w v arcs) (hs : ∀ x ∈ arcs, x < 4294967296) (hl : arcs.length ≤ 60) : Calls Tryz.prog 24 #[v] w fun e w' => e = .returned (.string (dot arcs)) ∧ Below w.heap.size w w' := by
  obtain ⟨A, c, rfl, hcells⟩ := hr
  obtain ⟨n, hn⟩ : ∃ n, n = arcs.length := ⟨_, rfl⟩
  rw [← hn] at hl ⊢
  have HC := Lib.hid hcells
  have HS := Lib.hid hs
  have HN := Lib.hid hn
  clear hcells hs hn
  go_enter Tryz.func24, Tryz.ntmps24
  go_wp2
  go_loopw [3, 8] (fun s i wr => ∃ (k : Nat) (t : ByteArray), i = .int .i64 k ∧ s = .string t ∧ k ≤ n ∧ bytesOf t = text (arcs.take k) ∧ Below w.heap.size w wr) (fun _ i _ => n - (intOf i).toNat)
  case atStart => exact ⟨0, ⟨#[]⟩, rfl, rfl, Nat.zero_le _, rfl, Below.refl _ _⟩
  case round =>
    obtain ⟨k, t, rfl, rfl, hk, ht, hb⟩ := hrel
    obtain ⟨wo, rfl⟩ : ∃ wo : World, wo = wr := ⟨_, rfl⟩
    have HB := Lib.hid hb
    have HT := Lib.hid ht
    by_cases hkn : k < n
    · obtain ⟨x, hx⟩ : ∃ x, arcs[k]? = some x := ⟨_, List.getElem?_eq_getElem (by rw [← HN.out]; exact hkn)⟩
      obtain ⟨g, o, rfl, hc⟩ := HC.out k x hx
      have hc := cellB1 hb hc
      have hx32 := HS.out x (List.mem_of_getElem? hx)
      have HF := Lib.hid (figures x wo (by omega))
      have hsz : t.size ≤ 2000 := by
        have h1 := text_short (arcs.take k) (fun y hy => HS.out y (List.mem_of_mem_take hy))
        have h2 : (arcs.take k).length ≤ 60 := by rw [List.length_take]; omega
        rw [← ht, bytesOf_length] at h1
        omega
      have hfz : (txt (figs x)).size ≤ 10 := by rw [txt_size]; exact figs_short x (by omega)
      have h46 : (ByteArray.mk #[46]).size = 1 := rfl
      have hs1 : ¬ 9223372036854775807 < (ByteArray.mk #[46]).size + (txt (figs x)).size := by rw [h46]; omega
      have hbs : bytesOf (ByteArray.mk #[46] ++ txt (figs x)) = 46 :: figs x := by
        rw [bytesOf_append, bytesOf_txt _ (fun c hc => by have := figs_range x c hc; omega)]; rfl
      have hs2 : ¬ 9223372036854775807 < t.size + (ByteArray.mk #[46] ++ txt (figs x)).size := by
        have := bytesOf_length (ByteArray.mk #[46] ++ txt (figs x))
        rw [hbs] at this
        have h3 := figs_short x (by omega)
        rw [List.length_cons] at this
        omega
      have HNX : Hid (bytesOf (t ++ (ByteArray.mk #[46] ++ txt (figs x))) = text (arcs.take (k + 1))) := by
        unfold Hid
        rw [bytesOf_append, hbs, ht, List.take_add_one, hx, Option.toList_some, text_append, text_cons, text_nil, List.append_nil]
      clear hx hb ht hbs hfz h46 hsz
      go_wp2_with (go_at_call 29; refine (HF.out).mono ?_; rintro e W1 ⟨rfl, hb1⟩; refine Hid.out ?_)
      refine Lib.hid ?_
      have HB1 : Hid (Below w.heap.size w W1) := HB.out.trans (hb1.mono HB.out.size)
      clear hb1 hc
      go_wp2
      go_roundw
      case rel => exact ⟨k + 1, _, by go_num, rfl, hkn, HNX.out, HB1.out⟩
      case measure => simp [intOf]; omega
    · obtain rfl : k = n := by omega
      have HE : Hid (t = dot arcs) := bytesOf_inj (by rw [bytesOf_dot, HT.out, HN.out, List.take_length])
      clear hb ht
      go_wp2
      go_ret
      exact ⟨by rw [← HE.out]; rfl, HB.out⟩
end Go.Proofs.YtpfmcdhmboclhaaGreatDoor
namespace Go.Proofs.YtpfmcdhmboclhaaGreatDoor
open Go.RowKit

theorem be_two (n : Nat) (h : n < 65536) : (be n).length ≤ 2 := be_len_k 2 n (by simpa using h)
theorem own_push {w wo w1 : World} {x : Int} (hb : Below w.heap.size w wo) (hg : (wo.alloc (.cells #[.int .u8 x] 5)).grownBy w1 (some wo.heap.size)) : Below w.heap.size w w1 :=
  (hb.alloc hb.size _).grown hg (by have := hb.size; simp; omega) (fun k e => by injection e with e; have := hb.size; omega)
set_option maxHeartbeats 4000000 in
set_option maxRecDepth 100000 in
theorem specLength (n wd : Nat) (w : World) (hn : n < 65536) (hwd : wd ≤ 2) : Calls Tryz.prog 46 #[.int .i64 n, .int .i64 wd] w (RetO w (lenB n wd)) := by
  by_cases hs : n < 128 ∧ wd = 0
  · have HE : Hid (lenB n wd = [(n : Int)]) := if_pos hs
    obtain ⟨h1, rfl⟩ := hs
    have hw : IntKind.u8.wrap (n : Int) = n := by rw [IntKind.wrap_u8]; omega
    go_enter Tryz.func46, Tryz.ntmps46
    go_wp2
    go_ret
    exact ⟨_, rfl, by rw [HE.out]; exact Own.lit w w.heap.size [(n : Int)] (Nat.le_refl _) (by simp [maxLen]), (Below.refl _ _).alloc (Nat.le_refl _) _⟩
  · have HE : Hid (lenB n wd = ((128 + (be n).length + wd : Nat) : Int) :: (List.replicate wd 0 ++ be n)) := if_neg hs
    have hb2 := be_two n hn
    have HB2 := Lib.hid hb2
    have hdec : n < 128 → ((wd : Int) == 0) = false := by intro h; simp; omega
    have key : ∀ (P : Prop), P → P := fun _ h => h
    by_cases h128 : n < 128
    · have hwd0 := hdec h128
      clear hs hb2 hdec key
      go_enter Tryz.func46, Tryz.ntmps46
      go_wp2
      go_loopw [0, 5] (fun i v wr => ∃ (m : Nat) (out : List Int), i = .int .i64 m ∧ m < 65536 ∧ be n = be m ++ out ∧ Own wr w.heap.size v out ∧ Below w.heap.size w wr) (fun i _ _ => (intOf i).toNat)
      case atStart => exact ⟨n, [], rfl, hn, by simp, Own.lit w w.heap.size [] (Nat.le_refl _) (by simp [maxLen]), (Below.refl _ _).alloc (Nat.le_refl _) _⟩
      case round =>
        obtain ⟨m, out, rfl, hm, hbe, hO, hb⟩ := hrel
        obtain ⟨wo, rfl⟩ : ∃ wo : World, wo = wr := ⟨_, rfl⟩
        have HO := Lib.hid hO
        have HB := Lib.hid hb
        have HL : Hid (out.length ≤ 2) := by
          have := HB2.out
          rw [hbe, List.length_append] at this
          unfold Hid; omega
        by_cases h0 : m = 0
        · subst h0
          have hout : be n = out := by rw [hbe, be_zero]; rfl
          have HOUT := Lib.hid hout
          clear hbe hO hb hm hout
          go_wp2
          go_loopw [5, 26] (fun v i wr => ∃ (k : Nat), i = .int .i64 k ∧ k ≤ wd ∧ Own wr w.heap.size v (List.replicate k 0 ++ be n) ∧ Below w.heap.size w wr) (fun _ i _ => wd - (intOf i).toNat)
          case atStart => exact ⟨0, rfl, Nat.zero_le _, by rw [HOUT.out]; exact HO.out, HB.out⟩
          case round =>
            obtain ⟨k, rfl, hk, hO, hb⟩ := hrel
            obtain ⟨wp, rfl⟩ : ∃ wp : World, wp = wr := ⟨_, rfl⟩
            have HO4 := Lib.hid hO
            have HB4 := Lib.hid hb
            clear hO hb
            by_cases hkw : k < wd
            · go_wp2_with (at_builtin; refine wpList_append8 _ rfl _ _ rfl w.heap.size _ _ [0] (List.replicate k 0 ++ be n) rfl rfl (by exact Own.lit _ _ [0] HB4.out.size (by simp [maxLen])) (by exact HO4.out.reads.keptBelow ((Below.refl _ _).alloc (Nat.le_refl _) _)) (by have := HB4.out.size; simp; omega) (by have := HB2.out; simp; omega) ?_)
              intro v1 w1 hO1 hg1 _
              have HB1 : Hid (Below w.heap.size w w1) := own_push HB4.out hg1
              have HO1 : Hid (Own w1 w.heap.size v1 (List.replicate (k + 1) 0 ++ be n)) := own_text1 hO1 (by rw [List.replicate_succ]; simp)
              clear hO1 hg1
              go_wp2
              go_roundw
              case rel => exact ⟨_, _, _, _, _, _, _, ⟨k + 1, rfl, hkw, HO1.out, HB1.out⟩, rfl⟩
              case measure => simp [intOf]; omega
            · obtain rfl : k = wd := by omega
              obtain ⟨L, hL⟩ : ∃ L, L = (be n).length := ⟨_, rfl⟩
              have hlen := HO4.out.len (k + L) (by simp [hL])
              have hL2 : L ≤ 2 := by rw [hL]; exact HB2.out
              have hwl : IntKind.u8.wrap (128 + ((k : Int) + (L : Int))) = 128 + ((k : Int) + (L : Int)) := by rw [IntKind.wrap_u8]; omega
              have HE2 : Hid (lenB n k = [128 + ((k : Int) + (L : Int))] ++ (List.replicate k 0 ++ be n)) := by unfold Hid; rw [HE.out, hL]; simp; omega
              have HLL := Lib.hid hL
              clear hL
              go_wp2_with (at_builtin; refine wpList_append8 _ rfl _ _ rfl w.heap.size _ _ [128 + ((k : Int) + (L : Int))] (List.replicate k 0 ++ be n) rfl rfl (by exact Own.lit _ _ [128 + ((k : Int) + (L : Int))] HB4.out.size (by simp [maxLen])) (by exact HO4.out.reads.keptBelow ((Below.refl _ _).alloc (Nat.le_refl _) _)) (by have := HB4.out.size; simp; omega) (by have := HB2.out; simp; omega) ?_)
              intro v1 w1 hO1 hg1 _
              have HR : Hid (RetO w (lenB n k) (.returned v1) w1) := ⟨v1, rfl, own_text1 hO1 HE2.out.symm, own_push HB4.out hg1⟩
              clear hO1 hg1
              go_wp2
              go_ret
              exact HR.out
        · have hw : IntKind.u8.wrap (m : Int) = (m : Int) % 256 := IntKind.wrap_u8 _
          have HS : Hid (be n = be (m / 256) ++ (((m % 256 : Nat) : Int) :: out)) := by unfold Hid; rw [hbe, be_step m (by omega)]; simp
          clear hbe hO hb
          go_wp2_with (at_builtin; refine wpList_append8 _ rfl _ _ rfl w.heap.size _ _ [(m : Int) % 256] out rfl rfl (by exact Own.lit _ _ [(m : Int) % 256] HB.out.size (by simp [maxLen])) (by exact HO.out.reads.keptBelow ((Below.refl _ _).alloc (Nat.le_refl _) _)) (by have := HB.out.size; simp; omega) (by have := HL.out; simp; omega) ?_)
          intro v1 w1 hO1 hg1 _
          have HB1 : Hid (Below w.heap.size w w1) := own_push HB.out hg1
          have HO1 : Hid (Own w1 w.heap.size v1 (((m % 256 : Nat) : Int) :: out)) := own_text1 hO1 (by simp)
          clear hO1 hg1
          go_wp2
          go_roundw
          case rel => exact ⟨m / 256, _, by go_num, by omega, HS.out, HO1.out, HB1.out⟩
          case measure => simp [intOf]; omega
    · have h128i : ¬ (n : Int) < 128 := by omega
      clear hs hb2 hdec key
      go_enter Tryz.func46, Tryz.ntmps46
      go_wp2
      go_loopw [0, 5] (fun i v wr => ∃ (m : Nat) (out : List Int), i = .int .i64 m ∧ m < 65536 ∧ be n = be m ++ out ∧ Own wr w.heap.size v out ∧ Below w.heap.size w wr) (fun i _ _ => (intOf i).toNat)
      case atStart => exact ⟨n, [], rfl, hn, by simp, Own.lit w w.heap.size [] (Nat.le_refl _) (by simp [maxLen]), (Below.refl _ _).alloc (Nat.le_refl _) _⟩
      case round =>
        obtain ⟨m, out, rfl, hm, hbe, hO, hb⟩ := hrel
        obtain ⟨wo, rfl⟩ : ∃ wo : World, wo = wr := ⟨_, rfl⟩
        have HO := Lib.hid hO
        have HB := Lib.hid hb
        have HL : Hid (out.length ≤ 2) := by
          have := HB2.out
          rw [hbe, List.length_append] at this
          unfold Hid; omega
        by_cases h0 : m = 0
        · subst h0
          have hout : be n = out := by rw [hbe, be_zero]; rfl
          have HOUT := Lib.hid hout
          clear hbe hO hb hm hout
          go_wp2
          go_loopw [5, 26] (fun v i wr => ∃ (k : Nat), i = .int .i64 k ∧ k ≤ wd ∧ Own wr w.heap.size v (List.replicate k 0 ++ be n) ∧ Below w.heap.size w wr) (fun _ i _ => wd - (intOf i).toNat)
          case atStart => exact ⟨0, rfl, Nat.zero_le _, by rw [HOUT.out]; exact HO.out, HB.out⟩
          case round =>
            obtain ⟨k, rfl, hk, hO, hb⟩ := hrel
            obtain ⟨wp, rfl⟩ : ∃ wp : World, wp = wr := ⟨_, rfl⟩
            have HO4 := Lib.hid hO
            have HB4 := Lib.hid hb
            clear hO hb
            by_cases hkw : k < wd
            · go_wp2_with (at_builtin; refine wpList_append8 _ rfl _ _ rfl w.heap.size _ _ [0] (List.replicate k 0 ++ be n) rfl rfl (by exact Own.lit _ _ [0] HB4.out.size (by simp [maxLen])) (by exact HO4.out.reads.keptBelow ((Below.refl _ _).alloc (Nat.le_refl _) _)) (by have := HB4.out.size; simp; omega) (by have := HB2.out; simp; omega) ?_)
              intro v1 w1 hO1 hg1 _
              have HB1 : Hid (Below w.heap.size w w1) := own_push HB4.out hg1
              have HO1 : Hid (Own w1 w.heap.size v1 (List.replicate (k + 1) 0 ++ be n)) := own_text1 hO1 (by rw [List.replicate_succ]; simp)
              clear hO1 hg1
              go_wp2
              go_roundw
              case rel => exact ⟨_, _, _, _, _, _, _, ⟨k + 1, rfl, hkw, HO1.out, HB1.out⟩, rfl⟩
              case measure => simp [intOf]; omega
            · obtain rfl : k = wd := by omega
              obtain ⟨L, hL⟩ : ∃ L, L = (be n).length := ⟨_, rfl⟩
              have hlen := HO4.out.len (k + L) (by simp [hL])
              have hL2 : L ≤ 2 := by rw [hL]; exact HB2.out
              have hwl : IntKind.u8.wrap (128 + ((k : Int) + (L : Int))) = 128 + ((k : Int) + (L : Int)) := by rw [IntKind.wrap_u8]; omega
              have HE2 : Hid (lenB n k = [128 + ((k : Int) + (L : Int))] ++ (List.replicate k 0 ++ be n)) := by unfold Hid; rw [HE.out, hL]; simp; omega
              have HLL := Lib.hid hL
              clear hL
              go_wp2_with (at_builtin; refine wpList_append8 _ rfl _ _ rfl w.heap.size _ _ [128 + ((k : Int) + (L : Int))] (List.replicate k 0 ++ be n) rfl rfl (by exact Own.lit _ _ [128 + ((k : Int) + (L : Int))] HB4.out.size (by simp [maxLen])) (by exact HO4.out.reads.keptBelow ((Below.refl _ _).alloc (Nat.le_refl _) _)) (by have := HB4.out.size; simp; omega) (by have := HB2.out; simp; omega) ?_)
              intro v1 w1 hO1 hg1 _
              have HR : Hid (RetO w (lenB n k) (.returned v1) w1) := ⟨v1, rfl, own_text1 hO1 HE2.out.symm, own_push HB4.out hg1⟩
              clear hO1 hg1
              go_wp2
              go_ret
              exact HR.out
        · have hw : IntKind.u8.wrap (m : Int) = (m : Int) % 256 := IntKind.wrap_u8 _
          have HS : Hid (be n = be (m / 256) ++ (((m % 256 : Nat) : Int) :: out)) := by unfold Hid; rw [hbe, be_step m (by omega)]; simp
          clear hbe hO hb
          go_wp2_with (at_builtin; refine wpList_append8 _ rfl _ _ rfl w.heap.size _ _ [(m : Int) % 256] out rfl rfl (by exact Own.lit _ _ [(m : Int) % 256] HB.out.size (by simp [maxLen])) (by exact HO.out.reads.keptBelow ((Below.refl _ _).alloc (Nat.le_refl _) _)) (by have := HB.out.size; simp; omega) (by have := HL.out; simp; omega) ?_)
          intro v1 w1 hO1 hg1 _
          have HB1 : Hid (Below w.heap.size w w1) := own_push HB.out hg1
          have HO1 : Hid (Own w1 w.heap.size v1 (((m % 256 : Nat) : Int) :: out)) := own_text1 hO1 (by simp)
          clear hO1 hg1
          go_wp2
          go_roundw
          case rel => exact ⟨m / 256, _, by go_num, by omega, HS.out, HO1.out, HB1.out⟩
          case measure => simp [intOf]; omega
end Go.Proofs.YtpfmcdhmboclhaaGreatDoor
namespace Go.Proofs.YtpfmcdhmboclhaaGreatDoor
open Go.RowKit

theorem and127u (m : Nat) (h : m < 18446744073709551616) : bits .and .u64 (m : Int) 127 = ((m % 128 : Nat) : Int) := by
  have := bits_mask .u64 64 (by decide) (fun n h0 h1 => by rw [IntKind.wrap_u64]; omega) 7 (by decide) (m : Int) (by omega) (by omega)
  rw [show (127 : Int) = 2 ^ 7 - 1 from rfl, this]
  simp
theorem nameB_rest (a b : Nat) (r : List Nat) : nameB (a :: b :: r) = [((40 * a + b : Nat) : Int)] ++ r.flatMap b128 := rfl
theorem nameB_step (arcs : List Nat) (k x : Nat) (h2 : 2 ≤ arcs.length) (hx : arcs[k + 2]? = some x) : nameB (arcs.take (k + 1 + 2)) = nameB (arcs.take (k + 2)) ++ b128 x := by
  have hlt := (List.getElem?_eq_some_iff.1 hx).1
  rw [show k + 1 + 2 = (k + 2) + 1 by omega, List.take_add_one, hx, Option.toList_some, nameB_snoc _ _ (by rw [List.length_take]; omega)]
theorem b128_len (n : Nat) (h : n < 4294967296) : (b128 n).length ≤ 5 := by
  by_cases h1 : n < 128
  · rw [b128_1 n h1]; simp
  by_cases h2 : n < 16384
  · rw [b128_2 n (by omega) h2]; simp
  by_cases h3 : n < 2097152
  · rw [b128_3 n (by omega) h3]; simp
  by_cases h4 : n < 268435456
  · rw [b128_4 n (by omega) h4]; simp
  · rw [b128_5 n (by omega) h]; simp
theorem flat_len : ∀ (r : List Nat), (∀ x ∈ r, x < 4294967296) → (r.flatMap b128).length ≤ 5 * r.length
  | [], _ => by simp
  | a :: r, h => by
    have h1 := b128_len a (h a (by simp))
    have h2 := flat_len r (fun x hx => h x (by simp [hx]))
    simp only [List.flatMap_cons, List.length_append, List.length_cons]
    omega
theorem nameB_len (arcs : List Nat) (hs : ∀ x ∈ arcs, x < 4294967296) (hl : arcs.length ≤ 60) : (nameB arcs).length ≤ 300 := by
  match arcs with
  | [] => simp [nameB]
  | [a] => simp [nameB]
  | a :: b :: r =>
    rw [nameB_rest]
    have := flat_len r (fun x hx => hs x (by simp [hx]))
    simp only [List.length_cons] at hl
    rw [List.length_append]
    simp only [List.length_singleton]
    omega
end Go.Proofs.YtpfmcdhmboclhaaGreatDoor
