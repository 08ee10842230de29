/- THE PLAIN MATHEMATICS OF ADDRESSES. spec: an address out of its text. net/netip: the four numbers of an address of version 4. net/netip: addresses of version 4. net/netip: an address of version 4 out of its text. -/
import Derived.Handy
import Derived.Test.YtpfmcdhmboclhaaGreatDoorG04
set_option linter.unusedVariables false
set_option linter.unusedSimpArgs false
namespace Go.Proofs.YtpfmcdhmboclhaaGreatDoor

/-- The reader of an address: what is left, the numbers so far, the number that is open, whether one is open. -/
def ipGo : List Int → List Nat → Nat → Bool → Option (List Nat)
  | [], out, n, sm => if sm = true ∧ out.length = 3 then some (out ++ [n]) else none
  | c :: r, out, n, sm =>
    if c = 46 then (if sm = true ∧ out.length ≠ 4 then ipGo r (out ++ [n]) 0 false else none)
    else if c < 48 ∨ 57 < c ∨ (sm = true ∧ n = 0) then none
    else if 255 < 10 * n + (c - 48).toNat then none
    else ipGo r out (10 * n + (c - 48).toNat) true
theorem ipGo_nil (out : List Nat) (n : Nat) (sm : Bool) : ipGo [] out n sm = if sm = true ∧ out.length = 3 then some (out ++ [n]) else none := by unfold ipGo; rfl
theorem ipGo_cons (c : Int) (r : List Int) (out : List Nat) (n : Nat) (sm : Bool) : ipGo (c :: r) out n sm =
    if c = 46 then (if sm = true ∧ out.length ≠ 4 then ipGo r (out ++ [n]) 0 false else none)
    else if c < 48 ∨ 57 < c ∨ (sm = true ∧ n = 0) then none
    else if 255 < 10 * n + (c - 48).toNat then none
    else ipGo r out (10 * n + (c - 48).toNat) true := by rw [ipGo]
theorem ipGo_text : ∀ (rem : List Int) (out : List Nat) (n : Nat) (sm : Bool) (res : List Nat), ipGo rem out n sm = some res → (sm = false → n = 0) → n < 256 →
    ∃ a r, res = out ++ a :: r ∧ (if sm then figs n else []) ++ rem = figs a ++ text r ∧ (∀ x ∈ a :: r, x < 256) ∧ res.length = 4
  | [], out, n, sm, res, h, h0, hn => by
    rw [ipGo_nil] at h
    by_cases hs : sm = true ∧ out.length = 3
    · rw [if_pos hs] at h
      obtain rfl := Option.some.inj h
      obtain ⟨rfl, hl⟩ := hs
      exact ⟨n, [], rfl, by simp [text], by simpa using hn, by simp [hl]⟩
    · rw [if_neg hs] at h; cases h
  | c :: rem, out, n, sm, res, h, h0, hn => by
    rw [ipGo_cons] at h
    by_cases hc : c = 46
    · rw [if_pos hc] at h
      by_cases hs : sm = true ∧ out.length ≠ 4
      · rw [if_pos hs] at h
        obtain ⟨rfl, hl⟩ := hs
        obtain ⟨a, r, h1, h2, h3, h4⟩ := ipGo_text rem (out ++ [n]) 0 false res h (fun _ => rfl) (by omega)
        refine ⟨n, a :: r, by rw [h1]; simp, ?_, ?_, h4⟩
        · rw [text_cons, ← h2, hc]; simp
        · intro x hx
          rcases List.mem_cons.1 hx with rfl | hx
          · exact hn
          · exact h3 x hx
      · rw [if_neg hs] at h; cases h
    · rw [if_neg hc] at h
      by_cases hbad : c < 48 ∨ 57 < c ∨ (sm = true ∧ n = 0)
      · rw [if_pos hbad] at h; cases h
      · rw [if_neg hbad] at h
        by_cases hbig : 255 < 10 * n + (c - 48).toNat
        · rw [if_pos hbig] at h; cases h
        · rw [if_neg hbig] at h
          obtain ⟨a, r, h1, h2, h3, h4⟩ := ipGo_text rem out _ true res h (by simp) (by omega)
          refine ⟨a, r, h1, ?_, h3, h4⟩
          rw [← h2]
          simp only [if_true]
          have hcc : 48 + (((c - 48).toNat : Nat) : Int) = c := by omega
          cases sm with
          | false =>
            have hn0 := h0 rfl
            subst hn0
            simp only [Nat.mul_zero, Nat.zero_add, Bool.false_eq_true, if_false, List.nil_append]
            rw [figs_1 _ (by omega), hcc]; rfl
          | true =>
            have hnp : 0 < n := by
              rcases Nat.eq_zero_or_pos n with h | h
              · exact absurd (.inr (.inr ⟨rfl, h⟩)) hbad
              · exact h
            rw [if_pos rfl, figs_push n _ hnp (by omega), hcc]; simp
/-- What a text is as an address. -/
def ipOf (l : List Int) : Option (List Nat) := ipGo l [] 0 false
theorem ipOf_text {l : List Int} {res : List Nat} (h : ipOf l = some res) : ∃ a b c d, res = [a, b, c, d] ∧ l = (text res).tail ∧ a < 256 ∧ b < 256 ∧ c < 256 ∧ d < 256 := by
  obtain ⟨a, r, h1, h2, h3, h4⟩ := ipGo_text l [] 0 false res h (fun _ => rfl) (by omega)
  rw [List.nil_append] at h1
  subst h1
  match r, h4 with
  | [b, c, d], _ =>
    refine ⟨a, b, c, d, rfl, ?_, h3 _ (by simp), h3 _ (by simp), h3 _ (by simp), h3 _ (by simp)⟩
    simpa [text_cons] using h2
theorem ipGo_len : ∀ (rem : List Int) (out : List Nat) (n : Nat) (sm : Bool) (res : List Nat), ipGo rem out n sm = some res → out.length ≤ 3 := by
  intro rem out n sm res h
  by_cases hl : out.length ≤ 3
  · exact hl
  exfalso
  induction rem generalizing out n sm with
  | nil => rw [ipGo_nil, if_neg (by omega)] at h; cases h
  | cons c r ih =>
    rw [ipGo_cons] at h
    split at h
    · split at h
      · exact ih _ _ _ h (by simp; omega)
      · cases h
    · split at h
      · cases h
      · split at h
        · cases h
        · exact ih _ _ _ h hl
end Go.Proofs.YtpfmcdhmboclhaaGreatDoor
namespace Go.Proofs.YtpfmcdhmboclhaaGreatDoor
open Go.RowKit

/-- A list of numbers as bytes. -/
def nums (l : List Nat) : List Int := l.map fun x : Nat => (x : Int)
theorem nums_append (a b : List Nat) : nums (a ++ b) = nums a ++ nums b := by simp [nums]
theorem nums_length (a : List Nat) : (nums a).length = a.length := by simp [nums]
theorem bytesOf_range (s : ByteArray) : ∀ c ∈ bytesOf s, 0 ≤ c ∧ c < 256 := by
  intro c hc
  obtain ⟨b, _, rfl⟩ := List.mem_map.1 hc
  have := b.toNat_lt
  omega
theorem drop_range (s : ByteArray) {k : Nat} {c : Int} {r : List Int} (h : (bytesOf s).drop k = c :: r) : 0 ≤ c ∧ c < 256 :=
  bytesOf_range s c (List.mem_of_mem_drop (h ▸ List.mem_cons_self))
theorem Own.len {w : World} {base : Nat} {v : Value} {l : List Int} (h : Own w base v l) (n : Nat) (hn : l.length = n) (W : World) : (Builtin.len_ #[30] 3 #[v]).run Tryz.prog W = .ok (.int .i64 (n : Int)) W := by
  obtain ⟨A, c, rfl, -⟩ := h.slice
  subst hn
  simp [Builtin.len_, run_underlying Tryz.underlying30, goInt]
/-- The reader's state. -/
def IpAt (s : ByteArray) (w : World) (out n sm i : Value) (wr : World) : Prop :=
  ∃ (k m : Nat) (b : Bool) (o : List Nat), i = .int .i64 k ∧ n = .int .i64 m ∧ sm = .bool b ∧ k ≤ s.size ∧ m < 256 ∧ ipOf (bytesOf s) = ipGo ((bytesOf s).drop k) o m b ∧ Own wr w.heap.size out (nums o) ∧ o.length ≤ 4 ∧ Below w.heap.size w wr
/-- What it returns. -/
def IpRet (s : ByteArray) (w : World) (e : Ending) (w' : World) : Prop :=
  ∃ v b, e = .returned (.tuple #[v, .bool b]) ∧ b = (ipOf (bytesOf s)).isSome ∧ (∀ res, ipOf (bytesOf s) = some res → Own w' w.heap.size v (nums res)) ∧ Below w.heap.size w w'
theorem ipRet_no {s : ByteArray} {w w' : World} {v : Value} (h : ipOf (bytesOf s) = none) (hb : Below w.heap.size w w') : IpRet s w (.returned (.tuple #[v, .bool false])) w' :=
  ⟨v, false, rfl, by rw [h]; rfl, (fun res e => by rw [h] at e; cases e), hb⟩
theorem ipRet_yes {s : ByteArray} {w w' : World} {v : Value} {res : List Nat} (h : ipOf (bytesOf s) = some res) (ho : Own w' w.heap.size v (nums res)) (hb : Below w.heap.size w w') : IpRet s w (.returned (.tuple #[v, .bool true])) w' :=
  ⟨v, true, rfl, by rw [h]; rfl, (fun res e => by rw [h] at e; obtain rfl := Option.some.inj e; exact ho), hb⟩
set_option maxHeartbeats 4000000 in
set_option maxRecDepth 100000 in
theorem address (s : ByteArray) (w : World) (hsz : s.size ≤ 2147483647) : Calls Tryz.prog 23 #[.string s] w (IpRet s w) := by
  go_enter Tryz.func23, Tryz.ntmps23
  go_wp2
  go_loopw [4, 5, 6, 7] (fun out n sm i wr => IpAt s w out n sm i wr ∨ ∃ o, i = .int .i64 (s.size + 1 : Nat) ∧ Own wr w.heap.size out (nums o) ∧ ipOf (bytesOf s) = (if o.length = 4 then some o else none) ∧ o.length ≤ 5 ∧ Below w.heap.size w wr) (fun _ _ _ i _ => s.size + 2 - (intOf i).toNat)
  case atStart =>
    refine .inl ⟨0, 0, false, [], rfl, rfl, rfl, Nat.zero_le _, by omega, rfl, ?_, by simp, (Below.refl _ _).alloc (Nat.le_refl _) _⟩
    exact Own.lit w w.heap.size [] (Nat.le_refl _) (by simp [maxLen])
  case round =>
    rcases hrel with hrel | ⟨o, rfl, hO, hip, hol, hb⟩
    · obtain ⟨k, m, b, o, rfl, rfl, rfl, hk, hm, hip, hO, hol, hb⟩ := hrel
      obtain ⟨wo, rfl⟩ : ∃ wo : World, wo = wr := ⟨_, rfl⟩
      have HO := Lib.hid hO
      have HB := Lib.hid hb
      have HI := Lib.hid hip
      have HM := Lib.hid hm
      have HL := Lib.hid hol
      have HS := Lib.hid hsz
      clear hO hb hip hsz hm hol
      have hlen := HO.out.len o.length (nums_length o)
      rcases hd : (bytesOf s).drop k with _ | ⟨c, r⟩
      · rw [hd] at HI
        obtain rfl := at_end s k hk hd
        have HI := Lib.hid (HI.out.trans (ipGo_nil o m b))
        clear hd hk
        cases b with
        | false =>
          have HR := Lib.hid (ipRet_no (v := .slice none 0 0) (by rw [HI.out]; rfl) HB.out)
          go_wp2
          go_ret2
          exact HR.out
        | true =>
          by_cases h4 : o.length = 4
          · have HR := Lib.hid (ipRet_no (v := .slice none 0 0) (by rw [HI.out]; simp [h4]) HB.out)
            go_wp2
            go_ret2
            exact HR.out
          · have H4 := Lib.hid h4
            have hne : ((o.length : Int) == 4) = false := by simp; omega
            have hm256 := HM.out
            clear h4
            go_wp2_with (at_builtin; refine wpList_append8 _ rfl _ _ rfl w.heap.size _ _ (nums o) [(m : Int)] rfl rfl (by exact HO.out.alloc _) (by exact rd_one _ _) (by have := HB.out.size; simp; omega) (by have := HL.out; rw [nums_length]; simp; omega) ?_)
            intro v1 w1 hO1 hg _
            have HB1 := Lib.hid (app_below HO.out HB.out (Nat.le_refl _) hg)
            have HO1 : Hid (Own w1 w.heap.size v1 (nums (o ++ [m]))) := by rw [nums_append]; exact hO1
            have hsz := HS.out
            clear hO1 hg
            go_wp2
            go_roundw
            case rel =>
              have H4 := H4.out
              refine .inr ⟨o ++ [m], by go_num, HO1.out, ?_, by have := HL.out; simp; omega, HB1.out⟩
              rw [HI.out]
              by_cases h3 : o.length = 3
              · simp [h3]
              · simp [h3]
            case measure => simp [intOf]
      · have hcr := drop_range s hd
        obtain ⟨hlt, hidx, hd1⟩ := at_char s k c r hd
        rw [hd] at HI
        have HI := Lib.hid (HI.out.trans (ipGo_cons c r o m b))
        have HD := Lib.hid hd1
        clear hd hk hd1
        by_cases hc : c = 46
        · subst hc
          clear hcr
          cases b with
          | false =>
            have HR := Lib.hid (ipRet_no (v := .slice none 0 0) (by rw [HI.out]; rfl) HB.out)
            go_wp2
            go_ret2
            exact HR.out
          | true =>
            by_cases h4 : o.length = 4
            · have HR := Lib.hid (ipRet_no (v := .slice none 0 0) (by rw [HI.out]; simp [h4]) HB.out)
              go_wp2
              go_ret2
              exact HR.out
            · have H4 := Lib.hid h4
              have hne : ((o.length : Int) == 4) = false := by simp; omega
              have hm256 := HM.out
              clear h4
              go_wp2_with (at_builtin; refine wpList_append8 _ rfl _ _ rfl w.heap.size _ _ (nums o) [(m : Int)] rfl rfl (by exact HO.out.alloc _) (by exact rd_one _ _) (by have := HB.out.size; simp; omega) (by have := HL.out; rw [nums_length]; simp; omega) ?_)
              intro v1 w1 hO1 hg _
              have HB1 := Lib.hid (app_below HO.out HB.out (Nat.le_refl _) hg)
              have HO1 : Hid (Own w1 w.heap.size v1 (nums (o ++ [m]))) := by rw [nums_append]; exact hO1
              have hsz := HS.out
              clear hO1 hg
              go_wp2
              go_roundw
              case rel =>
                have H4 := H4.out
                refine .inl ⟨k + 1, 0, false, o ++ [m], by go_num, rfl, rfl, hlt, by omega, ?_, HO1.out, by have := HL.out; simp; omega, HB1.out⟩
                rw [HI.out, HD.out]
                simp [H4]
              case measure => simp [intOf]; omega
        · have hne : (c == 46) = false := by simpa using hc
          have HC := Lib.hid hc
          clear hc
          by_cases hbad : c < 48 ∨ 57 < c ∨ (b = true ∧ m = 0)
          · have HR := Lib.hid (ipRet_no (v := .slice none 0 0) (by rw [HI.out, if_neg HC.out, if_pos hbad]) HB.out)
            by_cases hb1 : c < 48
            · clear hbad
              go_wp2
              go_ret2
              exact HR.out
            by_cases hb2 : 57 < c
            · clear hbad
              go_wp2
              go_ret2
              exact HR.out
            obtain ⟨rfl, rfl⟩ : b = true ∧ m = 0 := by rcases hbad with h | h | h <;> first | omega | exact h
            clear hbad
            go_wp2
            go_ret2
            exact HR.out
          · have h48 : 48 ≤ c := by omega
            have h57 : c ≤ 57 := by omega
            have hbm : b = true → ¬ m = 0 := fun e1 e2 => hbad (.inr (.inr ⟨e1, e2⟩))
            have HJ := Lib.hid (HI.out.trans ((if_neg HC.out).trans (if_neg hbad)))
            obtain ⟨m2, hm2⟩ : ∃ m2 : Nat, m2 = 10 * m + (c - 48).toNat := ⟨_, rfl⟩
            have hmi : (m2 : Int) = 10 * m + (c - 48) := by omega
            have hwr : IntKind.u8.wrap (c - 48) = c - 48 := by rw [IntKind.wrap_u8]; omega
            rw [← hm2] at HJ
            have HM2 := Lib.hid hm2
            have HMI := Lib.hid hmi
            have HBM := Lib.hid hbm
            have hm256 := HM.out
            clear hbad hcr hm2 hmi hbm
            cases b with
            | false =>
              by_cases hbig : 255 < m2
              · have HR := Lib.hid (ipRet_no (v := .slice none 0 0) (by rw [HJ.out, if_pos hbig]) HB.out)
                have hgt : 255 < (10 * (m : Int) + (c - 48)) := by rw [← HMI.out]; omega
                clear hbig
                go_wp2
                go_ret2
                exact HR.out
              · have HK := Lib.hid (HJ.out.trans (if_neg hbig))
                have hle : (10 * (m : Int) + (c - 48)) ≤ 255 := by rw [← HMI.out]; omega
                have hsz := HS.out
                clear hbig
                go_wp2
                go_roundw
                case rel =>
                  exact .inl ⟨k + 1, m2, true, o, by go_num, by rw [HMI.out], rfl, hlt, by have := HMI.out; omega, by rw [HK.out, HD.out], HO.out, HL.out, HB.out⟩
                case measure => simp [intOf]; omega
            | true =>
              have hz : ((m : Int) == 0) = false := by have := HBM.out rfl; simp; omega
              by_cases hbig : 255 < m2
              · have HR := Lib.hid (ipRet_no (v := .slice none 0 0) (by rw [HJ.out, if_pos hbig]) HB.out)
                have hgt : 255 < (10 * (m : Int) + (c - 48)) := by rw [← HMI.out]; omega
                clear hbig
                go_wp2
                go_ret2
                exact HR.out
              · have HK := Lib.hid (HJ.out.trans (if_neg hbig))
                have hle : (10 * (m : Int) + (c - 48)) ≤ 255 := by rw [← HMI.out]; omega
                have hsz := HS.out
                clear hbig
                go_wp2
                go_roundw
                case rel =>
                  exact .inl ⟨k + 1, m2, true, o, by go_num, by rw [HMI.out], rfl, hlt, by have := HMI.out; omega, by rw [HK.out, HD.out], HO.out, HL.out, HB.out⟩
                case measure => simp [intOf]; omega
    · have hlen := hO.len o.length (nums_length o)
      by_cases h4 : o.length = 4
      · rw [if_pos h4] at hip
        have HR := Lib.hid (ipRet_yes hip hO hb)
        clear hip hO hb hol
        go_wp2
        go_ret2
        exact HR.out
      · rw [if_neg h4] at hip
        have HR := Lib.hid (ipRet_no (v := u4) hip hb)
        have hne : ((o.length : Int) == 4) = false := by simp; omega
        clear hip hO hb hol h4
        go_wp2
        go_ret2
        exact HR.out
end Go.Proofs.YtpfmcdhmboclhaaGreatDoor
namespace Go.Proofs.YtpfmcdhmboclhaaGreatDoor
open Go.RowKit

/-- A row of four of which the first are set. -/
def Four (W : World) (g : Nat) (T : TypeId) (o : List Nat) : Prop := ∃ cs : Array Value, W.heap[g]? = some (.cells cs T (0, 0)) ∧ cs.size = 4 ∧ ∀ (j x : Nat), o[j]? = some x → cs[j]? = some (Value.int .u8 (x : Int))
theorem Four.cell {W : World} {g : Nat} {T : TypeId} {o : List Nat} (h : Four W g T o) (k : Nat) (hk : k < 4) : ∃ x, W.cell? ⟨g, k, none⟩ = some x := by
  obtain ⟨cs, h1, h2, -⟩ := h
  exact ⟨cs[k]'(by omega), by rw [Lib.cell_of_heap h1, Array.getElem?_eq_getElem]⟩
theorem Four.frozen {W : World} {g : Nat} {T : TypeId} {o : List Nat} (h : Four W g T o) (k : Nat) : W.frozen? ⟨g, k, none⟩ = false := by
  obtain ⟨cs, h1, h2, -⟩ := h
  exact Lib.frozen_of_heap h1 k
theorem Four.set {W : World} {g : Nat} {T : TypeId} {o : List Nat} (h : Four W g T o) (x : Nat) (ho : o.length < 4) : Four (W.setCell ⟨g, o.length, none⟩ (.int .u8 (x : Int))) g T (o ++ [x]) := by
  obtain ⟨cs, h1, h2, h3⟩ := h
  refine ⟨_, Lib.heap_setCell_same (i := o.length) h1 _, by rw [Array.size_setIfInBounds, h2], fun j y hj => ?_⟩
  rw [Array.getElem?_setIfInBounds]
  by_cases hjo : o.length = j
  · subst hjo
    rw [List.getElem?_append_right (Nat.le_refl _), Nat.sub_self] at hj
    obtain rfl := Option.some.inj hj
    rw [if_pos rfl, if_pos (by omega)]
  · rw [if_neg hjo]
    have hlt := (List.getElem?_eq_some_iff.1 hj).1
    rw [List.length_append, List.length_singleton] at hlt
    rw [List.getElem?_append_left (by omega)] at hj
    exact h3 j y hj
theorem Four.put {w W : World} {g : Nat} {T : TypeId} {o : List Nat} (h : Four W g T o) (ho : o.length = 4) (hk : Kp [g] w W) : Put w g T (nums o) W := by
  obtain ⟨cs, h1, h2, h3⟩ := h
  refine ⟨?_, hk⟩
  rw [h1]
  congr 2
  refine Array.ext_getElem? fun j => ?_
  by_cases hj : j < 4
  · rw [h3 j (o[j]'(by omega)) (List.getElem?_eq_getElem _)]
    simp [by8, nums, List.getElem?_eq_getElem (show j < o.length by omega)]
  · rw [Array.getElem?_eq_none (by omega), Array.getElem?_eq_none (by simp [by8, nums]; omega)]
/-- The state. -/
def FldAt (s : ByteArray) (res : List Nat) (w : World) (g : Nat) (T : TypeId) (v pos dl i : Value) (wr : World) : Prop :=
  ∃ (k m d : Nat) (o : List Nat), i = .int .i64 k ∧ v = .int .i64 m ∧ dl = .int .i64 d ∧ pos = .int .i64 o.length ∧ k ≤ s.size ∧ m < 256 ∧ d ≤ k ∧ (m = 0 → d ≤ 1) ∧
    ipGo ((bytesOf s).drop k) o m (decide (0 < d)) = some res ∧ Four wr g T o ∧ Kp [g] w wr ∧ (0 < d → ∃ k' c' r', k = k' + 1 ∧ (bytesOf s).drop k' = c' :: r' ∧ c' ≠ 46)
set_option maxHeartbeats 4000000 in
set_option maxRecDepth 100000 in
theorem ipFields (s : ByteArray) (res : List Nat) (g : Nat) (T : TypeId) (w : World) (hip : ipOf (bytesOf s) = some res) (hsz : s.size ≤ 2147483647) (h0 : Four w g T []) :
    Calls Tryz.prog 82 #[.string s, .int .i64 0, .int .i64 s.size, .slice (some ⟨g, 0, none⟩) 4 4] w fun e w' => e = .returned .nilIface ∧ Put w g T (nums res) w' := by
  have HIP := Lib.hid hip
  have H0 := Lib.hid h0
  clear hip h0
  go_enter Tryz.func82, Tryz.ntmps82
  go_wp2
  go_loopw [9, 10, 11, 13] (fun v pos dl i wr => FldAt s res w g T v pos dl i wr) (fun _ _ _ i _ => s.size + 2 - (intOf i).toNat)
  case atStart => exact ⟨0, 0, 0, [], rfl, rfl, rfl, rfl, Nat.zero_le _, by omega, by omega, by omega, HIP.out, H0.out, Kp.refl _ _, by omega⟩
  case round =>
    obtain ⟨k, m, d, o, rfl, rfl, rfl, rfl, hk, hm, hdk, hmd, hgo, hF, hkp, hprev⟩ := hrel
    obtain ⟨wo, rfl⟩ : ∃ wo : World, wo = wr := ⟨_, rfl⟩
    have HF := Lib.hid hF
    have HK := Lib.hid hkp
    have HM := Lib.hid hm
    have HMD := Lib.hid hmd
    have HDK := Lib.hid hdk
    have HP := Lib.hid hprev
    have HS := Lib.hid hsz
    clear hF hkp hm hmd hdk hprev hsz
    rcases hd : (bytesOf s).drop k with _ | ⟨c, r⟩
    · rw [hd, ipGo_nil] at hgo
      obtain rfl := at_end s k hk hd
      by_cases hs : decide (0 < d) = true ∧ o.length = 3
      · rw [if_pos hs] at hgo
        obtain rfl := Option.some.inj hgo
        obtain ⟨-, h3⟩ := hs
        obtain ⟨x, hx⟩ := HF.out.cell o.length (by omega)
        have hfr := HF.out.frozen o.length
        have HR : Hid (Put w g T (nums (o ++ [m])) (wo.setCell ⟨g, o.length, none⟩ (.int .u8 (m : Int)))) := (HF.out.set m (by omega)).put (by simp [h3]) (HK.out.setCell (.inl (by simp)) _)
        rw [h3] at HR hx hfr
        have hm := HM.out
        clear hd hk hgo
        go_wp2
        go_ret
        exact ⟨rfl, HR.out⟩
      · rw [if_neg hs] at hgo; cases hgo
    · have hcr := drop_range s hd
      obtain ⟨hlt, hidx, hd1⟩ := at_char s k c r hd
      have HDD := Lib.hid hd
      rw [hd, ipGo_cons] at hgo
      have HD := Lib.hid hd1
      clear hd hd1
      by_cases hc : c = 46
      · subst hc
        rw [if_pos rfl] at hgo
        by_cases hs : decide (0 < d) = true ∧ o.length ≠ 4
        · rw [if_pos hs] at hgo
          have hol := ipGo_len _ _ _ _ _ hgo
          rw [List.length_append, List.length_singleton] at hol
          have hd0 : 0 < d := by simpa using hs.1
          obtain ⟨k', c', r', hkk, hd', hc'⟩ := HP.out hd0
          obtain ⟨-, hidx0, -⟩ := at_char s k' c' r' hd'
          have hidx' : ∀ W, (Instr.index 9 (.string s) (.int .i64 ((k : Int) - 1))).run Tryz.prog W = .ok (.int .u8 c') W := by rw [show (k : Int) - 1 = (k' : Nat) by omega]; exact hidx0
          have hk0 : ((k : Int) == 0) = false := by simp; omega
          have hne : (c' == 46) = false := by simpa using hc'
          have hr : r ≠ [] := by
            rintro rfl
            rw [ipGo_nil] at hgo; simp at hgo
          have hlen : k + 1 < s.size := by
            rcases Nat.lt_or_ge (k + 1) s.size with h | h
            · exact h
            · exfalso
              apply hr
              rw [← HD.out]
              exact List.drop_eq_nil_iff.2 (by rw [bytesOf_length]; omega)
          obtain ⟨x, hx⟩ := HF.out.cell o.length (by omega)
          have hfr := HF.out.frozen o.length
          have HF1 : Hid (Four (wo.setCell ⟨g, o.length, none⟩ (.int .u8 (m : Int))) g T (o ++ [m])) := HF.out.set m (by omega)
          have HK1 : Hid (Kp [g] w (wo.setCell ⟨g, o.length, none⟩ (.int .u8 (m : Int)))) := HK.out.setCell (.inl (by simp)) _
          have hm := HM.out
          have hsz := HS.out
          have HG := Lib.hid hgo
          clear hgo hs hd0 hd' hc' hr hcr hidx0 hkk
          have hlen' : ((k : Int) == (s.size : Int) - 1) = false := by simp; omega
          clear hlen
          go_wp2
          go_roundw
          case rel => exact ⟨k + 1, 0, 0, o ++ [m], by go_num, rfl, rfl, by simp, hlt, by omega, by omega, by omega, by rw [HD.out]; exact HG.out, HF1.out, HK1.out, by omega⟩
          case measure => simp [intOf]; omega
        · rw [if_neg hs] at hgo; cases hgo
      · rw [if_neg hc] at hgo
        by_cases hbad : c < 48 ∨ 57 < c ∨ (decide (0 < d) = true ∧ m = 0)
        · rw [if_pos hbad] at hgo; cases hgo
        · rw [if_neg hbad] at hgo
          by_cases hbig : 255 < 10 * m + (c - 48).toNat
          · rw [if_pos hbig] at hgo; cases hgo
          · rw [if_neg hbig] at hgo
            obtain ⟨m2, hm2⟩ : ∃ m2 : Nat, m2 = 10 * m + (c - 48).toNat := ⟨_, rfl⟩
            rw [← hm2] at hgo hbig
            have h48 : 48 ≤ c := by omega
            have h57 : c ≤ 57 := by omega
            have hmi : (m : Int) * 10 + c - 48 = m2 := by omega
            have hle : (m : Int) * 10 + c - 48 ≤ 255 := by omega
            have HMI := Lib.hid hmi
            have HG := Lib.hid hgo
            have hne : (c == 46) = false := by simpa using hc
            have hdm : d = 1 → m ≠ 0 := fun e1 e2 => hbad (.inr (.inr ⟨by simp [e1], e2⟩))
            have HC := Lib.hid hc
            have HLE : Hid (m2 ≤ 255) := by have := hbig; exact Nat.le_of_not_lt this
            have hm := HM.out
            have hsz := HS.out
            have hdk := HDK.out
            clear hgo hbad hbig hm2 hc hmi hcr
            by_cases hd1 : d = 1
            · have hmz : ((m : Int) == 0) = false := by have := hdm hd1; simp; omega
              subst hd1
              clear hdm
              go_wp2
              go_roundw
              case rel => exact ⟨k + 1, m2, 2, o, by go_num, by rw [HMI.out], by go_num, rfl, hlt, by have := HLE.out; omega, by omega, by have := HMI.out; simp at hmz; omega, by rw [HD.out]; exact HG.out, HF.out, HK.out, fun _ => ⟨k, c, r, rfl, HDD.out, HC.out⟩⟩
              case measure => simp [intOf]; omega
            · have hdz : ((d : Int) == 1) = false := by simp; omega
              clear hdm hd1
              go_wp2
              go_roundw
              case rel => exact ⟨k + 1, m2, d + 1, o, by go_num, by rw [HMI.out], by go_num, rfl, hlt, by have := HLE.out; omega, by have := HDK.out; omega, by have := HMI.out; have := HMD.out; simp at hdz; omega, by rw [HD.out]; simpa using HG.out, HF.out, HK.out, fun _ => ⟨k, c, r, rfl, HDD.out, HC.out⟩⟩
              case measure => simp [intOf]; omega
end Go.Proofs.YtpfmcdhmboclhaaGreatDoor
namespace Go.Proofs.YtpfmcdhmboclhaaGreatDoor
open Go.RowKit

/-- The variables of net/netip that are read. -/
structure NetLaid (w : World) (z : Addr) : Prop where
  z0 : w.cell? ⟨1, 0, none⟩ = some (.pointer none)
  z4 : w.cell? ⟨7, 0, none⟩ = some (.pointer (some z))
  d0 : w.cell? z = some (.bool false)
  d1 : w.cell? ⟨z.block, z.off + 1, none⟩ = some (.string ⟨#[]⟩)
theorem NetLaid.below {w w' : World} {z : Addr} (h : NetLaid w z) (hb : Below w.heap.size w w') : NetLaid w' z := by
  have key : ∀ (p : Addr) (x : Value), w.cell? p = some x → w'.cell? p = some x := fun p x hx => by rw [World.cell?_of_block (w := w) (hb.block p.block (lt_of_cell hx))]; exact hx
  exact ⟨key _ _ h.z0, key _ _ h.z4, key _ _ h.d0, key _ _ h.d1⟩
theorem NetLaid.alloc {w : World} {z : Addr} (h : NetLaid w z) (o : Obj) : NetLaid (w.alloc o) z := h.below ((Below.refl _ _).alloc (Nat.le_refl _) o)
/-- The address as a number. -/
def ipNum (a b c d : Nat) : Int := 281470681743360 + (a : Int) * 16777216 + (b : Int) * 65536 + (c : Int) * 256 + (d : Int)
/-- The address as a value. -/
def ipV (z : Addr) (a b c d : Nat) : Value := .agg #[.int .u64 0, .int .u64 (ipNum a b c d), .pointer (some z)]
theorem or_low (x y k : Nat) (hy : y < 2 ^ k) (hx : 2 ^ k ∣ x) (hx2 : x < 2 ^ 63) (hk : k ≤ 40) : bits .or .u64 (x : Int) (y : Int) = x + y := by
  obtain ⟨q, rfl⟩ := hx
  have hy2 : y < 2 ^ 63 := Nat.lt_of_lt_of_le hy (Nat.pow_le_pow_right (by omega) (by omega))
  have h := (bits_nat .u64 64 (by decide) (fun n h0 h1 => by rw [IntKind.wrap_u64]; omega) (2 ^ k * q) y (by omega) (by omega)).2
  rw [h, ← Nat.two_pow_add_eq_or_of_lt hy]
  simp
set_option maxHeartbeats 4000000 in
set_option maxRecDepth 100000 in
theorem addrFrom4 (a b c d : Nat) (z : Addr) (w : World) (h : NetLaid w z) (ha : a < 256) (hb : b < 256) (hc : c < 256) (hd : d < 256) :
    Calls Tryz.prog 83 #[.agg #[.int .u8 a, .int .u8 b, .int .u8 c, .int .u8 d]] w fun e w' => e = .returned (ipV z a b c d) ∧ Below w.heap.size w w' := by
  have o1 : bits .or .u64 281470681743360 ((a : Int) * 16777216) = 281470681743360 + a * 16777216 := by
    have := or_low 281470681743360 (a * 16777216) 32 (by omega) (by decide) (by decide) (by omega); simpa using this
  have o2 : bits .or .u64 (281470681743360 + (a : Int) * 16777216) ((b : Int) * 65536) = 281470681743360 + a * 16777216 + b * 65536 := by
    have := or_low (281470681743360 + a * 16777216) (b * 65536) 24 (by omega) (by omega) (by omega) (by omega); simpa using this
  have o3 : bits .or .u64 (281470681743360 + (a : Int) * 16777216 + (b : Int) * 65536) ((c : Int) * 256) = 281470681743360 + a * 16777216 + b * 65536 + c * 256 := by
    have := or_low (281470681743360 + a * 16777216 + b * 65536) (c * 256) 16 (by omega) (by omega) (by omega) (by omega); simpa using this
  have o4 : bits .or .u64 (281470681743360 + (a : Int) * 16777216 + (b : Int) * 65536 + (c : Int) * 256) (d : Int) = 281470681743360 + a * 16777216 + b * 65536 + c * 256 + d := by
    have := or_low (281470681743360 + a * 16777216 + b * 65536 + c * 256) d 8 (by omega) (by omega) (by omega) (by omega); simpa using this
  have h7 : ∀ o o', ((w.alloc o).alloc o').cell? ⟨7, 0, none⟩ = some (.pointer (some z)) := fun o o' => ((h.alloc o).alloc o').z4
  have hv : ipV z a b c d = .agg #[.int .u64 0, .int .u64 (281470681743360 + (a : Int) * 16777216 + (b : Int) * 65536 + (c : Int) * 256 + (d : Int)), .pointer (some z)] := rfl
  have HV := Lib.hid hv
  clear h hv
  go_enter Tryz.func83, Tryz.ntmps83
  go_wp2
  go_returns
  exact ⟨by rw [HV.out], ((Below.refl _ _).alloc (Nat.le_refl _) _).alloc (by simp) _⟩
end Go.Proofs.YtpfmcdhmboclhaaGreatDoor
namespace Go.Proofs.YtpfmcdhmboclhaaGreatDoor
open Go.RowKit

theorem four_zero (w : World) (T : TypeId) (w' : World) (hb : Below (w.alloc (.cells #[.int .u8 0, .int .u8 0, .int .u8 0, .int .u8 0] T)).heap.size (w.alloc (.cells #[.int .u8 0, .int .u8 0, .int .u8 0, .int .u8 0] T)) w') : Four w' w.heap.size T [] :=
  ⟨_, (hb.block w.heap.size (by simp)).trans (heap_alloc_new w _), rfl, fun j x h => by simp at h⟩
set_option maxHeartbeats 4000000 in
set_option maxRecDepth 100000 in
theorem parseIPv4 (s : ByteArray) (a b c d : Nat) (z : Addr) (w : World) (h : NetLaid w z) (hip : ipOf (bytesOf s) = some [a, b, c, d]) (hsz : s.size ≤ 2147483647) (hd : a < 256 ∧ b < 256 ∧ c < 256 ∧ d < 256) :
    Calls Tryz.prog 64 #[.string s] w fun e w' => e = .returned (.tuple #[ipV z a b c d, .nilIface]) ∧ Below w.heap.size w w' := by
  have h4 := four_zero (w.alloc (.cells #[.int .u64 0, .int .u64 0, .pointer none] 112)) 166 _ (Below.refl _ _)
  rw [show (w.alloc (.cells #[.int .u64 0, .int .u64 0, .pointer none] 112)).heap.size = w.heap.size + 1 by simp] at h4
  have H := Lib.hid h
  have HI := Lib.hid hip
  have HD := Lib.hid hd
  have H4 := Lib.hid h4
  clear h hip hd h4
  go_enter Tryz.func64, Tryz.ntmps64
  go_wp2_with (go_at_call 82; refine (ipFields s [a, b, c, d] (w.heap.size + 1) 166 _ HI.out hsz H4.out).mono ?_; rintro e W1 ⟨rfl, hp⟩; refine Hid.out ?_)
  refine Lib.hid ?_
  obtain ⟨hp1, hp2⟩ := hp
  have hB : Below w.heap.size w W1 := (((Kp.refl [w.heap.size + 1] w).alloc _).alloc _ |>.trans (hp2.mono (fun _ _ h => h))).below (Nat.le_refl _) (by simp)
  have hN := H.out.below hB
  have hr : W1.heap[w.heap.size]? = some (.cells #[.int .u64 0, .int .u64 0, .pointer none] 112 (0, 0)) := by
    rw [hp2.block w.heap.size (by simp; omega) (by simp)]
    rw [Below.heap_alloc _ _ _ (by simp)]
    exact heap_alloc_new w _
  have e0 : W1.cell? ⟨w.heap.size + 1, 0, none⟩ = some (.int .u8 a) := by rw [Lib.cell_of_heap hp1]; rfl
  have e1 : W1.cell? ⟨w.heap.size + 1, 1, none⟩ = some (.int .u8 b) := by rw [Lib.cell_of_heap hp1]; rfl
  have e2 : W1.cell? ⟨w.heap.size + 1, 2, none⟩ = some (.int .u8 c) := by rw [Lib.cell_of_heap hp1]; rfl
  have e3 : W1.cell? ⟨w.heap.size + 1, 3, none⟩ = some (.int .u8 d) := by rw [Lib.cell_of_heap hp1]; rfl
  have HN := Lib.hid hN
  have HB := Lib.hid hB
  have HR := Lib.hid hr
  clear hp1 hp2 hB hN hr
  go_wp2_with (go_at_call 83; refine (addrFrom4 a b c d z _ HN.out HD.out.1 HD.out.2.1 HD.out.2.2.1 HD.out.2.2.2).mono ?_; rintro e W2 ⟨rfl, hb2⟩; refine Hid.out ?_)
  refine Lib.hid ?_
  have hr2 : W2.heap[w.heap.size]? = some (.cells #[.int .u64 0, .int .u64 0, .pointer none] 112 (0, 0)) := by
    rw [hb2.block w.heap.size (Lib.lt_of_heap HR.out)]; exact HR.out
  have f0 : W2.cell? ⟨w.heap.size, 0, none⟩ = some (.int .u64 0) := by rw [Lib.cell_of_heap hr2]; rfl
  have f1 : W2.cell? ⟨w.heap.size, 1, none⟩ = some (.int .u64 0) := by rw [Lib.cell_of_heap hr2]; rfl
  have f2 : W2.cell? ⟨w.heap.size, 2, none⟩ = some (.pointer none) := by rw [Lib.cell_of_heap hr2]; rfl
  have g0 : ∀ i, W2.frozen? ⟨w.heap.size, i, none⟩ = false := fun i => Lib.frozen_of_heap hr2 i
  have hr3 := Lib.heap_setCell_same (i := 2) (Lib.heap_setCell_same (i := 1) (Lib.heap_setCell_same (i := 0) hr2 (.int .u64 0)) (.int .u64 (ipNum a b c d))) (.pointer (some z))
  obtain ⟨W3, hW3⟩ : ∃ W3, W3 = ((W2.setCell ⟨w.heap.size, 0, none⟩ (.int .u64 0)).setCell ⟨w.heap.size, 1, none⟩ (.int .u64 (ipNum a b c d))).setCell ⟨w.heap.size, 2, none⟩ (.pointer (some z)) := ⟨_, rfl⟩
  rw [← hW3] at hr3
  have k0 : W3.cell? ⟨w.heap.size, 0, none⟩ = some (.int .u64 0) := by rw [Lib.cell_of_heap hr3]; rfl
  have k1 : W3.cell? ⟨w.heap.size, 1, none⟩ = some (.int .u64 (ipNum a b c d)) := by rw [Lib.cell_of_heap hr3]; rfl
  have k2 : W3.cell? ⟨w.heap.size, 2, none⟩ = some (.pointer (some z)) := by rw [Lib.cell_of_heap hr3]; rfl
  have HW3 := Lib.hid hW3
  have HB2 : Hid (Below w.heap.size w W2) := HB.out.trans (hb2.mono HB.out.size)
  clear hr2 hb2 hr3 hW3
  simp only [ipV]
  go_wp2
  rw [← HW3.out]
  try simp only [Exit.inBlock, Exit.then]
  refine bodyPost_ret (v := .tuple #[ipV z a b c d, .nilIface]) (by simp [results, Tryz.results64, go_sem, k0, k1, k2, ipV]) rfl ?_
  refine ⟨rfl, ?_⟩
  rw [HW3.out]
  exact (((HB2.out.setCell (Nat.le_refl _) _).setCell (Nat.le_refl _) _).setCell (Nat.le_refl _) _)
/-- An address is stored. -/
theorem ip_store {W2 W3 : World} {g : Nat} {x0 x1 x2 y0 y1 y2 : Value} (h : W2.heap[g]? = some (.cells #[x0, x1, x2] 112 (0, 0))) (hW : W3 = ((W2.setCell ⟨g, 0, none⟩ y0).setCell ⟨g, 1, none⟩ y1).setCell ⟨g, 2, none⟩ y2) :
    W3.heap[g]? = some (.cells #[y0, y1, y2] 112 (0, 0)) ∧ W3.cell? ⟨g, 0, none⟩ = some y0 ∧ W3.cell? ⟨g, 1, none⟩ = some y1 ∧ W3.cell? ⟨g, 2, none⟩ = some y2 ∧ Kp [g] W2 W3 := by
  have hr3 := Lib.heap_setCell_same (i := 2) (Lib.heap_setCell_same (i := 1) (Lib.heap_setCell_same (i := 0) h y0) y1) y2
  rw [← hW] at hr3
  refine ⟨hr3, by rw [Lib.cell_of_heap hr3]; rfl, by rw [Lib.cell_of_heap hr3]; rfl, by rw [Lib.cell_of_heap hr3]; rfl, ?_⟩
  rw [hW]
  exact (((Kp.refl _ _).setCell (.inl (by simp)) _).setCell (.inl (by simp)) _).setCell (.inl (by simp)) _
theorem ip_cells {W : World} {g : Nat} {x0 x1 x2 : Value} (h : W.heap[g]? = some (.cells #[x0, x1, x2] 112 (0, 0))) : W.cell? ⟨g, 0, none⟩ = some x0 ∧ W.cell? ⟨g, 1, none⟩ = some x1 ∧ W.cell? ⟨g, 2, none⟩ = some x2 ∧ ∀ i, W.frozen? ⟨g, i, none⟩ = false :=
  ⟨by rw [Lib.cell_of_heap h]; rfl, by rw [Lib.cell_of_heap h]; rfl, by rw [Lib.cell_of_heap h]; rfl, fun i => Lib.frozen_of_heap h i⟩
/-- The reader stands within the figures of the first number. -/
def DotAt (s : ByteArray) (i : Value) : Prop := ∃ (k : Nat) (q r : List Int), i = .int .i64 k ∧ k ≤ s.size ∧ (bytesOf s).drop k = q ++ 46 :: r ∧ ∀ c ∈ q, 48 ≤ c ∧ c ≤ 57
set_option maxHeartbeats 4000000 in
set_option maxRecDepth 100000 in
theorem parseAddr (s : ByteArray) (a b c d : Nat) (z : Addr) (w : World) (h : NetLaid w z) (hip : ipOf (bytesOf s) = some [a, b, c, d]) (hsz : s.size ≤ 2147483647) :
    Calls Tryz.prog 47 #[.string s] w fun e w' => e = .returned (.tuple #[ipV z a b c d, .nilIface]) ∧ Below w.heap.size w w' := by
  obtain ⟨a', b', c', d', he, ht, hlt⟩ := ipOf_text hip
  obtain ⟨rfl, rfl, rfl, rfl⟩ : a' = a ∧ b' = b ∧ c' = c ∧ d' = d := by simpa using he.symm
  have hst : DotAt s (.int .i64 0) := by
    refine ⟨0, figs a', figs b' ++ text [c', d'], rfl, Nat.zero_le _, ?_, figs_range a'⟩
    rw [List.drop_zero, ht, text_cons, List.tail_cons, text_cons]
  have H := Lib.hid h
  have HI := Lib.hid hip
  have HD := Lib.hid hlt
  have HST := Lib.hid hst
  clear h hip hlt he ht hst
  go_enter Tryz.func47, Tryz.ntmps47
  go_wp2
  go_loop [4] (fun i => DotAt s i) (fun i => s.size - (intOf i).toNat)
  case atStart => exact HST.out
  case round =>
    obtain ⟨k, q, r, rfl, hk, hd, hq⟩ := hrel
    rcases q with _ | ⟨ch, q⟩
    · obtain ⟨hlt, hidx, -⟩ := at_char s k 46 r hd
      clear hd hq hk
      have HN : Hid (NetLaid (w.alloc (.cells #[.int .u64 0, .int .u64 0, .pointer none] 112)) z) := H.out.alloc _
      go_wp2_with (go_at_call 64; refine (parseIPv4 s a' b' c' d' z _ HN.out HI.out hsz HD.out).mono ?_; rintro e W2 ⟨rfl, hb2⟩; refine Hid.out ?_)
      refine Lib.hid ?_
      have hr2 : W2.heap[w.heap.size]? = some (.cells #[.int .u64 0, .int .u64 0, .pointer none] 112 (0, 0)) := by
        rw [hb2.block w.heap.size (by simp)]; exact heap_alloc_new w _
      obtain ⟨f0, f1, f2, g0⟩ := ip_cells hr2
      obtain ⟨W3, hW3⟩ : ∃ W3, W3 = ((W2.setCell ⟨w.heap.size, 0, none⟩ (.int .u64 0)).setCell ⟨w.heap.size, 1, none⟩ (.int .u64 (ipNum a' b' c' d'))).setCell ⟨w.heap.size, 2, none⟩ (.pointer (some z)) := ⟨_, rfl⟩
      obtain ⟨-, k0, k1, k2, k3⟩ := ip_store hr2 hW3
      have HW3 := Lib.hid hW3
      have HB3 : Hid (Below w.heap.size w W3) := (((Below.refl _ _).alloc (Nat.le_refl _) _).trans (hb2.mono (by simp))).trans (k3.below (by have := hb2.size; simp at this; omega) (by simp))
      clear hr2 hb2 hW3 k3
      simp only [ipV]
      go_wp2
      rw [← HW3.out]
      try simp only [Exit.inBlock, Exit.then]
      refine bodyPost_ret (v := .tuple #[ipV z a' b' c' d', .nilIface]) (by simp [results, Tryz.results47, go_sem, k0, k1, k2, ipV]) rfl ?_
      exact ⟨rfl, HB3.out⟩
    · have hcr := hq ch (by simp)
      obtain ⟨hlt, hidx, hd1⟩ := at_char s k ch (q ++ 46 :: r) hd
      have n1 : (ch == 46) = false := by simp; omega
      have n2 : (ch == 58) = false := by simp; omega
      have n3 : (ch == 37) = false := by simp; omega
      have HQ : Hid (∀ c ∈ q, 48 ≤ c ∧ c ≤ 57) := fun c hc => hq c (by simp [hc])
      have HDD := Lib.hid hd1
      clear hd hd1 hq hk hcr
      go_wp2
      go_round
      case rel => exact ⟨k + 1, q, r, by go_num, hlt, HDD.out, HQ.out⟩
      case measure => simp [intOf]; omega
theorem eqp_none (z : Addr) (W : World) : (Op.equalIn 9999 108 (.pointer (some z)) (.pointer none)).run Tryz.prog W = .ok false W := by kernel_rfl
theorem field142 (W : World) : (Instr.field 142 (.agg #[.bool false, .string ⟨#[]⟩]) 1).run Tryz.prog W = .ok (.string ⟨#[]⟩) W := by kernel_rfl
end Go.Proofs.YtpfmcdhmboclhaaGreatDoor
