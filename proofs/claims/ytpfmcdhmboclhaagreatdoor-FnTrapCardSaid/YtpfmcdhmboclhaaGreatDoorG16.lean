/- gosnmp: a list of variables is read. -/
import Derived.Deep.RegionLaw
import Derived.Test.YtpfmcdhmboclhaaGreatDoorG15
set_option linter.unusedVariables false
set_option linter.unusedSimpArgs false
namespace Go.Proofs.YtpfmcdhmboclhaaGreatDoor
open Go.RowKit

/-- The cells of variables that were read. -/
def decC (l : List AV) (vs : List Value) : List Value := (l.zip vs).flatMap fun q => [q.2, .string (dot q.1.arcs), .int .u8 q.1.pay.typ]
theorem decC_snoc {l : List AV} {vs : List Value} (h : l.length = vs.length) (x : AV) (v : Value) : decC (l ++ [x]) (vs ++ [v]) = decC l vs ++ [v, .string (dot x.arcs), .int .u8 x.pay.typ] := by
  simp [decC, List.zip_append h]
/-- What variables are told as. -/
structure DecRow (G : World → Prop) (l : List AV) (vs : List Value) : Prop where
  len : l.length = vs.length
  each : ∀ (i : Nat) (x : AV) (v : Value), l[i]? = some x → vs[i]? = some v → ∀ W, G W → DecV W x.pay v
theorem DecRow.nil (G : World → Prop) : DecRow G [] [] := ⟨rfl, fun i x v h => by simp at h⟩
theorem DecRow.snoc {G : World → Prop} {l : List AV} {vs : List Value} (h : DecRow G l vs) (x : AV) (v : Value) (hv : ∀ W, G W → DecV W x.pay v) : DecRow G (l ++ [x]) (vs ++ [v]) := by
  refine ⟨by simp [h.len], fun i y u hy hu => ?_⟩
  by_cases hi : i < l.length
  · rw [List.getElem?_append_left hi] at hy
    rw [List.getElem?_append_left (by rw [← h.len]; exact hi)] at hu
    exact h.each i y u hy hu
  · rw [List.getElem?_append_right (by omega)] at hy
    rw [List.getElem?_append_right (by rw [← h.len]; omega), ← h.len] at hu
    have hi0 : i - l.length = 0 := by
      have := (List.getElem?_eq_some_iff.1 hy).1
      simpa using this
    rw [hi0] at hy hu
    simp at hy hu
    subst hy hu
    exact hv
theorem DecV.shape {w : World} {p : Pay} {v : Value} (h : DecV w p v) : v = .nilIface ∨ ∃ t u, v = .iface t u := by
  cases p with
  | str s => obtain ⟨x, rfl, -⟩ := h; exact .inr ⟨_, _, rfl⟩
  | nul t => exact .inl h
  | int n => exact .inr ⟨_, _, h⟩
  | oid s arcs => exact .inr ⟨_, _, h⟩
  | ip s a b c d => exact .inr ⟨_, _, h⟩
  | u32 t n =>
    have h : v = if t = 67 then .iface 22 (.int .u32 n) else .iface 24 (.int .u64 n) := h
    split at h
    · exact .inr ⟨_, _, h⟩
    · exact .inr ⟨_, _, h⟩
  | u64 n => exact .inr ⟨_, _, h⟩
/-- A packet's cells, its variables left open. -/
structure Pk (f : Value → Array Value) : Prop where
  get : ∀ v, (f v)[10]? = some v
  set : ∀ u v, (f u).setIfInBounds 10 v = f v
/-- The state of the loop. -/
structure VblAt (G : World → Prop) (X : List Nat) (base : Nat) (w : World) (f : Value → Array Value) (pk wd h0 : Nat) (l done rest : List AV) (vs : List Value) (vp : Value) (off : Value) (wr : World) : Prop where
  split : l = done ++ rest
  off : off = .int .i64 (h0 + (varsB done wd).length : Nat)
  pkt : wr.heap[pk]? = some (.cells (f vp) 52 (0, 0))
  own : OwnC 56 3 wr base vp done.length (decC done vs)
  row : DecRow G done vs
  kp : Kp X w wr
  inv : ∀ q, vp.ownBlock = some q → q ∈ X ∨ w.heap.size ≤ q
/-- What unmarshalVBL returns. -/
def RetVbl (G : World → Prop) (X : List Nat) (base : Nat) (w : World) (f : Value → Array Value) (pk : Nat) (l : List AV) (e : Ending) (w' : World) : Prop :=
  e = .returned .nilIface ∧ ∃ vs vp, w'.heap[pk]? = some (.cells (f vp) 52 (0, 0)) ∧ OwnC 56 3 w' base vp l.length (decC l vs) ∧ DecRow G l vs ∧ Kp X w w'
theorem partTo {W W' : World} {g : Nat} (hg : W.heap[g]? = some (.cells #[] 68 (0, 0))) (hb : Below W.heap.size W W') : (partAt ⟨g, 0, none⟩ 0 0).run Tryz.prog W' = .ok ⟨g, 0, none⟩ W' := run_part _ g ((hb.block g (Lib.lt_of_heap hg)).trans hg)
theorem varsB_cons (x : AV) (q : List AV) (w : Nat) : varsB (x :: q) w = varB x.arcs x.pay w ++ varsB q w := by simp [varsB]
theorem varsB_append (a b : List AV) (w : Nat) : varsB (a ++ b) w = varsB a w ++ varsB b w := by simp [varsB]
set_option maxHeartbeats 64000000 in
set_option maxRecDepth 100000 in
theorem unmarshalVBL (G : World → Prop) (X : List Nat) (base : Nat) (vp0 : Value) (w : World) (b o n c g pk wd : Nat) (f : Value → Array Value) (l : List AV) (z : Addr) (hl : l.length ≤ 20) (hok : ∀ x ∈ l, x.Ok) (hwd : wd ≤ 2) (hn : (sealB 48 (varsB l wd) wd).length = n) (hnc : n ≤ c) (hc : c ≤ 9223372036854775807 ∧ n ≤ 1000000)
    (hf : Pk f) (hX : pk ∈ X) (hpb : pk < base) (hbw : base ≤ w.heap.size) (hO0 : OwnC 56 3 w base vp0 0 []) (hinv0 : ∀ q, vp0.ownBlock = some q → q ∈ X ∨ w.heap.size ≤ q) (hG : ∀ W, Kp X w W → G W) (hzG : ∀ W, G W → NetLaid W z) (htG : ∀ W, G W → Tab W) (haG : ∀ W, G W → AsnLaid W) (hgG : ∀ W, G W → W.heap[g]? = some (.cells #[] 68 (0, 0)))
    (hatG : ∀ W, G W → At W b o (sealB 48 (varsB l wd) wd)) (hpk : w.heap[pk]? = some (.cells (f vp0) 52 (0, 0))) :
    Calls Tryz.prog 81 #[.pointer (some ⟨g, 0, none⟩), .slice (some ⟨b, o, none⟩) n c, .pointer (some ⟨pk, 0, none⟩)] w (RetVbl G X base w f pk l) := by
  have hvl := varsB_length l wd hwd hok
  obtain ⟨k, hk⟩ : ∃ k, k = (varsB l wd).length := ⟨_, rfl⟩
  obtain ⟨ho, hh⟩ : ∃ ho, ho = hdr k wd := ⟨_, rfl⟩
  have hN : n = k + ho := by rw [← hn, hh, hk]; exact sealB_len _ _ _
  have hk16 : k < 65536 := by omega
  have hh2 : 2 ≤ ho := by rw [hh]; exact hdr_ge k wd
  have hwG := hG w (Kp.refl _ _)
  have hat := hatG w hwG
  rw [sealB, ← hk] at hat
  have c0 : w.cell? ⟨b, o, none⟩ = some (.int .u8 48) := hat.head
  have HL := Lib.hid (parseLength w b o n c k wd 48 (varsB l wd) hk16 hwd hat (by rw [← hh]; omega) hnc hc)
  rw [← hh, ← hN] at HL
  have hp0 := run_part w g (hgG w hwG)
  have c1 : n = 2 → w.cell? ⟨b, o + 1, none⟩ = some (.int .u8 0) := by
    intro h2
    have hk0 : k = 0 := by omega
    have hh0 : hdr 0 wd = 2 := by rw [← hk0, ← hh]; omega
    have hw0 : wd = 0 := by
      rcases Nat.eq_zero_or_pos wd with h | h
      · exact h
      · exfalso
        unfold hdr lenB at hh0
        rw [if_neg (by omega), be_zero] at hh0
        simp at hh0
        omega
    refine hat.cell 1 0 ?_
    rw [hk0, hw0]; rfl
  have hl0 : n = 2 → l = [] := by
    intro h2
    have hk0 : k = 0 := by omega
    rcases l with _ | ⟨x, q⟩
    · rfl
    · rw [varsB_cons] at hk
      have : 0 < (varB x.arcs x.pay wd).length := by unfold varB sealB; simp
      simp at hk
      omega
  have HATC : Hid (∀ W, G W → At W b (o + ho) (varsB l wd)) := by
    intro W hW
    have h1 := hatG W hW
    have : At W b o (48 :: (lenB (varsB l wd).length wd ++ (varsB l wd ++ []))) := by rw [List.append_nil]; exact h1
    rw [hh, hk]; exact this.con
  have HF := Lib.hid hf
  have HX := Lib.hid hX
  have HO0 := Lib.hid hO0
  have HINV0 := Lib.hid hinv0
  clear hX hO0 hinv0
  have HG := Lib.hid hG
  have HZ := Lib.hid hzG
  have HT := Lib.hid htG
  have HA := Lib.hid haG
  have HGG := Lib.hid hgG
  have HOK := Lib.hid hok
  have HPK := Lib.hid hpk
  have HK := Lib.hid hk
  have HN := Lib.hid hN
  have HLL := Lib.hid hl
  have hn2 : 2 ≤ n := by omega
  clear hf hG hzG htG haG hgG hatG hat hok hpk hk hN hh hn hwG hvl hl
  have hd : decide ((n : Int) < 0) = false := by simp
  have hd0 : ((n : Int) == 0) = false := by simp; omega
  go_enter Tryz.func81, Tryz.ntmps81
  go_wp2_with (go_at_call 76; refine (HL.out).mono ?_; rintro e W1 ⟨rfl, rfl⟩; refine Hid.out ?_)
  refine Lib.hid ?_
  by_cases h2 : n = 2
  · have c1' := c1 h2
    have HL0 := Lib.hid (hl0 h2)
    clear c1 hl0
    subst h2
    go_wp2_with (go_at_call 61; refine (printf _ _ _).mono ?_; rintro e W2 ⟨rfl, hb2⟩; refine Hid.out ?_)
    refine Lib.hid ?_
    have hB : Below W1.heap.size W1 W2 := ((Below.refl _ _).alloc (Nat.le_refl _) _).trans (hb2.mono (by simp))
    have c2 : W2.cell? ⟨b, o + 1, none⟩ = some (.int .u8 0) := cellB hB c1'
    have HR : Hid (RetVbl G X base W1 f pk l (.returned .nilIface) W2) := by
      refine ⟨rfl, [], _, (hB.block _ (Lib.lt_of_heap HPK.out)).trans HPK.out, ?_, ?_, Kp.of_below hB X⟩
      · rw [HL0.out]; exact HO0.out.below hB
      · rw [HL0.out]; exact DecRow.nil G
    clear hb2 hB
    go_wp2
    go_ret
    exact HR.out
  · clear c1 hl0 HL
    have h2d : ((n : Int) == 2) = false := by simp; omega
    go_wp2_with (go_at_call 61; refine (printf _ _ _).mono ?_; rintro e W2 ⟨rfl, hb2⟩; refine Hid.out ?_)
    refine Lib.hid ?_
    have HB2 : Hid (Below W1.heap.size W1 W2) := ((Below.refl _ _).alloc (Nat.le_refl _) _).trans (hb2.mono (by simp))
    clear hb2 hp0 c0
    go_wp2
    go_loopw [7] (fun off wr => ∃ done rest vs vp, VblAt G X base W1 f pk wd ho l done rest vs vp off wr) (fun off _ => n - (intOf off).toNat)
    case atStart =>
      refine ⟨[], l, [], vp0, rfl, by simp [varsB], (HB2.out.block _ (Lib.lt_of_heap HPK.out)).trans HPK.out, HO0.out.below HB2.out, DecRow.nil G, Kp.of_below HB2.out X, HINV0.out⟩
    case round =>
      obtain ⟨done, rest, vs, vp, e1, e2, e3, e4, e5, e6, e7⟩ := hrel
      obtain ⟨wo, rfl⟩ : ∃ wo : World, wo = wr := ⟨_, rfl⟩
      obtain ⟨j, hj⟩ : ∃ j, j = ho + (varsB done wd).length := ⟨_, rfl⟩
      rw [← hj] at e2
      subst e2
      have HSP := Lib.hid e1
      have HP := Lib.hid e3
      have HO := Lib.hid e4
      have HRW := Lib.hid e5
      have HKP := Lib.hid e6
      have HINV := Lib.hid e7
      have HJ := Lib.hid hj
      have hgo : wo.heap[g]? = some (.cells #[] 68 (0, 0)) := HGG.out wo (HG.out wo e6)
      clear e1 e3 e4 e5 e6 e7 hj
      rcases rest with _ | ⟨x, q⟩
      · have hld : done = l := by rw [HSP.out]; simp
        have hjn : j = n := by rw [HJ.out, HN.out, HK.out, hld]; omega
        have HRET : Hid (RetVbl G X base W1 f pk l (.returned .nilIface) wo) := ⟨rfl, vs, vp, HP.out, by have := HO.out; rwa [hld] at this, by have := HRW.out; rwa [hld] at this, HKP.out⟩
        clear hld hgo
        subst hjn
        go_wp2
        go_ret
        exact HRET.out
      · obtain ⟨c6, hc6⟩ : ∃ c6, c6 = sealB 6 (nameB x.arcs) wd := ⟨_, rfl⟩
        obtain ⟨cv, hcv⟩ : ∃ cv, cv = sealB x.pay.typ x.pay.con wd := ⟨_, rfl⟩
        have hxok : x.Ok := HOK.out x (by rw [HSP.out]; simp)
        have hvb : varB x.arcs x.pay wd = sealB 48 (c6 ++ cv) wd := by rw [hc6, hcv]; rfl
        have hvl := varB_length x.arcs x.pay wd hxok.nm.good hxok.pay hwd
        obtain ⟨L6, hL6⟩ : ∃ L6, L6 = c6.length := ⟨_, rfl⟩
        obtain ⟨LV, hLV⟩ : ∃ LV, LV = cv.length := ⟨_, rfl⟩
        obtain ⟨h1, hh1⟩ : ∃ h1, h1 = hdr (c6 ++ cv).length wd := ⟨_, rfl⟩
        obtain ⟨L, hLL⟩ : ∃ L, L = (c6 ++ cv).length + h1 := ⟨_, rfl⟩
        have hL : (varB x.arcs x.pay wd).length = L := by rw [hvb, sealB_len, hLL, hh1]
        rw [hL] at hvl
        have hL3 : L = L6 + LV + h1 := by rw [hLL, List.length_append, hL6, hLV]
        have hall : varsB l wd = varsB done wd ++ (sealB 48 (c6 ++ cv) wd ++ varsB q wd) := by rw [HSP.out, varsB_append, varsB_cons, hvb]
        have hjl : j + L ≤ n := by
          have e1 := HK.out
          rw [hall, List.length_append, List.length_append, ← hvb, hL] at e1
          have := HN.out
          have := HJ.out
          omega
        have hh12 : 2 ≤ h1 := by rw [hh1]; exact hdr_ge _ _
        have hL61 : 2 ≤ L6 := by rw [hL6, hc6]; unfold sealB; have := hdr_ge (nameB x.arcs).length wd; unfold hdr at this; simp; omega
        have hLV1 : 2 ≤ LV := by rw [hLV, hcv]; unfold sealB; have := hdr_ge x.pay.con.length wd; unfold hdr at this; simp; omega
        have hatj : ∀ W, G W → At W b (o + j) (48 :: (lenB (c6 ++ cv).length wd ++ ((c6 ++ cv) ++ varsB q wd))) := by
          intro W hW
          have h1 := HATC.out W hW
          rw [hall] at h1
          have h2 := h1.right
          rw [Nat.add_assoc, ← HJ.out] at h2
          simpa [sealB] using h2
        have hatc : ∀ W, G W → At W b (o + j + h1) (c6 ++ cv) := fun W hW => by rw [hh1]; exact (hatj W hW).con
        have HAC := Lib.hid hatc
        have hwo := HG.out wo HKP.out
        have d0 : wo.cell? ⟨b, o + j, none⟩ = some (.int .u8 48) := (hatj wo hwo).head
        have hcj : c ≠ j := by omega
        have HL := Lib.hid (parseLength wo b (o + j) (n - j) (c - j) (c6 ++ cv).length wd 48 ((c6 ++ cv) ++ varsB q wd) (by omega) hwd (hatj wo hwo) (by rw [← hh1]; omega) (by omega) (by omega))
        rw [← hh1, ← hLL] at HL
        have HC6 := Lib.hid hc6
        have HCV := Lib.hid hcv
        have HXO := Lib.hid hxok
        have HL6 := Lib.hid hL6
        have HLV := Lib.hid hLV
        have HL3 := Lib.hid hL3
        have hjn : j < n := by omega
        have hb1 : h1 ≤ L := by omega
        have hb2 : h1 + L6 ≤ L := by omega
        have hb3 : h1 + L6 + 2 ≤ L := by omega
        have hj1 : j + h1 ≤ n := by omega
        have hcj1 : c ≠ j + h1 := by omega
        have HFD : Hid (∀ a m cc msg, a = o + j + h1 → L6 ≤ m → m ≤ cc → cc ≤ 9223372036854775807 ∧ m ≤ 1000000 → Calls Tryz.prog 60 #[.agg #[], .slice (some ⟨b, a, none⟩) m cc, .string msg] wo.drew (RetF wo.drew (.iface 9 (.string (dot x.arcs))) L6)) := by
          intro a m cc msg ha hm hmc hcc
          have hat6 : At wo.drew b a (sealB 6 (nameB x.arcs) wd ++ cv) := by rw [ha, ← hc6]; exact hatc wo.drew (HG.out _ HKP.out.drew)
          have := field_6 wo.drew b a m cc wd msg x.arcs cv hxok.nm.good (HT.out _ (HG.out _ HKP.out.drew)) hwd hat6 (by rw [← hc6, ← hL6]; exact hm) hmc hcc
          rw [← hc6, ← hL6] at this
          exact this
        have HGO := Lib.hid hgo
        clear hL3 hgo
        have HVBL := Lib.hid hL
        clear hatj hatc hwo hall hvb hL hLL hh1 hL6 hLV hc6 hcv hxok
        go_wp2_with (go_at_call 76; refine (HL.out).mono ?_; rintro e W2 ⟨rfl, hw2⟩; refine Hid.out ?_)
        refine Lib.hid ?_
        subst hw2
        clear HL
        go_upto_region 27 with fail
        go_region_held (fun W => (partAt ⟨g, 0, none⟩ 0 0).run Tryz.prog W = .ok ⟨g, 0, none⟩ W) (first | exact run_part _ g HGO.out | exact partTo (W := W2.drew) HGO.out hbT) (first | (go_at_call 60; refine (HFD.out _ _ _ _ (by omega) (by omega) (by omega) (by omega)).mono ?_; rintro e WT ⟨rfl, hbT⟩))
        rename_i hHeld
        have hKT : Kp X W1 WT := HKP.out.drew.add hbT
        have hPT : WT.heap[pk]? = some (.cells (f vp) 52 (0, 0)) := (hbT.block pk (Lib.lt_of_heap HP.out)).trans HP.out
        have hOT : OwnC 56 3 WT base vp done.length (decC done vs) := OwnC.below (w := W2.drew) HO.out hbT
        have hta := ta_9_9 (.string (dot x.arcs))
        have HKT := Lib.hid hKT
        have HPT := Lib.hid hPT
        have HOT := Lib.hid hOT
        clear hbT hKT hPT hOT HKP HP HO HFD HGO d0
        go_wp2_with (go_at_call 61; refine (printf _ _ _).mono ?_; rintro e W3 ⟨rfl, hb3⟩; refine Hid.out ?_)
        refine Lib.hid ?_
        have hB3 : Below WT.heap.size WT W3 := ((Below.refl _ _).alloc (Nat.le_refl _) _).trans (hb3.mono (by simp))
        have HK3 := Lib.hid (HKT.out.add hB3)
        have HP3 := Lib.hid ((hB3.block pk (Lib.lt_of_heap HPT.out)).trans HPT.out)
        have HO3 := Lib.hid (HOT.out.below hB3)
        have hcj2 : c ≠ j + h1 + L6 := by omega
        have HPL : Hid (∀ a m cc, a = o + j + h1 + L6 → m = LV → m ≤ cc → cc ≤ 9223372036854775807 ∧ m ≤ 1000000 → Calls Tryz.prog 76 #[.slice (some ⟨b, a, none⟩) m cc] W3 (RetL W3 LV (hdr x.pay.con.length wd))) := by
          intro a m cc ha hm hmc hcc
          have hat := (HAC.out W3 (HG.out _ HK3.out)).right
          rw [← HL6.out, ← ha, HCV.out, sealB] at hat
          have h500 := x.pay.con_len HXO.out.pay
          have hlv : LV = x.pay.con.length + hdr x.pay.con.length wd := by rw [HLV.out, HCV.out, sealB_len]
          have := parseLength W3 b a m cc x.pay.con.length wd x.pay.typ x.pay.con (by omega) hwd hat (by omega) hmc hcc
          rwa [← hlv] at this
        clear hb3 hB3 hHeld HKT HPT HOT hta
        have hmm : j + L - (j + h1 + L6) = LV := by have := HL3.out; omega
        go_wp2_with (go_at_call 76; refine (HPL.out _ _ _ (by omega) (by omega) (by omega) (by omega)).mono ?_; rintro e W4 ⟨rfl, hw4⟩; refine Hid.out ?_)
        refine Lib.hid ?_
        subst hw4
        clear HPL
        have hK3a : Kp X W1 (W4.alloc (.cells #[.nilIface, .int .u8 0] 188)) := HK3.out.alloc _
        have hsz : W1.heap.size ≤ W4.heap.size := HK3.out.size
        have hG4 : ∀ W, Kp [W4.heap.size] (W4.alloc (.cells #[.nilIface, .int .u8 0] 188)) W → Kp X W1 W := fun W hW => hK3a.then hW (fun q _ hm => hm) (fun q hq hm => absurd hq (by have := List.mem_singleton.1 hm; omega))
        have hgl : W4.heap[g]? = some (.cells #[] 68 (0, 0)) := HGG.out _ (HG.out _ HK3.out)
        have hgr : g ≠ W4.heap.size := Nat.ne_of_lt (Lib.lt_of_heap hgl)
        have HDEC : Hid (∀ a m cc, a = o + j + h1 + L6 → m = LV → m ≤ cc → cc ≤ 9223372036854775807 ∧ m ≤ 1000000 → Calls Tryz.prog 103 #[.pointer (some ⟨g, 0, none⟩), .slice (some ⟨b, a, none⟩) m cc, .pointer (some ⟨W4.heap.size, 0, none⟩)] (W4.alloc (.cells #[.nilIface, .int .u8 0] 188)) (RetV G (W4.alloc (.cells #[.nilIface, .int .u8 0] 188)) W4.heap.size x.pay)) := by
          intro a m cc ha hm hmc hcc
          refine decodeValue G (W4.alloc (.cells #[.nilIface, .int .u8 0] 188)) b a m cc g W4.heap.size wd x.pay z HXO.out.pay hwd (by rw [hm, HLV.out, HCV.out]) hmc hcc hgr (fun W hW => HG.out W (hG4 W hW)) HZ.out (HT.out _ (HG.out _ hK3a)) (HA.out _ (HG.out _ hK3a)) (fun W hW => ?_) (heap_alloc_new W4 _) (HGG.out _ (HG.out _ hK3a))
          have hat := (HAC.out W hW).right
          rwa [← HL6.out, ← ha, HCV.out] at hat
        have HG4 := Lib.hid hG4
        clear hK3a hG4 hgl hgr
        go_wp2_with (go_at_call 103; refine (HDEC.out _ _ _ (by omega) (by omega) (by omega) (by omega)).mono ?_; rintro e W5 ⟨rfl, v, hv, hone, hr5, hk5⟩; refine Hid.out ?_)
        refine Lib.hid ?_
        have hvs := (hv W5 (HG.out _ (HG4.out _ hk5))).shape
        rcases hvs with rfl | ⟨vt, vu, rfl⟩
        · obtain ⟨ty, hty⟩ : ∃ ty, ty = x.pay.typ := ⟨_, rfl⟩
          rw [← hty] at hr5
          have hr0 : W5.cell? ⟨W4.heap.size, 0, none⟩ = some (.nilIface) := by rw [Lib.cell_of_heap hr5]; rfl
          have hr1 : W5.cell? ⟨W4.heap.size, 1, none⟩ = some (.int .u8 ty) := by rw [Lib.cell_of_heap hr5]; rfl
          have hpr : pk < W4.heap.size := Lib.lt_of_heap HP3.out
          have hP5 : W5.heap[pk]? = some (.cells (f vp) 52 (0, 0)) := hk5.heap (by rw [Below.heap_alloc _ _ _ hpr]; exact HP3.out) (by simp; omega)
          have hO5 : OwnC 56 3 W5 base vp done.length (decC done vs) := HO3.out.kept (fun q hq => by
            have := (HO3.out.lt hq).2
            rw [hk5.block q (by simp; omega) (by simp; omega), Below.heap_alloc _ _ _ this])
          have hK5 := HG4.out _ hk5
          have hp10 : W5.cell? ⟨pk, 10, none⟩ = some vp := by rw [Lib.cell_of_heap hP5]; exact HF.out.get vp
          have hp10a : ∀ o1, (W5.alloc o1).cell? ⟨pk, 10, none⟩ = some vp := fun o1 => cellB ((Below.refl _ _).alloc (Nat.le_refl _) o1) hp10
          have hr0a : ∀ o1, (W5.alloc o1).cell? ⟨W4.heap.size, 0, none⟩ = some (.nilIface) := fun o1 => cellB ((Below.refl _ _).alloc (Nat.le_refl _) o1) hr0
          have hr1a : ∀ o1, (W5.alloc o1).cell? ⟨W4.heap.size, 1, none⟩ = some (.int .u8 ty) := fun o1 => cellB ((Below.refl _ _).alloc (Nat.le_refl _) o1) hr1
          have hdl : done.length ≤ 20 := by have := HLL.out; rw [HSP.out] at this; simp at this; omega
          have HV := Lib.hid hv
          have HONE : Hid (∀ u ∈ [.nilIface, .string (dot x.arcs), .int .u8 ty], Value.oneCell' u = true) := by
            intro u hu
            simp at hu
            rcases hu with rfl | rfl | rfl
            · exact hone
            · rfl
            · rfl
          have HP5 := Lib.hid hP5
          have HO5 := Lib.hid hO5
          have HK5 := Lib.hid hK5
          have HTY := Lib.hid hty
          have hpk1 : pk < W1.heap.size := Lib.lt_of_heap HPK.out
          have hnp : some pk ≠ vp.ownBlock := fun e => by have := (hO5.lt e.symm).1; omega
          have hnr : some W4.heap.size ≠ vp.ownBlock := fun e => Nat.lt_irrefl _ (HO3.out.lt e.symm).2
          obtain ⟨i0, z0, hi, hz, hz1, hz2, hz3⟩ := elem46.info
          have hbase : base ≤ W5.heap.size := Nat.le_trans hbw hK5.size
          have hr5' := Lib.hid hr5
          have h_ap := Lib.hid (And.intro hi (And.intro hz (And.intro hz1 (And.intro hz2 hz3))))
          clear hi hz hz1 hz2 hz3 hv hr5 hk5 hP5 hO5 hK5 HK3 HP3 HO3 HG4 HDEC hty
          have hprne : pk ≠ W4.heap.size := by omega
          go_upto_region 49 with fail
          go_region_law (refine step_append_lies _ rfl (.tmp 207) (.tmp 214) 46 rfl base 56 i0 z0 3 40 Tryz.underlying46 h_ap.out.1 h_ap.out.2.1 h_ap.out.2.2.1 h_ap.out.2.2.2.1 h_ap.out.2.2.2.2 (by omega) vp done.length (decC done vs) (by rfl) (by exact HO5.out.alloc _) ⟨W5.heap.size, 0, none⟩ 1 1 [.nilIface, .string (dot x.arcs), .int .u8 ty] (by rfl) (by rfl) (by exact World.news_of_block (heap_alloc_new W5 _)) HONE.out (by omega) (by unfold maxLen; omega) (by omega) (by simp; omega) _ rfl ?_; rintro gg cap w6 hown hgrow hlie hlt6; have hP6 : w6.heap[pk]? = some (.cells (f vp) 52 (0, 0)) := (hgrow.block pk (by have := Lib.lt_of_heap HP5.out; simp; omega) hnp).trans ((Below.heap_alloc _ _ _ (Lib.lt_of_heap HP5.out)).trans HP5.out); have hc6 : w6.cell? ⟨pk, 10, none⟩ = some vp := (by rw [Lib.cell_of_heap hP6]; exact HF.out.get vp); have hf6 : w6.frozen? ⟨pk, 10, none⟩ = false := Lib.frozen_of_heap hP6 10)
          all_goals
            have hb6 : Kp X W1 w6 := ((HK5.out.alloc _).drew).grown hgrow (fun q e => HINV.out q e)
            have HNEXT : Hid (VblAt G X base W1 f pk wd ho l (done ++ [x]) q (vs ++ [.nilIface]) (.slice (some ⟨gg, 0, none⟩) (done.length + 1) cap) (.int .i64 (j + L : Nat)) (w6.setCell ⟨pk, 10, none⟩ (.slice (some ⟨gg, 0, none⟩) (done.length + 1) cap))) := by
              refine ⟨by rw [HSP.out]; simp, ?_, ?_, ?_, HRW.out.snoc x _ HV.out, hb6.setCell (.inl HX.out) _, ?_⟩
              · rw [varsB_snoc, List.length_append, HVBL.out, HJ.out]
                simp
                omega
              · have := Lib.heap_setCell_same (i := 10) hP6 (.slice (some ⟨gg, 0, none⟩) (done.length + 1) cap)
                rw [this, HF.out.set]
              · have h1 : OwnC 56 3 w6 base (.slice (some ⟨gg, 0, none⟩) (done.length + 1) cap) (done ++ [x]).length (decC (done ++ [x]) (vs ++ [.nilIface])) := by
                  rw [decC_snoc HRW.out.len, ← HTY.out, List.length_append]
                  exact hown
                exact h1.setCell hpb _
              · intro qq hq
                have hqg : gg = qq := by simpa [Value.ownBlock] using hq
                rcases hlie with e | e
                · exact HINV.out qq (by rw [e, hqg])
                · right
                  have h9 : W5.heap.size ≤ gg := by rw [e]; simp
                  have h10 : W1.heap.size ≤ W5.heap.size := HK5.out.size
                  omega
            clear hown hgrow hlie hlt6 hP6 hc6 hf6 hb6
            go_wp2
            go_roundw
          all_goals first
            | (case rel => exact ⟨_, _, _, _, HNEXT.out⟩)
            | (case measure => simp [intOf]; omega)
        · obtain ⟨ty, hty⟩ : ∃ ty, ty = x.pay.typ := ⟨_, rfl⟩
          rw [← hty] at hr5
          have hr0 : W5.cell? ⟨W4.heap.size, 0, none⟩ = some (.iface vt vu) := by rw [Lib.cell_of_heap hr5]; rfl
          have hr1 : W5.cell? ⟨W4.heap.size, 1, none⟩ = some (.int .u8 ty) := by rw [Lib.cell_of_heap hr5]; rfl
          have hpr : pk < W4.heap.size := Lib.lt_of_heap HP3.out
          have hP5 : W5.heap[pk]? = some (.cells (f vp) 52 (0, 0)) := hk5.heap (by rw [Below.heap_alloc _ _ _ hpr]; exact HP3.out) (by simp; omega)
          have hO5 : OwnC 56 3 W5 base vp done.length (decC done vs) := HO3.out.kept (fun q hq => by
            have := (HO3.out.lt hq).2
            rw [hk5.block q (by simp; omega) (by simp; omega), Below.heap_alloc _ _ _ this])
          have hK5 := HG4.out _ hk5
          have hp10 : W5.cell? ⟨pk, 10, none⟩ = some vp := by rw [Lib.cell_of_heap hP5]; exact HF.out.get vp
          have hp10a : ∀ o1, (W5.alloc o1).cell? ⟨pk, 10, none⟩ = some vp := fun o1 => cellB ((Below.refl _ _).alloc (Nat.le_refl _) o1) hp10
          have hr0a : ∀ o1, (W5.alloc o1).cell? ⟨W4.heap.size, 0, none⟩ = some (.iface vt vu) := fun o1 => cellB ((Below.refl _ _).alloc (Nat.le_refl _) o1) hr0
          have hr1a : ∀ o1, (W5.alloc o1).cell? ⟨W4.heap.size, 1, none⟩ = some (.int .u8 ty) := fun o1 => cellB ((Below.refl _ _).alloc (Nat.le_refl _) o1) hr1
          have hdl : done.length ≤ 20 := by have := HLL.out; rw [HSP.out] at this; simp at this; omega
          have HV := Lib.hid hv
          have HONE : Hid (∀ u ∈ [.iface vt vu, .string (dot x.arcs), .int .u8 ty], Value.oneCell' u = true) := by
            intro u hu
            simp at hu
            rcases hu with rfl | rfl | rfl
            · exact hone
            · rfl
            · rfl
          have HP5 := Lib.hid hP5
          have HO5 := Lib.hid hO5
          have HK5 := Lib.hid hK5
          have HTY := Lib.hid hty
          have hpk1 : pk < W1.heap.size := Lib.lt_of_heap HPK.out
          have hnp : some pk ≠ vp.ownBlock := fun e => by have := (hO5.lt e.symm).1; omega
          have hnr : some W4.heap.size ≠ vp.ownBlock := fun e => Nat.lt_irrefl _ (HO3.out.lt e.symm).2
          obtain ⟨i0, z0, hi, hz, hz1, hz2, hz3⟩ := elem46.info
          have hbase : base ≤ W5.heap.size := Nat.le_trans hbw hK5.size
          have hr5' := Lib.hid hr5
          have h_ap := Lib.hid (And.intro hi (And.intro hz (And.intro hz1 (And.intro hz2 hz3))))
          clear hi hz hz1 hz2 hz3 hv hr5 hk5 hP5 hO5 hK5 HK3 HP3 HO3 HG4 HDEC hty
          have hprne : pk ≠ W4.heap.size := by omega
          go_upto_region 49 with fail
          go_region_law (refine step_append_lies _ rfl (.tmp 207) (.tmp 214) 46 rfl base 56 i0 z0 3 40 Tryz.underlying46 h_ap.out.1 h_ap.out.2.1 h_ap.out.2.2.1 h_ap.out.2.2.2.1 h_ap.out.2.2.2.2 (by omega) vp done.length (decC done vs) (by rfl) (by exact HO5.out.alloc _) ⟨W5.heap.size, 0, none⟩ 1 1 [.iface vt vu, .string (dot x.arcs), .int .u8 ty] (by rfl) (by rfl) (by exact World.news_of_block (heap_alloc_new W5 _)) HONE.out (by omega) (by unfold maxLen; omega) (by omega) (by simp; omega) _ rfl ?_; rintro gg cap w6 hown hgrow hlie hlt6; have hP6 : w6.heap[pk]? = some (.cells (f vp) 52 (0, 0)) := (hgrow.block pk (by have := Lib.lt_of_heap HP5.out; simp; omega) hnp).trans ((Below.heap_alloc _ _ _ (Lib.lt_of_heap HP5.out)).trans HP5.out); have hc6 : w6.cell? ⟨pk, 10, none⟩ = some vp := (by rw [Lib.cell_of_heap hP6]; exact HF.out.get vp); have hf6 : w6.frozen? ⟨pk, 10, none⟩ = false := Lib.frozen_of_heap hP6 10)
          all_goals
            have hb6 : Kp X W1 w6 := ((HK5.out.alloc _).drew).grown hgrow (fun q e => HINV.out q e)
            have HNEXT : Hid (VblAt G X base W1 f pk wd ho l (done ++ [x]) q (vs ++ [.iface vt vu]) (.slice (some ⟨gg, 0, none⟩) (done.length + 1) cap) (.int .i64 (j + L : Nat)) (w6.setCell ⟨pk, 10, none⟩ (.slice (some ⟨gg, 0, none⟩) (done.length + 1) cap))) := by
              refine ⟨by rw [HSP.out]; simp, ?_, ?_, ?_, HRW.out.snoc x _ HV.out, hb6.setCell (.inl HX.out) _, ?_⟩
              · rw [varsB_snoc, List.length_append, HVBL.out, HJ.out]
                simp
                omega
              · have := Lib.heap_setCell_same (i := 10) hP6 (.slice (some ⟨gg, 0, none⟩) (done.length + 1) cap)
                rw [this, HF.out.set]
              · have h1 : OwnC 56 3 w6 base (.slice (some ⟨gg, 0, none⟩) (done.length + 1) cap) (done ++ [x]).length (decC (done ++ [x]) (vs ++ [.iface vt vu])) := by
                  rw [decC_snoc HRW.out.len, ← HTY.out, List.length_append]
                  exact hown
                exact h1.setCell hpb _
              · intro qq hq
                have hqg : gg = qq := by simpa [Value.ownBlock] using hq
                rcases hlie with e | e
                · exact HINV.out qq (by rw [e, hqg])
                · right
                  have h9 : W5.heap.size ≤ gg := by rw [e]; simp
                  have h10 : W1.heap.size ≤ W5.heap.size := HK5.out.size
                  omega
            clear hown hgrow hlie hlt6 hP6 hc6 hf6 hb6
            go_wp2
            go_roundw
          all_goals first
            | (case rel => exact ⟨_, _, _, _, HNEXT.out⟩)
            | (case measure => simp [intOf]; omega)
end Go.Proofs.YtpfmcdhmboclhaaGreatDoor
