/- gosnmp: a message's body is read. gosnmp: what a message carries is read. -/
import Derived.Test.YtpfmcdhmboclhaaGreatDoorH02
set_option linter.unusedVariables false
set_option linter.unusedSimpArgs false
namespace Go.Proofs.YtpfmcdhmboclhaaGreatDoor
open Go.RowKit

set_option maxHeartbeats 64000000 in
set_option maxRecDepth 100000 in
theorem response_plain (G : World → Prop) (X : List Nat) (base : Nat) (vp0 q0 q1 q3 q4 q5 q6 q7 q8 q9 q11 q12 q13 q14 q15 q16 q17 : Value) (w : World) (b o n c g pk wd : Nat) (kd : Nat) (id st ix : Nat) (l : List AV) (z : Addr) (hid : id < 2147483648) (hst : st ≤ 127) (hix : ix ≤ 127) (hl : l.length ≤ 20) (hok : ∀ x ∈ l, x.Ok) (hwd : wd ≤ 2) (hkd : kd ≠ 165) (hn : (sealB kd (bodyB id st ix l wd) wd).length = n) (hnc : n ≤ c) (hc : c ≤ 9223372036854775807 ∧ n ≤ 1000000)
    (hX : pk ∈ X) (hpb : pk < base) (hbw : base ≤ w.heap.size) (hO0 : OwnC 56 3 w base vp0 0 []) (hinv0 : ∀ q, vp0.ownBlock = some q → q ∈ X) (hG : ∀ W, Kp X w W → G W) (hzG : ∀ W, G W → NetLaid W z) (htG : ∀ W, G W → Tab W) (haG : ∀ W, G W → AsnLaid W) (hgG : ∀ W, G W → W.heap[g]? = some (.cells #[] 68 (0, 0)))
    (hatG : ∀ W, G W → At W b o (sealB kd (bodyB id st ix l wd) wd)) (hpk : w.heap[pk]? = some (.cells #[q0, q1, (.int .u8 kd), q3, q4, q5, q6, q7, q8, q9, vp0, q11, q12, q13, q14, q15, q16, q17] 52 (0, 0))) :
    Calls Tryz.prog 62 #[.pointer (some ⟨g, 0, none⟩), .slice (some ⟨b, o, none⟩) n c, .pointer (some ⟨pk, 0, none⟩)] w (RetVbl G X base w (fun v => #[q0, q1, (.int .u8 kd), q3, (.int .u32 id), q5, (.int .u8 st), (.int .u8 ix), q8, q9, v, q11, q12, q13, q14, q15, q16, q17]) pk l) := by
  obtain ⟨s1, hs1⟩ : ∃ s, s = sealB 2 (intB id) wd := ⟨_, rfl⟩
  obtain ⟨s2, hs2⟩ : ∃ s, s = sealB 2 (intB st) wd := ⟨_, rfl⟩
  obtain ⟨s3, hs3⟩ : ∃ s, s = sealB 2 (intB ix) wd := ⟨_, rfl⟩
  obtain ⟨s4, hs4⟩ : ∃ s, s = sealB 48 (varsB l wd) wd := ⟨_, rfl⟩
  have hbody : bodyB id st ix l wd = s1 ++ s2 ++ s3 ++ s4 := by rw [hs1, hs2, hs3, hs4]; rfl
  rw [hbody] at hn hatG
  have hvl := varsB_length l wd hwd hok
  have g1 := sval_intB id (by omega)
  have g2 := sval_intB st (by omega)
  have g3 := sval_intB ix (by omega)
  have h1 : s1.length ≤ 10 := by have := sealB_length 2 (intB id) wd (by omega); rw [hs1]; omega
  have h2 : s2.length ≤ 10 := by have := sealB_length 2 (intB st) wd (by omega); rw [hs2]; omega
  have h3 : s3.length ≤ 10 := by have := sealB_length 2 (intB ix) wd (by omega); rw [hs3]; omega
  have h4 : s4.length ≤ 13000 := by have := sealB_length 48 (varsB l wd) wd (by omega); rw [hs4]; omega
  have h4p : 2 ≤ s4.length := by rw [hs4, sealB_len]; have := hdr_ge (varsB l wd).length wd; omega
  obtain ⟨L1, hL1⟩ : ∃ L, L = s1.length := ⟨_, rfl⟩
  obtain ⟨L2, hL2⟩ : ∃ L, L = s2.length := ⟨_, rfl⟩
  obtain ⟨L3, hL3⟩ : ∃ L, L = s3.length := ⟨_, rfl⟩
  obtain ⟨L4, hL4⟩ : ∃ L, L = s4.length := ⟨_, rfl⟩
  obtain ⟨k, hk⟩ : ∃ k, k = (s1 ++ s2 ++ s3 ++ s4).length := ⟨_, rfl⟩
  obtain ⟨j, hj⟩ : ∃ j, j = hdr k wd := ⟨_, rfl⟩
  have hkl : k = L1 + L2 + L3 + L4 := by rw [hk, hL1, hL2, hL3, hL4]; simp; omega
  have hN : n = k + j := by rw [← hn, hj, hk]; exact sealB_len _ _ _
  have hj2 : 2 ≤ j := by rw [hj]; exact hdr_ge k wd
  have HAT1 : Hid (∀ W, G W → At W b (o + j) (sealB 2 (intB id) wd ++ (s2 ++ (s3 ++ s4)))) := by
    intro W hW
    have h := hatG W hW
    have h' : At W b o (kd :: (lenB (s1 ++ s2 ++ s3 ++ s4).length wd ++ ((s1 ++ s2 ++ s3 ++ s4) ++ []))) := by rw [List.append_nil]; exact h
    have h'' := h'.con
    rw [← hk, ← hj] at h''
    rw [← hs1]
    simpa using h''
  have HAT2 : Hid (∀ W, G W → At W b (o + (j + L1)) (sealB 2 (intB st) wd ++ (s3 ++ s4))) := by
    intro W hW
    have h := (HAT1.out W hW).right
    rw [← hs1, ← hL1, Nat.add_assoc, hs2] at h
    exact h
  have HAT3 : Hid (∀ W, G W → At W b (o + (j + L1 + L2)) (sealB 2 (intB ix) wd ++ s4)) := by
    intro W hW
    have h := (HAT2.out W hW).right
    rw [← hs2, ← hL2, Nat.add_assoc, hs3] at h
    exact h
  have HAT4 : Hid (∀ W, G W → At W b (o + (j + L1 + L2 + L3)) (sealB 48 (varsB l wd) wd)) := by
    intro W hW
    have h := (HAT3.out W hW).right
    rw [← hs3, ← hL3, Nat.add_assoc, hs4] at h
    exact h
  have HL1 : Hid (L1 = (sealB 2 (intB id) wd).length) := by rw [← hs1]; exact hL1
  have HL2 : Hid (L2 = (sealB 2 (intB st) wd).length) := by rw [← hs2]; exact hL2
  have HL3 : Hid (L3 = (sealB 2 (intB ix) wd).length) := by rw [← hs3]; exact hL3
  have HL4 : Hid ((sealB 48 (varsB l wd) wd).length = L4) := by rw [← hs4]; exact hL4.symm
  have hGP : ∀ W, Kp [pk] w W → G W := fun W hW => hG W (hW.mono (fun q _ hq => by rw [List.mem_singleton.1 hq]; exact hX))
  have hwG := hGP w (Kp.refl _ _)
  have hatw := hatG w hwG
  rw [sealB, ← hk] at hatw
  have HPL := Lib.hid (parseLength w b o n c k wd kd (s1 ++ s2 ++ s3 ++ s4) (by omega) hwd hatw (by rw [← hj]; omega) hnc hc)
  rw [← hj, ← hN] at HPL
  have HGP := Lib.hid hGP
  have HG := Lib.hid hG
  have HZ := Lib.hid hzG
  have HT := Lib.hid htG
  have HA := Lib.hid haG
  have HGG := Lib.hid hgG
  have HOK := Lib.hid hok
  have HX := Lib.hid hX
  have HO0 := Lib.hid hO0
  have HINV0 := Lib.hid hinv0
  have HLL := Lib.hid hl
  have HP0 := Lib.hid hpk
  have HK0 := Lib.hid (Kp.refl [pk] w)
  have hb4 : j + L1 + L2 + L3 + 2 ≤ n := by omega
  have HN : Hid (n = j + L1 + L2 + L3 + L4) := by unfold Hid; omega
  have d1 : decide ((j : Int) + (L1 : Int) < 0) = false := by simp; omega
  have d2 : decide ((j : Int) + (L1 : Int) + (L2 : Int) < 0) = false := by simp; omega
  have d3 : decide ((j : Int) + (L1 : Int) + (L2 : Int) + (L3 : Int) < 0) = false := by simp; omega
  have cj0 : c ≠ j := by omega
  have cj1 : c ≠ j + L1 := by omega
  have cj2 : c ≠ j + L1 + L2 := by omega
  have cj3 : c ≠ j + L1 + L2 + L3 := by omega
  have ta := ta_3_3
  have hb1 : j + L1 + 2 ≤ n := by omega
  have hb2 : j + L1 + L2 + 2 ≤ n := by omega
  have hst2 : st < 256 := by omega
  have hix2 : ix < 256 := by omega
  have hid2 : id < 4294967296 := by omega
  have hkd5 : ((kd : Int) == 165) = false := by simp; omega
  clear hn hatG hvl g1 g2 g3 h1 h2 h3 h4 h4p hbody hL1 hL2 hL3 hL4 hk hj hkl hN hs1 hs2 hs3 hs4 hGP hwG hatw hG hzG htG haG hgG hok hX hO0 hinv0 hl hpk hkd
  go_enter Tryz.func62, Tryz.ntmps62
  go_wp2_with (go_at_call 76; refine (HPL.out).mono ?_; rintro e W1 ⟨rfl, hw1⟩; refine Hid.out ?_)
  refine Lib.hid ?_
  subst hw1
  clear HPL
  have hpW0 := run_part W1 g (HGG.out W1 (HGP.out _ HK0.out))
  go_wp2_with (go_at_call 61; refine (printf _ _ _).mono ?_; rintro e V0 ⟨rfl, hb0⟩; refine Hid.out ?_)
  refine Lib.hid ?_
  have hB0 : Below (W1).heap.size W1 V0 := thenB ((Below.refl _ _).alloc (Nat.le_refl _) _) hb0
  have HKV0 : Hid (Kp [pk] W1 V0) := HK0.out.add hB0
  have HPV0 : Hid (V0.heap[pk]? = some (.cells #[q0, q1, (.int .u8 kd), q3, q4, q5, q6, q7, q8, q9, vp0, q11, q12, q13, q14, q15, q16, q17] 52 (0, 0))) := (hB0.block pk (Lib.lt_of_heap HP0.out)).trans HP0.out
  clear hb0 hB0 hpW0
  go_upto_region 8 with fail
  have hgW1 := HGG.out V0 (HGP.out _ HKV0.out)
  have HGW1 := Lib.hid hgW1
  have HFD1 : Hid (∀ a m cc msg, a = o + (j) → L1 ≤ m → m ≤ cc → cc ≤ 9223372036854775807 ∧ m ≤ 1000000 → Calls Tryz.prog 60 #[.agg #[], .slice (some ⟨b, a, none⟩) m cc, .string msg] (V0).drew (RetF (V0).drew (.iface 3 (.int .i64 id)) L1)) := by
    intro a m cc msg ha hm hmc hcc
    have hat := HAT1.out (V0).drew (HGP.out _ HKV0.out.drew)
    rw [← ha] at hat
    have := field_2 (V0).drew b a m cc wd msg (id : Int) _ (by omega) hwd hat (by rw [← HL1.out]; exact hm) hmc hcc
    rwa [← HL1.out] at this
  clear hgW1
  go_region_held (fun W => (partAt ⟨g, 0, none⟩ 0 0).run Tryz.prog W = .ok ⟨g, 0, none⟩ W) (first | exact run_part _ g HGW1.out | exact partTo (W := (V0).drew) HGW1.out hbT) (first | (go_at_call 60; refine (HFD1.out _ _ _ _ (by omega) (by omega) (by omega) (by omega)).mono ?_; rintro e V1 ⟨rfl, hbT⟩))
  rename_i hHeld
  have HKV1 : Hid (Kp [pk] W1 V1) := HKV0.out.drew.add hbT
  have HPV1 : Hid (V1.heap[pk]? = some (.cells #[q0, q1, (.int .u8 kd), q3, q4, q5, q6, q7, q8, q9, vp0, q11, q12, q13, q14, q15, q16, q17] 52 (0, 0))) := (hbT.block pk (Lib.lt_of_heap HPV0.out)).trans HPV0.out
  clear hbT HFD1 HGW1 hHeld
  have e2 : V1.cell? ⟨pk, 4, none⟩ = some q4 := by rw [Lib.cell_of_heap HPV1.out]; rfl
  have f2 : V1.frozen? ⟨pk, 4, none⟩ = false := Lib.frozen_of_heap HPV1.out 4
  have HKV2 : Hid (Kp [pk] W1 (V1.setCell ⟨pk, 4, none⟩ (.int .u32 id))) := HKV1.out.setCell (.inl (by simp)) _
  have HPV2 : Hid ((V1.setCell ⟨pk, 4, none⟩ (.int .u32 id)).heap[pk]? = some (.cells #[q0, q1, (.int .u8 kd), q3, (.int .u32 id), q5, q6, q7, q8, q9, vp0, q11, q12, q13, q14, q15, q16, q17] 52 (0, 0))) := Lib.heap_setCell_same (i := 4) HPV1.out _
  go_upto_region 17 with fail
  obtain ⟨S3, hS3⟩ : ∃ S, S = (V1.setCell ⟨pk, 4, none⟩ (.int .u32 id)) := ⟨_, rfl⟩
  rw [← hS3]
  have HKS3 : Hid (Kp [pk] W1 S3) := by rw [hS3]; exact HKV2.out
  have HPS3 : Hid (S3.heap[pk]? = some (.cells #[q0, q1, (.int .u8 kd), q3, (.int .u32 id), q5, q6, q7, q8, q9, vp0, q11, q12, q13, q14, q15, q16, q17] 52 (0, 0))) := by rw [hS3]; exact HPV2.out
  clear hS3 e2 f2
  have HGW3 := Lib.hid (HGG.out S3 (HGP.out _ HKS3.out))
  have HCW3 : Hid (S3.cell? ⟨pk, 4, none⟩ = some (.int .u32 id)) := by unfold Hid; rw [Lib.cell_of_heap HPS3.out]; rfl
  go_region_held3 (fun W => (partAt ⟨g, 0, none⟩ 0 0).run Tryz.prog W = .ok ⟨g, 0, none⟩ W ∧ W.cell? ⟨pk, 4, none⟩ = some (.int .u32 id)) (first | exact sP HGW3.out HCW3.out (Below.refl _ _).drew | exact sP HGW3.out HCW3.out ((Below.refl _ _).alloc (Nat.le_refl _) _).drew | exact sP HGW3.out HCW3.out (thenB ((Below.refl _ _).alloc (Nat.le_refl _) _).drew hbT)) (first | (go_at_call 61; refine (printf _ _ _).mono ?_; rintro e V3 ⟨rfl, hbT⟩))
  rename_i hHeld
  have hB3 : Below (S3).heap.size S3 V3 := thenB ((Below.refl _ _).alloc (Nat.le_refl _) _).drew hbT
  have HKV3 : Hid (Kp [pk] W1 V3) := HKS3.out.add hB3
  have HPV3 : Hid (V3.heap[pk]? = some (.cells #[q0, q1, (.int .u8 kd), q3, (.int .u32 id), q5, q6, q7, q8, q9, vp0, q11, q12, q13, q14, q15, q16, q17] 52 (0, 0))) := (hB3.block pk (Lib.lt_of_heap HPS3.out)).trans HPS3.out
  clear hbT hHeld HGW3 HCW3 hB3
  have ck : V3.cell? ⟨pk, 2, none⟩ = some (.int .u8 kd) := by rw [Lib.cell_of_heap HPV3.out]; rfl
  go_upto_region 37 with fail
  have hgW4 := HGG.out V3 (HGP.out _ HKV3.out)
  have HGW4 := Lib.hid hgW4
  have HFD4 : Hid (∀ a m cc msg, a = o + (j + L1) → L2 ≤ m → m ≤ cc → cc ≤ 9223372036854775807 ∧ m ≤ 1000000 → Calls Tryz.prog 60 #[.agg #[], .slice (some ⟨b, a, none⟩) m cc, .string msg] (V3).drew (RetF (V3).drew (.iface 3 (.int .i64 st)) L2)) := by
    intro a m cc msg ha hm hmc hcc
    have hat := HAT2.out (V3).drew (HGP.out _ HKV3.out.drew)
    rw [← ha] at hat
    have := field_2 (V3).drew b a m cc wd msg (st : Int) _ (by omega) hwd hat (by rw [← HL2.out]; exact hm) hmc hcc
    rwa [← HL2.out] at this
  clear hgW4
  go_region_held (fun W => (partAt ⟨g, 0, none⟩ 0 0).run Tryz.prog W = .ok ⟨g, 0, none⟩ W) (first | exact run_part _ g HGW4.out | exact partTo (W := (V3).drew) HGW4.out hbT) (first | (go_at_call 60; refine (HFD4.out _ _ _ _ (by omega) (by omega) (by omega) (by omega)).mono ?_; rintro e V4 ⟨rfl, hbT⟩))
  rename_i hHeld
  have HKV4 : Hid (Kp [pk] W1 V4) := HKV3.out.drew.add hbT
  have HPV4 : Hid (V4.heap[pk]? = some (.cells #[q0, q1, (.int .u8 kd), q3, (.int .u32 id), q5, q6, q7, q8, q9, vp0, q11, q12, q13, q14, q15, q16, q17] 52 (0, 0))) := (hbT.block pk (Lib.lt_of_heap HPV3.out)).trans HPV3.out
  clear hbT HFD4 HGW4 hHeld
  have e5 : V4.cell? ⟨pk, 6, none⟩ = some q6 := by rw [Lib.cell_of_heap HPV4.out]; rfl
  have f5 : V4.frozen? ⟨pk, 6, none⟩ = false := Lib.frozen_of_heap HPV4.out 6
  have HKV5 : Hid (Kp [pk] W1 (V4.setCell ⟨pk, 6, none⟩ (.int .u8 st))) := HKV4.out.setCell (.inl (by simp)) _
  have HPV5 : Hid ((V4.setCell ⟨pk, 6, none⟩ (.int .u8 st)).heap[pk]? = some (.cells #[q0, q1, (.int .u8 kd), q3, (.int .u32 id), q5, (.int .u8 st), q7, q8, q9, vp0, q11, q12, q13, q14, q15, q16, q17] 52 (0, 0))) := Lib.heap_setCell_same (i := 6) HPV4.out _
  have hpW6 := run_part (V4.setCell ⟨pk, 6, none⟩ (.int .u8 st)) g (HGG.out (V4.setCell ⟨pk, 6, none⟩ (.int .u8 st)) (HGP.out _ HKV5.out))
  go_wp2_with (go_at_call 61; refine (printf _ _ _).mono ?_; rintro e V6 ⟨rfl, hb6⟩; refine Hid.out ?_)
  refine Lib.hid ?_
  have hB6 : Below ((V4.setCell ⟨pk, 6, none⟩ (.int .u8 st))).heap.size (V4.setCell ⟨pk, 6, none⟩ (.int .u8 st)) V6 := thenB ((Below.refl _ _).alloc (Nat.le_refl _) _) hb6
  have HKV6 : Hid (Kp [pk] W1 V6) := HKV5.out.add hB6
  have HPV6 : Hid (V6.heap[pk]? = some (.cells #[q0, q1, (.int .u8 kd), q3, (.int .u32 id), q5, (.int .u8 st), q7, q8, q9, vp0, q11, q12, q13, q14, q15, q16, q17] 52 (0, 0))) := (hB6.block pk (Lib.lt_of_heap HPV5.out)).trans HPV5.out
  clear hb6 hB6 hpW6
  go_upto_region 47 with fail
  have hgW7 := HGG.out V6 (HGP.out _ HKV6.out)
  have HGW7 := Lib.hid hgW7
  have HFD7 : Hid (∀ a m cc msg, a = o + (j + L1 + L2) → L3 ≤ m → m ≤ cc → cc ≤ 9223372036854775807 ∧ m ≤ 1000000 → Calls Tryz.prog 60 #[.agg #[], .slice (some ⟨b, a, none⟩) m cc, .string msg] (V6).drew (RetF (V6).drew (.iface 3 (.int .i64 ix)) L3)) := by
    intro a m cc msg ha hm hmc hcc
    have hat := HAT3.out (V6).drew (HGP.out _ HKV6.out.drew)
    rw [← ha] at hat
    have := field_2 (V6).drew b a m cc wd msg (ix : Int) _ (by omega) hwd hat (by rw [← HL3.out]; exact hm) hmc hcc
    rwa [← HL3.out] at this
  clear hgW7
  go_region_held (fun W => (partAt ⟨g, 0, none⟩ 0 0).run Tryz.prog W = .ok ⟨g, 0, none⟩ W) (first | exact run_part _ g HGW7.out | exact partTo (W := (V6).drew) HGW7.out hbT) (first | (go_at_call 60; refine (HFD7.out _ _ _ _ (by omega) (by omega) (by omega) (by omega)).mono ?_; rintro e V7 ⟨rfl, hbT⟩))
  rename_i hHeld
  have HKV7 : Hid (Kp [pk] W1 V7) := HKV6.out.drew.add hbT
  have HPV7 : Hid (V7.heap[pk]? = some (.cells #[q0, q1, (.int .u8 kd), q3, (.int .u32 id), q5, (.int .u8 st), q7, q8, q9, vp0, q11, q12, q13, q14, q15, q16, q17] 52 (0, 0))) := (hbT.block pk (Lib.lt_of_heap HPV6.out)).trans HPV6.out
  clear hbT HFD7 HGW7 hHeld
  have e8 : V7.cell? ⟨pk, 7, none⟩ = some q7 := by rw [Lib.cell_of_heap HPV7.out]; rfl
  have f8 : V7.frozen? ⟨pk, 7, none⟩ = false := Lib.frozen_of_heap HPV7.out 7
  have HKV8 : Hid (Kp [pk] W1 (V7.setCell ⟨pk, 7, none⟩ (.int .u8 ix))) := HKV7.out.setCell (.inl (by simp)) _
  have HPV8 : Hid ((V7.setCell ⟨pk, 7, none⟩ (.int .u8 ix)).heap[pk]? = some (.cells #[q0, q1, (.int .u8 kd), q3, (.int .u32 id), q5, (.int .u8 st), (.int .u8 ix), q8, q9, vp0, q11, q12, q13, q14, q15, q16, q17] 52 (0, 0))) := Lib.heap_setCell_same (i := 7) HPV7.out _
  have hpW9 := run_part (V7.setCell ⟨pk, 7, none⟩ (.int .u8 ix)) g (HGG.out (V7.setCell ⟨pk, 7, none⟩ (.int .u8 ix)) (HGP.out _ HKV8.out))
  go_wp2_with (go_at_call 61; refine (printf _ _ _).mono ?_; rintro e V9 ⟨rfl, hb9⟩; refine Hid.out ?_)
  refine Lib.hid ?_
  have hB9 : Below ((V7.setCell ⟨pk, 7, none⟩ (.int .u8 ix))).heap.size (V7.setCell ⟨pk, 7, none⟩ (.int .u8 ix)) V9 := thenB ((Below.refl _ _).alloc (Nat.le_refl _) _) hb9
  have HKV9 : Hid (Kp [pk] W1 V9) := HKV8.out.add hB9
  have HPV9 : Hid (V9.heap[pk]? = some (.cells #[q0, q1, (.int .u8 kd), q3, (.int .u32 id), q5, (.int .u8 st), (.int .u8 ix), q8, q9, vp0, q11, q12, q13, q14, q15, q16, q17] 52 (0, 0))) := (hB9.block pk (Lib.lt_of_heap HPV8.out)).trans HPV8.out
  clear hb9 hB9 hpW9
  have hinvL : ∀ q, vp0.ownBlock = some q → q ∈ X ∨ V9.heap.size ≤ q := fun q hq => .inl (HINV0.out q hq)
  have hOL : OwnC 56 3 V9 base vp0 0 [] := HO0.out.kept (fun q hq => HKV9.out.block q (HO0.out.lt hq).2 (by have := (HO0.out.lt hq).1; simp; omega))
  have hKX : Kp X W1 V9 := HKV9.out.mono (fun q _ hq => by rw [List.mem_singleton.1 hq]; exact HX.out)
  have HV : Hid (∀ a m cc, a = o + (j + L1 + L2 + L3) → m = L4 → m ≤ cc → cc ≤ 9223372036854775807 ∧ m ≤ 1000000 → Calls Tryz.prog 81 #[.pointer (some ⟨g, 0, none⟩), .slice (some ⟨b, a, none⟩) m cc, .pointer (some ⟨pk, 0, none⟩)] V9 (RetVbl G X base V9 (fun v => #[q0, q1, (.int .u8 kd), q3, (.int .u32 id), q5, (.int .u8 st), (.int .u8 ix), q8, q9, v, q11, q12, q13, q14, q15, q16, q17]) pk l)) := by
    intro a m cc ha hm hmc hcc
    refine unmarshalVBL G X base vp0 V9 b a m cc g pk wd (fun v => #[q0, q1, (.int .u8 kd), q3, (.int .u32 id), q5, (.int .u8 st), (.int .u8 ix), q8, q9, v, q11, q12, q13, q14, q15, q16, q17]) l z HLL.out HOK.out hwd (by rw [hm]; exact HL4.out) hmc hcc ⟨fun v => rfl, fun u v => rfl⟩ HX.out hpb (Nat.le_trans hbw hKX.size) hOL hinvL (fun W hW => HG.out W (hKX.trans hW)) HZ.out HT.out HA.out HGG.out (fun W hW => by rw [ha]; exact HAT4.out W hW) HPV9.out
  have HKX := Lib.hid hKX
  clear hinvL hOL hKX
  go_wp2_with (go_at_call 81; refine (HV.out _ _ _ (by omega) (by have := HN.out; omega) (by omega) (by omega)).mono ?_; rintro e WZ ⟨rfl, vs', vp', z1, z2, z3, z4⟩; refine Hid.out ?_)
  refine Lib.hid ?_
  have HR : Hid (RetVbl G X base W1 (fun v => #[q0, q1, (.int .u8 kd), q3, (.int .u32 id), q5, (.int .u8 st), (.int .u8 ix), q8, q9, v, q11, q12, q13, q14, q15, q16, q17]) pk l (.returned .nilIface) WZ) := ⟨rfl, vs', vp', z1, z2, z3, HKX.out.trans z4⟩
  clear z1 z2 z3 z4
  go_wp2
  go_ret
  exact HR.out
end Go.Proofs.YtpfmcdhmboclhaaGreatDoor
namespace Go.Proofs.YtpfmcdhmboclhaaGreatDoor
open Go.RowKit

set_option maxHeartbeats 64000000 in
set_option maxRecDepth 100000 in
theorem payload_160 (G : World → Prop) (X : List Nat) (base : Nat) (vp0 q0 q1 q2 q3 q4 q5 q6 q7 q8 q9 q11 q12 q13 q14 q15 q16 q17 : Value) (w : World) (b o n c g pk wd k0 : Nat) (id st ix : Nat) (l : List AV) (z : Addr) (hid : id < 2147483648) (hst : st ≤ 127) (hix : ix ≤ 127) (hl : l.length ≤ 20) (hok : ∀ x ∈ l, x.Ok) (hwd : wd ≤ 2) (hn : k0 + (sealB 160 (bodyB id st ix l wd) wd).length = n) (hnc : n ≤ c) (hc : c ≤ 9223372036854775807 ∧ n ≤ 1000000)
    (hX : pk ∈ X) (hpb : pk < base) (hbw : base ≤ w.heap.size) (hO0 : OwnC 56 3 w base vp0 0 []) (hinv0 : ∀ q, vp0.ownBlock = some q → q ∈ X) (hG : ∀ W, Kp X w W → G W) (hzG : ∀ W, G W → NetLaid W z) (htG : ∀ W, G W → Tab W) (haG : ∀ W, G W → AsnLaid W) (hgG : ∀ W, G W → W.heap[g]? = some (.cells #[] 68 (0, 0)))
    (hatG : ∀ W, G W → At W b (o + k0) (sealB 160 (bodyB id st ix l wd) wd)) (hpk : w.heap[pk]? = some (.cells #[q0, q1, q2, q3, q4, q5, q6, q7, q8, q9, vp0, q11, q12, q13, q14, q15, q16, q17] 52 (0, 0))) :
    Calls Tryz.prog 41 #[.pointer (some ⟨g, 0, none⟩), .slice (some ⟨b, o, none⟩) n c, .int .i64 k0, .pointer (some ⟨pk, 0, none⟩)] w (RetVbl G X base w (fun v => #[q0, q1, (.int .u8 160), q3, (.int .u32 id), q5, (.int .u8 st), (.int .u8 ix), q8, q9, v, q11, (.bool false), q13, q14, q15, q16, q17]) pk l) := by
  obtain ⟨L, hL⟩ : ∃ L, L = (sealB 160 (bodyB id st ix l wd) wd).length := ⟨_, rfl⟩
  have hL2 : 2 ≤ L := by rw [hL, sealB_len]; have := hdr_ge (bodyB id st ix l wd).length wd; omega
  rw [← hL] at hn
  have hGP : ∀ W, Kp [pk] w W → G W := fun W hW => hG W (hW.mono (fun q _ hq => by rw [List.mem_singleton.1 hq]; exact hX))
  have HGP := Lib.hid hGP
  have HG := Lib.hid hG
  have HGG := Lib.hid hgG
  have HP0 := Lib.hid hpk
  have HK0 := Lib.hid (Kp.refl [pk] w)
  have HX := Lib.hid hX
  have hk0n : k0 < n := by omega
  have hck : c ≠ k0 := by omega
  have c0 : w.cell? ⟨b, o + k0, none⟩ = some (.int .u8 160) := (hatG w (hGP w (Kp.refl _ _))).head
  have HC : Hid (∀ W a m cc, Kp [pk] w W → W.heap[pk]? = some (.cells #[q0, q1, (.int .u8 160), q3, q4, q5, q6, q7, q8, q9, vp0, q11, q12, q13, q14, q15, q16, q17] 52 (0, 0)) → a = o + k0 → m = L → m ≤ cc → cc ≤ 9223372036854775807 ∧ m ≤ 1000000 → Calls Tryz.prog 62 #[.pointer (some ⟨g, 0, none⟩), .slice (some ⟨b, a, none⟩) m cc, .pointer (some ⟨pk, 0, none⟩)] W (RetVbl G X base W (fun v => #[q0, q1, (.int .u8 160), q3, (.int .u32 id), q5, (.int .u8 st), (.int .u8 ix), q8, q9, v, q11, q12, q13, q14, q15, q16, q17]) pk l)) := by
    intro W a m cc hK hP ha hm hmc hcc
    have hKX : Kp X w W := hK.mono (fun q _ hq => by rw [List.mem_singleton.1 hq]; exact hX)
    exact response_plain G X base vp0 q0 q1 q3 q4 q5 q6 q7 q8 q9 q11 q12 q13 q14 q15 q16 q17 W b a m cc g pk wd 160 id st ix l z hid hst hix hl hok hwd (by omega) (by rw [hm, hL]; try rfl) hmc hcc hX hpb (Nat.le_trans hbw hK.size) (hO0.kept (fun q hq => hK.block q (hO0.lt hq).2 (by have := (hO0.lt hq).1; simp; omega))) hinv0 (fun W2 h2 => hG W2 (hKX.trans h2)) hzG htG haG hgG (fun W2 h2 => by rw [ha]; exact hatG W2 h2) hP
  clear hGP hG hgG hpk hX hatG hL hl hok hzG htG haG hO0 hinv0
  go_enter Tryz.func41, Tryz.ntmps41
  have hpW0 := run_part w g (HGG.out w (HGP.out _ HK0.out))
  go_wp2_with (go_at_call 61; refine (printf _ _ _).mono ?_; rintro e V0 ⟨rfl, hb0⟩; refine Hid.out ?_)
  refine Lib.hid ?_
  have hB0 : Below (w).heap.size w V0 := thenB ((Below.refl _ _).alloc (Nat.le_refl _) _) hb0
  have HKV0 : Hid (Kp [pk] w V0) := HK0.out.add hB0
  have HPV0 : Hid (V0.heap[pk]? = some (.cells #[q0, q1, q2, q3, q4, q5, q6, q7, q8, q9, vp0, q11, q12, q13, q14, q15, q16, q17] 52 (0, 0))) := (hB0.block pk (Lib.lt_of_heap HP0.out)).trans HP0.out
  have ck0 : V0.cell? ⟨b, o + k0, none⟩ = some (.int .u8 160) := cellB hB0 c0
  clear hb0 hB0 hpW0
  have e1 : V0.cell? ⟨pk, 2, none⟩ = some q2 := by rw [Lib.cell_of_heap HPV0.out]; rfl
  have f1 : V0.frozen? ⟨pk, 2, none⟩ = false := Lib.frozen_of_heap HPV0.out 2
  have HKV1 : Hid (Kp [pk] w (V0.setCell ⟨pk, 2, none⟩ (.int .u8 160))) := HKV0.out.setCell (.inl (by simp)) _
  have HPV1 : Hid ((V0.setCell ⟨pk, 2, none⟩ (.int .u8 160)).heap[pk]? = some (.cells #[q0, q1, (.int .u8 160), q3, q4, q5, q6, q7, q8, q9, vp0, q11, q12, q13, q14, q15, q16, q17] 52 (0, 0))) := Lib.heap_setCell_same (i := 2) HPV0.out _
  have HCW := Lib.hid (HC.out (V0.setCell ⟨pk, 2, none⟩ (.int .u8 160)))
  go_wp2_with (go_at_call 62; refine (HCW.out _ _ _ HKV1.out HPV1.out (by omega) (by omega) (by omega) (by omega)).mono ?_; rintro e WZ ⟨rfl, vs', vp', z1, z2, z3, z4⟩; refine Hid.out ?_)
  refine Lib.hid ?_
  have hKX : Kp X w (V0.setCell ⟨pk, 2, none⟩ (.int .u8 160)) := HKV1.out.mono (fun q _ hq => by rw [List.mem_singleton.1 hq]; exact HX.out)
  have f12 : WZ.frozen? ⟨pk, 12, none⟩ = false := Lib.frozen_of_heap z1 12
  have e12 : WZ.cell? ⟨pk, 12, none⟩ = some q12 := by rw [Lib.cell_of_heap z1]; rfl
  have HR : Hid (RetVbl G X base w (fun v => #[q0, q1, (.int .u8 160), q3, (.int .u32 id), q5, (.int .u8 st), (.int .u8 ix), q8, q9, v, q11, (.bool false), q13, q14, q15, q16, q17]) pk l (.returned .nilIface) (WZ.setCell ⟨pk, 12, none⟩ (.bool false))) := by
    refine ⟨rfl, vs', vp', ?_, z2.setCell hpb _, z3, (hKX.trans z4).setCell (.inl HX.out) _⟩
    exact Lib.heap_setCell_same (i := 12) z1 _
  clear z1 z2 z3 z4 hKX
  go_wp2
  go_ret
  exact HR.out
set_option maxHeartbeats 64000000 in
set_option maxRecDepth 100000 in
theorem payload_161 (G : World → Prop) (X : List Nat) (base : Nat) (vp0 q0 q1 q2 q3 q4 q5 q6 q7 q8 q9 q11 q12 q13 q14 q15 q16 q17 : Value) (w : World) (b o n c g pk wd k0 : Nat) (id st ix : Nat) (l : List AV) (z : Addr) (hid : id < 2147483648) (hst : st ≤ 127) (hix : ix ≤ 127) (hl : l.length ≤ 20) (hok : ∀ x ∈ l, x.Ok) (hwd : wd ≤ 2) (hn : k0 + (sealB 161 (bodyB id st ix l wd) wd).length = n) (hnc : n ≤ c) (hc : c ≤ 9223372036854775807 ∧ n ≤ 1000000)
    (hX : pk ∈ X) (hpb : pk < base) (hbw : base ≤ w.heap.size) (hO0 : OwnC 56 3 w base vp0 0 []) (hinv0 : ∀ q, vp0.ownBlock = some q → q ∈ X) (hG : ∀ W, Kp X w W → G W) (hzG : ∀ W, G W → NetLaid W z) (htG : ∀ W, G W → Tab W) (haG : ∀ W, G W → AsnLaid W) (hgG : ∀ W, G W → W.heap[g]? = some (.cells #[] 68 (0, 0)))
    (hatG : ∀ W, G W → At W b (o + k0) (sealB 161 (bodyB id st ix l wd) wd)) (hpk : w.heap[pk]? = some (.cells #[q0, q1, q2, q3, q4, q5, q6, q7, q8, q9, vp0, q11, q12, q13, q14, q15, q16, q17] 52 (0, 0))) :
    Calls Tryz.prog 41 #[.pointer (some ⟨g, 0, none⟩), .slice (some ⟨b, o, none⟩) n c, .int .i64 k0, .pointer (some ⟨pk, 0, none⟩)] w (RetVbl G X base w (fun v => #[q0, q1, (.int .u8 161), q3, (.int .u32 id), q5, (.int .u8 st), (.int .u8 ix), q8, q9, v, q11, (.bool false), q13, q14, q15, q16, q17]) pk l) := by
  obtain ⟨L, hL⟩ : ∃ L, L = (sealB 161 (bodyB id st ix l wd) wd).length := ⟨_, rfl⟩
  have hL2 : 2 ≤ L := by rw [hL, sealB_len]; have := hdr_ge (bodyB id st ix l wd).length wd; omega
  rw [← hL] at hn
  have hGP : ∀ W, Kp [pk] w W → G W := fun W hW => hG W (hW.mono (fun q _ hq => by rw [List.mem_singleton.1 hq]; exact hX))
  have HGP := Lib.hid hGP
  have HG := Lib.hid hG
  have HGG := Lib.hid hgG
  have HP0 := Lib.hid hpk
  have HK0 := Lib.hid (Kp.refl [pk] w)
  have HX := Lib.hid hX
  have hk0n : k0 < n := by omega
  have hck : c ≠ k0 := by omega
  have c0 : w.cell? ⟨b, o + k0, none⟩ = some (.int .u8 161) := (hatG w (hGP w (Kp.refl _ _))).head
  have HC : Hid (∀ W a m cc, Kp [pk] w W → W.heap[pk]? = some (.cells #[q0, q1, (.int .u8 161), q3, q4, q5, q6, q7, q8, q9, vp0, q11, q12, q13, q14, q15, q16, q17] 52 (0, 0)) → a = o + k0 → m = L → m ≤ cc → cc ≤ 9223372036854775807 ∧ m ≤ 1000000 → Calls Tryz.prog 62 #[.pointer (some ⟨g, 0, none⟩), .slice (some ⟨b, a, none⟩) m cc, .pointer (some ⟨pk, 0, none⟩)] W (RetVbl G X base W (fun v => #[q0, q1, (.int .u8 161), q3, (.int .u32 id), q5, (.int .u8 st), (.int .u8 ix), q8, q9, v, q11, q12, q13, q14, q15, q16, q17]) pk l)) := by
    intro W a m cc hK hP ha hm hmc hcc
    have hKX : Kp X w W := hK.mono (fun q _ hq => by rw [List.mem_singleton.1 hq]; exact hX)
    exact response_plain G X base vp0 q0 q1 q3 q4 q5 q6 q7 q8 q9 q11 q12 q13 q14 q15 q16 q17 W b a m cc g pk wd 161 id st ix l z hid hst hix hl hok hwd (by omega) (by rw [hm, hL]; try rfl) hmc hcc hX hpb (Nat.le_trans hbw hK.size) (hO0.kept (fun q hq => hK.block q (hO0.lt hq).2 (by have := (hO0.lt hq).1; simp; omega))) hinv0 (fun W2 h2 => hG W2 (hKX.trans h2)) hzG htG haG hgG (fun W2 h2 => by rw [ha]; exact hatG W2 h2) hP
  clear hGP hG hgG hpk hX hatG hL hl hok hzG htG haG hO0 hinv0
  go_enter Tryz.func41, Tryz.ntmps41
  have hpW0 := run_part w g (HGG.out w (HGP.out _ HK0.out))
  go_wp2_with (go_at_call 61; refine (printf _ _ _).mono ?_; rintro e V0 ⟨rfl, hb0⟩; refine Hid.out ?_)
  refine Lib.hid ?_
  have hB0 : Below (w).heap.size w V0 := thenB ((Below.refl _ _).alloc (Nat.le_refl _) _) hb0
  have HKV0 : Hid (Kp [pk] w V0) := HK0.out.add hB0
  have HPV0 : Hid (V0.heap[pk]? = some (.cells #[q0, q1, q2, q3, q4, q5, q6, q7, q8, q9, vp0, q11, q12, q13, q14, q15, q16, q17] 52 (0, 0))) := (hB0.block pk (Lib.lt_of_heap HP0.out)).trans HP0.out
  have ck0 : V0.cell? ⟨b, o + k0, none⟩ = some (.int .u8 161) := cellB hB0 c0
  clear hb0 hB0 hpW0
  have e1 : V0.cell? ⟨pk, 2, none⟩ = some q2 := by rw [Lib.cell_of_heap HPV0.out]; rfl
  have f1 : V0.frozen? ⟨pk, 2, none⟩ = false := Lib.frozen_of_heap HPV0.out 2
  have HKV1 : Hid (Kp [pk] w (V0.setCell ⟨pk, 2, none⟩ (.int .u8 161))) := HKV0.out.setCell (.inl (by simp)) _
  have HPV1 : Hid ((V0.setCell ⟨pk, 2, none⟩ (.int .u8 161)).heap[pk]? = some (.cells #[q0, q1, (.int .u8 161), q3, q4, q5, q6, q7, q8, q9, vp0, q11, q12, q13, q14, q15, q16, q17] 52 (0, 0))) := Lib.heap_setCell_same (i := 2) HPV0.out _
  have HCW := Lib.hid (HC.out (V0.setCell ⟨pk, 2, none⟩ (.int .u8 161)))
  go_wp2_with (go_at_call 62; refine (HCW.out _ _ _ HKV1.out HPV1.out (by omega) (by omega) (by omega) (by omega)).mono ?_; rintro e WZ ⟨rfl, vs', vp', z1, z2, z3, z4⟩; refine Hid.out ?_)
  refine Lib.hid ?_
  have hKX : Kp X w (V0.setCell ⟨pk, 2, none⟩ (.int .u8 161)) := HKV1.out.mono (fun q _ hq => by rw [List.mem_singleton.1 hq]; exact HX.out)
  have f12 : WZ.frozen? ⟨pk, 12, none⟩ = false := Lib.frozen_of_heap z1 12
  have e12 : WZ.cell? ⟨pk, 12, none⟩ = some q12 := by rw [Lib.cell_of_heap z1]; rfl
  have HR : Hid (RetVbl G X base w (fun v => #[q0, q1, (.int .u8 161), q3, (.int .u32 id), q5, (.int .u8 st), (.int .u8 ix), q8, q9, v, q11, (.bool false), q13, q14, q15, q16, q17]) pk l (.returned .nilIface) (WZ.setCell ⟨pk, 12, none⟩ (.bool false))) := by
    refine ⟨rfl, vs', vp', ?_, z2.setCell hpb _, z3, (hKX.trans z4).setCell (.inl HX.out) _⟩
    exact Lib.heap_setCell_same (i := 12) z1 _
  clear z1 z2 z3 z4 hKX
  go_wp2
  go_ret
  exact HR.out
set_option maxHeartbeats 64000000 in
set_option maxRecDepth 100000 in
theorem payload_162 (G : World → Prop) (X : List Nat) (base : Nat) (vp0 q0 q1 q2 q3 q4 q5 q6 q7 q8 q9 q11 q12 q13 q14 q15 q16 q17 : Value) (w : World) (b o n c g pk wd k0 : Nat) (id st ix : Nat) (l : List AV) (z : Addr) (hid : id < 2147483648) (hst : st ≤ 127) (hix : ix ≤ 127) (hl : l.length ≤ 20) (hok : ∀ x ∈ l, x.Ok) (hwd : wd ≤ 2) (hn : k0 + (sealB 162 (bodyB id st ix l wd) wd).length = n) (hnc : n ≤ c) (hc : c ≤ 9223372036854775807 ∧ n ≤ 1000000)
    (hX : pk ∈ X) (hpb : pk < base) (hbw : base ≤ w.heap.size) (hO0 : OwnC 56 3 w base vp0 0 []) (hinv0 : ∀ q, vp0.ownBlock = some q → q ∈ X) (hG : ∀ W, Kp X w W → G W) (hzG : ∀ W, G W → NetLaid W z) (htG : ∀ W, G W → Tab W) (haG : ∀ W, G W → AsnLaid W) (hgG : ∀ W, G W → W.heap[g]? = some (.cells #[] 68 (0, 0)))
    (hatG : ∀ W, G W → At W b (o + k0) (sealB 162 (bodyB id st ix l wd) wd)) (hpk : w.heap[pk]? = some (.cells #[q0, q1, q2, q3, q4, q5, q6, q7, q8, q9, vp0, q11, q12, q13, q14, q15, q16, q17] 52 (0, 0))) :
    Calls Tryz.prog 41 #[.pointer (some ⟨g, 0, none⟩), .slice (some ⟨b, o, none⟩) n c, .int .i64 k0, .pointer (some ⟨pk, 0, none⟩)] w (RetVbl G X base w (fun v => #[q0, q1, (.int .u8 162), q3, (.int .u32 id), q5, (.int .u8 st), (.int .u8 ix), q8, q9, v, q11, (.bool false), q13, q14, q15, q16, q17]) pk l) := by
  obtain ⟨L, hL⟩ : ∃ L, L = (sealB 162 (bodyB id st ix l wd) wd).length := ⟨_, rfl⟩
  have hL2 : 2 ≤ L := by rw [hL, sealB_len]; have := hdr_ge (bodyB id st ix l wd).length wd; omega
  rw [← hL] at hn
  have hGP : ∀ W, Kp [pk] w W → G W := fun W hW => hG W (hW.mono (fun q _ hq => by rw [List.mem_singleton.1 hq]; exact hX))
  have HGP := Lib.hid hGP
  have HG := Lib.hid hG
  have HGG := Lib.hid hgG
  have HP0 := Lib.hid hpk
  have HK0 := Lib.hid (Kp.refl [pk] w)
  have HX := Lib.hid hX
  have hk0n : k0 < n := by omega
  have hck : c ≠ k0 := by omega
  have c0 : w.cell? ⟨b, o + k0, none⟩ = some (.int .u8 162) := (hatG w (hGP w (Kp.refl _ _))).head
  have HC : Hid (∀ W a m cc, Kp [pk] w W → W.heap[pk]? = some (.cells #[q0, q1, (.int .u8 162), q3, q4, q5, q6, q7, q8, q9, vp0, q11, q12, q13, q14, q15, q16, q17] 52 (0, 0)) → a = o + k0 → m = L → m ≤ cc → cc ≤ 9223372036854775807 ∧ m ≤ 1000000 → Calls Tryz.prog 62 #[.pointer (some ⟨g, 0, none⟩), .slice (some ⟨b, a, none⟩) m cc, .pointer (some ⟨pk, 0, none⟩)] W (RetVbl G X base W (fun v => #[q0, q1, (.int .u8 162), q3, (.int .u32 id), q5, (.int .u8 st), (.int .u8 ix), q8, q9, v, q11, q12, q13, q14, q15, q16, q17]) pk l)) := by
    intro W a m cc hK hP ha hm hmc hcc
    have hKX : Kp X w W := hK.mono (fun q _ hq => by rw [List.mem_singleton.1 hq]; exact hX)
    exact response_plain G X base vp0 q0 q1 q3 q4 q5 q6 q7 q8 q9 q11 q12 q13 q14 q15 q16 q17 W b a m cc g pk wd 162 id st ix l z hid hst hix hl hok hwd (by omega) (by rw [hm, hL]; try rfl) hmc hcc hX hpb (Nat.le_trans hbw hK.size) (hO0.kept (fun q hq => hK.block q (hO0.lt hq).2 (by have := (hO0.lt hq).1; simp; omega))) hinv0 (fun W2 h2 => hG W2 (hKX.trans h2)) hzG htG haG hgG (fun W2 h2 => by rw [ha]; exact hatG W2 h2) hP
  clear hGP hG hgG hpk hX hatG hL hl hok hzG htG haG hO0 hinv0
  go_enter Tryz.func41, Tryz.ntmps41
  have hpW0 := run_part w g (HGG.out w (HGP.out _ HK0.out))
  go_wp2_with (go_at_call 61; refine (printf _ _ _).mono ?_; rintro e V0 ⟨rfl, hb0⟩; refine Hid.out ?_)
  refine Lib.hid ?_
  have hB0 : Below (w).heap.size w V0 := thenB ((Below.refl _ _).alloc (Nat.le_refl _) _) hb0
  have HKV0 : Hid (Kp [pk] w V0) := HK0.out.add hB0
  have HPV0 : Hid (V0.heap[pk]? = some (.cells #[q0, q1, q2, q3, q4, q5, q6, q7, q8, q9, vp0, q11, q12, q13, q14, q15, q16, q17] 52 (0, 0))) := (hB0.block pk (Lib.lt_of_heap HP0.out)).trans HP0.out
  have ck0 : V0.cell? ⟨b, o + k0, none⟩ = some (.int .u8 162) := cellB hB0 c0
  clear hb0 hB0 hpW0
  have e1 : V0.cell? ⟨pk, 2, none⟩ = some q2 := by rw [Lib.cell_of_heap HPV0.out]; rfl
  have f1 : V0.frozen? ⟨pk, 2, none⟩ = false := Lib.frozen_of_heap HPV0.out 2
  have HKV1 : Hid (Kp [pk] w (V0.setCell ⟨pk, 2, none⟩ (.int .u8 162))) := HKV0.out.setCell (.inl (by simp)) _
  have HPV1 : Hid ((V0.setCell ⟨pk, 2, none⟩ (.int .u8 162)).heap[pk]? = some (.cells #[q0, q1, (.int .u8 162), q3, q4, q5, q6, q7, q8, q9, vp0, q11, q12, q13, q14, q15, q16, q17] 52 (0, 0))) := Lib.heap_setCell_same (i := 2) HPV0.out _
  have HCW := Lib.hid (HC.out (V0.setCell ⟨pk, 2, none⟩ (.int .u8 162)))
  go_wp2_with (go_at_call 62; refine (HCW.out _ _ _ HKV1.out HPV1.out (by omega) (by omega) (by omega) (by omega)).mono ?_; rintro e WZ ⟨rfl, vs', vp', z1, z2, z3, z4⟩; refine Hid.out ?_)
  refine Lib.hid ?_
  have hKX : Kp X w (V0.setCell ⟨pk, 2, none⟩ (.int .u8 162)) := HKV1.out.mono (fun q _ hq => by rw [List.mem_singleton.1 hq]; exact HX.out)
  have f12 : WZ.frozen? ⟨pk, 12, none⟩ = false := Lib.frozen_of_heap z1 12
  have e12 : WZ.cell? ⟨pk, 12, none⟩ = some q12 := by rw [Lib.cell_of_heap z1]; rfl
  have HR : Hid (RetVbl G X base w (fun v => #[q0, q1, (.int .u8 162), q3, (.int .u32 id), q5, (.int .u8 st), (.int .u8 ix), q8, q9, v, q11, (.bool false), q13, q14, q15, q16, q17]) pk l (.returned .nilIface) (WZ.setCell ⟨pk, 12, none⟩ (.bool false))) := by
    refine ⟨rfl, vs', vp', ?_, z2.setCell hpb _, z3, (hKX.trans z4).setCell (.inl HX.out) _⟩
    exact Lib.heap_setCell_same (i := 12) z1 _
  clear z1 z2 z3 z4 hKX
  go_wp2
  go_ret
  exact HR.out
end Go.Proofs.YtpfmcdhmboclhaaGreatDoor
