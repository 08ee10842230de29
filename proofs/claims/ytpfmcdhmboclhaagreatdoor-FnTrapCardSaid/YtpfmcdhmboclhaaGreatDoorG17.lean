/- gosnmp: the head of a message is read. gosnmp: a packet is read. impl: a value is told as data. -/
import Derived.Test.YtpfmcdhmboclhaaGreatDoorG16
set_option linter.unusedVariables false
set_option linter.unusedSimpArgs false
namespace Go.Proofs.YtpfmcdhmboclhaaGreatDoor
open Go.RowKit
/-- What unmarshalVersionFromHeader returns. -/
def RetVer (w : World) (pk ver j : Nat) (f : Value → Array Value) (e : Ending) (w' : World) : Prop :=
  e = .returned (.tuple #[.int .u8 ver, .int .i64 j, .nilIface]) ∧ ∃ vp0, w'.heap[pk]? = some (.cells (f vp0) 52 (0, 0)) ∧ OwnC 56 3 w' w.heap.size vp0 0 [] ∧ vp0.ownBlock = some w.heap.size ∧ Kp [pk] w w'
theorem make46 (W : World) : (Instr.makeSlice 46 (.int .i64 0) (.int .i64 5)).run Tryz.prog W = .ok (.slice (some ⟨W.heap.size, 0, none⟩) 0 5) (W.alloc (.cells #[.nilIface, .string ⟨#[]⟩, .int .u8 0, .nilIface, .string ⟨#[]⟩, .int .u8 0, .nilIface, .string ⟨#[]⟩, .int .u8 0, .nilIface, .string ⟨#[]⟩, .int .u8 0, .nilIface, .string ⟨#[]⟩, .int .u8 0] 56)) := by kernel_rfl
set_option maxHeartbeats 64000000 in
set_option maxRecDepth 100000 in
theorem version (G : World → Prop) (vq q0 q1 q2 q3 q4 q5 q6 q7 q8 q9 q11 q12 q13 q14 q15 q16 q17 : Value) (w : World) (b o n c g pk wd ver : Nat) (com : ByteArray) (s3 : List Int) (hver : ver ≤ 1) (hcom : com.size ≤ 127) (hs3 : 2 ≤ s3.length) (hs3b : s3.length ≤ 60000) (hwd : wd ≤ 2) (hn : (sealB 48 (sealB 2 (intB ver) wd ++ sealB 4 (bytesOf com) wd ++ s3) wd).length = n) (hnc : n ≤ c) (hc : c ≤ 9223372036854775807 ∧ n ≤ 1000000)
    (hGP : ∀ W, Kp [pk] w W → G W) (hgG : ∀ W, G W → W.heap[g]? = some (.cells #[] 68 (0, 0))) (hatG : ∀ W, G W → At W b o (sealB 48 (sealB 2 (intB ver) wd ++ sealB 4 (bytesOf com) wd ++ s3) wd))
    (hpk : w.heap[pk]? = some (.cells #[q0, q1, q2, q3, q4, q5, q6, q7, q8, q9, vq, q11, q12, q13, q14, q15, q16, q17] 52 (0, 0))) :
    Calls Tryz.prog 59 #[.pointer (some ⟨g, 0, none⟩), .slice (some ⟨b, o, none⟩) n c, .pointer (some ⟨pk, 0, none⟩)] w (RetVer w pk ver (hdr (sealB 2 (intB ver) wd ++ sealB 4 (bytesOf com) wd ++ s3).length wd + (sealB 2 (intB ver) wd).length) (fun vp0 => #[q0, q1, q2, q3, q4, q5, q6, q7, q8, q9, vp0, q11, q12, q13, q14, q15, q16, q17])) := by
  obtain ⟨s1, hs1⟩ : ∃ s, s = sealB 2 (intB ver) wd := ⟨_, rfl⟩
  obtain ⟨s2, hs2⟩ : ∃ s, s = sealB 4 (bytesOf com) wd := ⟨_, rfl⟩
  have hbody : sealB 2 (intB ver) wd ++ sealB 4 (bytesOf com) wd ++ s3 = s1 ++ s2 ++ s3 := by rw [hs1, hs2]
  rw [hbody] at hn hatG
  have g1 := sval_intB ver (by omega)
  have gc : (bytesOf com).length ≤ 127 := by rw [bytesOf_length]; exact hcom
  have h1 : s1.length ≤ 10 := by have := sealB_length 2 (intB ver) wd (by omega); rw [hs1]; omega
  have h2 : s2.length ≤ 150 := by have := sealB_length 4 (bytesOf com) wd (by omega); rw [hs2]; omega
  obtain ⟨L1, hL1⟩ : ∃ L, L = s1.length := ⟨_, rfl⟩
  obtain ⟨L2, hL2⟩ : ∃ L, L = s2.length := ⟨_, rfl⟩
  obtain ⟨k, hk⟩ : ∃ k, k = (s1 ++ s2 ++ s3).length := ⟨_, rfl⟩
  obtain ⟨j, hj⟩ : ∃ j, j = hdr k wd := ⟨_, rfl⟩
  have hkl : k = L1 + L2 + s3.length := by rw [hk, hL1, hL2]; simp; omega
  have hN : n = k + j := by rw [← hn, hj, hk]; exact sealB_len _ _ _
  have hj2 : 2 ≤ j := by rw [hj]; exact hdr_ge k wd
  have hjr : hdr (sealB 2 (intB ver) wd ++ sealB 4 (bytesOf com) wd ++ s3).length wd = j := by rw [hbody, ← hk, hj]
  have HAT1 : Hid (∀ W, G W → At W b (o + j) (sealB 2 (intB ver) wd ++ (s2 ++ s3))) := by
    intro W hW
    have h := hatG W hW
    have h' : At W b o (48 :: (lenB (s1 ++ s2 ++ s3).length wd ++ ((s1 ++ s2 ++ s3) ++ []))) := by rw [List.append_nil]; exact h
    have h'' := h'.con
    rw [← hk, ← hj] at h''
    rw [← hs1]
    simpa using h''
  have HAT2 : Hid (∀ W, G W → At W b (o + (j + L1)) (sealB 4 (bytesOf com) wd ++ s3)) := by
    intro W hW
    have h := (HAT1.out W hW).right
    rw [← hs1, ← hL1, Nat.add_assoc, hs2] at h
    exact h
  have HL1 : Hid (L1 = (sealB 2 (intB ver) wd).length) := by rw [← hs1]; exact hL1
  have HL2 : Hid (L2 = (sealB 4 (bytesOf com) wd).length) := by rw [← hs2]; exact hL2
  have hwG := hGP w (Kp.refl _ _)
  have hatw := hatG w hwG
  rw [sealB, ← hk] at hatw
  have hk6 : k < 65536 := by omega
  have cW : w.cell? ⟨b, o, none⟩ = some (.int .u8 48) := hatw.head
  have HPL : Hid (∀ W, G W → Calls Tryz.prog 76 #[.slice (some ⟨b, o, none⟩) n c] W (RetL W n j)) := by
    intro W hW
    have h := hatG W hW
    rw [sealB, ← hk] at h
    have := parseLength W b o n c k wd 48 (s1 ++ s2 ++ s3) hk6 hwd h (by rw [← hj]; omega) hnc hc
    rwa [← hj, ← hN] at this
  have HC0 : Hid (∀ W, G W → W.cell? ⟨b, o, none⟩ = some (.int .u8 48)) := fun W hW => (hatG W hW).head
  have HGP := Lib.hid hGP
  have HGG := Lib.hid hgG
  have HP0 := Lib.hid hpk
  have HK0 := Lib.hid (Kp.refl [pk] w)
  have hb4 : j + L1 + L2 + 2 ≤ n := by omega
  have d1 : decide ((j : Int) + (L1 : Int) < 0) = false := by simp; omega
  have d1b : decide ((n : Int) ≤ (j : Int) + (L1 : Int)) = false := by simp; omega
  have d2 : decide ((j : Int) + (L1 : Int) + (L2 : Int) < 0) = false := by simp; omega
  have cj0 : c ≠ j := by omega
  have cj1 : c ≠ j + L1 := by omega
  have hb1 : j + L1 + 2 ≤ n := by omega
  have hv256 : ver < 256 := by omega
  have hv3 : ((ver : Int) == 3) = false := by simp; omega
  have HGC := Lib.hid gc
  rw [hjr, ← hs1, ← hL1]
  have hlt := Lib.lt_of_heap hpk
  obtain ⟨WA, hWA⟩ : ∃ WA, WA = w.alloc (.cells #[.nilIface, .string ⟨#[]⟩, .int .u8 0, .nilIface, .string ⟨#[]⟩, .int .u8 0, .nilIface, .string ⟨#[]⟩, .int .u8 0, .nilIface, .string ⟨#[]⟩, .int .u8 0, .nilIface, .string ⟨#[]⟩, .int .u8 0] 56) := ⟨_, rfl⟩
  have hmk := make46 w
  rw [← hWA] at hmk
  have hbA : Below w.heap.size w WA := by rw [hWA]; exact (Below.refl _ _).alloc (Nat.le_refl _) _
  have hpA : WA.heap[pk]? = some (.cells #[q0, q1, q2, q3, q4, q5, q6, q7, q8, q9, vq, q11, q12, q13, q14, q15, q16, q17] 52 (0, 0)) := (hbA.block pk hlt).trans hpk
  have hOA : OwnC 56 3 WA w.heap.size (.slice (some ⟨w.heap.size, 0, none⟩) 0 5) 0 [] := by
    rw [hWA]
    exact ⟨rfl, .inr ⟨w.heap.size, 5, #[.nilIface, .string ⟨#[]⟩, .int .u8 0, .nilIface, .string ⟨#[]⟩, .int .u8 0, .nilIface, .string ⟨#[]⟩, .int .u8 0, .nilIface, .string ⟨#[]⟩, .int .u8 0, .nilIface, .string ⟨#[]⟩, .int .u8 0], rfl, Nat.le_refl _, heap_alloc_new w _, by omega, by decide, rfl, rfl⟩⟩
  have HBA := Lib.hid hbA
  have HPA := Lib.hid hpA
  have HOA := Lib.hid hOA
  have ea : WA.cell? ⟨pk, 10, none⟩ = some vq := by rw [Lib.cell_of_heap hpA]; rfl
  have fa : WA.frozen? ⟨pk, 10, none⟩ = false := Lib.frozen_of_heap hpA 10
  have hGPA : ∀ W, Kp [pk] WA W → G W := fun W hW => hGP W ((Kp.of_below hbA [pk]).trans hW)
  have HGPA := Lib.hid hGPA
  have hKA : Kp [pk] WA (WA.setCell ⟨pk, 10, none⟩ (.slice (some ⟨w.heap.size, 0, none⟩) 0 5)) := (Kp.refl [pk] WA).setCell (.inl (by simp)) _
  have HKA := Lib.hid hKA
  have c0 := HC0.out _ (hGPA _ hKA)
  have HPLA := Lib.hid (HPL.out _ (hGPA _ hKA))
  have HHPA : Hid ((WA.setCell ⟨pk, 10, none⟩ (.slice (some ⟨w.heap.size, 0, none⟩) 0 5)).heap[pk]? = some (.cells #[q0, q1, q2, q3, q4, q5, q6, q7, q8, q9, .slice (some ⟨w.heap.size, 0, none⟩) 0 5, q11, q12, q13, q14, q15, q16, q17] 52 (0, 0))) := Lib.heap_setCell_same (i := 10) hpA _
  have HLT := Lib.hid hlt
  clear hn hatG g1 gc h1 h2 hbody hL1 hL2 hk hj hkl hN hs1 hs2 hwG hatw hGP hgG hpk hver hcom hk6 cW hWA hbA hpA hOA hKA hGPA hjr hlt HPL HC0 HK0 HGP HP0
  have ta := ta_3_3
  go_enter Tryz.func59, Tryz.ntmps59
  go_wp2_with (go_at_call 76; refine (HPLA.out).mono ?_; rintro e W1 ⟨rfl, hw1⟩; refine Hid.out ?_)
  refine Lib.hid ?_
  subst hw1
  clear HPLA ea fa hmk c0
  have hpW0 := run_part (WA.setCell ⟨pk, 10, none⟩ (.slice (some ⟨w.heap.size, 0, none⟩) 0 5)) g (HGG.out (WA.setCell ⟨pk, 10, none⟩ (.slice (some ⟨w.heap.size, 0, none⟩) 0 5)) (HGPA.out _ HKA.out))
  go_wp2_with (go_at_call 61; refine (printf _ _ _).mono ?_; rintro e V0 ⟨rfl, hb0⟩; refine Hid.out ?_)
  refine Lib.hid ?_
  have hB0 : Below ((WA.setCell ⟨pk, 10, none⟩ (.slice (some ⟨w.heap.size, 0, none⟩) 0 5))).heap.size (WA.setCell ⟨pk, 10, none⟩ (.slice (some ⟨w.heap.size, 0, none⟩) 0 5)) V0 := thenB ((Below.refl _ _).alloc (Nat.le_refl _) _) hb0
  have HKV0 : Hid (Kp [pk] WA V0) := HKA.out.add hB0
  have HPV0 : Hid (V0.heap[pk]? = some (.cells #[q0, q1, q2, q3, q4, q5, q6, q7, q8, q9, .slice (some ⟨w.heap.size, 0, none⟩) 0 5, q11, q12, q13, q14, q15, q16, q17] 52 (0, 0))) := (hB0.block pk (Lib.lt_of_heap HHPA.out)).trans HHPA.out
  clear hb0 hB0 hpW0
  go_upto_region 15 with fail
  have hgW1 := HGG.out V0 (HGPA.out _ HKV0.out)
  have HGW1 := Lib.hid hgW1
  have HFD1 : Hid (∀ a m cc msg, a = o + (j) → L1 ≤ m → m ≤ cc → cc ≤ 9223372036854775807 ∧ m ≤ 1000000 → Calls Tryz.prog 60 #[.agg #[], .slice (some ⟨b, a, none⟩) m cc, .string msg] (V0).drew (RetF (V0).drew (.iface 3 (.int .i64 ver)) L1)) := by
    intro a m cc msg ha hm hmc hcc
    have hat := HAT1.out (V0).drew (HGPA.out _ HKV0.out.drew)
    rw [← ha] at hat
    have := field_2 (V0).drew b a m cc wd msg (ver : Int) _ (by omega) hwd hat (by rw [← HL1.out]; exact hm) hmc hcc
    rwa [← HL1.out] at this
  clear hgW1
  go_region_held (fun W => (partAt ⟨g, 0, none⟩ 0 0).run Tryz.prog W = .ok ⟨g, 0, none⟩ W) (first | exact run_part _ g HGW1.out | exact partTo (W := (V0).drew) HGW1.out hbT) (first | (go_at_call 60; refine (HFD1.out _ _ _ _ (by omega) (by omega) (by omega) (by omega)).mono ?_; rintro e V1 ⟨rfl, hbT⟩))
  rename_i hHeld
  have HKV1 : Hid (Kp [pk] WA V1) := HKV0.out.drew.add hbT
  have HPV1 : Hid (V1.heap[pk]? = some (.cells #[q0, q1, q2, q3, q4, q5, q6, q7, q8, q9, .slice (some ⟨w.heap.size, 0, none⟩) 0 5, q11, q12, q13, q14, q15, q16, q17] 52 (0, 0))) := (hbT.block pk (Lib.lt_of_heap HPV0.out)).trans HPV0.out
  clear hbT HFD1 HGW1 hHeld
  have hpW2 := run_part V1 g (HGG.out V1 (HGPA.out _ HKV1.out))
  go_wp2_with (go_at_call 61; refine (printf _ _ _).mono ?_; rintro e V2 ⟨rfl, hb2⟩; refine Hid.out ?_)
  refine Lib.hid ?_
  have hB2 : Below (V1).heap.size V1 V2 := thenB ((Below.refl _ _).alloc (Nat.le_refl _) _) hb2
  have HKV2 : Hid (Kp [pk] WA V2) := HKV1.out.add hB2
  have HPV2 : Hid (V2.heap[pk]? = some (.cells #[q0, q1, q2, q3, q4, q5, q6, q7, q8, q9, .slice (some ⟨w.heap.size, 0, none⟩) 0 5, q11, q12, q13, q14, q15, q16, q17] 52 (0, 0))) := (hB2.block pk (Lib.lt_of_heap HPV1.out)).trans HPV1.out
  clear hb2 hB2 hpW2
  have HR : Hid (RetVer w pk ver (j + L1) (fun vp0 => #[q0, q1, q2, q3, q4, q5, q6, q7, q8, q9, vp0, q11, q12, q13, q14, q15, q16, q17]) (.returned (.tuple #[.int .u8 ver, .int .i64 (j + L1 : Nat), .nilIface])) V2) := by
    refine ⟨rfl, _, HPV2.out, ?_, rfl, (Kp.of_below HBA.out [pk]).trans HKV2.out⟩
    exact HOA.out.kept (fun q hq => HKV2.out.block q (HOA.out.lt hq).2 (by have h9 := (HOA.out.lt hq).1; have h8 := HLT.out; simp; omega))
  go_wp2
  go_ret3
  exact HR.out
theorem txt_bytes (s : ByteArray) : txt (bytesOf s) = s := by
  have h : ((bytesOf s).map fun n => UInt8.ofNat n.toNat) = s.data.toList := by
    unfold bytesOf
    rw [List.map_map]
    exact (List.map_congr_left (fun b _ => by simp)).trans (List.map_id _)
  unfold txt strOfNums
  rw [h]
/-- What unmarshalHeader returns. -/
def RetHdr (w : World) (pk j : Nat) (f : Value → Array Value) (e : Ending) (w' : World) : Prop :=
  e = .returned (.tuple #[.int .i64 j, .nilIface]) ∧ ∃ vp0 base, w'.heap[pk]? = some (.cells (f vp0) 52 (0, 0)) ∧ OwnC 56 3 w' base vp0 0 [] ∧ vp0.ownBlock = some base ∧ w.heap.size ≤ base ∧ base ≤ w'.heap.size ∧ Kp [pk] w w'
set_option maxHeartbeats 64000000 in
set_option maxRecDepth 100000 in
theorem header (G : World → Prop) (vq q0 q1 q2 q3 q4 q5 q6 q7 q8 q9 q11 q12 q13 q14 q15 q16 q17 : Value) (w : World) (b o n c g pk wd ver : Nat) (com : ByteArray) (s3 : List Int) (hver : ver ≤ 1) (hcom : com.size ≤ 127) (hs3 : 2 ≤ s3.length) (hs3b : s3.length ≤ 60000) (hwd : wd ≤ 2) (hn : (sealB 48 (sealB 2 (intB ver) wd ++ sealB 4 (bytesOf com) wd ++ s3) wd).length = n) (hnc : n ≤ c) (hc : c ≤ 9223372036854775807 ∧ n ≤ 1000000)
    (hGP : ∀ W, Kp [pk] w W → G W) (hgG : ∀ W, G W → W.heap[g]? = some (.cells #[] 68 (0, 0))) (hatG : ∀ W, G W → At W b o (sealB 48 (sealB 2 (intB ver) wd ++ sealB 4 (bytesOf com) wd ++ s3) wd))
    (hpk : w.heap[pk]? = some (.cells #[q0, q1, q2, q3, q4, q5, q6, q7, q8, q9, vq, q11, q12, q13, q14, q15, q16, q17] 52 (0, 0))) :
    Calls Tryz.prog 40 #[.pointer (some ⟨g, 0, none⟩), .slice (some ⟨b, o, none⟩) n c, .pointer (some ⟨pk, 0, none⟩)] w (RetHdr w pk (hdr (sealB 2 (intB ver) wd ++ sealB 4 (bytesOf com) wd ++ s3).length wd + (sealB 2 (intB ver) wd).length + (sealB 4 (bytesOf com) wd).length) (fun vp0 => #[.int .u8 ver, .string com, q2, q3, q4, q5, q6, q7, q8, q9, vp0, q11, q12, q13, q14, q15, q16, q17])) := by
  have HVER := Lib.hid (version G vq q0 q1 q2 q3 q4 q5 q6 q7 q8 q9 q11 q12 q13 q14 q15 q16 q17 w b o n c g pk wd ver com s3 hver hcom hs3 hs3b hwd hn hnc hc hGP hgG hatG hpk)
  obtain ⟨s1, hs1⟩ : ∃ s, s = sealB 2 (intB ver) wd := ⟨_, rfl⟩
  obtain ⟨s2, hs2⟩ : ∃ s, s = sealB 4 (bytesOf com) wd := ⟨_, rfl⟩
  have hbody : sealB 2 (intB ver) wd ++ sealB 4 (bytesOf com) wd ++ s3 = s1 ++ s2 ++ s3 := by rw [hs1, hs2]
  rw [hbody] at hn hatG
  have g1 := sval_intB ver (by omega)
  have gc : (bytesOf com).length ≤ 127 := by rw [bytesOf_length]; exact hcom
  have h1 : s1.length ≤ 10 := by have := sealB_length 2 (intB ver) wd (by omega); rw [hs1]; omega
  have h2 : s2.length ≤ 150 := by have := sealB_length 4 (bytesOf com) wd (by omega); rw [hs2]; omega
  obtain ⟨L1, hL1⟩ : ∃ L, L = s1.length := ⟨_, rfl⟩
  obtain ⟨L2, hL2⟩ : ∃ L, L = s2.length := ⟨_, rfl⟩
  obtain ⟨k, hk⟩ : ∃ k, k = (s1 ++ s2 ++ s3).length := ⟨_, rfl⟩
  obtain ⟨j, hj⟩ : ∃ j, j = hdr k wd := ⟨_, rfl⟩
  have hkl : k = L1 + L2 + s3.length := by rw [hk, hL1, hL2]; simp; omega
  have hN : n = k + j := by rw [← hn, hj, hk]; exact sealB_len _ _ _
  have hj2 : 2 ≤ j := by rw [hj]; exact hdr_ge k wd
  have hjr : hdr (sealB 2 (intB ver) wd ++ sealB 4 (bytesOf com) wd ++ s3).length wd = j := by rw [hbody, ← hk, hj]
  have HAT1 : Hid (∀ W, G W → At W b (o + j) (sealB 2 (intB ver) wd ++ (s2 ++ s3))) := by
    intro W hW
    have h := hatG W hW
    have h' : At W b o (48 :: (lenB (s1 ++ s2 ++ s3).length wd ++ ((s1 ++ s2 ++ s3) ++ []))) := by rw [List.append_nil]; exact h
    have h'' := h'.con
    rw [← hk, ← hj] at h''
    rw [← hs1]
    simpa using h''
  have HAT2 : Hid (∀ W, G W → At W b (o + (j + L1)) (sealB 4 (bytesOf com) wd ++ s3)) := by
    intro W hW
    have h := (HAT1.out W hW).right
    rw [← hs1, ← hL1, Nat.add_assoc, hs2] at h
    exact h
  have HL1 : Hid (L1 = (sealB 2 (intB ver) wd).length) := by rw [← hs1]; exact hL1
  have HL2 : Hid (L2 = (sealB 4 (bytesOf com) wd).length) := by rw [← hs2]; exact hL2
  have hwG := hGP w (Kp.refl _ _)
  have hatw := hatG w hwG
  rw [sealB, ← hk] at hatw
  have hk6 : k < 65536 := by omega
  have cW : w.cell? ⟨b, o, none⟩ = some (.int .u8 48) := hatw.head
  have HPL : Hid (∀ W, G W → Calls Tryz.prog 76 #[.slice (some ⟨b, o, none⟩) n c] W (RetL W n j)) := by
    intro W hW
    have h := hatG W hW
    rw [sealB, ← hk] at h
    have := parseLength W b o n c k wd 48 (s1 ++ s2 ++ s3) hk6 hwd h (by rw [← hj]; omega) hnc hc
    rwa [← hj, ← hN] at this
  have HC0 : Hid (∀ W, G W → W.cell? ⟨b, o, none⟩ = some (.int .u8 48)) := fun W hW => (hatG W hW).head
  have HGP := Lib.hid hGP
  have HGG := Lib.hid hgG
  have HP0 := Lib.hid hpk
  have HK0 := Lib.hid (Kp.refl [pk] w)
  have hb4 : j + L1 + L2 + 2 ≤ n := by omega
  have d1 : decide ((j : Int) + (L1 : Int) < 0) = false := by simp; omega
  have d1b : decide ((n : Int) ≤ (j : Int) + (L1 : Int)) = false := by simp; omega
  have d2 : decide ((j : Int) + (L1 : Int) + (L2 : Int) < 0) = false := by simp; omega
  have cj0 : c ≠ j := by omega
  have cj1 : c ≠ j + L1 := by omega
  have hb1 : j + L1 + 2 ≤ n := by omega
  have hv256 : ver < 256 := by omega
  have hv3 : ((ver : Int) == 3) = false := by simp; omega
  have HGC := Lib.hid gc
  rw [hjr] at HVER
  rw [hjr, ← hs1, ← hs2, ← hL1, ← hL2]
  rw [← hs1, ← hL1] at HVER
  have hlt := Lib.lt_of_heap hpk
  have HLT := Lib.hid hlt
  clear hn hatG g1 gc h1 h2 hbody hL1 hL2 hk hj hkl hN hs1 hs2 hwG hatw hGP hgG hpk hver hcom hk6 cW hjr HPL HC0 hlt HK0 HP0
  go_enter Tryz.func40, Tryz.ntmps40
  go_wp2_with (go_at_call 59; refine (HVER.out).mono ?_; rintro e W1 ⟨rfl, vp0, hp1, ho1, hob, hk1⟩; refine Hid.out ?_)
  refine Lib.hid ?_
  have HK1 := Lib.hid hk1
  have HP1 := Lib.hid hp1
  have HO1 := Lib.hid ho1
  have HOB := Lib.hid hob
  have HKR := Lib.hid (Kp.refl [pk] W1)
  have HGP1 : Hid (∀ W, Kp [pk] W1 W → G W) := fun W h => HGP.out W (HK1.out.trans h)
  clear hk1 hp1 ho1 hob HVER
  have ta := ta_9_9 (.string com)
  have e0 : W1.cell? ⟨pk, 0, none⟩ = some q0 := by rw [Lib.cell_of_heap HP1.out]; rfl
  have f0 : W1.frozen? ⟨pk, 0, none⟩ = false := Lib.frozen_of_heap HP1.out 0
  have HKV0 : Hid (Kp [pk] W1 (W1.setCell ⟨pk, 0, none⟩ (.int .u8 ver))) := HKR.out.setCell (.inl (by simp)) _
  have HPV0 : Hid ((W1.setCell ⟨pk, 0, none⟩ (.int .u8 ver)).heap[pk]? = some (.cells #[(.int .u8 ver), q1, q2, q3, q4, q5, q6, q7, q8, q9, vp0, q11, q12, q13, q14, q15, q16, q17] 52 (0, 0))) := Lib.heap_setCell_same (i := 0) HP1.out _
  go_upto_region 7 with fail
  obtain ⟨S1, hS1⟩ : ∃ S, S = (W1.setCell ⟨pk, 0, none⟩ (.int .u8 ver)) := ⟨_, rfl⟩
  rw [← hS1]
  have HKS1 : Hid (Kp [pk] W1 S1) := by rw [hS1]; exact HKV0.out
  have HPS1 : Hid (S1.heap[pk]? = some (.cells #[(.int .u8 ver), q1, q2, q3, q4, q5, q6, q7, q8, q9, vp0, q11, q12, q13, q14, q15, q16, q17] 52 (0, 0))) := by rw [hS1]; exact HPV0.out
  clear hS1 e0 f0
  have hgW1 := HGG.out S1 (HGP1.out _ HKS1.out)
  have HGW1 := Lib.hid hgW1
  have HFD1 : Hid (∀ a m cc msg, a = o + (j + L1) → L2 ≤ m → m ≤ cc → cc ≤ 9223372036854775807 ∧ m ≤ 1000000 → Calls Tryz.prog 60 #[.agg #[], .slice (some ⟨b, a, none⟩) m cc, .string msg] (S1).drew (RetF (S1).drew (.iface 9 (.string com)) L2)) := by
    intro a m cc msg ha hm hmc hcc
    have hat := HAT2.out (S1).drew (HGP1.out _ HKS1.out.drew)
    rw [← ha] at hat
    have := field_4 (S1).drew b a m cc wd msg (bytesOf com) _ (by have := HGC.out; omega) hwd hat (by rw [← HL2.out]; exact hm) hmc hcc
    rwa [← HL2.out, txt_bytes] at this
  clear hgW1
  go_region_held (fun W => (partAt ⟨g, 0, none⟩ 0 0).run Tryz.prog W = .ok ⟨g, 0, none⟩ W) (first | exact run_part _ g HGW1.out | exact partTo (W := (S1).drew) HGW1.out hbT) (first | (go_at_call 60; refine (HFD1.out _ _ _ _ (by omega) (by omega) (by omega) (by omega)).mono ?_; rintro e V1 ⟨rfl, hbT⟩))
  rename_i hHeld
  have HKV1 : Hid (Kp [pk] W1 V1) := HKS1.out.drew.add hbT
  have HPV1 : Hid (V1.heap[pk]? = some (.cells #[(.int .u8 ver), q1, q2, q3, q4, q5, q6, q7, q8, q9, vp0, q11, q12, q13, q14, q15, q16, q17] 52 (0, 0))) := (hbT.block pk (Lib.lt_of_heap HPS1.out)).trans HPS1.out
  clear hbT HFD1 HGW1 hHeld
  have e2 : V1.cell? ⟨pk, 1, none⟩ = some q1 := by rw [Lib.cell_of_heap HPV1.out]; rfl
  have f2 : V1.frozen? ⟨pk, 1, none⟩ = false := Lib.frozen_of_heap HPV1.out 1
  have HKV2 : Hid (Kp [pk] W1 (V1.setCell ⟨pk, 1, none⟩ (.string com))) := HKV1.out.setCell (.inl (by simp)) _
  have HPV2 : Hid ((V1.setCell ⟨pk, 1, none⟩ (.string com)).heap[pk]? = some (.cells #[(.int .u8 ver), (.string com), q2, q3, q4, q5, q6, q7, q8, q9, vp0, q11, q12, q13, q14, q15, q16, q17] 52 (0, 0))) := Lib.heap_setCell_same (i := 1) HPV1.out _
  have hpW3 := run_part (V1.setCell ⟨pk, 1, none⟩ (.string com)) g (HGG.out (V1.setCell ⟨pk, 1, none⟩ (.string com)) (HGP1.out _ HKV2.out))
  go_wp2_with (go_at_call 61; refine (printf _ _ _).mono ?_; rintro e V3 ⟨rfl, hb3⟩; refine Hid.out ?_)
  refine Lib.hid ?_
  have hB3 : Below ((V1.setCell ⟨pk, 1, none⟩ (.string com))).heap.size (V1.setCell ⟨pk, 1, none⟩ (.string com)) V3 := thenB ((Below.refl _ _).alloc (Nat.le_refl _) _) hb3
  have HKV3 : Hid (Kp [pk] W1 V3) := HKV2.out.add hB3
  have HPV3 : Hid (V3.heap[pk]? = some (.cells #[(.int .u8 ver), (.string com), q2, q3, q4, q5, q6, q7, q8, q9, vp0, q11, q12, q13, q14, q15, q16, q17] 52 (0, 0))) := (hB3.block pk (Lib.lt_of_heap HPV2.out)).trans HPV2.out
  clear hb3 hB3 hpW3
  have HR : Hid (RetHdr w pk (j + L1 + L2) (fun vp0 => #[.int .u8 ver, .string com, q2, q3, q4, q5, q6, q7, q8, q9, vp0, q11, q12, q13, q14, q15, q16, q17]) (.returned (.tuple #[.int .i64 (j + L1 + L2 : Nat), .nilIface])) V3) := by
    have hk9 := HK1.out.trans HKV3.out
    refine ⟨rfl, vp0, w.heap.size, HPV3.out, ?_, HOB.out, Nat.le_refl _, hk9.size, hk9⟩
    exact HO1.out.kept (fun q hq => HKV3.out.block q (HO1.out.lt hq).2 (by have h9 := (HO1.out.lt hq).1; have h8 := HLT.out; simp; omega))
  go_wp2
  go_ret2
  exact HR.out
end Go.Proofs.YtpfmcdhmboclhaaGreatDoor
namespace Go.Proofs.YtpfmcdhmboclhaaGreatDoor
open Go.RowKit

theorem run_part52 (W : World) (P : Nat) (cs : Array Value) (hP : W.heap[P]? = some (.cells cs 52 (0, 0))) : (partAt ⟨P, 0, none⟩ 11 72).run Tryz.prog W = .ok ⟨P, 11, none⟩ W := by
  have hs : Tryz.prog.cellsOf 52 = 18 := by kernel_rfl
  have h0 : byteOfCell Tryz.prog Tryz.prog.depth 52 0 = some 0 := by kernel_rfl
  have h1 : byteOfCell Tryz.prog Tryz.prog.depth 52 11 = some 72 := by kernel_rfl
  simp [partAt, byteOf, noView, viewAt, World.shape?, hP, hs, h0, h1]
theorem msgB_len (ver : Int) (com : ByteArray) (s : List Int) (wd : Nat) : s.length ≤ (msgB ver com s wd).length := by
  unfold msgB
  rw [sealB_len, List.length_append]
  omega
/-- What SnmpDecodePacket returns. -/
def RetPkt (w : World) (f : Value → Array Value) (l : List AV) (e : Ending) (w' : World) : Prop :=
  e = .returned (.tuple #[.pointer (some ⟨w.heap.size, 0, none⟩), .nilIface]) ∧ ∃ vs vp base, w.heap.size < base ∧ w'.heap[w.heap.size]? = some (.cells (f vp) 52 (0, 0)) ∧ OwnC 56 3 w' base vp l.length (decC l vs) ∧ DecRow (fun W => Below w.heap.size w W) l vs ∧ Below w.heap.size w w'
set_option maxHeartbeats 64000000 in
set_option maxRecDepth 100000 in
theorem packet (w : World) (b o n c g wd ver : Nat) (com : ByteArray) (s3 : List Int) (f : Value → Array Value) (l : List AV) (z : Addr) (hver : ver ≤ 1) (hcom : com.size ≤ 127) (hs3 : 2 ≤ s3.length) (hs3b : s3.length ≤ 60000) (hwd : wd ≤ 2) (hn : (sealB 48 (sealB 2 (intB ver) wd ++ sealB 4 (bytesOf com) wd ++ s3) wd).length = n) (hnc : n ≤ c) (hc : c ≤ 9223372036854775807 ∧ n ≤ 1000000)
    (hg : w.heap[g]? = some (.cells #[] 68 (0, 0))) (hat : At w b o (sealB 48 (sealB 2 (intB ver) wd ++ sealB 4 (bytesOf com) wd ++ s3) wd))
    (HPAY : ∀ (X : List Nat) (base : Nat) (vp0 : Value) (W : World) (k0 : Nat), k0 + s3.length = n → w.heap.size ∈ X → w.heap.size < base → base ≤ W.heap.size → OwnC 56 3 W base vp0 0 [] → (∀ q, vp0.ownBlock = some q → q ∈ X) → (∀ W2, Kp X W W2 → Below w.heap.size w W2) → (∀ W2, Below w.heap.size w W2 → At W2 b (o + k0) s3) → W.heap[w.heap.size]? = some (.cells #[.int .u8 ver, .string com, .int .u8 0, .int .u32 0, .int .u32 0, .int .u32 0, .int .u8 0, .int .u8 0, .int .u8 0, .int .u32 0, vp0, .slice none 0 0, .bool false, .string ⟨#[]⟩, .string ⟨#[]⟩, .int .i64 0, .int .i64 0, .int .u64 0] 52 (0, 0)) →
      Calls Tryz.prog 41 #[.pointer (some ⟨g, 0, none⟩), .slice (some ⟨b, o, none⟩) n c, .int .i64 k0, .pointer (some ⟨w.heap.size, 0, none⟩)] W (RetVbl (fun W => Below w.heap.size w W) X base W f w.heap.size l)) :
    Calls Tryz.prog 20 #[.pointer (some ⟨g, 0, none⟩), .slice (some ⟨b, o, none⟩) n c] w (RetPkt w f l) := by
  obtain ⟨WA, hWA⟩ : ∃ WA, WA = w.alloc (.cells #[.int .u8 0, .string ⟨#[]⟩, .int .u8 0, .int .u32 0, .int .u32 0, .int .u32 0, .int .u8 0, .int .u8 0, .int .u8 0, .int .u32 0, .slice none 0 0, .slice none 0 0, .bool false, .string ⟨#[]⟩, .string ⟨#[]⟩, .int .i64 0, .int .i64 0, .int .u64 0] 52) := ⟨_, rfl⟩
  have hbA : Below w.heap.size w WA := by rw [hWA]; exact (Below.refl _ _).alloc (Nat.le_refl _) _
  have hpA : WA.heap[w.heap.size]? = some (.cells #[.int .u8 0, .string ⟨#[]⟩, .int .u8 0, .int .u32 0, .int .u32 0, .int .u32 0, .int .u8 0, .int .u8 0, .int .u8 0, .int .u32 0, .slice none 0 0, .slice none 0 0, .bool false, .string ⟨#[]⟩, .string ⟨#[]⟩, .int .i64 0, .int .i64 0, .int .u64 0] 52 (0, 0)) := by rw [hWA]; exact heap_alloc_new w _
  have hKB : ∀ (X : List Nat), (∀ q ∈ X, w.heap.size ≤ q) → ∀ W1, Below w.heap.size w W1 → ∀ W, Kp X W1 W → Below w.heap.size w W := fun X hX W1 h1 W h => h1.trans (h.below h1.size hX)
  have hGP : ∀ W, Kp [w.heap.size] WA W → Below w.heap.size w W := hKB [w.heap.size] (fun q hq => by rw [List.mem_singleton.1 hq]; exact Nat.le_refl _) WA hbA
  have hgG : ∀ W, Below w.heap.size w W → W.heap[g]? = some (.cells #[] 68 (0, 0)) := fun W h => (h.block g (Lib.lt_of_heap hg)).trans hg
  have hatG : ∀ W, Below w.heap.size w W → At W b o (sealB 48 (sealB 2 (intB ver) wd ++ sealB 4 (bytesOf com) wd ++ s3) wd) := fun W h => hat.below h
  have HH := Lib.hid (header (fun W => Below w.heap.size w W) (.slice none 0 0) (.int .u8 0) (.string ⟨#[]⟩) (.int .u8 0) (.int .u32 0) (.int .u32 0) (.int .u32 0) (.int .u8 0) (.int .u8 0) (.int .u8 0) (.int .u32 0) (.slice none 0 0) (.bool false) (.string ⟨#[]⟩) (.string ⟨#[]⟩) (.int .i64 0) (.int .i64 0) (.int .u64 0) WA b o n c g w.heap.size wd ver com s3 hver hcom hs3 hs3b hwd hn hnc hc hGP hgG hatG hpA)
  obtain ⟨k0, hk0⟩ : ∃ k0, k0 = hdr (sealB 2 (intB ver) wd ++ sealB 4 (bytesOf com) wd ++ s3).length wd + (sealB 2 (intB ver) wd).length + (sealB 4 (bytesOf com) wd).length := ⟨_, rfl⟩
  rw [← hk0] at HH
  have hk0n : k0 + s3.length = n := by
    have e := sealB_len 48 (sealB 2 (intB ver) wd ++ sealB 4 (bytesOf com) wd ++ s3) wd
    have e2 : (sealB 2 (intB ver) wd ++ sealB 4 (bytesOf com) wd ++ s3).length = (sealB 2 (intB ver) wd).length + (sealB 4 (bytesOf com) wd).length + s3.length := by rw [List.length_append, List.length_append]
    rw [hn] at e
    omega
  have hat0 : ∀ W, Below w.heap.size w W → At W b (o + k0) s3 := by
    intro W hW
    have h := hatG W hW
    have h' : At W b o (48 :: (lenB (sealB 2 (intB ver) wd ++ sealB 4 (bytesOf com) wd ++ s3).length wd ++ ((sealB 2 (intB ver) wd ++ sealB 4 (bytesOf com) wd ++ s3) ++ []))) := by rw [List.append_nil]; exact h
    have h2 := h'.con.right
    have e2 : (sealB 2 (intB ver) wd ++ sealB 4 (bytesOf com) wd).length = (sealB 2 (intB ver) wd).length + (sealB 4 (bytesOf com) wd).length := List.length_append
    rw [e2, Nat.add_assoc] at h2
    rw [hk0, Nat.add_assoc]
    exact h2
  have HPY := Lib.hid HPAY
  clear HPAY
  have HKB := Lib.hid hKB
  have HBA := Lib.hid hbA
  have HAT0 := Lib.hid hat0
  have HK0N := Lib.hid hk0n
  have hgA := run_part WA g (hgG WA hbA)
  have HPA := Lib.hid hpA
  have HWA := Lib.hid hWA
  have hpL : (partAt ⟨w.heap.size, 0, none⟩ 11 72).run Tryz.prog (w.alloc (.cells #[.int .u8 0, .string ⟨#[]⟩, .int .u8 0, .int .u32 0, .int .u32 0, .int .u32 0, .int .u8 0, .int .u8 0, .int .u8 0, .int .u32 0, .slice none 0 0, .slice none 0 0, .bool false, .string ⟨#[]⟩, .string ⟨#[]⟩, .int .i64 0, .int .i64 0, .int .u64 0] 52)) = .ok ⟨w.heap.size, 11, none⟩ (w.alloc (.cells #[.int .u8 0, .string ⟨#[]⟩, .int .u8 0, .int .u32 0, .int .u32 0, .int .u32 0, .int .u8 0, .int .u8 0, .int .u8 0, .int .u32 0, .slice none 0 0, .slice none 0 0, .bool false, .string ⟨#[]⟩, .string ⟨#[]⟩, .int .i64 0, .int .i64 0, .int .u64 0] 52)) := run_part52 _ _ _ (heap_alloc_new w _)
  have hgL : (partAt ⟨g, 0, none⟩ 0 0).run Tryz.prog (w.alloc (.cells #[.int .u8 0, .string ⟨#[]⟩, .int .u8 0, .int .u32 0, .int .u32 0, .int .u32 0, .int .u8 0, .int .u8 0, .int .u8 0, .int .u32 0, .slice none 0 0, .slice none 0 0, .bool false, .string ⟨#[]⟩, .string ⟨#[]⟩, .int .i64 0, .int .i64 0, .int .u64 0] 52)) = .ok ⟨g, 0, none⟩ (w.alloc (.cells #[.int .u8 0, .string ⟨#[]⟩, .int .u8 0, .int .u32 0, .int .u32 0, .int .u32 0, .int .u8 0, .int .u8 0, .int .u8 0, .int .u32 0, .slice none 0 0, .slice none 0 0, .bool false, .string ⟨#[]⟩, .string ⟨#[]⟩, .int .i64 0, .int .i64 0, .int .u64 0] 52)) := by rw [← hWA]; exact hgA
  clear hn hg hat hGP hgG hatG hk0 hk0n hat0 hKB hver hcom hs3 hs3b hWA hgA hpA hbA
  go_enter Tryz.func20, Tryz.ntmps20
  go_wp2_with (go_at_call 40; rw [← HWA.out]; refine (HH.out).mono ?_; rintro e W1 ⟨rfl, vp0, base, hp1, ho1, hob, hb1, hb2, hk1⟩; refine Hid.out ?_)
  refine Lib.hid ?_
  have hB1 : Below w.heap.size w W1 := HKB.out [w.heap.size] (fun q hq => by rw [List.mem_singleton.1 hq]; exact Nat.le_refl _) WA HBA.out W1 hk1
  have hsz : w.heap.size < WA.heap.size := Lib.lt_of_heap HPA.out
  have hwb : w.heap.size < base := by omega
  have hX : ∀ q ∈ [w.heap.size, base], w.heap.size ≤ q := by
    intro q hq
    simp at hq
    rcases hq with rfl | rfl
    · exact Nat.le_refl _
    · omega
  have HC := Lib.hid (HPY.out [w.heap.size, base] base vp0 W1 k0 HK0N.out (by simp) hwb hb2 ho1 (fun q hq => by rw [hob] at hq; injection hq with hq; rw [← hq]; simp) (HKB.out _ hX W1 hB1) HAT0.out hp1)
  have HB1 := Lib.hid hB1
  have HXX := Lib.hid hX
  have HWB := Lib.hid hwb
  clear hp1 ho1 hob hb1 hb2 hk1 hB1 hsz hX hwb hpL hgL HH
  go_wp2_with (go_at_call 41; refine (HC.out).mono ?_; rintro e W2 ⟨rfl, vs, vp, z1, z2, z3, z4⟩; refine Hid.out ?_)
  refine Lib.hid ?_
  have HR : Hid (RetPkt w f l (.returned (.tuple #[.pointer (some ⟨w.heap.size, 0, none⟩), .nilIface])) W2) := ⟨rfl, vs, vp, base, HWB.out, z1, z2, z3, HKB.out _ HXX.out W1 HB1.out W2 z4⟩
  clear z1 z2 z3 z4
  go_wp2
  go_ret2
  exact HR.out
end Go.Proofs.YtpfmcdhmboclhaaGreatDoor
namespace Go.Proofs.YtpfmcdhmboclhaaGreatDoor
open Go.RowKit

/-- What a variable is told as. -/
def toldI : Pay → Int
  | .int n => n
  | _ => 0
def toldU : Pay → Int
  | .u32 _ n => n
  | .u64 n => n
  | _ => 0
def toldT : Pay → ByteArray
  | .str s => s
  | .oid _ arcs => dot arcs
  | .ip _ a b c d => txt (ipT a b c d)
  | _ => ⟨#[]⟩
def toldV (nm : ByteArray) (p : Pay) : Value := .agg #[.string nm, .int .i64 p.typ, .int .i64 (toldI p), .int .u64 (toldU p), .string (toldT p)]
theorem tn_3 (w : World) : (Instr.typeAssert .nilIface 20 3 true).run Tryz.prog w = .ok (.tuple #[.int .i64 0, .bool false]) w := by kernel_rfl
theorem tn_24 (w : World) : (Instr.typeAssert .nilIface 20 24 true).run Tryz.prog w = .ok (.tuple #[.int .u64 0, .bool false]) w := by kernel_rfl
theorem tn_22 (w : World) : (Instr.typeAssert .nilIface 20 22 true).run Tryz.prog w = .ok (.tuple #[.int .u32 0, .bool false]) w := by kernel_rfl
theorem tn_38 (w : World) : (Instr.typeAssert .nilIface 20 38 true).run Tryz.prog w = .ok (.tuple #[.int .u64 0, .bool false]) w := by kernel_rfl
theorem tn_97 (w : World) : (Instr.typeAssert .nilIface 20 97 true).run Tryz.prog w = .ok (.tuple #[.float .f32 0, .bool false]) w := by kernel_rfl
theorem tn_99 (w : World) : (Instr.typeAssert .nilIface 20 99 true).run Tryz.prog w = .ok (.tuple #[.float .f64 0, .bool false]) w := by kernel_rfl
theorem tn_30 (w : World) : (Instr.typeAssert .nilIface 20 30 true).run Tryz.prog w = .ok (.tuple #[.slice none 0 0, .bool false]) w := by kernel_rfl
theorem tn_9 (w : World) : (Instr.typeAssert .nilIface 20 9 true).run Tryz.prog w = .ok (.tuple #[.string ⟨#[]⟩, .bool false]) w := by kernel_rfl
theorem tt_3_3 (v : Value) (w : World) : (Instr.typeAssert (.iface 3 v) 20 3 true).run Tryz.prog w = .ok (.tuple #[v, .bool true]) w := by kernel_rfl
theorem tt_24_3 (v : Value) (w : World) : (Instr.typeAssert (.iface 24 v) 20 3 true).run Tryz.prog w = .ok (.tuple #[.int .i64 0, .bool false]) w := by kernel_rfl
theorem tt_24_24 (v : Value) (w : World) : (Instr.typeAssert (.iface 24 v) 20 24 true).run Tryz.prog w = .ok (.tuple #[v, .bool true]) w := by kernel_rfl
theorem tt_22_3 (v : Value) (w : World) : (Instr.typeAssert (.iface 22 v) 20 3 true).run Tryz.prog w = .ok (.tuple #[.int .i64 0, .bool false]) w := by kernel_rfl
theorem tt_22_24 (v : Value) (w : World) : (Instr.typeAssert (.iface 22 v) 20 24 true).run Tryz.prog w = .ok (.tuple #[.int .u64 0, .bool false]) w := by kernel_rfl
theorem tt_22_22 (v : Value) (w : World) : (Instr.typeAssert (.iface 22 v) 20 22 true).run Tryz.prog w = .ok (.tuple #[v, .bool true]) w := by kernel_rfl
theorem tt_38_3 (v : Value) (w : World) : (Instr.typeAssert (.iface 38 v) 20 3 true).run Tryz.prog w = .ok (.tuple #[.int .i64 0, .bool false]) w := by kernel_rfl
theorem tt_38_24 (v : Value) (w : World) : (Instr.typeAssert (.iface 38 v) 20 24 true).run Tryz.prog w = .ok (.tuple #[.int .u64 0, .bool false]) w := by kernel_rfl
theorem tt_38_22 (v : Value) (w : World) : (Instr.typeAssert (.iface 38 v) 20 22 true).run Tryz.prog w = .ok (.tuple #[.int .u32 0, .bool false]) w := by kernel_rfl
theorem tt_38_38 (v : Value) (w : World) : (Instr.typeAssert (.iface 38 v) 20 38 true).run Tryz.prog w = .ok (.tuple #[v, .bool true]) w := by kernel_rfl
theorem tt_30_3 (v : Value) (w : World) : (Instr.typeAssert (.iface 30 v) 20 3 true).run Tryz.prog w = .ok (.tuple #[.int .i64 0, .bool false]) w := by kernel_rfl
theorem tt_30_24 (v : Value) (w : World) : (Instr.typeAssert (.iface 30 v) 20 24 true).run Tryz.prog w = .ok (.tuple #[.int .u64 0, .bool false]) w := by kernel_rfl
theorem tt_30_22 (v : Value) (w : World) : (Instr.typeAssert (.iface 30 v) 20 22 true).run Tryz.prog w = .ok (.tuple #[.int .u32 0, .bool false]) w := by kernel_rfl
theorem tt_30_38 (v : Value) (w : World) : (Instr.typeAssert (.iface 30 v) 20 38 true).run Tryz.prog w = .ok (.tuple #[.int .u64 0, .bool false]) w := by kernel_rfl
theorem tt_30_97 (v : Value) (w : World) : (Instr.typeAssert (.iface 30 v) 20 97 true).run Tryz.prog w = .ok (.tuple #[.float .f32 0, .bool false]) w := by kernel_rfl
theorem tt_30_99 (v : Value) (w : World) : (Instr.typeAssert (.iface 30 v) 20 99 true).run Tryz.prog w = .ok (.tuple #[.float .f64 0, .bool false]) w := by kernel_rfl
theorem tt_30_30 (v : Value) (w : World) : (Instr.typeAssert (.iface 30 v) 20 30 true).run Tryz.prog w = .ok (.tuple #[v, .bool true]) w := by kernel_rfl
theorem tt_9_3 (v : Value) (w : World) : (Instr.typeAssert (.iface 9 v) 20 3 true).run Tryz.prog w = .ok (.tuple #[.int .i64 0, .bool false]) w := by kernel_rfl
theorem tt_9_24 (v : Value) (w : World) : (Instr.typeAssert (.iface 9 v) 20 24 true).run Tryz.prog w = .ok (.tuple #[.int .u64 0, .bool false]) w := by kernel_rfl
theorem tt_9_22 (v : Value) (w : World) : (Instr.typeAssert (.iface 9 v) 20 22 true).run Tryz.prog w = .ok (.tuple #[.int .u32 0, .bool false]) w := by kernel_rfl
theorem tt_9_38 (v : Value) (w : World) : (Instr.typeAssert (.iface 9 v) 20 38 true).run Tryz.prog w = .ok (.tuple #[.int .u64 0, .bool false]) w := by kernel_rfl
theorem tt_9_97 (v : Value) (w : World) : (Instr.typeAssert (.iface 9 v) 20 97 true).run Tryz.prog w = .ok (.tuple #[.float .f32 0, .bool false]) w := by kernel_rfl
theorem tt_9_99 (v : Value) (w : World) : (Instr.typeAssert (.iface 9 v) 20 99 true).run Tryz.prog w = .ok (.tuple #[.float .f64 0, .bool false]) w := by kernel_rfl
theorem tt_9_30 (v : Value) (w : World) : (Instr.typeAssert (.iface 9 v) 20 30 true).run Tryz.prog w = .ok (.tuple #[.slice none 0 0, .bool false]) w := by kernel_rfl
theorem tt_9_9 (v : Value) (w : World) : (Instr.typeAssert (.iface 9 v) 20 9 true).run Tryz.prog w = .ok (.tuple #[v, .bool true]) w := by kernel_rfl
set_option maxHeartbeats 8000000 in
set_option maxRecDepth 100000 in
theorem told_nul (nm : ByteArray) (t : Nat) (w : World) (ht : t < 256) : Calls Tryz.prog 21 #[.string nm, .int .u8 t, .nilIface] w fun e w' => e = .returned (.agg #[.string nm, .int .i64 t, .int .i64 (0), .int .u64 (0), .string (⟨#[]⟩)]) ∧ Below w.heap.size w w' := by
  have t3 := tn_3
  have t24 := tn_24
  have t22 := tn_22
  have t38 := tn_38
  have t97 := tn_97
  have t99 := tn_99
  have t30 := tn_30
  have t9 := tn_9
  go_enter Tryz.func21, Tryz.ntmps21
  go_wp2
  go_returns
  exact ⟨rfl, ((Below.refl _ _).alloc (Nat.le_refl _) _).alloc (by simp) _⟩
set_option maxHeartbeats 8000000 in
set_option maxRecDepth 100000 in
theorem told_int (nm : ByteArray) (n : Int) (w : World) (hn : -2147483648 ≤ n ∧ n ≤ 2147483647) : Calls Tryz.prog 21 #[.string nm, .int .u8 2, .iface 3 (.int .i64 n)] w fun e w' => e = .returned (.agg #[.string nm, .int .i64 2, .int .i64 (n), .int .u64 (0), .string (⟨#[]⟩)]) ∧ Below w.heap.size w w' := by
  have t3 := tt_3_3
  go_enter Tryz.func21, Tryz.ntmps21
  go_wp2
  go_returns
  exact ⟨rfl, ((Below.refl _ _).alloc (Nat.le_refl _) _).alloc (by simp) _⟩
set_option maxHeartbeats 8000000 in
set_option maxRecDepth 100000 in
theorem told_65 (nm : ByteArray) (n : Nat) (w : World) (hn : n < 4294967296) : Calls Tryz.prog 21 #[.string nm, .int .u8 65, .iface 24 (.int .u64 n)] w fun e w' => e = .returned (.agg #[.string nm, .int .i64 65, .int .i64 (0), .int .u64 (n), .string (⟨#[]⟩)]) ∧ Below w.heap.size w w' := by
  have t3 := tt_24_3
  have t24 := tt_24_24
  go_enter Tryz.func21, Tryz.ntmps21
  go_wp2
  go_returns
  exact ⟨rfl, ((Below.refl _ _).alloc (Nat.le_refl _) _).alloc (by simp) _⟩
set_option maxHeartbeats 8000000 in
set_option maxRecDepth 100000 in
theorem told_66 (nm : ByteArray) (n : Nat) (w : World) (hn : n < 4294967296) : Calls Tryz.prog 21 #[.string nm, .int .u8 66, .iface 24 (.int .u64 n)] w fun e w' => e = .returned (.agg #[.string nm, .int .i64 66, .int .i64 (0), .int .u64 (n), .string (⟨#[]⟩)]) ∧ Below w.heap.size w w' := by
  have t3 := tt_24_3
  have t24 := tt_24_24
  go_enter Tryz.func21, Tryz.ntmps21
  go_wp2
  go_returns
  exact ⟨rfl, ((Below.refl _ _).alloc (Nat.le_refl _) _).alloc (by simp) _⟩
end Go.Proofs.YtpfmcdhmboclhaaGreatDoor
