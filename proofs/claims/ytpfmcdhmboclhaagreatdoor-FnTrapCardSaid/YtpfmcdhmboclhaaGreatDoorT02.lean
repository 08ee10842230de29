/- gosnmp: a length is read. gosnmp: a field is read. gosnmp: the body of a trap of version 1 is read. gosnmp: what a message carries is read. -/
import Derived.Test.YtpfmcdhmboclhaaGreatDoorG16
import Derived.Test.YtpfmcdhmboclhaaGreatDoorT00
set_option linter.unusedVariables false
set_option linter.unusedSimpArgs false
namespace Go.Proofs.YtpfmcdhmboclhaaGreatDoor
open Go.RowKit
theorem At.tail {w : World} {b o : Nat} {x : Int} {r : List Int} (h : At w b o (x :: r)) : At w b (o + 1) r := h.drop 1
end Go.Proofs.YtpfmcdhmboclhaaGreatDoor
namespace Go.Proofs.YtpfmcdhmboclhaaGreatDoor
open Go.RowKit
set_option maxHeartbeats 8000000 in
set_option maxRecDepth 100000 in
theorem field_67 (w : World) (b o n c wd : Nat) (msg : ByteArray) (x : Nat) (rest : List Int) (hx : x < 18446744073709551616) (hwd : wd ≤ 2) (hat : At w b o (sealB 67 (uintB x) wd ++ rest)) (hn : (sealB 67 (uintB x) wd).length ≤ n) (hnc : n ≤ c) (hc : c ≤ 9223372036854775807 ∧ n ≤ 1000000) :
    Calls Tryz.prog 60 #[.agg #[], .slice (some ⟨b, o, none⟩) n c, .string msg] w (RetF w (.iface 24 (.int .u64 x)) (sealB 67 (uintB x) wd).length) := by
  obtain ⟨k, hk⟩ : ∃ k, k = (uintB x).length := ⟨_, rfl⟩
  obtain ⟨h, hh⟩ : ∃ h, h = hdr k wd := ⟨_, rfl⟩
  obtain ⟨N, hN⟩ : ∃ N, N = k + h := ⟨_, rfl⟩
  have hlen : (sealB 67 (uintB x) wd).length = N := by rw [hN, hh, hk]; exact sealB_len _ _ _
  rw [hlen] at hn ⊢
  have hat1 : At w b o (67 :: (lenB k wd ++ (uintB x ++ rest))) := by rw [hk]; simpa [sealB] using hat
  have hat2 : At w b (o + h) (uintB x) := by rw [hh, hk]; rw [hk] at hat1; exact hat1.con
  have hk4 : k < 65536 := by rw [hk]; have := uintB_short x hx; omega
  have hk1 : 1 ≤ k := by rw [hk]; exact uintB_pos x
  have hh2 : 2 ≤ h := by rw [hh]; exact hdr_ge k wd
  have HA1 := Lib.hid hat1
  have HA2 := Lib.hid hat2
  have HK := Lib.hid hk
  have HH := Lib.hid hh
  have hhN : h ≤ N := by omega
  have hNN := Lib.hid hN
  have hch : c ≠ h := by omega
  have HX := Lib.hid hx
  clear hx
  clear hat hat1 hat2 hlen hk hh hN
  go_enter Tryz.func60, Tryz.ntmps60
  go_wp2_with (go_at_call 61; refine (printf _ _ _).mono ?_; rintro e W1 ⟨rfl, hb⟩; refine Hid.out ?_)
  refine Lib.hid ?_
  have hB : Below w.heap.size w W1 := ((((Below.refl _ w).alloc (Nat.le_refl _) _).alloc (by simp) _)).trans (hb.mono (by simp; omega))
  have c0 : W1.cell? ⟨b, o, none⟩ = some (.int .u8 67) := cellB hB HA1.out.head
  have HL := Lib.hid (parseLength W1 b o n c k wd 67 (uintB x ++ rest) hk4 hwd (HA1.out.below hB) (by rw [← HH.out]; omega) hnc hc)
  rw [← HH.out, ← hNN.out] at HL
  have HB := Lib.hid hB
  clear hb hB
  go_wp2_with (go_at_call 76; refine (HL.out).mono ?_; rintro e W2 ⟨rfl, rfl⟩; refine Hid.out ?_)
  refine Lib.hid ?_
  have HP := Lib.hid (parseUint W2 b (o + h) (N - h) (c - h) x HX.out (by have := hNN.out; rw [← HK.out]; omega) (by omega) (by omega) (HA2.out.below HB.out))
  clear HL
  go_wp2_with (go_at_call 80; refine (HP.out).mono ?_; rintro e W3 ⟨rfl, rfl⟩; refine Hid.out ?_)
  refine Lib.hid ?_
  go_wp2
  go_ret3
  exact ⟨rfl, HB.out⟩
set_option maxHeartbeats 8000000 in
set_option maxRecDepth 100000 in
theorem field_64 (w : World) (b o n c wd : Nat) (msg : ByteArray) (a1 a2 a3 a4 : Nat) (z : Addr) (rest : List Int) (h1 : a1 < 256) (h2 : a2 < 256) (h3 : a3 < 256) (h4 : a4 < 256) (hz : NetLaid w z) (hwd : wd ≤ 2) (hat : At w b o (sealB 64 ([(a1 : Int), (a2 : Int), (a3 : Int), (a4 : Int)]) wd ++ rest)) (hn : (sealB 64 ([(a1 : Int), (a2 : Int), (a3 : Int), (a4 : Int)]) wd).length ≤ n) (hnc : n ≤ c) (hc : c ≤ 9223372036854775807 ∧ n ≤ 1000000) :
    Calls Tryz.prog 60 #[.agg #[], .slice (some ⟨b, o, none⟩) n c, .string msg] w (RetF w (.iface 9 (.string (txt (ipT a1 a2 a3 a4)))) (sealB 64 ([(a1 : Int), (a2 : Int), (a3 : Int), (a4 : Int)]) wd).length) := by
  obtain ⟨k, hk⟩ : ∃ k, k = ([(a1 : Int), (a2 : Int), (a3 : Int), (a4 : Int)]).length := ⟨_, rfl⟩
  obtain ⟨h, hh⟩ : ∃ h, h = hdr k wd := ⟨_, rfl⟩
  obtain ⟨N, hN⟩ : ∃ N, N = k + h := ⟨_, rfl⟩
  have hlen : (sealB 64 ([(a1 : Int), (a2 : Int), (a3 : Int), (a4 : Int)]) wd).length = N := by rw [hN, hh, hk]; exact sealB_len _ _ _
  rw [hlen] at hn ⊢
  have hat1 : At w b o (64 :: (lenB k wd ++ ([(a1 : Int), (a2 : Int), (a3 : Int), (a4 : Int)] ++ rest))) := by rw [hk]; simpa [sealB] using hat
  have hat2 : At w b (o + h) ([(a1 : Int), (a2 : Int), (a3 : Int), (a4 : Int)]) := by rw [hh, hk]; rw [hk] at hat1; exact hat1.con
  have hk4 : k < 65536 := by rw [hk]; simp
  have hk1 : 1 ≤ k := by rw [hk]; simp
  have hh2 : 2 ≤ h := by rw [hh]; exact hdr_ge k wd
  have HA1 := Lib.hid hat1
  have HA2 := Lib.hid hat2
  have HK := Lib.hid hk
  have HH := Lib.hid hh
  have hhN : h ≤ N := by omega
  have hNN := Lib.hid hN
  have hch : c ≠ h := by omega
  have hk44 : N = 4 + h := by rw [hN, hk]; rfl
  have HX := Lib.hid (And.intro h1 (And.intro h2 (And.intro h3 h4)))
  have HZ := Lib.hid hz
  clear h1 h2 h3 h4 hz
  clear hat hat1 hat2 hlen hk hh hN
  go_enter Tryz.func60, Tryz.ntmps60
  go_wp2_with (go_at_call 61; refine (printf _ _ _).mono ?_; rintro e W1 ⟨rfl, hb⟩; refine Hid.out ?_)
  refine Lib.hid ?_
  have hB : Below w.heap.size w W1 := ((((Below.refl _ w).alloc (Nat.le_refl _) _).alloc (by simp) _)).trans (hb.mono (by simp; omega))
  have c0 : W1.cell? ⟨b, o, none⟩ = some (.int .u8 64) := cellB hB HA1.out.head
  have HL := Lib.hid (parseLength W1 b o n c k wd 64 ([(a1 : Int), (a2 : Int), (a3 : Int), (a4 : Int)] ++ rest) hk4 hwd (HA1.out.below hB) (by rw [← HH.out]; omega) hnc hc)
  rw [← HH.out, ← hNN.out] at HL
  have HB := Lib.hid hB
  clear hb hB
  go_wp2_with (go_at_call 76; refine (HL.out).mono ?_; rintro e W2 ⟨rfl, rfl⟩; refine Hid.out ?_)
  refine Lib.hid ?_
  have HP := Lib.hid (zzAddress b (o + h) (c - h) a1 a2 a3 a4 z W2 HX.out.1 HX.out.2.1 HX.out.2.2.1 HX.out.2.2.2 (HZ.out.below HB.out) (by omega) (by omega) (HA2.out.below HB.out))
  have hN4 : N - h = 4 := by omega
  have hN4i : (N : Int) - (h : Int) = 4 := by omega
  have hN5 : h + 4 - h = 4 := by omega
  have hhn : h + 4 ≤ n := by omega
  clear HL
  go_wp2_with (go_at_call 79; refine (HP.out).mono ?_; rintro e W3 ⟨rfl, hb3⟩; refine Hid.out ?_)
  refine Lib.hid ?_
  have HB3 : Hid (Below w.heap.size w W3) := HB.out.trans (hb3.mono HB.out.size)
  have hNi : (N : Int) = 4 + (h : Int) := by omega
  clear hb3
  go_wp2
  go_ret3
  exact ⟨by rw [hNi]; rfl, HB3.out⟩
end Go.Proofs.YtpfmcdhmboclhaaGreatDoor
namespace Go.Proofs.YtpfmcdhmboclhaaGreatDoor
open Go.RowKit


set_option maxHeartbeats 64000000 in
set_option maxRecDepth 100000 in
theorem trapV1 (G : World → Prop) (X : List Nat) (base : Nat) (vp0 q0 q1 q3 q4 q5 q6 q7 q8 q9 q11 q12 q13 q14 q15 q16 q17 : Value) (w : World) (b o n c g pk wd : Nat) (arcs : List Nat) (a1 a2 a3 a4 : Nat) (gen spec : Int) (time : Nat) (l : List AV) (z : Addr) (hgd : GoodArcs arcs) (hip : a1 < 256 ∧ a2 < 256 ∧ a3 < 256 ∧ a4 < 256) (hgen : -2147483648 ≤ gen ∧ gen ≤ 2147483647) (hspec : -2147483648 ≤ spec ∧ spec ≤ 2147483647) (htime : time < 4294967296) (hl : l.length ≤ 20) (hok : ∀ x ∈ l, x.Ok) (hwd : wd ≤ 2) (hn : (sealB 164 (trapHead arcs a1 a2 a3 a4 gen spec time wd ++ sealB 48 (varsB l wd) wd) wd).length = n) (hnc : n ≤ c) (hc : c ≤ 9223372036854775807 ∧ n ≤ 1000000)
    (hX : pk ∈ X) (hpb : pk < base) (hbw : base ≤ w.heap.size) (hO0 : OwnC 56 3 w base vp0 0 []) (hinv0 : ∀ q, vp0.ownBlock = some q → q ∈ X) (hG : ∀ W, Kp X w W → G W) (hzG : ∀ W, G W → NetLaid W z) (htG : ∀ W, G W → Tab W) (haG : ∀ W, G W → AsnLaid W) (hgG : ∀ W, G W → W.heap[g]? = some (.cells #[] 68 (0, 0)))
    (hatG : ∀ W, G W → At W b o (sealB 164 (trapHead arcs a1 a2 a3 a4 gen spec time wd ++ sealB 48 (varsB l wd) wd) wd)) (hpk : w.heap[pk]? = some (.cells #[q0, q1, (.int .u8 164), q3, q4, q5, q6, q7, q8, q9, vp0, q11, q12, q13, q14, q15, q16, q17] 52 (0, 0))) :
    Calls Tryz.prog 63 #[.pointer (some ⟨g, 0, none⟩), .slice (some ⟨b, o, none⟩) n c, .pointer (some ⟨pk, 0, none⟩)] w (RetVbl G X base w (fun v => #[q0, q1, (.int .u8 164), q3, q4, q5, q6, q7, q8, q9, v, q11, q12, (.string (dot arcs)), (.string (txt (ipT a1 a2 a3 a4))), (.int .i64 gen), (.int .i64 spec), (.int .u64 time)]) pk l) := by
  obtain ⟨s1, hs1⟩ : ∃ s, s = sealB 6 (nameB arcs) wd := ⟨_, rfl⟩
  obtain ⟨s2, hs2⟩ : ∃ s, s = sealB 64 [(a1 : Int), (a2 : Int), (a3 : Int), (a4 : Int)] wd := ⟨_, rfl⟩
  obtain ⟨s3, hs3⟩ : ∃ s, s = sealB 2 (intB gen) wd := ⟨_, rfl⟩
  obtain ⟨s4, hs4⟩ : ∃ s, s = sealB 2 (intB spec) wd := ⟨_, rfl⟩
  obtain ⟨s5, hs5⟩ : ∃ s, s = sealB 67 (uintB time) wd := ⟨_, rfl⟩
  obtain ⟨s6, hs6⟩ : ∃ s, s = sealB 48 (varsB l wd) wd := ⟨_, rfl⟩
  have hbody : trapHead arcs a1 a2 a3 a4 gen spec time wd ++ sealB 48 (varsB l wd) wd = s1 ++ s2 ++ s3 ++ s4 ++ s5 ++ s6 := by rw [hs1, hs2, hs3, hs4, hs5, hs6]; simp only [trapHead, List.append_assoc]
  rw [hbody] at hn hatG
  have hvl := varsB_length l wd hwd hok
  have g1 := hgd.bytes
  have g3 := sval_intB gen hgen
  have g4 := sval_intB spec hspec
  have g5 := uintB_short time (by omega)
  have h1 : s1.length ≤ 120 := by have := sealB_length 6 (nameB arcs) wd (by omega); rw [hs1]; omega
  have h2 : s2.length ≤ 10 := by have := sealB_length 64 [(a1 : Int), (a2 : Int), (a3 : Int), (a4 : Int)] wd (by simp); rw [hs2]; simp at this; omega
  have h3 : s3.length ≤ 10 := by have := sealB_length 2 (intB gen) wd (by omega); rw [hs3]; omega
  have h4 : s4.length ≤ 10 := by have := sealB_length 2 (intB spec) wd (by omega); rw [hs4]; omega
  have h5 : s5.length ≤ 20 := by have := sealB_length 67 (uintB time) wd (by omega); rw [hs5]; omega
  have h6 : s6.length ≤ 13000 := by have := sealB_length 48 (varsB l wd) wd (by omega); rw [hs6]; omega
  have h6p : 2 ≤ s6.length := by rw [hs6, sealB_len]; have := hdr_ge (varsB l wd).length wd; omega
  obtain ⟨L1, hL1⟩ : ∃ L, L = s1.length := ⟨_, rfl⟩
  obtain ⟨L2, hL2⟩ : ∃ L, L = s2.length := ⟨_, rfl⟩
  obtain ⟨L3, hL3⟩ : ∃ L, L = s3.length := ⟨_, rfl⟩
  obtain ⟨L4, hL4⟩ : ∃ L, L = s4.length := ⟨_, rfl⟩
  obtain ⟨L5, hL5⟩ : ∃ L, L = s5.length := ⟨_, rfl⟩
  obtain ⟨L6, hL6⟩ : ∃ L, L = s6.length := ⟨_, rfl⟩
  obtain ⟨k, hk⟩ : ∃ k, k = (s1 ++ s2 ++ s3 ++ s4 ++ s5 ++ s6).length := ⟨_, rfl⟩
  obtain ⟨j, hj⟩ : ∃ j, j = hdr k wd := ⟨_, rfl⟩
  have hkl : k = L1 + L2 + L3 + L4 + L5 + L6 := by rw [hk, hL1, hL2, hL3, hL4, hL5, hL6]; simp; omega
  have hN : n = k + j := by rw [← hn, hj, hk]; exact sealB_len _ _ _
  have hj2 : 2 ≤ j := by rw [hj]; exact hdr_ge k wd
  have HAT1 : Hid (∀ W, G W → At W b (o + j) (sealB 6 (nameB arcs) wd ++ (s2 ++ (s3 ++ (s4 ++ (s5 ++ s6)))))) := by
    intro W hW
    have h := hatG W hW
    have h' : At W b o (164 :: (lenB (s1 ++ s2 ++ s3 ++ s4 ++ s5 ++ s6).length wd ++ ((s1 ++ s2 ++ s3 ++ s4 ++ s5 ++ s6) ++ []))) := by rw [List.append_nil]; exact h
    have h'' := h'.con
    rw [← hk, ← hj] at h''
    rw [← hs1]
    simpa using h''
  have HAT2 : Hid (∀ W, G W → At W b (o + (j + L1)) (sealB 64 [(a1 : Int), (a2 : Int), (a3 : Int), (a4 : Int)] wd ++ (s3 ++ (s4 ++ (s5 ++ s6))))) := by
    intro W hW
    have h := (HAT1.out W hW).right
    rw [← hs1, ← hL1, Nat.add_assoc, hs2] at h
    exact h
  have HAT3 : Hid (∀ W, G W → At W b (o + (j + L1 + L2)) (sealB 2 (intB gen) wd ++ (s4 ++ (s5 ++ s6)))) := by
    intro W hW
    have h := (HAT2.out W hW).right
    rw [← hs2, ← hL2, Nat.add_assoc, hs3] at h
    exact h
  have HAT4 : Hid (∀ W, G W → At W b (o + (j + L1 + L2 + L3)) (sealB 2 (intB spec) wd ++ (s5 ++ s6))) := by
    intro W hW
    have h := (HAT3.out W hW).right
    rw [← hs3, ← hL3, Nat.add_assoc, hs4] at h
    exact h
  have HAT5 : Hid (∀ W, G W → At W b (o + (j + L1 + L2 + L3 + L4)) (sealB 67 (uintB time) wd ++ s6)) := by
    intro W hW
    have h := (HAT4.out W hW).right
    rw [← hs4, ← hL4, Nat.add_assoc, hs5] at h
    exact h
  have HAT6 : Hid (∀ W, G W → At W b (o + (j + L1 + L2 + L3 + L4 + L5)) (sealB 48 (varsB l wd) wd)) := by
    intro W hW
    have h := (HAT5.out W hW).right
    rw [← hs5, ← hL5, Nat.add_assoc, hs6] at h
    exact h
  have HL1 : Hid (L1 = (sealB 6 (nameB arcs) wd).length) := by rw [← hs1]; exact hL1
  have HL2 : Hid (L2 = (sealB 64 [(a1 : Int), (a2 : Int), (a3 : Int), (a4 : Int)] wd).length) := by rw [← hs2]; exact hL2
  have HL3 : Hid (L3 = (sealB 2 (intB gen) wd).length) := by rw [← hs3]; exact hL3
  have HL4 : Hid (L4 = (sealB 2 (intB spec) wd).length) := by rw [← hs4]; exact hL4
  have HL5 : Hid (L5 = (sealB 67 (uintB time) wd).length) := by rw [← hs5]; exact hL5
  have HL6 : Hid ((sealB 48 (varsB l wd) wd).length = L6) := by rw [← hs6]; exact hL6.symm
  have hGP : ∀ W, Kp [pk] w W → G W := fun W hW => hG W (hW.mono (fun q _ hq => by rw [List.mem_singleton.1 hq]; exact hX))
  have hwG := hGP w (Kp.refl _ _)
  have hatw := hatG w hwG
  rw [sealB, ← hk] at hatw
  have HPL := Lib.hid (parseLength w b o n c k wd 164 (s1 ++ s2 ++ s3 ++ s4 ++ s5 ++ s6) (by omega) hwd hatw (by rw [← hj]; omega) hnc hc)
  rw [← hj, ← hN] at HPL
  have HGP := Lib.hid hGP
  have HG := Lib.hid hG
  have HZ := Lib.hid hzG
  have HT := Lib.hid htG
  have HA := Lib.hid haG
  have HGG := Lib.hid hgG
  have HOK := Lib.hid hok
  have HX := Lib.hid hX
  have HO0 := Lib.hid hO0
  have HINV0 := Lib.hid hinv0
  have HLL := Lib.hid hl
  have HP0 := Lib.hid hpk
  have HK0 := Lib.hid (Kp.refl [pk] w)
  have HGD := Lib.hid hgd
  have HIP := Lib.hid hip
  have HGEN := Lib.hid hgen
  have HSPEC := Lib.hid hspec
  have HTIME : Hid (time < 18446744073709551616) := by unfold Hid; omega
  have HN : Hid (n = j + L1 + L2 + L3 + L4 + L5 + L6) := by unfold Hid; omega
  have ta := ta_3_3
  have ta1 := ta_9_9 (.string (dot arcs))
  have ta2 := ta_9_9 (.string (txt (ipT a1 a2 a3 a4)))
  have ta3 := ta_24_24
  have d1 : decide ((j : Int) + (L1 : Int) < 0) = false := by simp; omega
  have d2 : decide ((j : Int) + (L1 : Int) + (L2 : Int) < 0) = false := by simp; omega
  have d3 : decide ((j : Int) + (L1 : Int) + (L2 : Int) + (L3 : Int) < 0) = false := by simp; omega
  have d4 : decide ((j : Int) + (L1 : Int) + (L2 : Int) + (L3 : Int) + (L4 : Int) < 0) = false := by simp; omega
  have d5 : decide ((j : Int) + (L1 : Int) + (L2 : Int) + (L3 : Int) + (L4 : Int) + (L5 : Int) < 0) = false := by simp; omega
  have cj0 : c ≠ j := by omega
  have hb0 : j + 2 ≤ n := by omega
  have cj1 : c ≠ j + L1 := by omega
  have hb1 : j + L1 + 2 ≤ n := by omega
  have cj2 : c ≠ j + L1 + L2 := by omega
  have hb2 : j + L1 + L2 + 2 ≤ n := by omega
  have cj3 : c ≠ j + L1 + L2 + L3 := by omega
  have hb3 : j + L1 + L2 + L3 + 2 ≤ n := by omega
  have cj4 : c ≠ j + L1 + L2 + L3 + L4 := by omega
  have hb4 : j + L1 + L2 + L3 + L4 + 2 ≤ n := by omega
  have cj5 : c ≠ j + L1 + L2 + L3 + L4 + L5 := by omega
  have hb5 : j + L1 + L2 + L3 + L4 + L5 + 2 ≤ n := by omega
  clear hn hatG hvl g1 g3 g4 g5 h1 h2 h3 h4 h5 h6 h6p hbody hL1 hL2 hL3 hL4 hL5 hL6 hk hj hkl hN hs1 hs2 hs3 hs4 hs5 hs6 hGP hwG hatw hG hzG htG haG hgG hok hX hO0 hinv0 hl hpk hgd hip hgen hspec htime
  go_enter Tryz.func63, Tryz.ntmps63
  go_wp2_with (go_at_call 76; refine (HPL.out).mono ?_; rintro e W1 ⟨rfl, hw1⟩; refine Hid.out ?_)
  refine Lib.hid ?_
  subst hw1
  clear HPL
  have hpW0 := run_part W1 g (HGG.out W1 (HGP.out _ HK0.out))
  go_wp2_with (go_at_call 61; refine (printf _ _ _).mono ?_; rintro e V0 ⟨rfl, hb0⟩; refine Hid.out ?_)
  refine Lib.hid ?_
  have hB0 : Below (W1).heap.size W1 V0 := thenB ((Below.refl _ _).alloc (Nat.le_refl _) _) hb0
  have HKV0 : Hid (Kp [pk] W1 V0) := HK0.out.add hB0
  have HPV0 : Hid (V0.heap[pk]? = some (.cells #[q0, q1, (.int .u8 164), q3, q4, q5, q6, q7, q8, q9, vp0, q11, q12, q13, q14, q15, q16, q17] 52 (0, 0))) := (hB0.block pk (Lib.lt_of_heap HP0.out)).trans HP0.out
  clear hb0 hB0 hpW0
  go_upto_region 8 with fail
  have hgW1 := HGG.out V0 (HGP.out _ HKV0.out)
  have HGW1 := Lib.hid hgW1
  have HFD1 : Hid (∀ a m cc msg, a = o + (j) → L1 ≤ m → m ≤ cc → cc ≤ 9223372036854775807 ∧ m ≤ 1000000 → Calls Tryz.prog 60 #[.agg #[], .slice (some ⟨b, a, none⟩) m cc, .string msg] (V0).drew (RetF (V0).drew (.iface 9 (.string (dot arcs))) L1)) := by
    intro a m cc msg ha hm hmc hcc
    have hat := HAT1.out (V0).drew (HGP.out _ HKV0.out.drew)
    rw [← ha] at hat
    have := field_6 (V0).drew b a m cc wd msg arcs _ HGD.out (HT.out _ (HGP.out _ HKV0.out.drew)) hwd hat (by rw [← HL1.out]; exact hm) hmc hcc
    rwa [← HL1.out] at this
  clear hgW1
  go_region_held (fun W => (partAt ⟨g, 0, none⟩ 0 0).run Tryz.prog W = .ok ⟨g, 0, none⟩ W) (first | exact run_part _ g HGW1.out | exact partTo (W := (V0).drew) HGW1.out hbT) (first | (go_at_call 60; refine (HFD1.out _ _ _ _ (by omega) (by omega) (by omega) (by omega)).mono ?_; rintro e V1 ⟨rfl, hbT⟩))
  rename_i hHeld
  have HKV1 : Hid (Kp [pk] W1 V1) := HKV0.out.drew.add hbT
  have HPV1 : Hid (V1.heap[pk]? = some (.cells #[q0, q1, (.int .u8 164), q3, q4, q5, q6, q7, q8, q9, vp0, q11, q12, q13, q14, q15, q16, q17] 52 (0, 0))) := (hbT.block pk (Lib.lt_of_heap HPV0.out)).trans HPV0.out
  clear hbT HFD1 HGW1 hHeld
  have e2 : V1.cell? ⟨pk, 13, none⟩ = some q13 := by rw [Lib.cell_of_heap HPV1.out]; rfl
  have f2 : V1.frozen? ⟨pk, 13, none⟩ = false := Lib.frozen_of_heap HPV1.out 13
  have HKV2 : Hid (Kp [pk] W1 (V1.setCell ⟨pk, 13, none⟩ (.string (dot arcs)))) := HKV1.out.setCell (.inl (by simp)) _
  have HPV2 : Hid ((V1.setCell ⟨pk, 13, none⟩ (.string (dot arcs))).heap[pk]? = some (.cells #[q0, q1, (.int .u8 164), q3, q4, q5, q6, q7, q8, q9, vp0, q11, q12, (.string (dot arcs)), q14, q15, q16, q17] 52 (0, 0))) := Lib.heap_setCell_same (i := 13) HPV1.out _
  have hpW3 := run_part (V1.setCell ⟨pk, 13, none⟩ (.string (dot arcs))) g (HGG.out (V1.setCell ⟨pk, 13, none⟩ (.string (dot arcs))) (HGP.out _ HKV2.out))
  go_wp2_with (go_at_call 61; refine (printf _ _ _).mono ?_; rintro e V3 ⟨rfl, hb3⟩; refine Hid.out ?_)
  refine Lib.hid ?_
  have hB3 : Below ((V1.setCell ⟨pk, 13, none⟩ (.string (dot arcs)))).heap.size (V1.setCell ⟨pk, 13, none⟩ (.string (dot arcs))) V3 := thenB ((Below.refl _ _).alloc (Nat.le_refl _) _) hb3
  have HKV3 : Hid (Kp [pk] W1 V3) := HKV2.out.add hB3
  have HPV3 : Hid (V3.heap[pk]? = some (.cells #[q0, q1, (.int .u8 164), q3, q4, q5, q6, q7, q8, q9, vp0, q11, q12, (.string (dot arcs)), q14, q15, q16, q17] 52 (0, 0))) := (hB3.block pk (Lib.lt_of_heap HPV2.out)).trans HPV2.out
  clear hb3 hB3 hpW3
  go_upto_region 18 with fail
  have hgW4 := HGG.out V3 (HGP.out _ HKV3.out)
  have HGW4 := Lib.hid hgW4
  have HFD4 : Hid (∀ a m cc msg, a = o + (j + L1) → L2 ≤ m → m ≤ cc → cc ≤ 9223372036854775807 ∧ m ≤ 1000000 → Calls Tryz.prog 60 #[.agg #[], .slice (some ⟨b, a, none⟩) m cc, .string msg] (V3).drew (RetF (V3).drew (.iface 9 (.string (txt (ipT a1 a2 a3 a4)))) L2)) := by
    intro a m cc msg ha hm hmc hcc
    have hat := HAT2.out (V3).drew (HGP.out _ HKV3.out.drew)
    rw [← ha] at hat
    have := field_64 (V3).drew b a m cc wd msg a1 a2 a3 a4 z _ HIP.out.1 HIP.out.2.1 HIP.out.2.2.1 HIP.out.2.2.2 (HZ.out _ (HGP.out _ HKV3.out.drew)) hwd hat (by rw [← HL2.out]; exact hm) hmc hcc
    rwa [← HL2.out] at this
  clear hgW4
  go_region_held (fun W => (partAt ⟨g, 0, none⟩ 0 0).run Tryz.prog W = .ok ⟨g, 0, none⟩ W) (first | exact run_part _ g HGW4.out | exact partTo (W := (V3).drew) HGW4.out hbT) (first | (go_at_call 60; refine (HFD4.out _ _ _ _ (by omega) (by omega) (by omega) (by omega)).mono ?_; rintro e V4 ⟨rfl, hbT⟩))
  rename_i hHeld
  have HKV4 : Hid (Kp [pk] W1 V4) := HKV3.out.drew.add hbT
  have HPV4 : Hid (V4.heap[pk]? = some (.cells #[q0, q1, (.int .u8 164), q3, q4, q5, q6, q7, q8, q9, vp0, q11, q12, (.string (dot arcs)), q14, q15, q16, q17] 52 (0, 0))) := (hbT.block pk (Lib.lt_of_heap HPV3.out)).trans HPV3.out
  clear hbT HFD4 HGW4 hHeld
  have e5 : V4.cell? ⟨pk, 14, none⟩ = some q14 := by rw [Lib.cell_of_heap HPV4.out]; rfl
  have f5 : V4.frozen? ⟨pk, 14, none⟩ = false := Lib.frozen_of_heap HPV4.out 14
  have HKV5 : Hid (Kp [pk] W1 (V4.setCell ⟨pk, 14, none⟩ (.string (txt (ipT a1 a2 a3 a4))))) := HKV4.out.setCell (.inl (by simp)) _
  have HPV5 : Hid ((V4.setCell ⟨pk, 14, none⟩ (.string (txt (ipT a1 a2 a3 a4)))).heap[pk]? = some (.cells #[q0, q1, (.int .u8 164), q3, q4, q5, q6, q7, q8, q9, vp0, q11, q12, (.string (dot arcs)), (.string (txt (ipT a1 a2 a3 a4))), q15, q16, q17] 52 (0, 0))) := Lib.heap_setCell_same (i := 14) HPV4.out _
  have hpW6 := run_part (V4.setCell ⟨pk, 14, none⟩ (.string (txt (ipT a1 a2 a3 a4)))) g (HGG.out (V4.setCell ⟨pk, 14, none⟩ (.string (txt (ipT a1 a2 a3 a4)))) (HGP.out _ HKV5.out))
  go_wp2_with (go_at_call 61; refine (printf _ _ _).mono ?_; rintro e V6 ⟨rfl, hb6⟩; refine Hid.out ?_)
  refine Lib.hid ?_
  have hB6 : Below ((V4.setCell ⟨pk, 14, none⟩ (.string (txt (ipT a1 a2 a3 a4))))).heap.size (V4.setCell ⟨pk, 14, none⟩ (.string (txt (ipT a1 a2 a3 a4)))) V6 := thenB ((Below.refl _ _).alloc (Nat.le_refl _) _) hb6
  have HKV6 : Hid (Kp [pk] W1 V6) := HKV5.out.add hB6
  have HPV6 : Hid (V6.heap[pk]? = some (.cells #[q0, q1, (.int .u8 164), q3, q4, q5, q6, q7, q8, q9, vp0, q11, q12, (.string (dot arcs)), (.string (txt (ipT a1 a2 a3 a4))), q15, q16, q17] 52 (0, 0))) := (hB6.block pk (Lib.lt_of_heap HPV5.out)).trans HPV5.out
  clear hb6 hB6 hpW6
  go_upto_region 28 with fail
  have hgW7 := HGG.out V6 (HGP.out _ HKV6.out)
  have HGW7 := Lib.hid hgW7
  have HFD7 : Hid (∀ a m cc msg, a = o + (j + L1 + L2) → L3 ≤ m → m ≤ cc → cc ≤ 9223372036854775807 ∧ m ≤ 1000000 → Calls Tryz.prog 60 #[.agg #[], .slice (some ⟨b, a, none⟩) m cc, .string msg] (V6).drew (RetF (V6).drew (.iface 3 (.int .i64 gen)) L3)) := by
    intro a m cc msg ha hm hmc hcc
    have hat := HAT3.out (V6).drew (HGP.out _ HKV6.out.drew)
    rw [← ha] at hat
    have := field_2 (V6).drew b a m cc wd msg gen _ HGEN.out hwd hat (by rw [← HL3.out]; exact hm) hmc hcc
    rwa [← HL3.out] at this
  clear hgW7
  go_region_held (fun W => (partAt ⟨g, 0, none⟩ 0 0).run Tryz.prog W = .ok ⟨g, 0, none⟩ W) (first | exact run_part _ g HGW7.out | exact partTo (W := (V6).drew) HGW7.out hbT) (first | (go_at_call 60; refine (HFD7.out _ _ _ _ (by omega) (by omega) (by omega) (by omega)).mono ?_; rintro e V7 ⟨rfl, hbT⟩))
  rename_i hHeld
  have HKV7 : Hid (Kp [pk] W1 V7) := HKV6.out.drew.add hbT
  have HPV7 : Hid (V7.heap[pk]? = some (.cells #[q0, q1, (.int .u8 164), q3, q4, q5, q6, q7, q8, q9, vp0, q11, q12, (.string (dot arcs)), (.string (txt (ipT a1 a2 a3 a4))), q15, q16, q17] 52 (0, 0))) := (hbT.block pk (Lib.lt_of_heap HPV6.out)).trans HPV6.out
  clear hbT HFD7 HGW7 hHeld
  have e8 : V7.cell? ⟨pk, 15, none⟩ = some q15 := by rw [Lib.cell_of_heap HPV7.out]; rfl
  have f8 : V7.frozen? ⟨pk, 15, none⟩ = false := Lib.frozen_of_heap HPV7.out 15
  have HKV8 : Hid (Kp [pk] W1 (V7.setCell ⟨pk, 15, none⟩ (.int .i64 gen))) := HKV7.out.setCell (.inl (by simp)) _
  have HPV8 : Hid ((V7.setCell ⟨pk, 15, none⟩ (.int .i64 gen)).heap[pk]? = some (.cells #[q0, q1, (.int .u8 164), q3, q4, q5, q6, q7, q8, q9, vp0, q11, q12, (.string (dot arcs)), (.string (txt (ipT a1 a2 a3 a4))), (.int .i64 gen), q16, q17] 52 (0, 0))) := Lib.heap_setCell_same (i := 15) HPV7.out _
  have hpW9 := run_part (V7.setCell ⟨pk, 15, none⟩ (.int .i64 gen)) g (HGG.out (V7.setCell ⟨pk, 15, none⟩ (.int .i64 gen)) (HGP.out _ HKV8.out))
  go_wp2_with (go_at_call 61; refine (printf _ _ _).mono ?_; rintro e V9 ⟨rfl, hb9⟩; refine Hid.out ?_)
  refine Lib.hid ?_
  have hB9 : Below ((V7.setCell ⟨pk, 15, none⟩ (.int .i64 gen))).heap.size (V7.setCell ⟨pk, 15, none⟩ (.int .i64 gen)) V9 := thenB ((Below.refl _ _).alloc (Nat.le_refl _) _) hb9
  have HKV9 : Hid (Kp [pk] W1 V9) := HKV8.out.add hB9
  have HPV9 : Hid (V9.heap[pk]? = some (.cells #[q0, q1, (.int .u8 164), q3, q4, q5, q6, q7, q8, q9, vp0, q11, q12, (.string (dot arcs)), (.string (txt (ipT a1 a2 a3 a4))), (.int .i64 gen), q16, q17] 52 (0, 0))) := (hB9.block pk (Lib.lt_of_heap HPV8.out)).trans HPV8.out
  clear hb9 hB9 hpW9
  go_upto_region 38 with fail
  have hgW10 := HGG.out V9 (HGP.out _ HKV9.out)
  have HGW10 := Lib.hid hgW10
  have HFD10 : Hid (∀ a m cc msg, a = o + (j + L1 + L2 + L3) → L4 ≤ m → m ≤ cc → cc ≤ 9223372036854775807 ∧ m ≤ 1000000 → Calls Tryz.prog 60 #[.agg #[], .slice (some ⟨b, a, none⟩) m cc, .string msg] (V9).drew (RetF (V9).drew (.iface 3 (.int .i64 spec)) L4)) := by
    intro a m cc msg ha hm hmc hcc
    have hat := HAT4.out (V9).drew (HGP.out _ HKV9.out.drew)
    rw [← ha] at hat
    have := field_2 (V9).drew b a m cc wd msg spec _ HSPEC.out hwd hat (by rw [← HL4.out]; exact hm) hmc hcc
    rwa [← HL4.out] at this
  clear hgW10
  go_region_held (fun W => (partAt ⟨g, 0, none⟩ 0 0).run Tryz.prog W = .ok ⟨g, 0, none⟩ W) (first | exact run_part _ g HGW10.out | exact partTo (W := (V9).drew) HGW10.out hbT) (first | (go_at_call 60; refine (HFD10.out _ _ _ _ (by omega) (by omega) (by omega) (by omega)).mono ?_; rintro e V10 ⟨rfl, hbT⟩))
  rename_i hHeld
  have HKV10 : Hid (Kp [pk] W1 V10) := HKV9.out.drew.add hbT
  have HPV10 : Hid (V10.heap[pk]? = some (.cells #[q0, q1, (.int .u8 164), q3, q4, q5, q6, q7, q8, q9, vp0, q11, q12, (.string (dot arcs)), (.string (txt (ipT a1 a2 a3 a4))), (.int .i64 gen), q16, q17] 52 (0, 0))) := (hbT.block pk (Lib.lt_of_heap HPV9.out)).trans HPV9.out
  clear hbT HFD10 HGW10 hHeld
  have e11 : V10.cell? ⟨pk, 16, none⟩ = some q16 := by rw [Lib.cell_of_heap HPV10.out]; rfl
  have f11 : V10.frozen? ⟨pk, 16, none⟩ = false := Lib.frozen_of_heap HPV10.out 16
  have HKV11 : Hid (Kp [pk] W1 (V10.setCell ⟨pk, 16, none⟩ (.int .i64 spec))) := HKV10.out.setCell (.inl (by simp)) _
  have HPV11 : Hid ((V10.setCell ⟨pk, 16, none⟩ (.int .i64 spec)).heap[pk]? = some (.cells #[q0, q1, (.int .u8 164), q3, q4, q5, q6, q7, q8, q9, vp0, q11, q12, (.string (dot arcs)), (.string (txt (ipT a1 a2 a3 a4))), (.int .i64 gen), (.int .i64 spec), q17] 52 (0, 0))) := Lib.heap_setCell_same (i := 16) HPV10.out _
  have hpW12 := run_part (V10.setCell ⟨pk, 16, none⟩ (.int .i64 spec)) g (HGG.out (V10.setCell ⟨pk, 16, none⟩ (.int .i64 spec)) (HGP.out _ HKV11.out))
  go_wp2_with (go_at_call 61; refine (printf _ _ _).mono ?_; rintro e V12 ⟨rfl, hb12⟩; refine Hid.out ?_)
  refine Lib.hid ?_
  have hB12 : Below ((V10.setCell ⟨pk, 16, none⟩ (.int .i64 spec))).heap.size (V10.setCell ⟨pk, 16, none⟩ (.int .i64 spec)) V12 := thenB ((Below.refl _ _).alloc (Nat.le_refl _) _) hb12
  have HKV12 : Hid (Kp [pk] W1 V12) := HKV11.out.add hB12
  have HPV12 : Hid (V12.heap[pk]? = some (.cells #[q0, q1, (.int .u8 164), q3, q4, q5, q6, q7, q8, q9, vp0, q11, q12, (.string (dot arcs)), (.string (txt (ipT a1 a2 a3 a4))), (.int .i64 gen), (.int .i64 spec), q17] 52 (0, 0))) := (hB12.block pk (Lib.lt_of_heap HPV11.out)).trans HPV11.out
  clear hb12 hB12 hpW12
  go_upto_region 48 with fail
  have hgW13 := HGG.out V12 (HGP.out _ HKV12.out)
  have HGW13 := Lib.hid hgW13
  have HFD13 : Hid (∀ a m cc msg, a = o + (j + L1 + L2 + L3 + L4) → L5 ≤ m → m ≤ cc → cc ≤ 9223372036854775807 ∧ m ≤ 1000000 → Calls Tryz.prog 60 #[.agg #[], .slice (some ⟨b, a, none⟩) m cc, .string msg] (V12).drew (RetF (V12).drew (.iface 24 (.int .u64 time)) L5)) := by
    intro a m cc msg ha hm hmc hcc
    have hat := HAT5.out (V12).drew (HGP.out _ HKV12.out.drew)
    rw [← ha] at hat
    have := field_67 (V12).drew b a m cc wd msg time _ HTIME.out hwd hat (by rw [← HL5.out]; exact hm) hmc hcc
    rwa [← HL5.out] at this
  clear hgW13
  go_region_held (fun W => (partAt ⟨g, 0, none⟩ 0 0).run Tryz.prog W = .ok ⟨g, 0, none⟩ W) (first | exact run_part _ g HGW13.out | exact partTo (W := (V12).drew) HGW13.out hbT) (first | (go_at_call 60; refine (HFD13.out _ _ _ _ (by omega) (by omega) (by omega) (by omega)).mono ?_; rintro e V13 ⟨rfl, hbT⟩))
  rename_i hHeld
  have HKV13 : Hid (Kp [pk] W1 V13) := HKV12.out.drew.add hbT
  have HPV13 : Hid (V13.heap[pk]? = some (.cells #[q0, q1, (.int .u8 164), q3, q4, q5, q6, q7, q8, q9, vp0, q11, q12, (.string (dot arcs)), (.string (txt (ipT a1 a2 a3 a4))), (.int .i64 gen), (.int .i64 spec), q17] 52 (0, 0))) := (hbT.block pk (Lib.lt_of_heap HPV12.out)).trans HPV12.out
  clear hbT HFD13 HGW13 hHeld
  have e14 : V13.cell? ⟨pk, 17, none⟩ = some q17 := by rw [Lib.cell_of_heap HPV13.out]; rfl
  have f14 : V13.frozen? ⟨pk, 17, none⟩ = false := Lib.frozen_of_heap HPV13.out 17
  have HKV14 : Hid (Kp [pk] W1 (V13.setCell ⟨pk, 17, none⟩ (.int .u64 time))) := HKV13.out.setCell (.inl (by simp)) _
  have HPV14 : Hid ((V13.setCell ⟨pk, 17, none⟩ (.int .u64 time)).heap[pk]? = some (.cells #[q0, q1, (.int .u8 164), q3, q4, q5, q6, q7, q8, q9, vp0, q11, q12, (.string (dot arcs)), (.string (txt (ipT a1 a2 a3 a4))), (.int .i64 gen), (.int .i64 spec), (.int .u64 time)] 52 (0, 0))) := Lib.heap_setCell_same (i := 17) HPV13.out _
  have hpW15 := run_part (V13.setCell ⟨pk, 17, none⟩ (.int .u64 time)) g (HGG.out (V13.setCell ⟨pk, 17, none⟩ (.int .u64 time)) (HGP.out _ HKV14.out))
  go_wp2_with (go_at_call 61; refine (printf _ _ _).mono ?_; rintro e V15 ⟨rfl, hb15⟩; refine Hid.out ?_)
  refine Lib.hid ?_
  have hB15 : Below ((V13.setCell ⟨pk, 17, none⟩ (.int .u64 time))).heap.size (V13.setCell ⟨pk, 17, none⟩ (.int .u64 time)) V15 := thenB ((Below.refl _ _).alloc (Nat.le_refl _) _) hb15
  have HKV15 : Hid (Kp [pk] W1 V15) := HKV14.out.add hB15
  have HPV15 : Hid (V15.heap[pk]? = some (.cells #[q0, q1, (.int .u8 164), q3, q4, q5, q6, q7, q8, q9, vp0, q11, q12, (.string (dot arcs)), (.string (txt (ipT a1 a2 a3 a4))), (.int .i64 gen), (.int .i64 spec), (.int .u64 time)] 52 (0, 0))) := (hB15.block pk (Lib.lt_of_heap HPV14.out)).trans HPV14.out
  clear hb15 hB15 hpW15
  have hinvL : ∀ q, vp0.ownBlock = some q → q ∈ X ∨ V15.heap.size ≤ q := fun q hq => .inl (HINV0.out q hq)
  have hOL : OwnC 56 3 V15 base vp0 0 [] := HO0.out.kept (fun q hq => HKV15.out.block q (HO0.out.lt hq).2 (by have := (HO0.out.lt hq).1; simp; omega))
  have hKX : Kp X W1 V15 := HKV15.out.mono (fun q _ hq => by rw [List.mem_singleton.1 hq]; exact HX.out)
  have HV : Hid (∀ a m cc, a = o + (j + L1 + L2 + L3 + L4 + L5) → m = L6 → m ≤ cc → cc ≤ 9223372036854775807 ∧ m ≤ 1000000 → Calls Tryz.prog 81 #[.pointer (some ⟨g, 0, none⟩), .slice (some ⟨b, a, none⟩) m cc, .pointer (some ⟨pk, 0, none⟩)] V15 (RetVbl G X base V15 (fun v => #[q0, q1, (.int .u8 164), q3, q4, q5, q6, q7, q8, q9, v, q11, q12, (.string (dot arcs)), (.string (txt (ipT a1 a2 a3 a4))), (.int .i64 gen), (.int .i64 spec), (.int .u64 time)]) pk l)) := by
    intro a m cc ha hm hmc hcc
    refine unmarshalVBL G X base vp0 V15 b a m cc g pk wd (fun v => #[q0, q1, (.int .u8 164), q3, q4, q5, q6, q7, q8, q9, v, q11, q12, (.string (dot arcs)), (.string (txt (ipT a1 a2 a3 a4))), (.int .i64 gen), (.int .i64 spec), (.int .u64 time)]) l z HLL.out HOK.out hwd (by rw [hm]; exact HL6.out) hmc hcc ⟨fun v => rfl, fun u v => rfl⟩ HX.out hpb (Nat.le_trans hbw hKX.size) hOL hinvL (fun W hW => HG.out W (hKX.trans hW)) HZ.out HT.out HA.out HGG.out (fun W hW => by rw [ha]; exact HAT6.out W hW) HPV15.out
  have HKX := Lib.hid hKX
  clear hinvL hOL hKX
  go_wp2_with (go_at_call 81; refine (HV.out _ _ _ (by omega) (by have := HN.out; omega) (by omega) (by omega)).mono ?_; rintro e WZ ⟨rfl, vs', vp', z1, z2, z3, z4⟩; refine Hid.out ?_)
  refine Lib.hid ?_
  have HR : Hid (RetVbl G X base W1 (fun v => #[q0, q1, (.int .u8 164), q3, q4, q5, q6, q7, q8, q9, v, q11, q12, (.string (dot arcs)), (.string (txt (ipT a1 a2 a3 a4))), (.int .i64 gen), (.int .i64 spec), (.int .u64 time)]) pk l (.returned .nilIface) WZ) := ⟨rfl, vs', vp', z1, z2, z3, HKX.out.trans z4⟩
  clear z1 z2 z3 z4
  go_wp2
  go_ret
  exact HR.out
end Go.Proofs.YtpfmcdhmboclhaaGreatDoor
namespace Go.Proofs.YtpfmcdhmboclhaaGreatDoor
open Go.RowKit
set_option maxHeartbeats 64000000 in
set_option maxRecDepth 100000 in
theorem payload_164 (G : World → Prop) (X : List Nat) (base : Nat) (vp0 q0 q1 q2 q3 q4 q5 q6 q7 q8 q9 q11 q12 q13 q14 q15 q16 q17 : Value) (w : World) (b o n c g pk wd k0 : Nat) (arcs : List Nat) (a1 a2 a3 a4 : Nat) (gen spec : Int) (time : Nat) (l : List AV) (z : Addr) (hgd : GoodArcs arcs) (hip : a1 < 256 ∧ a2 < 256 ∧ a3 < 256 ∧ a4 < 256) (hgen : -2147483648 ≤ gen ∧ gen ≤ 2147483647) (hspec : -2147483648 ≤ spec ∧ spec ≤ 2147483647) (htime : time < 4294967296) (hl : l.length ≤ 20) (hok : ∀ x ∈ l, x.Ok) (hwd : wd ≤ 2) (hn : k0 + (sealB 164 (trapHead arcs a1 a2 a3 a4 gen spec time wd ++ sealB 48 (varsB l wd) wd) wd).length = n) (hnc : n ≤ c) (hc : c ≤ 9223372036854775807 ∧ n ≤ 1000000)
    (hX : pk ∈ X) (hpb : pk < base) (hbw : base ≤ w.heap.size) (hO0 : OwnC 56 3 w base vp0 0 []) (hinv0 : ∀ q, vp0.ownBlock = some q → q ∈ X) (hG : ∀ W, Kp X w W → G W) (hzG : ∀ W, G W → NetLaid W z) (htG : ∀ W, G W → Tab W) (haG : ∀ W, G W → AsnLaid W) (hgG : ∀ W, G W → W.heap[g]? = some (.cells #[] 68 (0, 0)))
    (hatG : ∀ W, G W → At W b (o + k0) (sealB 164 (trapHead arcs a1 a2 a3 a4 gen spec time wd ++ sealB 48 (varsB l wd) wd) wd)) (hpk : w.heap[pk]? = some (.cells #[q0, q1, q2, q3, q4, q5, q6, q7, q8, q9, vp0, q11, q12, q13, q14, q15, q16, q17] 52 (0, 0))) :
    Calls Tryz.prog 41 #[.pointer (some ⟨g, 0, none⟩), .slice (some ⟨b, o, none⟩) n c, .int .i64 k0, .pointer (some ⟨pk, 0, none⟩)] w (RetVbl G X base w (fun v => #[q0, q1, (.int .u8 164), q3, q4, q5, q6, q7, q8, q9, v, q11, q12, (.string (dot arcs)), (.string (txt (ipT a1 a2 a3 a4))), (.int .i64 gen), (.int .i64 spec), (.int .u64 time)]) pk l) := by
  obtain ⟨L, hL⟩ : ∃ L, L = (sealB 164 (trapHead arcs a1 a2 a3 a4 gen spec time wd ++ sealB 48 (varsB l wd) wd) wd).length := ⟨_, rfl⟩
  have hL2 : 2 ≤ L := by rw [hL, sealB_len]; have := hdr_ge (trapHead arcs a1 a2 a3 a4 gen spec time wd ++ sealB 48 (varsB l wd) wd).length wd; omega
  rw [← hL] at hn
  have hGP : ∀ W, Kp [pk] w W → G W := fun W hW => hG W (hW.mono (fun q _ hq => by rw [List.mem_singleton.1 hq]; exact hX))
  have HGP := Lib.hid hGP
  have HG := Lib.hid hG
  have HGG := Lib.hid hgG
  have HP0 := Lib.hid hpk
  have HK0 := Lib.hid (Kp.refl [pk] w)
  have HX := Lib.hid hX
  have hk0n : k0 < n := by omega
  have hck : c ≠ k0 := by omega
  have c0 : w.cell? ⟨b, o + k0, none⟩ = some (.int .u8 164) := (hatG w (hGP w (Kp.refl _ _))).head
  have HC : Hid (∀ W a m cc, Kp [pk] w W → W.heap[pk]? = some (.cells #[q0, q1, (.int .u8 164), q3, q4, q5, q6, q7, q8, q9, vp0, q11, q12, q13, q14, q15, q16, q17] 52 (0, 0)) → a = o + k0 → m = L → m ≤ cc → cc ≤ 9223372036854775807 ∧ m ≤ 1000000 → Calls Tryz.prog 63 #[.pointer (some ⟨g, 0, none⟩), .slice (some ⟨b, a, none⟩) m cc, .pointer (some ⟨pk, 0, none⟩)] W (RetVbl G X base W (fun v => #[q0, q1, (.int .u8 164), q3, q4, q5, q6, q7, q8, q9, v, q11, q12, (.string (dot arcs)), (.string (txt (ipT a1 a2 a3 a4))), (.int .i64 gen), (.int .i64 spec), (.int .u64 time)]) pk l)) := by
    intro W a m cc hK hP ha hm hmc hcc
    have hKX : Kp X w W := hK.mono (fun q _ hq => by rw [List.mem_singleton.1 hq]; exact hX)
    exact trapV1 G X base vp0 q0 q1 q3 q4 q5 q6 q7 q8 q9 q11 q12 q13 q14 q15 q16 q17 W b a m cc g pk wd arcs a1 a2 a3 a4 gen spec time l z hgd hip hgen hspec htime hl hok hwd (by rw [hm, hL]; try rfl) hmc hcc hX hpb (Nat.le_trans hbw hK.size) (hO0.kept (fun q hq => hK.block q (hO0.lt hq).2 (by have := (hO0.lt hq).1; simp; omega))) hinv0 (fun W2 h2 => hG W2 (hKX.trans h2)) hzG htG haG hgG (fun W2 h2 => by rw [ha]; exact hatG W2 h2) hP
  clear hGP hG hgG hpk hX hatG hL hl hok hzG htG haG hO0 hinv0
  go_enter Tryz.func41, Tryz.ntmps41
  have hpW0 := run_part w g (HGG.out w (HGP.out _ HK0.out))
  go_wp2_with (go_at_call 61; refine (printf _ _ _).mono ?_; rintro e V0 ⟨rfl, hb0⟩; refine Hid.out ?_)
  refine Lib.hid ?_
  have hB0 : Below (w).heap.size w V0 := thenB ((Below.refl _ _).alloc (Nat.le_refl _) _) hb0
  have HKV0 : Hid (Kp [pk] w V0) := HK0.out.add hB0
  have HPV0 : Hid (V0.heap[pk]? = some (.cells #[q0, q1, q2, q3, q4, q5, q6, q7, q8, q9, vp0, q11, q12, q13, q14, q15, q16, q17] 52 (0, 0))) := (hB0.block pk (Lib.lt_of_heap HP0.out)).trans HP0.out
  have ck0 : V0.cell? ⟨b, o + k0, none⟩ = some (.int .u8 164) := cellB hB0 c0
  clear hb0 hB0 hpW0
  have e1 : V0.cell? ⟨pk, 2, none⟩ = some q2 := by rw [Lib.cell_of_heap HPV0.out]; rfl
  have f1 : V0.frozen? ⟨pk, 2, none⟩ = false := Lib.frozen_of_heap HPV0.out 2
  have HKV1 : Hid (Kp [pk] w (V0.setCell ⟨pk, 2, none⟩ (.int .u8 164))) := HKV0.out.setCell (.inl (by simp)) _
  have HPV1 : Hid ((V0.setCell ⟨pk, 2, none⟩ (.int .u8 164)).heap[pk]? = some (.cells #[q0, q1, (.int .u8 164), q3, q4, q5, q6, q7, q8, q9, vp0, q11, q12, q13, q14, q15, q16, q17] 52 (0, 0))) := Lib.heap_setCell_same (i := 2) HPV0.out _
  have HCW := Lib.hid (HC.out (V0.setCell ⟨pk, 2, none⟩ (.int .u8 164)))
  go_wp2_with (go_at_call 63; refine (HCW.out _ _ _ HKV1.out HPV1.out (by omega) (by omega) (by omega) (by omega)).mono ?_; rintro e WZ ⟨rfl, vs', vp', z1, z2, z3, z4⟩; refine Hid.out ?_)
  refine Lib.hid ?_
  have hKX : Kp X w (V0.setCell ⟨pk, 2, none⟩ (.int .u8 164)) := HKV1.out.mono (fun q _ hq => by rw [List.mem_singleton.1 hq]; exact HX.out)
  have HR : Hid (RetVbl G X base w (fun v => #[q0, q1, (.int .u8 164), q3, q4, q5, q6, q7, q8, q9, v, q11, q12, (.string (dot arcs)), (.string (txt (ipT a1 a2 a3 a4))), (.int .i64 gen), (.int .i64 spec), (.int .u64 time)]) pk l (.returned .nilIface) WZ) := ⟨rfl, vs', vp', z1, z2, z3, hKX.trans z4⟩
  clear z1 z2 z3 z4 hKX
  go_wp2
  go_ret
  exact HR.out
end Go.Proofs.YtpfmcdhmboclhaaGreatDoor
