/- gosnmp: the head of a trap of version 1. gosnmp: the bytes of a message's body. -/
import Derived.Test.YtpfmcdhmboclhaaGreatDoorG10
set_option linter.unusedVariables false
set_option linter.unusedSimpArgs false
namespace Go.Proofs.YtpfmcdhmboclhaaGreatDoor
open Go.RowKit

/-- The head of a trap. -/
def trapHead (arcs : List Nat) (a b c d : Nat) (gen spec : Int) (time : Nat) (w : Nat) : List Int :=
  sealB 6 (nameB arcs) w ++ sealB 64 [(a : Int), (b : Int), (c : Int), (d : Int)] w ++ sealB 2 (intB gen) w ++ sealB 2 (intB spec) w ++ sealB 67 (uintB time) w
set_option maxHeartbeats 4000000 in
set_option maxRecDepth 100000 in
theorem marshalTrapHead (w : World) (P : Nat) (ent agent : ByteArray) (arcs : List Nat) (a b c d : Nat) (gen spec : Int) (time : Nat) (z : Addr) (hz : NetLaid w z)
    (h14 : w.cell? ⟨P, 13, none⟩ = some (.string ent)) (h15 : w.cell? ⟨P, 14, none⟩ = some (.string agent)) (h16 : w.cell? ⟨P, 15, none⟩ = some (.int .i64 gen)) (h17 : w.cell? ⟨P, 16, none⟩ = some (.int .i64 spec)) (h18 : w.cell? ⟨P, 17, none⟩ = some (.int .u64 time))
    (hn : Nm ent arcs) (hip : ipOf (bytesOf agent) = some [a, b, c, d]) (hsz : agent.size ≤ 2147483647) (hg : -2147483648 ≤ gen ∧ gen ≤ 2147483647) (hs : -2147483648 ≤ spec ∧ spec ≤ 2147483647) (ht : time < 4294967296) :
    Calls Tryz.prog 72 #[.pointer (some ⟨P, 0, none⟩)] w (RetB w (trapHead arcs a b c d gen spec time 0)) := by
  have HZ := Lib.hid hz
  have H14 := Lib.hid h14
  have H15 := Lib.hid h15
  have H16 := Lib.hid h16
  have H17 := Lib.hid h17
  have H18 := Lib.hid h18
  have HNM := Lib.hid hn
  have HIP := Lib.hid hip
  have HSZ := Lib.hid hsz
  have HG := Lib.hid hg
  have HS := Lib.hid hs
  have HT := Lib.hid ht
  have HO0 := Lib.hid (OB.start (Below.refl w.heap.size w))
  have c14 := cellB HO0.out.below h14
  have hL0 : ([] : List Int).length ≤ 0 := Nat.le_refl _
  have HL0 := Lib.hid hL0
  clear hz h14 h15 h16 h17 h18 hn hip hsz hg hs ht hL0
  go_enter Tryz.func72, Tryz.ntmps72
  go_wp2_with (go_at_call 91; refine (marshalOID ent arcs _ HNM.out.good HNM.out.text HNM.out.size).mono ?_; rintro e W1 ⟨vc1, rfl, hr, hn, hb⟩; refine Hid.out ?_)
  refine Lib.hid ?_
  have HA1 := Lib.hid (HO0.out.apart_new hn)
  have HO1 := Lib.hid (HO0.out.more hb)
  have HR1 := Lib.hid hr
  clear hr hn hb HO0
  clear c14
  go_wp2_with (go_at_call 92; refine (marshalTLV _ _ _ _ 6 [] (nameB arcs) HO1.out.tb HR1.out HA1.out (by have := HNM.out.good.bytes; omega) (by simp)).mono ?_; rintro e W2 ⟨rfl, hw⟩; refine Hid.out ?_)
  refine Lib.hid ?_
  obtain ⟨vt2, hO⟩ := HO1.out.wrote hw
  obtain ⟨l2, hl⟩ : ∃ l', l' = [] ++ sealB 6 (nameB arcs) 0 := ⟨_, rfl⟩
  rw [← hl] at hO
  have HO2 := Lib.hid hO
  have HL2 : Hid (l2.length ≤ 104) := by show l2.length ≤ 104; rw [hl]; have := sealB_length 6 (nameB arcs) 0 (by have := HNM.out.good.bytes; omega); have := HNM.out.good.bytes; simp; omega
  have HE2 := Lib.hid hl
  have c15 := cellB HO2.out.below H15.out
  have HZ2 := Lib.hid (HZ.out.below HO2.out.below)
  clear hw hO hl HO1 HR1 HA1 HL0
  go_wp2_with (go_at_call 38; refine (zzParse agent a b c d z _ HZ2.out HIP.out HSZ.out).mono ?_; rintro e W3 ⟨g4, rfl, hg4, hr4, hb⟩; refine Hid.out ?_)
  refine Lib.hid ?_
  have HA3 : Hid (apart (.slice (some ⟨g4, 12, none⟩) 4 4) (_ :: vt2.ownBlock.toList)) := Lib.hid (HO2.out.apart_new (by intro a n c e; injection e with e; injection e with e; subst e; exact hg4))
  have HO3 := Lib.hid (HO2.out.more hb)
  have HR3 := Lib.hid (rd_ip4 hr4)
  have HL3 := HL2
  clear hb hg4 hr4 HO2 c15
  go_wp2_with (go_at_call 93; refine (ip4bytes g4 _).mono ?_; rintro e W5 ⟨rfl, rfl⟩; refine Hid.out ?_)
  refine Lib.hid ?_
  obtain ⟨k3, hk3⟩ : ∃ k, k = ([(a : Int), (b : Int), (c : Int), (d : Int)]).length := ⟨_, rfl⟩
  have hkl : k3 ≤ 4 := by rw [hk3]; exact (by simp)
  have HK3 := Lib.hid hk3
  have hlen := HR3.out.len k3 hk3
  clear hk3
  have HTT := Lib.hid (HO3.out.two 64 (k3 : Int))
  go_wp2_with (go_at_call 50; refine (write _ w.heap.size _ _ _ [64, (k3 : Int)] (by exact HTT.out.1.tb) (by exact HTT.out.2.1) (by exact HTT.out.2.2) (by right; simp) (by have := HL3.out; simp; omega)).mono ?_; rintro e W4 ⟨rfl, hw⟩; refine Hid.out ?_)
  refine Lib.hid ?_
  have HR4 := Lib.hid (HTT.out.1.keeps hw (HR3.out.keptBelow ((Below.refl _ _).alloc (Nat.le_refl _) _)) HA3.out)
  obtain ⟨vt4, hO⟩ := HTT.out.1.wrote hw
  have HAA := Lib.hid (OB.head HA3.out)
  obtain ⟨l4, hl⟩ : ∃ l', l' = l2 ++ [64, (k3 : Int)] := ⟨_, rfl⟩
  rw [← hl] at hO
  have HO4 := Lib.hid hO
  have HL4 : Hid (l4.length ≤ 106) := by show l4.length ≤ 106; rw [hl]; have := HL3.out; simp; omega
  have HE4 := Lib.hid hl
  clear hw hO hl hlen HTT HO3 HR3 HA3 HL3
  go_wp2_with (go_at_call 50; refine (write _ w.heap.size _ _ _ _ (by exact HO4.out.tb) HR4.out HAA.out (by right; simp) (by have := HL4.out; have : ([(a : Int), (b : Int), (c : Int), (d : Int)]).length ≤ 4 := (by simp); omega)).mono ?_; rintro e W5 ⟨rfl, hw⟩; refine Hid.out ?_)
  refine Lib.hid ?_
  obtain ⟨vt5, hO⟩ := HO4.out.wrote hw
  obtain ⟨l5, hl⟩ : ∃ l', l' = l4 ++ [(a : Int), (b : Int), (c : Int), (d : Int)] := ⟨_, rfl⟩
  rw [← hl] at hO
  have HO5 := Lib.hid hO
  have HL5 : Hid (l5.length ≤ 110) := by show l5.length ≤ 110; rw [hl]; have := HL4.out; have : ([(a : Int), (b : Int), (c : Int), (d : Int)]).length ≤ 4 := (by simp); simp; omega
  have HE5 := Lib.hid hl
  clear hw hO hl hkl HAA HO4 HR4 HL4
  have c16 := cellB HO5.out.below H16.out
  go_wp2_with (go_at_call 94; refine (int32 gen _ HG.out.1 HG.out.2).mono ?_; rintro e W6 ⟨vc6, rfl, hr, hn, hb⟩; refine Hid.out ?_)
  refine Lib.hid ?_
  have HA6 := Lib.hid (HO5.out.apart_new hn)
  have HO6 := Lib.hid (HO5.out.more hb)
  have HR6 := Lib.hid hr
  clear hr hn hb HO5
  have HL6 := HL5
  clear c16 HL5
  obtain ⟨k6, hk6⟩ : ∃ k, k = (intB gen).length := ⟨_, rfl⟩
  have hkl : k6 ≤ 4 := by rw [hk6]; exact (intB_le gen HG.out)
  have HK6 := Lib.hid hk6
  have hlen := HR6.out.len k6 hk6
  clear hk6
  have HTT := Lib.hid (HO6.out.two 2 (k6 : Int))
  go_wp2_with (go_at_call 50; refine (write _ w.heap.size _ _ _ [2, (k6 : Int)] (by exact HTT.out.1.tb) (by exact HTT.out.2.1) (by exact HTT.out.2.2) (by right; simp) (by have := HL6.out; simp; omega)).mono ?_; rintro e W7 ⟨rfl, hw⟩; refine Hid.out ?_)
  refine Lib.hid ?_
  have HR7 := Lib.hid (HTT.out.1.keeps hw (HR6.out.keptBelow ((Below.refl _ _).alloc (Nat.le_refl _) _)) HA6.out)
  obtain ⟨vt7, hO⟩ := HTT.out.1.wrote hw
  have HAA := Lib.hid (OB.head HA6.out)
  obtain ⟨l7, hl⟩ : ∃ l', l' = l5 ++ [2, (k6 : Int)] := ⟨_, rfl⟩
  rw [← hl] at hO
  have HO7 := Lib.hid hO
  have HL7 : Hid (l7.length ≤ 112) := by show l7.length ≤ 112; rw [hl]; have := HL6.out; simp; omega
  have HE7 := Lib.hid hl
  clear hw hO hl hlen HTT HO6 HR6 HA6 HL6
  go_wp2_with (go_at_call 50; refine (write _ w.heap.size _ _ _ _ (by exact HO7.out.tb) HR7.out HAA.out (by left; rw [HE7.out]; simp) (by have := HL7.out; have : (intB gen).length ≤ 4 := (intB_le gen HG.out); omega)).mono ?_; rintro e W8 ⟨rfl, hw⟩; refine Hid.out ?_)
  refine Lib.hid ?_
  obtain ⟨vt8, hO⟩ := HO7.out.wrote hw
  obtain ⟨l8, hl⟩ : ∃ l', l' = l7 ++ intB gen := ⟨_, rfl⟩
  rw [← hl] at hO
  have HO8 := Lib.hid hO
  have HL8 : Hid (l8.length ≤ 116) := by show l8.length ≤ 116; rw [hl]; have := HL7.out; have : (intB gen).length ≤ 4 := (intB_le gen HG.out); simp; omega
  have HE8 := Lib.hid hl
  clear hw hO hl hkl HAA HO7 HR7 HL7
  have c17 := cellB HO8.out.below H17.out
  go_wp2_with (go_at_call 94; refine (int32 spec _ HS.out.1 HS.out.2).mono ?_; rintro e W9 ⟨vc9, rfl, hr, hn, hb⟩; refine Hid.out ?_)
  refine Lib.hid ?_
  have HA9 := Lib.hid (HO8.out.apart_new hn)
  have HO9 := Lib.hid (HO8.out.more hb)
  have HR9 := Lib.hid hr
  clear hr hn hb HO8
  have HL9 := HL8
  clear c17 HL8
  obtain ⟨k9, hk9⟩ : ∃ k, k = (intB spec).length := ⟨_, rfl⟩
  have hkl : k9 ≤ 4 := by rw [hk9]; exact (intB_le spec HS.out)
  have HK9 := Lib.hid hk9
  have hlen := HR9.out.len k9 hk9
  clear hk9
  have HTT := Lib.hid (HO9.out.two 2 (k9 : Int))
  go_wp2_with (go_at_call 50; refine (write _ w.heap.size _ _ _ [2, (k9 : Int)] (by exact HTT.out.1.tb) (by exact HTT.out.2.1) (by exact HTT.out.2.2) (by right; simp) (by have := HL9.out; simp; omega)).mono ?_; rintro e W10 ⟨rfl, hw⟩; refine Hid.out ?_)
  refine Lib.hid ?_
  have HR10 := Lib.hid (HTT.out.1.keeps hw (HR9.out.keptBelow ((Below.refl _ _).alloc (Nat.le_refl _) _)) HA9.out)
  obtain ⟨vt10, hO⟩ := HTT.out.1.wrote hw
  have HAA := Lib.hid (OB.head HA9.out)
  obtain ⟨l10, hl⟩ : ∃ l', l' = l8 ++ [2, (k9 : Int)] := ⟨_, rfl⟩
  rw [← hl] at hO
  have HO10 := Lib.hid hO
  have HL10 : Hid (l10.length ≤ 118) := by show l10.length ≤ 118; rw [hl]; have := HL9.out; simp; omega
  have HE10 := Lib.hid hl
  clear hw hO hl hlen HTT HO9 HR9 HA9 HL9
  go_wp2_with (go_at_call 50; refine (write _ w.heap.size _ _ _ _ (by exact HO10.out.tb) HR10.out HAA.out (by left; rw [HE10.out]; simp) (by have := HL10.out; have : (intB spec).length ≤ 4 := (intB_le spec HS.out); omega)).mono ?_; rintro e W11 ⟨rfl, hw⟩; refine Hid.out ?_)
  refine Lib.hid ?_
  obtain ⟨vt11, hO⟩ := HO10.out.wrote hw
  obtain ⟨l11, hl⟩ : ∃ l', l' = l10 ++ intB spec := ⟨_, rfl⟩
  rw [← hl] at hO
  have HO11 := Lib.hid hO
  have HL11 : Hid (l11.length ≤ 122) := by show l11.length ≤ 122; rw [hl]; have := HL10.out; have : (intB spec).length ≤ 4 := (intB_le spec HS.out); simp; omega
  have HE11 := Lib.hid hl
  clear hw hO hl hkl HAA HO10 HR10 HL10
  have c18 := cellB HO11.out.below H18.out
  have ta1 := ta_24_22
  have ta2 := ta_24_24
  go_wp2_with (go_at_call 71; refine (marshalUint32 time _ HT.out).mono ?_; rintro e W12 ⟨vc12, rfl, hr, hn, hb⟩; refine Hid.out ?_)
  refine Lib.hid ?_
  have HA12 := Lib.hid (HO11.out.apart_new hn)
  have HO12 := Lib.hid (HO11.out.more hb)
  have HR12 := Lib.hid hr
  clear hr hn hb HO11
  have HL12 := HL11
  clear c18 HL11
  obtain ⟨k12, hk12⟩ : ∃ k, k = (uintB time).length := ⟨_, rfl⟩
  have hkl : k12 ≤ 9 := by rw [hk12]; exact (uintB_short time (by have := HT.out; omega))
  have HK12 := Lib.hid hk12
  have hlen := HR12.out.len k12 hk12
  clear hk12
  have HTT := Lib.hid (HO12.out.two 67 (k12 : Int))
  go_wp2_with (go_at_call 50; refine (write _ w.heap.size _ _ _ [67, (k12 : Int)] (by exact HTT.out.1.tb) (by exact HTT.out.2.1) (by exact HTT.out.2.2) (by right; simp) (by have := HL12.out; simp; omega)).mono ?_; rintro e W13 ⟨rfl, hw⟩; refine Hid.out ?_)
  refine Lib.hid ?_
  have HR13 := Lib.hid (HTT.out.1.keeps hw (HR12.out.keptBelow ((Below.refl _ _).alloc (Nat.le_refl _) _)) HA12.out)
  obtain ⟨vt13, hO⟩ := HTT.out.1.wrote hw
  have HAA := Lib.hid (OB.head HA12.out)
  obtain ⟨l13, hl⟩ : ∃ l', l' = l11 ++ [67, (k12 : Int)] := ⟨_, rfl⟩
  rw [← hl] at hO
  have HO13 := Lib.hid hO
  have HL13 : Hid (l13.length ≤ 124) := by show l13.length ≤ 124; rw [hl]; have := HL12.out; simp; omega
  have HE13 := Lib.hid hl
  clear hw hO hl hlen HTT HO12 HR12 HA12 HL12
  go_wp2_with (go_at_call 50; refine (write _ w.heap.size _ _ _ _ (by exact HO13.out.tb) HR13.out HAA.out (by left; rw [HE13.out]; simp) (by have := HL13.out; have : (uintB time).length ≤ 9 := (uintB_short time (by have := HT.out; omega)); omega)).mono ?_; rintro e W14 ⟨rfl, hw⟩; refine Hid.out ?_)
  refine Lib.hid ?_
  obtain ⟨vt14, hO⟩ := HO13.out.wrote hw
  obtain ⟨l14, hl⟩ : ∃ l', l' = l13 ++ uintB time := ⟨_, rfl⟩
  rw [← hl] at hO
  have HO14 := Lib.hid hO
  have HL14 : Hid (l14.length ≤ 133) := by show l14.length ≤ 133; rw [hl]; have := HL13.out; have : (uintB time).length ≤ 9 := (uintB_short time (by have := HT.out; omega)); simp; omega
  have HE14 := Lib.hid hl
  clear hw hO hl hkl HAA HO13 HR13 HL13
  have HR : Hid (∀ k, RetB w (trapHead arcs a b c d gen spec time 0) (.returned (.tuple #[vt14, .nilIface])) (W14.drewN k)) := by
    intro k
    have h := (HO14.out.more (W1 := W14.drewN k) ⟨rfl, rfl, rfl, Nat.le_refl _, fun _ _ => rfl⟩).ret
    refine h.of_eq ?_
    rw [HE14.out, HE13.out, HE11.out, HE10.out, HE8.out, HE7.out, HE5.out, HE4.out, HE2.out, HK3.out, HK6.out, HK9.out, HK12.out]
    have p1 : (intB gen).length < 128 := by have := intB_le gen HG.out; omega
    have p2 : (intB spec).length < 128 := by have := intB_le spec HS.out; omega
    have p3 : (uintB time).length < 128 := by have := uintB_short time (by have := HT.out; omega); omega
    rw [trapHead, seal2 64 _ (by simp), seal2 2 _ p1, seal2 2 _ p2, seal2 67 _ p3]
    simp
  go_wp2_with (go_at_call 58; refine (bufBytes' HO14.out.tb).mono ?_; rintro e W6 ⟨rfl, k6, rfl⟩; refine Hid.out ?_)
  refine Lib.hid ?_
  go_wp2
  go_ret2
  exact HR.out k6
end Go.Proofs.YtpfmcdhmboclhaaGreatDoor
namespace Go.Proofs.YtpfmcdhmboclhaaGreatDoor
open Go.RowKit
set_option maxHeartbeats 8000000 in
set_option maxRecDepth 100000 in
theorem marshalPDU_trap (w : World) (P : Nat) (ent agent : ByteArray) (arcs : List Nat) (a b c d : Nat) (gen spec : Int) (time : Nat) (v : Value) (l : List AV) (z : Addr) (hz : NetLaid w z)
    (h2 : w.cell? ⟨P, 2, none⟩ = some (.int .u8 164)) (h10 : w.cell? ⟨P, 10, none⟩ = some v)
    (h14 : w.cell? ⟨P, 13, none⟩ = some (.string ent)) (h15 : w.cell? ⟨P, 14, none⟩ = some (.string agent)) (h16 : w.cell? ⟨P, 15, none⟩ = some (.int .i64 gen)) (h17 : w.cell? ⟨P, 16, none⟩ = some (.int .i64 spec)) (h18 : w.cell? ⟨P, 17, none⟩ = some (.int .u64 time))
    (hn : Nm ent arcs) (hip : ipOf (bytesOf agent) = some [a, b, c, d]) (hsz : agent.size ≤ 2147483647) (hg : -2147483648 ≤ gen ∧ gen ≤ 2147483647) (hs : -2147483648 ≤ spec ∧ spec ≤ 2147483647) (ht : time < 4294967296)
    (hpr : PduRow w v l) (hok : ∀ x ∈ l, x.Ok) (hln : l.length ≤ 20) :
    Calls Tryz.prog 53 #[.pointer (some ⟨P, 0, none⟩)] w (RetB w (sealB 164 (trapHead arcs a b c d gen spec time 0 ++ sealB 48 (varsB l 0) 0) 0)) := by
  have HZ := Lib.hid hz
  have HPR := Lib.hid hpr
  have HOK := Lib.hid hok
  have HLN := Lib.hid hln
  have H2 := Lib.hid h2
  have H10 := Lib.hid h10
  have HO0 := Lib.hid (OB.start (Below.refl w.heap.size w))
  have HTL : Hid ((trapHead arcs a b c d gen spec time 0).length ≤ 200) := by
    show (trapHead arcs a b c d gen spec time 0).length ≤ 200
    have g1 := hn.good.bytes
    have g2 := sealB_length 6 (nameB arcs) 0 (by omega)
    have g3 := sealB_length 64 [(a : Int), (b : Int), (c : Int), (d : Int)] 0 (by simp)
    have g4 := intB_le gen hg
    have g5 := intB_le spec hs
    have g6 := uintB_short time (by omega)
    have g7 := sealB_length 2 (intB gen) 0 (by omega)
    have g8 := sealB_length 2 (intB spec) 0 (by omega)
    have g9 := sealB_length 67 (uintB time) 0 (by omega)
    simp only [trapHead, List.length_append]
    simp at g3
    omega
  have HZ0 := HZ.out.below HO0.out.below
  have HC0 := Lib.hid (marshalTrapHead _ P ent agent arcs a b c d gen spec time z HZ0 (cellB HO0.out.below h14) (cellB HO0.out.below h15) (cellB HO0.out.below h16) (cellB HO0.out.below h17) (cellB HO0.out.below h18) hn hip hsz hg hs ht)
  have c2 := cellB HO0.out.below h2
  clear hz h2 h10 h14 h15 h16 h17 h18 hn hip hsz hg hs ht hpr hok hln HZ0
  go_enter Tryz.func53, Tryz.ntmps53
  go_wp2_with (go_at_call 72; refine (HC0.out).mono ?_; rintro e W1 ⟨vc1, rfl, hr, hn, hb⟩; refine Hid.out ?_)
  refine Lib.hid ?_
  have HA1 := Lib.hid (OB.head (HO0.out.apart_new hn))
  have HO1 := Lib.hid (HO0.out.more hb)
  have HR1 := Lib.hid hr
  clear hr hn hb HO0 HC0 c2
  go_wp2_with (go_at_call 50; refine (write _ w.heap.size _ _ [] _ (by exact HO1.out.tb) HR1.out HA1.out (by right; simp [trapHead, sealB]) (by have := HTL.out; simp; omega)).mono ?_; rintro e W2 ⟨rfl, hw⟩; refine Hid.out ?_)
  refine Lib.hid ?_
  obtain ⟨vt2, hO⟩ := HO1.out.wrote hw
  obtain ⟨l2, hl⟩ : ∃ l', l' = [] ++ trapHead arcs a b c d gen spec time 0 := ⟨_, rfl⟩
  rw [← hl] at hO
  have HO2 := Lib.hid hO
  have HL2 : Hid (l2.length ≤ 200) := by show l2.length ≤ 200; rw [hl]; exact HTL.out
  have HE2 := Lib.hid hl
  clear hw hO hl HO1 HR1 HA1
  have c10 := cellB HO2.out.below H10.out
  have HZ2 := Lib.hid (HZ.out.below HO2.out.below)
  have HPR2 := Lib.hid (HPR.out.below HO2.out.below)
  go_wp2_with (go_at_call 73; refine (marshalVBL _ P v l z HZ2.out c10 HPR2.out HOK.out HLN.out).mono ?_; rintro e V1 ⟨u1, rfl, hr, hn, hb⟩; refine Hid.out ?_)
  refine Lib.hid ?_
  have HA := Lib.hid (OB.head (HO2.out.apart_new hn))
  have HB := Lib.hid (HO2.out.more hb)
  have HR := Lib.hid hr
  have hvl : (sealB 48 (varsB l 0) 0).length ≤ 12400 := by
    have h1 := varsB_length l 0 (by omega) HOK.out
    have h3 := HLN.out
    have h2 := sealB_length 48 (varsB l 0) 0 (by omega)
    omega
  have HVL := Lib.hid hvl
  clear hr hn hb HO2 c10 hvl
  go_wp2_with (go_at_call 50; refine (write _ w.heap.size _ _ _ _ (by exact HB.out.tb) HR.out HA.out (by right; simp [sealB]) (by have := HL2.out; have := HVL.out; omega)).mono ?_; rintro e V2 ⟨rfl, hw⟩; refine Hid.out ?_)
  refine Lib.hid ?_
  obtain ⟨u2, hO⟩ := HB.out.wrote hw
  obtain ⟨L, hl⟩ : ∃ l', l' = trapHead arcs a b c d gen spec time 0 ++ sealB 48 (varsB l 0) 0 := ⟨_, rfl⟩
  have hle : l2 ++ sealB 48 (varsB l 0) 0 = L := by
    rw [hl]
    rw [HE2.out]; rfl
  rw [hle] at hO
  have hLL : L.length ≤ 13000 := by rw [← hle]; have := HL2.out; have := HVL.out; simp; omega
  have hne : L ≠ [] := by rw [← hle]; simp [sealB]
  have HQ := Lib.hid hl
  have HLL := Lib.hid hLL
  have HNE := Lib.hid hne
  have HO := Lib.hid (TB.start hO)
  have HC := Lib.hid (bufLen' HO.out.o1.tb)
  clear hw hO hl hle hLL hne HB HR HA HVL HL2
  go_wp2_with (go_at_call 56; refine (HC.out).mono ?_; rintro e V3 ⟨rfl, k3, rfl⟩; refine Hid.out ?_)
  refine Lib.hid ?_
  have HO3 := Lib.hid (HO.out.more (drewN_below _ k3))
  clear HC HO
  go_wp2_with (go_at_call 55; refine (marshalLength L.length _ (by have := HLL.out; omega)).mono ?_; rintro e V4 ⟨u4, rfl, hr, hn, hb⟩; refine Hid.out ?_)
  refine Lib.hid ?_
  have HA4 := Lib.hid (HO3.out.o2.apart_new hn)
  have HO4 := Lib.hid (HO3.out.more hb)
  have HR4 := Lib.hid hr
  have c2 := cellB HO4.out.o1.below H2.out
  clear hr hn hb HO3
  go_wp2_with (go_at_call 54; refine (writeByte _ _ _ [] _ (by exact HO4.out.o2.tb) (by simp)).mono ?_; rintro e V5 ⟨rfl, hw⟩; refine Hid.out ?_)
  refine Lib.hid ?_
  have HR5 := Lib.hid (HO4.out.o2.keeps hw HR4.out HA4.out)
  have HA5 := Lib.hid (OB.head HA4.out)
  obtain ⟨u5, hO⟩ := HO4.out.wrote hw
  have HO5 := Lib.hid hO
  have hl7 := lenB_length L.length 0 (by have := HLL.out; omega)
  have HL7 := Lib.hid hl7
  clear hw hO c2 HO4 HR4 HA4 hl7
  go_wp2_with (go_at_call 50; refine (write _ _ _ _ _ _ (by exact HO5.out.o2.tb) HR5.out HA5.out (by left; simp) (by have := HL7.out; simp; omega)).mono ?_; rintro e V6 ⟨rfl, hw⟩; refine Hid.out ?_)
  refine Lib.hid ?_
  obtain ⟨u6, hO⟩ := HO5.out.wrote hw
  have HO6 := Lib.hid hO
  clear hw hO HO5 HR5 HA5
  go_wp2_with (go_at_call 57; refine (writeTo _ _ _ _ _ _ _ (by exact HO6.out.o1.tb) (by exact HO6.out.o2.tb) HO6.out.ne.1 HNE.out HO6.out.ne.2.1 HO6.out.ne.2.2 (by have := HL7.out; have := HLL.out; simp; omega)).mono ?_; rintro e V7 ⟨rfl, hm⟩; refine Hid.out ?_)
  refine Lib.hid ?_
  obtain ⟨u7, hO⟩ := HO6.out.moved hm
  have HO7 := Lib.hid hO
  clear hm hO HO6
  have HRET : Hid (∀ k, RetB w (sealB 164 (trapHead arcs a b c d gen spec time 0 ++ sealB 48 (varsB l 0) 0) 0) (.returned (.tuple #[u7, .nilIface])) (V7.drewN k)) := by
    intro k
    refine (HO7.out.more (drewN_below _ k)).ret.of_eq ?_
    rw [← HQ.out]
    simp [sealB]
  go_wp2_with (go_at_call 58; refine (bufBytes' HO7.out.tb).mono ?_; rintro e V8 ⟨rfl, k8, rfl⟩; refine Hid.out ?_)
  refine Lib.hid ?_
  go_wp2
  go_ret2
  exact HRET.out k8
end Go.Proofs.YtpfmcdhmboclhaaGreatDoor
