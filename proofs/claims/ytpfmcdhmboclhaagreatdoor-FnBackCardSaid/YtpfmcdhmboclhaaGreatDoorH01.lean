/- gosnmp: the bytes of a message's body. impl: Encode. -/
import Derived.Test.YtpfmcdhmboclhaaGreatDoorH00
set_option linter.unusedVariables false
set_option linter.unusedSimpArgs false
namespace Go.Proofs.YtpfmcdhmboclhaaGreatDoor
open Go.RowKit
set_option maxHeartbeats 8000000 in
set_option maxRecDepth 100000 in
theorem marshalPDU_plain (w : World) (P : Nat) (kind : Int) (id s i : Nat) (v : Value) (l : List AV) (z : Addr) (hz : NetLaid w z)
    (h2 : w.cell? ⟨P, 2, none⟩ = some (.int .u8 kind)) (h10 : w.cell? ⟨P, 10, none⟩ = some v) (h4 : w.cell? ⟨P, 4, none⟩ = some (.int .u32 id)) (hx : w.cell? ⟨P, 6, none⟩ = some (.int .u8 s)) (hy : w.cell? ⟨P, 7, none⟩ = some (.int .u8 i))
    (hk1 : (kind == 165) = false) (hk2 : (kind == 164) = false) (hid : id < 2147483648) (hs : s < 128) (hi : i < 128) (hpr : PduRow w v l) (hok : ∀ x ∈ l, x.Ok) (hln : l.length ≤ 20) :
    Calls Tryz.prog 53 #[.pointer (some ⟨P, 0, none⟩)] w (RetB w (sealB kind (bodyB id s i l 0) 0)) := by
  have HZ := Lib.hid hz
  have HPR := Lib.hid hpr
  have HOK := Lib.hid hok
  have HLN := Lib.hid hln
  have H2 := Lib.hid h2
  have H10 := Lib.hid h10
  have HO0 := Lib.hid (OB.start (Below.refl w.heap.size w))
  have HX := Lib.hid hx
  have HY := Lib.hid hy
  have HID := Lib.hid hid
  have HSS := Lib.hid hs
  have HII := Lib.hid hi
  have c2 := cellB HO0.out.below h2
  have c4 := cellB HO0.out.below h4
  have HL0 : Hid (([] : List Int).length ≤ 0) := Nat.le_refl _
  clear hz h2 h10 h4 hx hy hs hi hpr hok hln
  have hid' : (id : Int) < 2147483648 := by omega
  clear hid
  go_enter Tryz.func53, Tryz.ntmps53
  go_wp2_with (go_at_call 70; refine (shrinkUint _ w.heap.size _ [] id (by exact HO0.out.tb) HID.out (by simp)).mono ?_; rintro e W2 ⟨rfl, hw⟩; refine Hid.out ?_)
  refine Lib.hid ?_
  obtain ⟨vt2, hO⟩ := HO0.out.wrote hw
  obtain ⟨l2, hl⟩ : ∃ l', l' = [] ++ sealB 2 (intB id) 0 := ⟨_, rfl⟩
  rw [← hl] at hO
  have HO2 := Lib.hid hO
  have HL2 : Hid (l2.length ≤ 8) := by show l2.length ≤ 8; rw [hl]; have := intB_short id HID.out; have := sealB_length 2 (intB id) 0 (by omega); simp; omega
  have HE2 := Lib.hid hl
  clear hw hO hl HO0 c2 c4 hid'
  have cx := cellB HO2.out.below HX.out
  go_wp2_with (go_at_call 71; refine (u32_45_3 s _ (by omega) HSS.out).mono ?_; rintro e W3 ⟨vc3, rfl, hr, hn, hb⟩; refine Hid.out ?_)
  refine Lib.hid ?_
  have HA3 := Lib.hid (HO2.out.apart_new hn)
  have HO3 := Lib.hid (HO2.out.more hb)
  have HR3 := Lib.hid hr
  clear hr hn hb HO2
  have HL3 := HL2
  clear cx HL2
  obtain ⟨k3, hk3⟩ : ∃ k, k = ([(s : Int)]).length := ⟨_, rfl⟩
  have hkl : k3 ≤ 1 := by rw [hk3]; exact (by simp)
  have HK3 := Lib.hid hk3
  have hlen := HR3.out.len k3 hk3
  clear hk3
  have HTT := Lib.hid (HO3.out.two 2 (k3 : Int))
  go_wp2_with (go_at_call 50; refine (write _ w.heap.size _ _ _ [2, (k3 : Int)] (by exact HTT.out.1.tb) (by exact HTT.out.2.1) (by exact HTT.out.2.2) (by right; simp) (by have := HL3.out; simp; omega)).mono ?_; rintro e W4 ⟨rfl, hw⟩; refine Hid.out ?_)
  refine Lib.hid ?_
  have HR4 := Lib.hid (HTT.out.1.keeps hw (HR3.out.keptBelow ((Below.refl _ _).alloc (Nat.le_refl _) _)) HA3.out)
  obtain ⟨vt4, hO⟩ := HTT.out.1.wrote hw
  have HAA := Lib.hid (OB.head HA3.out)
  obtain ⟨l4, hl⟩ : ∃ l', l' = l2 ++ [2, (k3 : Int)] := ⟨_, rfl⟩
  rw [← hl] at hO
  have HO4 := Lib.hid hO
  have HL4 : Hid (l4.length ≤ 10) := by show l4.length ≤ 10; rw [hl]; have := HL3.out; simp; omega
  have HE4 := Lib.hid hl
  clear hw hO hl hlen HTT HO3 HR3 HA3 HL3
  go_wp2_with (go_at_call 50; refine (write _ w.heap.size _ _ _ _ (by exact HO4.out.tb) HR4.out HAA.out (by left; rw [HE4.out]; simp) (by have := HL4.out; have : ([(s : Int)]).length ≤ 1 := (by simp); omega)).mono ?_; rintro e W5 ⟨rfl, hw⟩; refine Hid.out ?_)
  refine Lib.hid ?_
  obtain ⟨vt5, hO⟩ := HO4.out.wrote hw
  obtain ⟨l5, hl⟩ : ∃ l', l' = l4 ++ [(s : Int)] := ⟨_, rfl⟩
  rw [← hl] at hO
  have HO5 := Lib.hid hO
  have HL5 : Hid (l5.length ≤ 11) := by show l5.length ≤ 11; rw [hl]; have := HL4.out; have : ([(s : Int)]).length ≤ 1 := (by simp); simp; omega
  have HE5 := Lib.hid hl
  clear hw hO hl hkl HAA HO4 HR4 HL4
  have cx := cellB HO5.out.below HY.out
  go_wp2_with (go_at_call 71; refine (u32_5_3 i _ (by omega) HII.out).mono ?_; rintro e W6 ⟨vc6, rfl, hr, hn, hb⟩; refine Hid.out ?_)
  refine Lib.hid ?_
  have HA6 := Lib.hid (HO5.out.apart_new hn)
  have HO6 := Lib.hid (HO5.out.more hb)
  have HR6 := Lib.hid hr
  clear hr hn hb HO5
  have HL6 := HL5
  clear cx HL5
  obtain ⟨k6, hk6⟩ : ∃ k, k = ([(i : Int)]).length := ⟨_, rfl⟩
  have hkl : k6 ≤ 1 := by rw [hk6]; exact (by simp)
  have HK6 := Lib.hid hk6
  have hlen := HR6.out.len k6 hk6
  clear hk6
  have HTT := Lib.hid (HO6.out.two 2 (k6 : Int))
  go_wp2_with (go_at_call 50; refine (write _ w.heap.size _ _ _ [2, (k6 : Int)] (by exact HTT.out.1.tb) (by exact HTT.out.2.1) (by exact HTT.out.2.2) (by right; simp) (by have := HL6.out; simp; omega)).mono ?_; rintro e W7 ⟨rfl, hw⟩; refine Hid.out ?_)
  refine Lib.hid ?_
  have HR7 := Lib.hid (HTT.out.1.keeps hw (HR6.out.keptBelow ((Below.refl _ _).alloc (Nat.le_refl _) _)) HA6.out)
  obtain ⟨vt7, hO⟩ := HTT.out.1.wrote hw
  have HAA := Lib.hid (OB.head HA6.out)
  obtain ⟨l7, hl⟩ : ∃ l', l' = l5 ++ [2, (k6 : Int)] := ⟨_, rfl⟩
  rw [← hl] at hO
  have HO7 := Lib.hid hO
  have HL7 : Hid (l7.length ≤ 13) := by show l7.length ≤ 13; rw [hl]; have := HL6.out; simp; omega
  have HE7 := Lib.hid hl
  clear hw hO hl hlen HTT HO6 HR6 HA6 HL6
  go_wp2_with (go_at_call 50; refine (write _ w.heap.size _ _ _ _ (by exact HO7.out.tb) HR7.out HAA.out (by left; rw [HE7.out]; simp) (by have := HL7.out; have : ([(i : Int)]).length ≤ 1 := (by simp); omega)).mono ?_; rintro e W8 ⟨rfl, hw⟩; refine Hid.out ?_)
  refine Lib.hid ?_
  obtain ⟨vt8, hO⟩ := HO7.out.wrote hw
  obtain ⟨l8, hl⟩ : ∃ l', l' = l7 ++ [(i : Int)] := ⟨_, rfl⟩
  rw [← hl] at hO
  have HO8 := Lib.hid hO
  have HL8 : Hid (l8.length ≤ 14) := by show l8.length ≤ 14; rw [hl]; have := HL7.out; have : ([(i : Int)]).length ≤ 1 := (by simp); simp; omega
  have HE8 := Lib.hid hl
  clear hw hO hl hkl HAA HO7 HR7 HL7
  have c10 := cellB HO8.out.below H10.out
  have HZ2 := Lib.hid (HZ.out.below HO8.out.below)
  have HPR2 := Lib.hid (HPR.out.below HO8.out.below)
  go_wp2_with (go_at_call 73; refine (marshalVBL _ P v l z HZ2.out c10 HPR2.out HOK.out HLN.out).mono ?_; rintro e V1 ⟨u1, rfl, hr, hn, hb⟩; refine Hid.out ?_)
  refine Lib.hid ?_
  have HA := Lib.hid (OB.head (HO8.out.apart_new hn))
  have HB := Lib.hid (HO8.out.more hb)
  have HR := Lib.hid hr
  have hvl : (sealB 48 (varsB l 0) 0).length ≤ 12400 := by
    have h1 := varsB_length l 0 (by omega) HOK.out
    have h3 := HLN.out
    have h2 := sealB_length 48 (varsB l 0) 0 (by omega)
    omega
  have HVL := Lib.hid hvl
  clear hr hn hb HO8 c10 hvl
  go_wp2_with (go_at_call 50; refine (write _ w.heap.size _ _ _ _ (by exact HB.out.tb) HR.out HA.out (by right; simp [sealB]) (by have := HL8.out; have := HVL.out; omega)).mono ?_; rintro e V2 ⟨rfl, hw⟩; refine Hid.out ?_)
  refine Lib.hid ?_
  obtain ⟨u2, hO⟩ := HB.out.wrote hw
  obtain ⟨L, hl⟩ : ∃ l', l' = bodyB id s i l 0 := ⟨_, rfl⟩
  have hle : l8 ++ sealB 48 (varsB l 0) 0 = L := by
    rw [hl]
    rw [HE8.out, HE7.out, HE5.out, HE4.out, HE2.out, HK3.out, HK6.out]
    have e1 := intB_small s HSS.out
    have e2 := intB_small i HII.out
    rw [bodyB, ← e1, ← e2, seal2 2 [(s : Int)] (by simp), seal2 2 [(i : Int)] (by simp)]
    simp
  rw [hle] at hO
  have hLL : L.length ≤ 13000 := by rw [← hle]; have := HL8.out; have := HVL.out; simp; omega
  have hne : L ≠ [] := by rw [← hle]; simp [sealB]
  have HQ := Lib.hid hl
  have HLL := Lib.hid hLL
  have HNE := Lib.hid hne
  have HO := Lib.hid (TB.start hO)
  have HC := Lib.hid (bufLen' HO.out.o1.tb)
  clear hw hO hl hle hLL hne HB HR HA HVL HL8
  go_wp2_with (go_at_call 56; refine (HC.out).mono ?_; rintro e V3 ⟨rfl, k3, rfl⟩; refine Hid.out ?_)
  refine Lib.hid ?_
  have HO3 := Lib.hid (HO.out.more (drewN_below _ k3))
  clear HC HO
  go_wp2_with (go_at_call 55; refine (marshalLength L.length _ (by have := HLL.out; omega)).mono ?_; rintro e V4 ⟨u4, rfl, hr, hn, hb⟩; refine Hid.out ?_)
  refine Lib.hid ?_
  have HA4 := Lib.hid (HO3.out.o2.apart_new hn)
  have HO4 := Lib.hid (HO3.out.more hb)
  have HR4 := Lib.hid hr
  have c2 := cellB HO4.out.o1.below H2.out
  clear hr hn hb HO3
  go_wp2_with (go_at_call 54; refine (writeByte _ _ _ [] _ (by exact HO4.out.o2.tb) (by simp)).mono ?_; rintro e V5 ⟨rfl, hw⟩; refine Hid.out ?_)
  refine Lib.hid ?_
  have HR5 := Lib.hid (HO4.out.o2.keeps hw HR4.out HA4.out)
  have HA5 := Lib.hid (OB.head HA4.out)
  obtain ⟨u5, hO⟩ := HO4.out.wrote hw
  have HO5 := Lib.hid hO
  have hl7 := lenB_length L.length 0 (by have := HLL.out; omega)
  have HL7 := Lib.hid hl7
  clear hw hO c2 HO4 HR4 HA4 hl7
  go_wp2_with (go_at_call 50; refine (write _ _ _ _ _ _ (by exact HO5.out.o2.tb) HR5.out HA5.out (by left; simp) (by have := HL7.out; simp; omega)).mono ?_; rintro e V6 ⟨rfl, hw⟩; refine Hid.out ?_)
  refine Lib.hid ?_
  obtain ⟨u6, hO⟩ := HO5.out.wrote hw
  have HO6 := Lib.hid hO
  clear hw hO HO5 HR5 HA5
  go_wp2_with (go_at_call 57; refine (writeTo _ _ _ _ _ _ _ (by exact HO6.out.o1.tb) (by exact HO6.out.o2.tb) HO6.out.ne.1 HNE.out HO6.out.ne.2.1 HO6.out.ne.2.2 (by have := HL7.out; have := HLL.out; simp; omega)).mono ?_; rintro e V7 ⟨rfl, hm⟩; refine Hid.out ?_)
  refine Lib.hid ?_
  obtain ⟨u7, hO⟩ := HO6.out.moved hm
  have HO7 := Lib.hid hO
  clear hm hO HO6
  have HRET : Hid (∀ k, RetB w (sealB kind (bodyB id s i l 0) 0) (.returned (.tuple #[u7, .nilIface])) (V7.drewN k)) := by
    intro k
    refine (HO7.out.more (drewN_below _ k)).ret.of_eq ?_
    rw [← HQ.out]
    simp [sealB]
  go_wp2_with (go_at_call 58; refine (bufBytes' HO7.out.tb).mono ?_; rintro e V8 ⟨rfl, k8, rfl⟩; refine Hid.out ?_)
  refine Lib.hid ?_
  go_wp2
  go_ret2
  exact HRET.out k8
end Go.Proofs.YtpfmcdhmboclhaaGreatDoor
namespace Go.Proofs.YtpfmcdhmboclhaaGreatDoor
open Go.RowKit
set_option maxHeartbeats 16000000 in
set_option maxRecDepth 100000 in
theorem encode_plain (w : World) (ver : Nat) (com : ByteArray) (kind : Int) (id st ix : Nat) (ent agent : ByteArray) (gen spec : Int) (time : Nat) (A : Option Addr) (n c : Nat) (rs : List Raw) (l : List AV) (z : Addr) (hz : NetLaid w z)
    (hv1 : ver ≤ 1) (hk0 : 160 ≤ kind) (hk1 : kind ≤ 168) (hk2 : (kind == 164) = false) (hk3 : (kind == 165) = false) (hid : id < 2147483648) (hn : rs.length = n) (hn2 : n ≤ 20) (hc : com.size ≤ 127) (he : ent.size ≤ 1000) (hst : st ≤ 127) (hix : ix ≤ 127) (hrow : RawRow w A rs) (hsame : Same rs l) (hok : ∀ x ∈ l, x.Ok) :
    Calls Tryz.prog 8 #[msgV ver com kind id st ix (.slice A n c) ent agent gen spec time] w (RetE w (msgB ver com (sealB kind (bodyB id st ix l 0) 0) 0)) := by
  have HZ := Lib.hid hz
  have HN := Lib.hid hn
  have HROW := Lib.hid hrow
  have HSAME := Lib.hid hsame
  have HOK := Lib.hid hok
  have HC := Lib.hid hc
  have HV := Lib.hid hv1
  have HST := Lib.hid hst
  have HIX := Lib.hid hix
  have HID := Lib.hid hid
  have HK2 := Lib.hid hk2
  have HK3 := Lib.hid hk3
  obtain ⟨pk, hpk⟩ : ∃ pk : Value → Array Value, pk = fun vp => #[.int .u8 ver, .string com, .int .u8 kind, .int .u32 0, .int .u32 id, .int .u32 0, .int .u8 st, .int .u8 ix, .int .u8 0, .int .u32 0, vp, .slice none 0 0, .bool false, .string ⟨#[]⟩, .string ⟨#[]⟩, .int .i64 0, .int .i64 0, .int .u64 0] := ⟨_, rfl⟩
  have HPK := Lib.hid hpk
  clear hz hn hrow hsame hok hpk
  simp only [msgV]
  go_enter Tryz.func8, Tryz.ntmps8
  go_wp2
  go_region
  obtain ⟨W0, hW0⟩ : ∃ W0, W0 = ((w.alloc (.cells #[.int .i64 ver, .string com, .int .i64 kind, .int .u32 id, .int .i64 st, .int .i64 ix, .slice A n c, .string ent, .string agent, .int .i64 gen, .int .i64 spec, .int .u64 time] 26)).alloc (.cells #[.int .u8 ver, .string com, .int .u8 kind, .int .u32 0, .int .u32 id, .int .u32 0, .int .u8 st, .int .u8 ix, .int .u8 0, .int .u32 0, .slice none 0 0, .slice none 0 0, .bool false, .string ⟨#[]⟩, .string ⟨#[]⟩, .int .i64 0, .int .i64 0, .int .u64 0] 52)).drew := ⟨_, rfl⟩
  rw [← hW0]
  have HBOX : Hid (W0.heap[w.heap.size]? = some (.cells #[.int .i64 ver, .string com, .int .i64 kind, .int .u32 id, .int .i64 st, .int .i64 ix, .slice A n c, .string ent, .string agent, .int .i64 gen, .int .i64 spec, .int .u64 time] 26 (0, 0))) := by
    rw [hW0]
    show ((w.alloc _).alloc _).heap[w.heap.size]? = _
    rw [Below.heap_alloc _ _ _ (by simp)]; exact heap_alloc_new w _
  have HP0 : Hid (W0.heap[w.heap.size + 1]? = some (.cells #[.int .u8 ver, .string com, .int .u8 kind, .int .u32 0, .int .u32 id, .int .u32 0, .int .u8 st, .int .u8 ix, .int .u8 0, .int .u32 0, .slice none 0 0, .slice none 0 0, .bool false, .string ⟨#[]⟩, .string ⟨#[]⟩, .int .i64 0, .int .i64 0, .int .u64 0] 52 (0, 0))) := by
    rw [hW0]
    show ((w.alloc _).alloc _).heap[w.heap.size + 1]? = _
    have hh := heap_alloc_new (w.alloc (.cells #[.int .i64 ver, .string com, .int .i64 kind, .int .u32 id, .int .i64 st, .int .i64 ix, .slice A n c, .string ent, .string agent, .int .i64 gen, .int .i64 spec, .int .u64 time] 26)) (.cells #[.int .u8 ver, .string com, .int .u8 kind, .int .u32 0, .int .u32 id, .int .u32 0, .int .u8 st, .int .u8 ix, .int .u8 0, .int .u32 0, .slice none 0 0, .slice none 0 0, .bool false, .string ⟨#[]⟩, .string ⟨#[]⟩, .int .i64 0, .int .i64 0, .int .u64 0] 52)
    rwa [show (w.alloc (.cells #[.int .i64 ver, .string com, .int .i64 kind, .int .u32 id, .int .i64 st, .int .i64 ix, .slice A n c, .string ent, .string agent, .int .i64 gen, .int .i64 spec, .int .u64 time] 26)).heap.size = w.heap.size + 1 by simp] at hh
  have HB0 : Hid (Below w.heap.size w W0) := by
    rw [hW0]
    exact Lib.hid ((((Below.refl _ _).alloc (Nat.le_refl _) _).alloc (by simp) _).drew)
  clear hW0
  have hln : l.length = n := by rw [HSAME.out.len, HN.out]
  have HLN := Lib.hid hln
  have HN2 := Lib.hid hn2
  have b6 : W0.cell? ⟨w.heap.size, 6, none⟩ = some (.slice A n c) := by rw [Lib.cell_of_heap HBOX.out]; rfl
  clear hln hn2 hc he hst hix hv1
  go_wp2
  go_loopw [133] (fun i wr => ∃ (k : Nat) (vp : Value), i = .int .i64 k ∧ EncAt w l pk k vp wr) (fun i _ => n - (intOf i).toNat)
  case atStart =>
    refine ⟨0, .slice none 0 0, rfl, Nat.zero_le _, ?_, OwnC.nil _ _ _ _, HB0.out, Nat.succ_le_of_lt (Lib.lt_of_heap HP0.out)⟩
    rw [HP0.out, HPK.out]
  case round =>
    obtain ⟨k, vp, rfl, hE⟩ := hrel
    obtain ⟨wo, rfl⟩ : ∃ wo : World, wo = wr := ⟨_, rfl⟩
    have HE := Lib.hid hE
    have hk : k ≤ n := by rw [← HLN.out]; exact hE.le
    clear hE b6
    by_cases hkl : k < n
    · obtain ⟨x, hx⟩ : ∃ x, rs[k]? = some x := ⟨_, List.getElem?_eq_getElem (by rw [HN.out]; exact hkl)⟩
      obtain ⟨y, hy, hnm, hns, hiv⟩ := HSAME.out.each k x hx
      obtain ⟨g, o, rfl, e0, e1, e2, e3, e4⟩ := HROW.out k x hx
      have e0 := cellB HE.out.below e0
      have e1 := cellB HE.out.below e1
      have e2 := cellB HE.out.below e2
      have e3 := cellB HE.out.below e3
      have e4 := cellB HE.out.below e4
      have HY := Lib.hid hy
      have HYO := Lib.hid (HOK.out y (List.mem_of_getElem? hy))
      have hZ1 := HZ.out.below (HE.out.below.alloc HE.out.below.size (.cells #[.string x.name, .int .i64 x.t, .int .i64 x.i, .int .u64 x.u, .string x.text] 40))
      have HCP := Lib.hid (pdu (wo.alloc (.cells #[.string x.name, .int .i64 x.t, .int .i64 x.i, .int .u64 x.u, .string x.text] 40)) x.name x.t x.i x.u x.text y.pay z hZ1 hns HYO.out.pay hiv)
      have HNM := Lib.hid hnm
      obtain ⟨xn, hxn⟩ : ∃ xn, xn = x.name := ⟨_, rfl⟩
      obtain ⟨xt, hxt⟩ : ∃ xt, xt = x.t := ⟨_, rfl⟩
      obtain ⟨xi, hxi⟩ : ∃ xi, xi = x.i := ⟨_, rfl⟩
      obtain ⟨xu, hxu⟩ : ∃ xu, xu = x.u := ⟨_, rfl⟩
      obtain ⟨xx, hxx⟩ : ∃ xx, xx = x.text := ⟨_, rfl⟩
      rw [← hxn] at e0
      rw [← hxt] at e1
      rw [← hxi] at e2
      rw [← hxu] at e3
      rw [← hxx] at e4
      rw [← hxn, ← hxt, ← hxi, ← hxu, ← hxx] at HCP
      have HXN := Lib.hid hxn
      simp only [varV] at HCP
      clear hx hy hnm hns hiv hZ1 hxn hxt hxi hxu hxx
      go_wp2_with (go_at_call 17; refine (HCP.out).mono ?_; rintro e W1 ⟨rfl, hb⟩; refine Hid.out ?_)
      refine Lib.hid ?_
      have hB1 : Below wo.heap.size wo W1 := ((Below.refl _ _).alloc (Nat.le_refl _) _).trans (hb.mono (by simp))
      obtain ⟨pv, hpv⟩ : ∃ pv, pv = y.pay.val := ⟨_, rfl⟩
      obtain ⟨pt, hpt⟩ : ∃ pt, pt = y.pay.typ := ⟨_, rfl⟩
      have hst1 : ∀ (W : World) (q : Addr) (m : Mode), (store q pv m).run Tryz.prog W = stored Tryz.prog W q pv m := fun W q m => run_store _ W q pv m (by rw [hpv]; exact y.pay.one)
      have hpk1 : W1.heap[w.heap.size + 1]? = some (.cells (pk vp) 52 (0, 0)) := (hB1.block _ (Lib.lt_of_heap HE.out.pkt)).trans HE.out.pkt
      have p10 : W1.cell? ⟨w.heap.size + 1, 10, none⟩ = some vp := by rw [Lib.cell_of_heap hpk1, HPK.out]; rfl
      have HOW := Lib.hid (HE.out.own.below hB1)
      have HB1 := Lib.hid (HE.out.below.trans (hB1.mono HE.out.below.size))
      have HSZ1 : Hid (w.heap.size + 2 ≤ W1.heap.size) := Nat.le_trans HE.out.size hB1.size
      have HPK1 := Lib.hid hpk1
      have HPV := Lib.hid hpv
      have HPT := Lib.hid hpt
      have HONE : Hid (∀ u ∈ [pv, .string xn, .int .u8 pt], Value.oneCell' u = true) := by
        intro u hu
        simp at hu
        rcases hu with rfl | rfl | rfl
        · rw [hpv]; exact y.pay.one
        · rfl
        · rfl
      simp only [← hpv, ← hpt]
      have p10a : ∀ o1, (W1.alloc o1).cell? ⟨w.heap.size + 1, 10, none⟩ = some vp := fun o1 => cellB ((Below.refl _ _).alloc (Nat.le_refl _) o1) p10
      clear hb hB1 hpk1 hpv hpt e0 e1 e2 e3 e4 HCP p10
      go_wp2_with (at_builtin; refine wpList_appendC elem46 (by omega) _ rfl _ _ rfl (w.heap.size + 2) vp k (pduCells (l.take k)) [pv, .string xn, .int .u8 pt] (W1.heap.size + 1) 1 rfl rfl (by exact (HOW.out.alloc _).alloc _) rfl ?ca HONE.out (by have := HSZ1.out; simp; omega) (by have := HN2.out; omega) ?_)
      case ca =>
        intro j u hu
        have hh := heap_alloc_new (W1.alloc (.cells #[pv, .string xn, .int .u8 pt] 56)) (.cells #[pv, .string xn, .int .u8 pt] 56)
        rw [show (W1.alloc (.cells #[pv, .string xn, .int .u8 pt] 56)).heap.size = W1.heap.size + 1 by simp] at hh
        rw [Lib.cell_of_heap hh]
        simpa using hu
      intro v2 w2 hO2 hg2 hor
      have hb2 : Below (w.heap.size + 2) W1 w2 := (((Below.refl _ _).alloc HSZ1.out _).alloc (by have := HSZ1.out; simp; omega) _).grown hg2 (by have := HSZ1.out; simp; omega) (fun k e => (HOW.out.lt e).1)
      have hpk2 : w2.heap[w.heap.size + 1]? = some (.cells (pk vp) 52 (0, 0)) := (hb2.block _ (by omega)).trans HPK1.out
      have q10 : w2.cell? ⟨w.heap.size + 1, 10, none⟩ = some vp := by rw [Lib.cell_of_heap hpk2, HPK.out]; rfl
      have qf : ∀ i, w2.frozen? ⟨w.heap.size + 1, i, none⟩ = false := fun i => Lib.frozen_of_heap hpk2 i
      obtain ⟨A2, c2, rfl⟩ := hO2.shape
      have HNEXT : Hid (EncAt w l pk (k + 1) (.slice A2 (k + 1) c2) (w2.setCell ⟨w.heap.size + 1, 10, none⟩ (.slice A2 (k + 1) c2))) := by
        refine ⟨by rw [HLN.out]; omega, ?_, ?_, ?_, ?_⟩
        · have := Lib.heap_setCell_same (i := 10) hpk2 (.slice A2 (k + 1) c2)
          rw [this, HPK.out]; rfl
        · have h1 : OwnC 56 3 w2 (w.heap.size + 2) (.slice A2 (k + 1) c2) (k + 1) (pduCells (l.take (k + 1))) := by
            rw [List.take_add_one, HY.out]
            show OwnC 56 3 w2 (w.heap.size + 2) (.slice A2 (k + 1) c2) (k + 1) (pduCells (l.take k ++ [y]))
            rw [pduCells_snoc, ← HNM.out, ← HXN.out, ← HPV.out, ← HPT.out]
            exact hO2
          exact h1.setCell (by omega) _
        · exact (HB1.out.trans (hb2.mono (by omega))).setCell (by simp) _
        · have := hb2.size
          have := HSZ1.out
          simp; omega
      clear hO2 hg2 hor hb2 hpk2 HOW HPK1
      go_wp2
      go_roundw
      case rel => exact ⟨k + 1, _, by go_num, HNEXT.out⟩
      case measure => simp [intOf]; omega
    · obtain rfl : k = n := by omega
      have hown := HE.out.own
      rw [show l.take k = l by rw [← HLN.out]; exact List.take_length] at hown
      have hpr : PduRow wo vp l := pduRow_of (by rw [HLN.out]; exact hown)
      have HPKT := Lib.hid HE.out.pkt
      have hpc : ∀ (i : Nat) (x : Value), (pk vp)[i]? = some x → wo.cell? ⟨w.heap.size + 1, i, none⟩ = some x := fun i x hx => by rw [Lib.cell_of_heap HPKT.out]; exact hx
      rw [HPK.out] at hpc
      have hZo := HZ.out.below HE.out.below
      have hbody : ∀ W, Below wo.heap.size wo W → Calls Tryz.prog 53 #[.pointer (some ⟨w.heap.size + 1, 0, none⟩)] W (RetB W (sealB kind (bodyB id st ix l 0) 0)) := fun W hb => marshalPDU_plain W (w.heap.size + 1) kind id st ix vp l z (hZo.below hb) (cellB hb (hpc 2 _ rfl)) (cellB hb (hpc 10 _ rfl)) (cellB hb (hpc 4 _ rfl)) (cellB hb (hpc 6 _ rfl)) (cellB hb (hpc 7 _ rfl)) HK3.out HK2.out HID.out (Nat.lt_succ_of_le HST.out) (Nat.lt_succ_of_le HIX.out) (hpr.below hb) HOK.out (by rw [HLN.out]; exact HN2.out)
      have hbl : (sealB kind (bodyB id st ix l 0) 0).length ≤ 13100 := by
        exact bodyB_length kind id st ix l HID.out HST.out HIX.out HOK.out (by rw [HLN.out]; exact HN2.out)
      have HM := Lib.hid (marshalMsg2 _ _ _ (marshalMsg wo (w.heap.size + 1) ver com (sealB kind (bodyB id st ix l 0) 0) (hpc 0 _ rfl) (hpc 1 _ rfl) HV.out HC.out hbl (by simp [sealB]) hbody))
      have HBL : Hid ((msgB ver com (sealB kind (bodyB id st ix l 0) 0) 0).length ≤ 14000) := by
        show (msgB ver com (sealB kind (bodyB id st ix l 0) 0) 0).length ≤ 14000
        have g1 := HC.out
        have g2 := intB_small ver (by have := HV.out; omega)
        have g3 := sealB_length 4 (bytesOf com) 0 (by rw [bytesOf_length]; omega)
        have g4 := sealB_length 2 (intB ver) 0 (by rw [← g2]; simp)
        have g5 : (intB ver).length = 1 := by rw [← g2]; rfl
        rw [bytesOf_length] at g3
        have g6 := sealB_length 48 (sealB 2 (intB ver) 0 ++ sealB 4 (bytesOf com) 0 ++ (sealB kind (bodyB id st ix l 0) 0)) 0 (by simp only [List.length_append]; omega)
        simp only [List.length_append] at g6
        unfold msgB
        omega
      obtain ⟨LB, hLB⟩ : ∃ LB, LB = msgB ver com (sealB kind (bodyB id st ix l 0) 0) 0 := ⟨_, rfl⟩
      have hLne : LB ≠ [] := by rw [hLB]; simp [msgB, sealB]
      rw [← hLB] at HM HBL
      have HLB := Lib.hid hLB
      have HLNE := Lib.hid hLne
      clear hpr hpc hZo hbody hbl hown hLB hLne hkl hk
      go_wp2_with (go_at_call 18; refine (HM.out).mono ?_; rintro e W1 ⟨u1, rfl, hr, hn, hb⟩; refine Hid.out ?_)
      refine Lib.hid ?_
      have HR1 := Lib.hid hr
      have HB1 := Lib.hid (HE.out.below.trans (hb.mono HE.out.below.size))
      clear hr hn hb HM
      go_wp2_with (go_at_call 19; refine (cloneBytes _ u1 LB HR1.out HLNE.out (by have := HBL.out; omega)).mono ?_; rintro e W2 ⟨u2, rfl, hO2, hb2⟩; refine Hid.out ?_)
      refine Lib.hid ?_
      have HRET : Hid (RetE w (msgB ver com (sealB kind (bodyB id st ix l 0) 0) 0) (.returned (.tuple #[u2, .bool true])) W2) := by
        rw [← HLB.out]
        exact Lib.hid ⟨u2, rfl, hO2.base HB1.out.size, HB1.out.trans (hb2.mono HB1.out.size)⟩
      clear hO2 hb2
      go_wp2
      go_ret2
      exact HRET.out
end Go.Proofs.YtpfmcdhmboclhaaGreatDoor
