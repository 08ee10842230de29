/- net/netip: an address of version 4 as text; gosnmp: an address is read. net/netip, gosnmp: an address of four bytes as text. gosnmp: a field is read. gosnmp: a value is read. gosnmp: a value is read: nothing. -/
import Derived.Laws.Cover3
import Derived.Deep.DeepCutAuto
import Derived.Deep.CutBlock
import Derived.Deep.RegionHeld3
import Derived.Test.YtpfmcdhmboclhaaGreatDoorG10
import Derived.Test.YtpfmcdhmboclhaaGreatDoorG12
set_option linter.unusedVariables false
set_option linter.unusedSimpArgs false
namespace Go.Proofs.YtpfmcdhmboclhaaGreatDoor
open Go.RowKit
set_option maxHeartbeats 8000000 in
set_option maxRecDepth 100000 in
theorem appendTo4 (a b c d : Nat) (z : Addr) (w : World) (B : Nat) (v : Value) (ha : a < 256) (hb : b < 256) (hc : c < 256) (hd : d < 256) (hO : Own w B v []) (hB : B ≤ w.heap.size) :
    Calls Tryz.prog 115 #[ipV z a b c d, v] w (fun e w' => ∃ v', e = .returned v' ∧ Own w' B v' (ipT a b c d) ∧ Below B w w') := by
  have HB := Lib.hid hB
  have HA1 := Lib.hid ha
  have HA2 := Lib.hid hb
  have HA3 := Lib.hid hc
  have HA4 := Lib.hid hd
  have HLA := Lib.hid (figs_byte a ha)
  have HLB := Lib.hid (figs_byte b hb)
  have HLC := Lib.hid (figs_byte c hc)
  have HOO := Lib.hid hO
  have HLT : Hid (v.ownBlock ≠ some w.heap.size) := fun e => Nat.lt_irrefl _ (hO.lt e).2
  have HO0 : Hid (Own (w.alloc (.cells #[.int .u64 0, .int .u64 (ipNum a b c d), .pointer (some z)] 112)) B v []) := hO.alloc _
  have HG0 := Lib.hid (Gr.refl (w.alloc (.cells #[.int .u64 0, .int .u64 (ipNum a b c d), .pointer (some z)] 112)) v)
  have hv : ipV z a b c d = .agg #[.int .u64 0, .int .u64 (ipNum a b c d), .pointer (some z)] := rfl
  rw [hv]
  have HSZ : Hid (w.heap.size < (w.alloc (.cells #[.int .u64 0, .int .u64 (ipNum a b c d), .pointer (some z)] 112)).heap.size) := by unfold Hid; simp
  have HNEW : Hid ((w.alloc (.cells #[.int .u64 0, .int .u64 (ipNum a b c d), .pointer (some z)] 112)).heap[w.heap.size]? = some (.cells #[.int .u64 0, .int .u64 (ipNum a b c d), .pointer (some z)] 112 (0, 0))) := heap_alloc_new w _
  have HALL := Lib.hid ((Below.refl w.heap.size w).alloc (Nat.le_refl _) (.cells #[.int .u64 0, .int .u64 (ipNum a b c d), .pointer (some z)] 112))
  clear hO hB ha hb hc hd hv
  have vV : ipV z a b c d = .agg #[.int .u64 0, .int .u64 (ipNum a b c d), .pointer (some z)] := rfl
  have HVV := Lib.hid vV
  clear vV
  go_enter Tryz.func115, Tryz.ntmps115

  have hr0 := (HG0.out.block HSZ.out HLT.out).trans HNEW.out
  obtain ⟨p0, q0, r0, -⟩ := ip_cells hr0
  have HV0 := Lib.hid (v4_0 a b c d z (w.alloc (.cells #[.int .u64 0, .int .u64 (ipNum a b c d), .pointer (some z)] 112)) HA1.out HA2.out HA3.out HA4.out)
  simp only [ipV] at HV0
  clear hr0
  go_wp2_with (go_at_call 128; refine (HV0.out).mono ?_; rintro e X0 ⟨rfl, hx0⟩; refine Hid.out ?_)
  refine Lib.hid ?_
  have OX0 := Lib.hid (HO0.out.keptBelow hx0)
  have GX0 := Lib.hid (HG0.out.below hx0)
  have HD0 := Lib.hid (appendDecimal X0 B a v ([] : List Int) HA1.out OX0.out (by have := HB.out; have := GX0.out.kp.size; have := HSZ.out; omega) (by have := HLA.out; have := HLB.out; have := HLC.out; simp <;> omega))
  clear hx0 p0 q0 r0 HV0
  go_wp2_with (go_at_call 127; refine (HD0.out).mono ?_; rintro e Y0 ⟨y0, rfl, hy0, gy0⟩; refine Hid.out ?_)
  refine Lib.hid ?_
  have OY0 := Lib.hid hy0
  have GY0 := Lib.hid (GX0.out.trans gy0)
  clear hy0 gy0 HD0
  go_wp2_with (at_builtin; refine wpList_append8 _ rfl _ _ rfl B _ _ (([] : List Int) ++ figs a) [46] rfl rfl (by exact OY0.out.alloc _) (by exact rd_one _ _) (by have := HB.out; have := GY0.out.kp.size; have := HSZ.out; simp; omega) (by have := HLA.out; have := HLB.out; have := HLC.out; simp; omega) ?_)
  intro z0 Z0 hz0 gz0 nz0
  have OZ0 : Hid (Own Z0 B z0 (([] : List Int) ++ figs a ++ [46])) := own_text hz0 (by simp)
  have GZ0 := Lib.hid (GY0.out.trans (Gr.app gz0 nz0))
  clear hz0 gz0 nz0
  have hr1 := (GZ0.out.block HSZ.out HLT.out).trans HNEW.out
  obtain ⟨p1, q1, r1, -⟩ := ip_cells hr1
  have HV1 := Lib.hid (v4_1 a b c d z Z0 HA1.out HA2.out HA3.out HA4.out)
  simp only [ipV] at HV1
  clear hr1
  go_wp2_with (go_at_call 128; refine (HV1.out).mono ?_; rintro e X1 ⟨rfl, hx1⟩; refine Hid.out ?_)
  refine Lib.hid ?_
  have OX1 := Lib.hid (OZ0.out.keptBelow hx1)
  have GX1 := Lib.hid (GZ0.out.below hx1)
  have HD1 := Lib.hid (appendDecimal X1 B b z0 (([] : List Int) ++ figs a ++ [46]) HA2.out OX1.out (by have := HB.out; have := GX1.out.kp.size; have := HSZ.out; omega) (by have := HLA.out; have := HLB.out; have := HLC.out; simp <;> omega))
  clear hx1 p1 q1 r1 HV1
  go_wp2_with (go_at_call 127; refine (HD1.out).mono ?_; rintro e Y1 ⟨y1, rfl, hy1, gy1⟩; refine Hid.out ?_)
  refine Lib.hid ?_
  have OY1 := Lib.hid hy1
  have GY1 := Lib.hid (GX1.out.trans gy1)
  clear hy1 gy1 HD1
  go_wp2_with (at_builtin; refine wpList_append8 _ rfl _ _ rfl B _ _ ((([] : List Int) ++ figs a ++ [46]) ++ figs b) [46] rfl rfl (by exact OY1.out.alloc _) (by exact rd_one _ _) (by have := HB.out; have := GY1.out.kp.size; have := HSZ.out; simp; omega) (by have := HLA.out; have := HLB.out; have := HLC.out; simp; omega) ?_)
  intro z1 Z1 hz1 gz1 nz1
  have OZ1 : Hid (Own Z1 B z1 ((([] : List Int) ++ figs a ++ [46]) ++ figs b ++ [46])) := own_text hz1 (by simp)
  have GZ1 := Lib.hid (GY1.out.trans (Gr.app gz1 nz1))
  clear hz1 gz1 nz1
  have hr2 := (GZ1.out.block HSZ.out HLT.out).trans HNEW.out
  obtain ⟨p2, q2, r2, -⟩ := ip_cells hr2
  have HV2 := Lib.hid (v4_2 a b c d z Z1 HA1.out HA2.out HA3.out HA4.out)
  simp only [ipV] at HV2
  clear hr2
  go_wp2_with (go_at_call 128; refine (HV2.out).mono ?_; rintro e X2 ⟨rfl, hx2⟩; refine Hid.out ?_)
  refine Lib.hid ?_
  have OX2 := Lib.hid (OZ1.out.keptBelow hx2)
  have GX2 := Lib.hid (GZ1.out.below hx2)
  have HD2 := Lib.hid (appendDecimal X2 B c z1 ((([] : List Int) ++ figs a ++ [46]) ++ figs b ++ [46]) HA3.out OX2.out (by have := HB.out; have := GX2.out.kp.size; have := HSZ.out; omega) (by have := HLA.out; have := HLB.out; have := HLC.out; simp <;> omega))
  clear hx2 p2 q2 r2 HV2
  go_wp2_with (go_at_call 127; refine (HD2.out).mono ?_; rintro e Y2 ⟨y2, rfl, hy2, gy2⟩; refine Hid.out ?_)
  refine Lib.hid ?_
  have OY2 := Lib.hid hy2
  have GY2 := Lib.hid (GX2.out.trans gy2)
  clear hy2 gy2 HD2
  go_wp2_with (at_builtin; refine wpList_append8 _ rfl _ _ rfl B _ _ (((([] : List Int) ++ figs a ++ [46]) ++ figs b ++ [46]) ++ figs c) [46] rfl rfl (by exact OY2.out.alloc _) (by exact rd_one _ _) (by have := HB.out; have := GY2.out.kp.size; have := HSZ.out; simp; omega) (by have := HLA.out; have := HLB.out; have := HLC.out; simp; omega) ?_)
  intro z2 Z2 hz2 gz2 nz2
  have OZ2 : Hid (Own Z2 B z2 (((([] : List Int) ++ figs a ++ [46]) ++ figs b ++ [46]) ++ figs c ++ [46])) := own_text hz2 (by simp)
  have GZ2 := Lib.hid (GY2.out.trans (Gr.app gz2 nz2))
  clear hz2 gz2 nz2
  have hr3 := (GZ2.out.block HSZ.out HLT.out).trans HNEW.out
  obtain ⟨p3, q3, r3, -⟩ := ip_cells hr3
  have HV3 := Lib.hid (v4_3 a b c d z Z2 HA1.out HA2.out HA3.out HA4.out)
  simp only [ipV] at HV3
  clear hr3
  go_wp2_with (go_at_call 128; refine (HV3.out).mono ?_; rintro e X3 ⟨rfl, hx3⟩; refine Hid.out ?_)
  refine Lib.hid ?_
  have OX3 := Lib.hid (OZ2.out.keptBelow hx3)
  have GX3 := Lib.hid (GZ2.out.below hx3)
  have HD3 := Lib.hid (appendDecimal X3 B d z2 (((([] : List Int) ++ figs a ++ [46]) ++ figs b ++ [46]) ++ figs c ++ [46]) HA4.out OX3.out (by have := HB.out; have := GX3.out.kp.size; have := HSZ.out; omega) (by have := HLA.out; have := HLB.out; have := HLC.out; simp <;> omega))
  clear hx3 p3 q3 r3 HV3
  go_wp2_with (go_at_call 127; refine (HD3.out).mono ?_; rintro e Y3 ⟨y3, rfl, hy3, gy3⟩; refine Hid.out ?_)
  refine Lib.hid ?_
  have OY3 := Lib.hid hy3
  have GY3 := Lib.hid (GX3.out.trans gy3)
  clear hy3 gy3 HD3
  go_wp2
  go_ret
  exact ⟨y3, rfl, own_text OY3.out (by simp [ipT]), (HALL.out.mono HB.out).trans (GY3.out.to HO0.out (by have := HB.out; have := HSZ.out; omega))⟩
end Go.Proofs.YtpfmcdhmboclhaaGreatDoor
namespace Go.Proofs.YtpfmcdhmboclhaaGreatDoor
open Go.RowKit

set_option maxHeartbeats 8000000 in
set_option maxRecDepth 100000 in
theorem addrString (a b c d : Nat) (z : Addr) (w : World) (ha : a < 256) (hb : b < 256) (hc : c < 256) (hd : d < 256) (h : NetLaid w z) :
    Calls Tryz.prog 101 #[ipV z a b c d] w fun e w' => e = .returned (.string (txt (ipT a b c d))) ∧ Below w.heap.size w w' := by
  have H := Lib.hid h
  have HA1 := Lib.hid ha
  have HA2 := Lib.hid hb
  have HA3 := Lib.hid hc
  have HA4 := Lib.hid hd
  have hv : ipV z a b c d = .agg #[.int .u64 0, .int .u64 (ipNum a b c d), .pointer (some z)] := rfl
  rw [hv]
  have HV := Lib.hid (isValid a b c d z (w.alloc (.cells #[.int .u64 0, .int .u64 (ipNum a b c d), .pointer (some z)] 112)) (h.alloc _))
  simp only [ipV] at HV
  have he := eqp_same z
  clear h ha hb hc hd hv
  go_enter Tryz.func101, Tryz.ntmps101
  go_wp2_with (go_at_call 114; refine (HV.out).mono ?_; rintro e W1 ⟨rfl, hb⟩; refine Hid.out ?_)
  refine Lib.hid ?_
  have hr : W1.heap[w.heap.size]? = some (.cells #[.int .u64 0, .int .u64 (ipNum a b c d), .pointer (some z)] 112 (0, 0)) := by
    rw [hb.block w.heap.size (by simp)]; exact heap_alloc_new w _
  have hB : Below w.heap.size w W1 := ((Below.refl _ _).alloc (Nat.le_refl _) _).trans (hb.mono (by simp))
  obtain ⟨cells, hmk, hcells⟩ := run_make_room 15 (by omega) W1
  obtain ⟨p0, p1, p2, -⟩ := ip_cells hr
  have hz4 : W1.cell? ⟨7, 0, none⟩ = some (.pointer (some z)) := (H.out.below hB).z4
  have hr2 : (W1.alloc (.cells cells 5)).heap[w.heap.size]? = some (.cells #[.int .u64 0, .int .u64 (ipNum a b c d), .pointer (some z)] 112 (0, 0)) := by
    rw [Below.heap_alloc _ _ _ (Lib.lt_of_heap hr)]; exact hr
  obtain ⟨q0, q1, q2, -⟩ := ip_cells hr2
  have HO : Hid (Own (W1.alloc (.cells cells 5)) W1.heap.size (.slice (some ⟨W1.heap.size, 0, none⟩) 0 15) []) :=
    Own.mk (l := []) (Nat.le_refl _) (heap_alloc_new W1 _) (Nat.zero_le _) (by unfold maxLen; omega) hcells rfl
  have HC := Lib.hid (appendTo4 a b c d z (W1.alloc (.cells cells 5)) W1.heap.size (.slice (some ⟨W1.heap.size, 0, none⟩) 0 15) HA1.out HA2.out HA3.out HA4.out HO.out (by simp))
  simp only [ipV] at HC
  have HB := Lib.hid hB
  clear hb hr hr2 hB hcells
  have hmk' : (Instr.makeSlice 30 (.int .i64 0) (.int .i64 15)).run Tryz.prog W1 = .ok (.slice (some ⟨W1.heap.size, 0, none⟩) 0 15) (W1.alloc (.cells cells 5)) := hmk
  clear hmk
  go_wp2_with (go_at_call 115; refine (HC.out).mono ?_; rintro e W2 ⟨v2, rfl, hO2, hB2⟩; refine Hid.out ?_)
  refine Lib.hid ?_
  have HCV := conv_txt W2 v2 _ hO2.reads
  have HB2 : Hid (Below w.heap.size w W2) := (HB.out.alloc HB.out.size _).trans (hB2.mono HB.out.size)
  clear hO2 hB2 p0 p1 p2 q0 q1 q2 hz4
  go_wp2
  go_ret
  exact ⟨rfl, HB2.out⟩
set_option maxHeartbeats 8000000 in
set_option maxRecDepth 100000 in
theorem addrFromSlice (bl o cp : Nat) (a b c d : Nat) (z : Addr) (w : World) (ha : a < 256) (hb : b < 256) (hc : c < 256) (hd : d < 256) (h : NetLaid w z) (hcp : 4 ≤ cp) (hcp2 : cp ≤ 9223372036854775807) (hat : At w bl o [(a : Int), (b : Int), (c : Int), (d : Int)]) :
    Calls Tryz.prog 99 #[.slice (some ⟨bl, o, none⟩) 4 cp] w fun e w' => e = .returned (.tuple #[ipV z a b c d, .bool true]) ∧ Below w.heap.size w w' := by
  have H := Lib.hid h
  have c0 := cellB ((Below.refl _ w).alloc (Nat.le_refl _) (.cells #[.int .u64 0, .int .u64 0, .pointer none] 112)) (hat.cell 0 _ rfl)
  have c1 := cellB ((Below.refl _ w).alloc (Nat.le_refl _) (.cells #[.int .u64 0, .int .u64 0, .pointer none] 112)) (hat.cell 1 _ rfl)
  have c2 := cellB ((Below.refl _ w).alloc (Nat.le_refl _) (.cells #[.int .u64 0, .int .u64 0, .pointer none] 112)) (hat.cell 2 _ rfl)
  have c3 := cellB ((Below.refl _ w).alloc (Nat.le_refl _) (.cells #[.int .u64 0, .int .u64 0, .pointer none] 112)) (hat.cell 3 _ rfl)
  rw [Nat.add_zero] at c0
  have hav : ∀ W, (Instr.arrayAt 166 (.slice (some ⟨bl, o, none⟩) 4 cp)).run Tryz.prog W = .ok (.pointer (some ⟨bl, o, none⟩)) W := fun W => run_arrayAt W 166 5 4 _ 4 cp Tryz.underlying166 (by omega)
  have HC := Lib.hid (addrFrom4 a b c d z (w.alloc (.cells #[.int .u64 0, .int .u64 0, .pointer none] 112)) (h.alloc _) ha hb hc hd)
  clear h ha hb hc hd hat
  go_enter Tryz.func99, Tryz.ntmps99
  go_wp2_with (go_at_call 83; refine (HC.out).mono ?_; rintro e W1 ⟨rfl, hb⟩; refine Hid.out ?_)
  refine Lib.hid ?_
  have r1 : W1.heap[w.heap.size]? = some (.cells #[.int .u64 0, .int .u64 0, .pointer none] 112 (0, 0)) := by
    rw [hb.block _ (by simp)]; exact heap_alloc_new w _
  obtain ⟨f0, f1, f2, g0⟩ := ip_cells r1
  obtain ⟨W3, hW3⟩ : ∃ W3, W3 = ((W1.setCell ⟨w.heap.size, 0, none⟩ (.int .u64 0)).setCell ⟨w.heap.size, 1, none⟩ (.int .u64 (ipNum a b c d))).setCell ⟨w.heap.size, 2, none⟩ (.pointer (some z)) := ⟨_, rfl⟩
  obtain ⟨-, k0, k1, k2, k3⟩ := ip_store r1 hW3
  have HW3 := Lib.hid hW3
  have HB3 : Hid (Below w.heap.size w W3) := (((Below.refl _ _).alloc (Nat.le_refl _) _).trans (hb.mono (by simp))).trans (k3.below (by have := hb.size; simp at this; omega) (by simp))
  clear r1 hb hW3 k3 c0 c1 c2 c3 HC
  simp only [ipV]
  go_wp2
  rw [← HW3.out]
  try simp only [Exit.inBlock, Exit.then]
  refine bodyPost_ret (v := .tuple #[ipV z a b c d, .bool true]) (by simp [results, Tryz.results99, go_sem, k0, k1, k2, ipV]) rfl ?_
  exact ⟨rfl, HB3.out⟩
set_option maxHeartbeats 8000000 in
set_option maxRecDepth 100000 in
theorem zzAddress (bl o cp : Nat) (a b c d : Nat) (z : Addr) (w : World) (ha : a < 256) (hb : b < 256) (hc : c < 256) (hd : d < 256) (h : NetLaid w z) (hcp : 4 ≤ cp) (hcp2 : cp ≤ 9223372036854775807) (hat : At w bl o [(a : Int), (b : Int), (c : Int), (d : Int)]) :
    Calls Tryz.prog 79 #[.slice (some ⟨bl, o, none⟩) 4 cp] w fun e w' => e = .returned (.string (txt (ipT a b c d))) ∧ Below w.heap.size w w' := by
  have H := Lib.hid h
  have HA1 := Lib.hid ha
  have HA2 := Lib.hid hb
  have HA3 := Lib.hid hc
  have HA4 := Lib.hid hd
  have HC := Lib.hid (addrFromSlice bl o cp a b c d z w ha hb hc hd h hcp hcp2 hat)
  clear h ha hb hc hd hat
  go_enter Tryz.func79, Tryz.ntmps79
  go_wp2_with (go_at_call 99; refine (HC.out).mono ?_; rintro e W1 ⟨rfl, hb1⟩; refine Hid.out ?_)
  refine Lib.hid ?_
  have HN : Hid (NetLaid (W1.alloc (.cells #[.int .u64 0, .int .u64 (ipNum a b c d), .pointer (some z)] 112)) z) := (H.out.below hb1).alloc _
  have HB1 := Lib.hid (hb1.alloc hb1.size (.cells #[.int .u64 0, .int .u64 (ipNum a b c d), .pointer (some z)] 112))
  have HU := Lib.hid (unmap a b c d z _ HN.out)
  simp only [ipV] at HU
  clear hb1 HC
  simp only [ipV]
  go_wp2_with (go_at_call 100; refine (HU.out).mono ?_; rintro e W2 ⟨rfl, hb2⟩; refine Hid.out ?_)
  refine Lib.hid ?_
  have HS := Lib.hid (addrString a b c d z W2 HA1.out HA2.out HA3.out HA4.out (HN.out.below hb2))
  simp only [ipV] at HS
  have HB2 := Lib.hid (HB1.out.trans (hb2.mono HB1.out.size))
  clear hb2 HU
  go_wp2_with (go_at_call 101; refine (HS.out).mono ?_; rintro e W3 ⟨rfl, hb3⟩; refine Hid.out ?_)
  refine Lib.hid ?_
  have HB3 := Lib.hid (HB2.out.trans (hb3.mono HB2.out.size))
  clear hb3
  go_wp2
  go_ret
  exact ⟨rfl, HB3.out⟩
end Go.Proofs.YtpfmcdhmboclhaaGreatDoor
namespace Go.Proofs.YtpfmcdhmboclhaaGreatDoor
open Go.RowKit

set_option maxHeartbeats 4000000 in
theorem printf (w : World) (f v : Value) : Calls Tryz.prog 61 #[.agg #[], f, v] w fun e w' => e = .returned (.tuple #[]) ∧ Below w.heap.size w w' := by
  go_enter Tryz.func61, Tryz.ntmps61
  go_wp2
  go_end0
  exact ⟨rfl, (Below.refl _ _).alloc (Nat.le_refl _) _⟩
set_option maxHeartbeats 4000000 in
theorem print (w : World) (v : Value) : Calls Tryz.prog 119 #[.agg #[], v] w fun e w' => e = .returned (.tuple #[]) ∧ Below w.heap.size w w' := by
  go_enter Tryz.func119, Tryz.ntmps119
  go_wp2
  go_end0
  exact ⟨rfl, (Below.refl _ _).alloc (Nat.le_refl _) _⟩
/-- What parseRawField returns. -/
def RetF (w : World) (v : Value) (n : Nat) (e : Ending) (w' : World) : Prop := e = .returned (.tuple #[v, .int .i64 n, .nilIface]) ∧ Below w.heap.size w w'
theorem conv_txt_nil (w : World) (A : Option Addr) (c : Nat) : (convert 30 9 (.slice A 0 c)).run Tryz.prog w = .ok (.string (txt [])) w := by
  match A with
  | none => exact run_convert_bytes_nil w 30 5 Tryz.underlying30 Tryz.underlying5 _ c 9 Tryz.underlying9
  | some ⟨b, o, x⟩ =>
    rw [run_convert_bytes_string w 30 9 5 _ _ _ Tryz.underlying30 Tryz.underlying5 Tryz.underlying9]
    have hl : (loadCells ⟨b, o, x⟩ 0).run Tryz.prog w = .ok (([] : List Int).map (Value.int .u8)).toArray w := run_loadCells_list (P := Tryz.prog) w ⟨b, o, x⟩ [] (fun j v hj => by simp at hj)
    exact run_bytesToString w _ 0 c [] hl
theorem be1_ne (n : Nat) : be1 n ≠ [] := by
  unfold be1
  split
  · simp
  · rename_i h; rw [be_step n (by omega)]; simp
theorem uintB_pos (n : Nat) : 1 ≤ (uintB n).length := by
  have := List.length_pos_iff.2 (be1_ne n)
  unfold uintB
  split <;> simp <;> omega
theorem nameB_pos {arcs : List Nat} (hg : GoodArcs arcs) : 1 ≤ (nameB arcs).length := by
  match arcs, hg.two with
  | a :: b :: r, _ => simp [nameB]
theorem At.con {w : World} {b o : Nat} {t : Int} {con rest : List Int} {wd : Nat} (h : At w b o (t :: (lenB con.length wd ++ (con ++ rest)))) : At w b (o + hdr con.length wd) con := by
  have := h.drop (hdr con.length wd)
  rw [hdr, Nat.add_comm 1, List.drop_succ_cons, List.drop_left] at this
  rw [hdr, Nat.add_comm 1]
  exact this.left
theorem sealB_len (t : Int) (con : List Int) (wd : Nat) : (sealB t con wd).length = con.length + hdr con.length wd := by unfold sealB hdr; simp; omega
set_option maxHeartbeats 8000000 in
set_option maxRecDepth 100000 in
theorem field_2 (w : World) (b o n c wd : Nat) (msg : ByteArray) (x : Int) (rest : List Int) (hx : -2147483648 ≤ x ∧ x ≤ 2147483647) (hwd : wd ≤ 2) (hat : At w b o (sealB 2 (intB x) wd ++ rest)) (hn : (sealB 2 (intB x) wd).length ≤ n) (hnc : n ≤ c) (hc : c ≤ 9223372036854775807 ∧ n ≤ 1000000) :
    Calls Tryz.prog 60 #[.agg #[], .slice (some ⟨b, o, none⟩) n c, .string msg] w (RetF w (.iface 3 (.int .i64 x)) (sealB 2 (intB x) wd).length) := by
  obtain ⟨k, hk⟩ : ∃ k, k = (intB x).length := ⟨_, rfl⟩
  obtain ⟨h, hh⟩ : ∃ h, h = hdr k wd := ⟨_, rfl⟩
  obtain ⟨N, hN⟩ : ∃ N, N = k + h := ⟨_, rfl⟩
  have hlen : (sealB 2 (intB x) wd).length = N := by rw [hN, hh, hk]; exact sealB_len _ _ _
  rw [hlen] at hn ⊢
  have hat1 : At w b o (2 :: (lenB k wd ++ (intB x ++ rest))) := by rw [hk]; simpa [sealB] using hat
  have hat2 : At w b (o + h) (intB x) := by rw [hh, hk]; rw [hk] at hat1; exact hat1.con
  have hk4 : k < 65536 := by rw [hk]; have := intB_le x hx; omega
  have hk1 : 1 ≤ k := by rw [hk]; exact (sval_intB x hx).2.2.1
  have hh2 : 2 ≤ h := by rw [hh]; exact hdr_ge k wd
  have HA1 := Lib.hid hat1
  have HA2 := Lib.hid hat2
  have HK := Lib.hid hk
  have HH := Lib.hid hh
  have hhN : h ≤ N := by omega
  have hNN := Lib.hid hN
  have hch : c ≠ h := by omega
  have HX := Lib.hid hx
  clear hx
  clear hat hat1 hat2 hlen hk hh hN
  go_enter Tryz.func60, Tryz.ntmps60
  go_wp2_with (go_at_call 61; refine (printf _ _ _).mono ?_; rintro e W1 ⟨rfl, hb⟩; refine Hid.out ?_)
  refine Lib.hid ?_
  have hB : Below w.heap.size w W1 := ((((Below.refl _ w).alloc (Nat.le_refl _) _).alloc (by simp) _)).trans (hb.mono (by simp; omega))
  have c0 : W1.cell? ⟨b, o, none⟩ = some (.int .u8 2) := cellB hB HA1.out.head
  have HL := Lib.hid (parseLength W1 b o n c k wd 2 (intB x ++ rest) hk4 hwd (HA1.out.below hB) (by rw [← HH.out]; omega) hnc hc)
  rw [← HH.out, ← hNN.out] at HL
  have HB := Lib.hid hB
  clear hb hB
  go_wp2_with (go_at_call 76; refine (HL.out).mono ?_; rintro e W2 ⟨rfl, rfl⟩; refine Hid.out ?_)
  refine Lib.hid ?_
  have HP := Lib.hid (parseInt W2 b (o + h) (N - h) (c - h) x HX.out (by have := hNN.out; rw [← HK.out]; omega) (by omega) (by omega) (HA2.out.below HB.out))
  clear HL
  go_wp2_with (go_at_call 77; refine (HP.out).mono ?_; rintro e W3 ⟨rfl, rfl⟩; refine Hid.out ?_)
  refine Lib.hid ?_
  go_wp2
  go_ret3
  exact ⟨rfl, HB.out⟩
set_option maxHeartbeats 8000000 in
set_option maxRecDepth 100000 in
theorem field_6 (w : World) (b o n c wd : Nat) (msg : ByteArray) (arcs : List Nat) (rest : List Int) (hg : GoodArcs arcs) (ht : Tab w) (hwd : wd ≤ 2) (hat : At w b o (sealB 6 (nameB arcs) wd ++ rest)) (hn : (sealB 6 (nameB arcs) wd).length ≤ n) (hnc : n ≤ c) (hc : c ≤ 9223372036854775807 ∧ n ≤ 1000000) :
    Calls Tryz.prog 60 #[.agg #[], .slice (some ⟨b, o, none⟩) n c, .string msg] w (RetF w (.iface 9 (.string (dot arcs))) (sealB 6 (nameB arcs) wd).length) := by
  obtain ⟨k, hk⟩ : ∃ k, k = (nameB arcs).length := ⟨_, rfl⟩
  obtain ⟨h, hh⟩ : ∃ h, h = hdr k wd := ⟨_, rfl⟩
  obtain ⟨N, hN⟩ : ∃ N, N = k + h := ⟨_, rfl⟩
  have hlen : (sealB 6 (nameB arcs) wd).length = N := by rw [hN, hh, hk]; exact sealB_len _ _ _
  rw [hlen] at hn ⊢
  have hat1 : At w b o (6 :: (lenB k wd ++ (nameB arcs ++ rest))) := by rw [hk]; simpa [sealB] using hat
  have hat2 : At w b (o + h) (nameB arcs) := by rw [hh, hk]; rw [hk] at hat1; exact hat1.con
  have hk4 : k < 65536 := by rw [hk]; have := hg.bytes; omega
  have hk1 : 1 ≤ k := by rw [hk]; exact nameB_pos hg
  have hh2 : 2 ≤ h := by rw [hh]; exact hdr_ge k wd
  have HA1 := Lib.hid hat1
  have HA2 := Lib.hid hat2
  have HK := Lib.hid hk
  have HH := Lib.hid hh
  have hhN : h ≤ N := by omega
  have hNN := Lib.hid hN
  have hch : c ≠ h := by omega
  have HG := Lib.hid hg
  have HT := Lib.hid ht
  clear hg ht
  clear hat hat1 hat2 hlen hk hh hN
  go_enter Tryz.func60, Tryz.ntmps60
  go_wp2_with (go_at_call 61; refine (printf _ _ _).mono ?_; rintro e W1 ⟨rfl, hb⟩; refine Hid.out ?_)
  refine Lib.hid ?_
  have hB : Below w.heap.size w W1 := ((((Below.refl _ w).alloc (Nat.le_refl _) _).alloc (by simp) _)).trans (hb.mono (by simp; omega))
  have c0 : W1.cell? ⟨b, o, none⟩ = some (.int .u8 6) := cellB hB HA1.out.head
  have HL := Lib.hid (parseLength W1 b o n c k wd 6 (nameB arcs ++ rest) hk4 hwd (HA1.out.below hB) (by rw [← HH.out]; omega) hnc hc)
  rw [← HH.out, ← hNN.out] at HL
  have HB := Lib.hid hB
  clear hb hB
  go_wp2_with (go_at_call 76; refine (HL.out).mono ?_; rintro e W2 ⟨rfl, rfl⟩; refine Hid.out ?_)
  refine Lib.hid ?_
  have HP := Lib.hid (parseOID W2 b (o + h) (N - h) (c - h) arcs HG.out (by have := hNN.out; rw [← HK.out]; omega) (by omega) (by omega) (HA2.out.below HB.out) (HT.out.below HB.out))
  clear HL
  go_wp2_with (go_at_call 78; refine (HP.out).mono ?_; rintro e W3 ⟨rfl, hb3⟩; refine Hid.out ?_)
  refine Lib.hid ?_
  have HB3 : Hid (Below w.heap.size w W3) := HB.out.trans (hb3.mono HB.out.size)
  clear hb3
  go_wp2
  go_ret3
  exact ⟨rfl, HB3.out⟩
set_option maxHeartbeats 8000000 in
set_option maxRecDepth 100000 in
theorem field_4 (w : World) (b o n c wd : Nat) (msg : ByteArray) (l : List Int) (rest : List Int) (hl : l.length < 65536) (hwd : wd ≤ 2) (hat : At w b o (sealB 4 (l) wd ++ rest)) (hn : (sealB 4 (l) wd).length ≤ n) (hnc : n ≤ c) (hc : c ≤ 9223372036854775807 ∧ n ≤ 1000000) :
    Calls Tryz.prog 60 #[.agg #[], .slice (some ⟨b, o, none⟩) n c, .string msg] w (RetF w (.iface 9 (.string (txt l))) (sealB 4 (l) wd).length) := by
  obtain ⟨k, hk⟩ : ∃ k, k = (l).length := ⟨_, rfl⟩
  obtain ⟨h, hh⟩ : ∃ h, h = hdr k wd := ⟨_, rfl⟩
  obtain ⟨N, hN⟩ : ∃ N, N = k + h := ⟨_, rfl⟩
  have hlen : (sealB 4 (l) wd).length = N := by rw [hN, hh, hk]; exact sealB_len _ _ _
  rw [hlen] at hn ⊢
  have hat1 : At w b o (4 :: (lenB k wd ++ (l ++ rest))) := by rw [hk]; simpa [sealB] using hat
  have hat2 : At w b (o + h) (l) := by rw [hh, hk]; rw [hk] at hat1; exact hat1.con
  have hk4 : k < 65536 := by rw [hk]; exact hl
  have hh2 : 2 ≤ h := by rw [hh]; exact hdr_ge k wd
  have HA1 := Lib.hid hat1
  have HA2 := Lib.hid hat2
  have HK := Lib.hid hk
  have HH := Lib.hid hh
  have hhN : h ≤ N := by omega
  have hNN := Lib.hid hN
  clear hat hat1 hat2 hlen hk hh hN
  go_enter Tryz.func60, Tryz.ntmps60
  go_wp2_with (go_at_call 61; refine (printf _ _ _).mono ?_; rintro e W1 ⟨rfl, hb⟩; refine Hid.out ?_)
  refine Lib.hid ?_
  have hB : Below w.heap.size w W1 := ((((Below.refl _ w).alloc (Nat.le_refl _) _).alloc (by simp) _)).trans (hb.mono (by simp; omega))
  have c0 : W1.cell? ⟨b, o, none⟩ = some (.int .u8 4) := cellB hB HA1.out.head
  have HL := Lib.hid (parseLength W1 b o n c k wd 4 (l ++ rest) hk4 hwd (HA1.out.below hB) (by rw [← HH.out]; omega) hnc hc)
  rw [← HH.out, ← hNN.out] at HL
  have HB := Lib.hid hB
  clear hb hB
  go_wp2_with (go_at_call 76; refine (HL.out).mono ?_; rintro e W2 ⟨rfl, rfl⟩; refine Hid.out ?_)
  refine Lib.hid ?_
  clear HL
  by_cases hk0 : k = 0
  · have hl0 : l = [] := List.eq_nil_of_length_eq_zero (by rw [← HK.out]; exact hk0)
    have hNh : N = h := by have := hNN.out; omega
    subst hNh
    have HCV : ∀ A C, (convert 30 9 (.slice A 0 C)).run Tryz.prog W2 = .ok (.string (txt l)) W2 := fun A C => by
      rw [hl0]; exact conv_txt_nil W2 A C
    clear hl0
    by_cases hcc : c = N
    · subst hcc
      go_wp2
      go_ret3
      exact ⟨rfl, HB.out⟩
    · go_wp2
      go_ret3
      exact ⟨rfl, HB.out⟩
  · have hch : c ≠ h := by have := hNN.out; omega
    have HCV : (convert 30 9 (.slice (some ⟨b, o + h, none⟩) (N - h) (c - h))).run Tryz.prog W2 = .ok (.string (txt l)) W2 := by
      have e : N - h = l.length := by have := hNN.out; rw [← HK.out]; omega
      rw [e]
      exact conv_txt W2 _ l ((HA2.out.below HB.out).rd (by omega) (by unfold maxLen; omega))
    go_wp2
    go_ret3
    exact ⟨rfl, HB.out⟩
end Go.Proofs.YtpfmcdhmboclhaaGreatDoor
namespace Go.Proofs.YtpfmcdhmboclhaaGreatDoor
open Go.RowKit

/-- The table that Asn1BER.String reads. -/
structure AsnLaid (w : World) : Prop where
  c2 : w.cell? ⟨14, 2, none⟩ = some (.int .u8 20)
  c3 : w.cell? ⟨14, 3, none⟩ = some (.int .u8 27)
theorem AsnLaid.below {w w' : World} (h : AsnLaid w) (hb : Below w.heap.size w w') : AsnLaid w' := ⟨cellB hb h.c2, cellB hb h.c3⟩
theorem AsnLaid.drewN {w : World} (h : AsnLaid w) (k : Nat) : AsnLaid (w.drewN k) := ⟨h.c2, h.c3⟩
set_option maxHeartbeats 4000000 in
set_option maxRecDepth 100000 in
theorem asnString (w : World) (h : AsnLaid w) : Calls Tryz.prog 118 #[.int .u8 2] w fun e w' => (∃ s, e = .returned (.string s)) ∧ ∃ k, w' = w.drewN k := by
  obtain ⟨c2, c3⟩ := h
  go_enter Tryz.func118, Tryz.ntmps118
  go_wp2
  go_quiet (fail)
  go_wp2
  go_ret
  exact ⟨⟨_, rfl⟩, _, rfl⟩
/-- What a value is told as by gosnmp. -/
def DecV (w : World) : Pay → Value → Prop
  | .nul _, v => v = .nilIface
  | .int n, v => v = .iface 3 (.int .i64 n)
  | .str s, v => ∃ x, v = .iface 30 x ∧ Rd w x (bytesOf s)
  | .oid _ arcs, v => v = .iface 9 (.string (dot arcs))
  | .ip _ a b c d, v => v = .iface 9 (.string (txt (ipT a b c d)))
  | .u32 t n, v => v = if t = 67 then .iface 22 (.int .u32 n) else .iface 24 (.int .u64 n)
  | .u64 n, v => v = .iface 38 (.int .u64 n)
theorem DecV.below {w w' : World} {p : Pay} {v : Value} (h : DecV w p v) (hb : Below w.heap.size w w') : DecV w' p v := by
  cases p with
  | str s =>
    obtain ⟨x, h1, h2⟩ := h
    exact ⟨x, h1, h2.keptBelow hb⟩
  | _ => exact h
/-- What decodeValue returns. -/
def RetV (G : World → Prop) (w : World) (r : Nat) (p : Pay) (e : Ending) (w' : World) : Prop := e = .returned .nilIface ∧ ∃ v, (∀ W, G W → DecV W p v) ∧ v.oneCell' = true ∧ w'.heap[r]? = some (.cells #[v, .int .u8 p.typ] 188 (0, 0)) ∧ Kp [r] w w'
theorem run_part (W : World) (g : Nat) (hg : W.heap[g]? = some (.cells #[] 68 (0, 0))) : (partAt ⟨g, 0, none⟩ 0 0).run Tryz.prog W = .ok ⟨g, 0, none⟩ W := by
  have hs : Tryz.prog.cellsOf 68 = 0 := by kernel_rfl
  simp [partAt, byteOf, noView, viewAt, World.shape?, hg, hs]
theorem Kp.heap {X : List Nat} {w w' : World} (h : Kp X w w') {k : Nat} {x : Obj} (hk : w.heap[k]? = some x) (hx : k ∉ X) : w'.heap[k]? = some x := (h.block k (by rcases Nat.lt_or_ge k w.heap.size with h | h; exact h; rw [Array.getElem?_eq_none h] at hk; cases hk) hx).trans hk
theorem DecV.one {w : World} {p : Pay} {v : Value} (h : DecV w p v) : v.oneCell' = true := by
  cases p with
  | str s => obtain ⟨x, rfl, -⟩ := h; rfl
  | nul t => obtain rfl := h; rfl
  | int n => obtain rfl := h; rfl
  | oid s arcs => obtain rfl := h; rfl
  | ip s a b c d => obtain rfl := h; rfl
  | u32 t n =>
    have h : v = if t = 67 then .iface 22 (.int .u32 n) else .iface 24 (.int .u64 n) := h
    split at h <;> (subst h; rfl)
  | u64 n => obtain rfl := h; rfl
theorem keepS {g r : Nat} {v t : Value} {W W' : World} (h : (partAt ⟨g, 0, none⟩ 0 0).run Tryz.prog W = .ok ⟨g, 0, none⟩ W ∧ W.cell? ⟨r, 0, none⟩ = some v ∧ W.heap[g]? = some (.cells #[] 68 (0, 0)) ∧ W.heap[r]? = some (.cells #[v, t] 188 (0, 0))) (hb : Below W.heap.size W W') :
    (partAt ⟨g, 0, none⟩ 0 0).run Tryz.prog W' = .ok ⟨g, 0, none⟩ W' ∧ W'.cell? ⟨r, 0, none⟩ = some v ∧ W'.heap[g]? = some (.cells #[] 68 (0, 0)) ∧ W'.heap[r]? = some (.cells #[v, t] 188 (0, 0)) := by
  obtain ⟨h1, h2, h3, h4⟩ := h
  have h3' := (hb.block g (Lib.lt_of_heap h3)).trans h3
  have h4' := (hb.block r (Lib.lt_of_heap h4)).trans h4
  exact ⟨run_part _ g h3', by rw [Lib.cell_of_heap h4']; rfl, h3', h4'⟩
theorem startS {g r : Nat} {v t : Value} {W : World} (h3 : W.heap[g]? = some (.cells #[] 68 (0, 0))) (h4 : W.heap[r]? = some (.cells #[v, t] 188 (0, 0))) :
    (partAt ⟨g, 0, none⟩ 0 0).run Tryz.prog W.drew = .ok ⟨g, 0, none⟩ W.drew ∧ W.drew.cell? ⟨r, 0, none⟩ = some v ∧ W.drew.heap[g]? = some (.cells #[] 68 (0, 0)) ∧ W.drew.heap[r]? = some (.cells #[v, t] 188 (0, 0)) :=
  ⟨run_part _ g h3, by show W.cell? _ = _; rw [Lib.cell_of_heap h4]; rfl, h3, h4⟩
end Go.Proofs.YtpfmcdhmboclhaaGreatDoor
namespace Go.Proofs.YtpfmcdhmboclhaaGreatDoor
open Go.RowKit

set_option maxHeartbeats 32000000 in
set_option maxRecDepth 100000 in
theorem dec_5 (G : World → Prop) (w : World) (b o n c g r wd : Nat) (z : Addr) (hwd : wd ≤ 2) (hn : (sealB 5 (([] : List Int)) wd).length = n) (hnc : n ≤ c) (hc : c ≤ 9223372036854775807 ∧ n ≤ 1000000) (hgr : g ≠ r) (hG : ∀ W, Kp [r] w W → G W) (hzG : ∀ W, G W → NetLaid W z) (htab : Tab w) (has : AsnLaid w)
    (hatG : ∀ W, G W → At W b o (sealB 5 (([] : List Int)) wd)) (hr : w.heap[r]? = some (.cells #[.nilIface, .int .u8 0] 188 (0, 0))) (hg : w.heap[g]? = some (.cells #[] 68 (0, 0))) :
    Calls Tryz.prog 103 #[.pointer (some ⟨g, 0, none⟩), .slice (some ⟨b, o, none⟩) n c, .pointer (some ⟨r, 0, none⟩)] w (RetV G w r (.nul 5)) := by
  have hatK : ∀ W, Kp [r] w W → At W b o (sealB 5 (([] : List Int)) wd) := fun W h => hatG W (hG W h)
  have hzK : ∀ W, Kp [r] w W → NetLaid W z := fun W h => hzG W (hG W h)
  have hat := hatK w (Kp.refl _ _)
  obtain ⟨k, hk⟩ : ∃ k, k = (([] : List Int)).length := ⟨_, rfl⟩
  obtain ⟨h, hh⟩ : ∃ h, h = hdr k wd := ⟨_, rfl⟩
  have hN : n = k + h := by rw [← hn, hh, hk]; exact sealB_len _ _ _
  have hk0 : k = 0 := hk
  have hat1 : At w b o (5 :: (lenB k wd ++ (([] : List Int)))) := by rw [hk]; exact hat
  have hat2 : At w b (o + h) (([] : List Int)) := by
    have : At w b o (5 :: (lenB (([] : List Int)).length wd ++ ((([] : List Int)) ++ []))) := by rw [List.append_nil, ← hk]; exact hat1
    rw [hh, hk]; exact this.con
  have hh2 : 2 ≤ h := by rw [hh]; exact hdr_ge k wd
  have c0 : w.cell? ⟨b, o, none⟩ = some (.int .u8 5) := hat1.head
  have hlt := Lib.lt_of_heap hr
  have HR := Lib.hid hr
  have HG := Lib.hid hg
  have HA1 := Lib.hid hat1
  have HA2 := Lib.hid hat2
  have HK := Lib.hid hk
  have HH := Lib.hid hh
  have HNN := Lib.hid hN
  have HZ := Lib.hid hzK
  have HTAB := Lib.hid htab
  have HAS := Lib.hid has
  have hp0 := run_part w g hg
  have hhn : h ≤ n := by omega
  have hn1 : 1 ≤ n := by omega
  have HLK : Hid (∀ W, Kp [r] w W → Calls Tryz.prog 76 #[.slice (some ⟨b, o, none⟩) n c] W (RetL W n h)) := by
    intro W hW
    have h1 := hatK W hW
    rw [sealB, ← hk] at h1
    have := parseLength W b o n c k wd 5 (([] : List Int)) (by omega) hwd h1 (by rw [← hh]; exact hhn) hnc hc
    rw [← hh, ← hN] at this
    exact this
  have HA2K : Hid (∀ W, Kp [r] w W → At W b (o + h) (([] : List Int))) := by
    intro W hW
    have h1 := hatK W hW
    have : At W b o (5 :: (lenB (([] : List Int)).length wd ++ ((([] : List Int)) ++ []))) := by rw [List.append_nil]; exact h1
    rw [hh, hk]; exact this.con
  have HA2G : Hid (∀ W, G W → At W b (o + h) (([] : List Int))) := by
    intro W hW
    have h1 := hatG W hW
    have : At W b o (5 :: (lenB (([] : List Int)).length wd ++ ((([] : List Int)) ++ []))) := by rw [List.append_nil]; exact h1
    rw [hh, hk]; exact this.con
  clear hr hg hat hatG hzG hG hatK hat1 hat2 hk hh hN hzK htab has hn
  go_enter Tryz.func103, Tryz.ntmps103
  go_wp2_with (go_at_call 119; refine (print _ _).mono ?_; rintro e W1 ⟨rfl, hb⟩; refine Hid.out ?_)
  refine Lib.hid ?_
  have hB : Below w.heap.size w W1 := ((Below.refl _ w).alloc (Nat.le_refl _) _).trans (hb.mono (by simp))
  have HL1 := Lib.hid (HLK.out W1 (Kp.of_below hB [r]))
  have hr1 : W1.heap[r]? = some (.cells #[.nilIface, .int .u8 0] 188 (0, 0)) := (hB.block r hlt).trans HR.out
  have e0 : W1.cell? ⟨r, 0, none⟩ = some .nilIface := by rw [Lib.cell_of_heap hr1]; rfl
  have e1 : W1.cell? ⟨r, 1, none⟩ = some (.int .u8 0) := by rw [Lib.cell_of_heap hr1]; rfl
  have fr : ∀ i, W1.frozen? ⟨r, i, none⟩ = false := fun i => Lib.frozen_of_heap hr1 i
  have HB := Lib.hid hB
  have HR1 := Lib.hid hr1
  clear hb hB hr1 hp0
  clear HL1 HLK HA2K
  go_wp2
  obtain ⟨WS, hWS⟩ : ∃ WS, WS = (W1.setCell ⟨r, 1, none⟩ (.int .u8 5)).setCell ⟨r, 0, none⟩ (.nilIface) := ⟨_, rfl⟩
  have hrS : WS.heap[r]? = some (.cells #[.nilIface, .int .u8 5] 188 (0, 0)) := by
    rw [hWS]; exact Lib.heap_setCell_same (i := 0) (Lib.heap_setCell_same (i := 1) HR1.out _) _
  have hkS : Kp [r] w WS := by
    rw [hWS]
    exact ((Kp.of_below HB.out [r]).setCell (.inl (by simp)) _).setCell (.inl (by simp)) _
  rw [← hWS]
  have hS := startS (hkS.heap HG.out (by simpa using hgr)) hrS
  have HKS := Lib.hid hkS
  clear hWS hrS hkS
  go_region_held3 (fun W => (partAt ⟨g, 0, none⟩ 0 0).run Tryz.prog W = .ok ⟨g, 0, none⟩ W ∧ W.cell? ⟨r, 0, none⟩ = some (.nilIface) ∧ W.heap[g]? = some (.cells #[] 68 (0, 0)) ∧ W.heap[r]? = some (.cells #[.nilIface, .int .u8 5] 188 (0, 0))) (first | exact hS | exact keepS (by assumption) ((Below.refl _ _).alloc (Nat.le_refl _) _) | exact keepS (by assumption) hbT) (first | (go_at_call 61; refine (printf _ _ _).mono ?_; rintro e WT ⟨rfl, hbT⟩))
  rename_i hHeld
  go_wp2
  go_ret
  exact ⟨rfl, _, fun _ _ => rfl, rfl, hHeld.2.2.2, ((HKS.out.alloc _).drew).add hbT⟩
end Go.Proofs.YtpfmcdhmboclhaaGreatDoor
