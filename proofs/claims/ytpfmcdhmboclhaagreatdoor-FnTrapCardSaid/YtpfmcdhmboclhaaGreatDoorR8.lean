/- spec: a trap out of its bytes. -/
import Derived.Test.YtpfmcdhmboclhaaGreatDoorR0
import Derived.Test.YtpfmcdhmboclhaaGreatDoorR1
import Derived.Test.YtpfmcdhmboclhaaGreatDoorR2
import Derived.Test.YtpfmcdhmboclhaaGreatDoorT00
import Derived.Deep.RegionHeld3
set_option linter.unusedVariables false
set_option linter.unusedSimpArgs false
namespace Go.Proofs.YtpfmcdhmboclhaaGreatDoor
open Go.RowKit

def sliceLen : Value → Nat
  | .slice _ n _ => n
  | _ => 0
theorem Rd.sliceLen {w : World} {v : Value} {l : List Int} (h : Rd w v l) : Go.Proofs.YtpfmcdhmboclhaaGreatDoor.sliceLen v = l.length := by
  obtain ⟨A, c, rfl, -⟩ := h
  rfl
/-- The state of OfTrap's last loop. -/
structure OfAt (w : World) (Q : Nat) (f : Value → Array Value) (l : List AV) (k : Nat) (s vo : Value) (wr : World) : Prop where
  rd : Rd wr s (varsB (l.drop k) 0)
  out : wr.heap[Q]? = some (.cells (f vo) 26 (0, 0))
  own : OwnC 40 5 wr (Q + 1) vo k (toldC (l.take k))
  no : NoB wr vo
  below : Below w.heap.size w wr
  res : wr.heap[w.heap.size]? = some (.cells #[.int .i64 0, .string ⟨#[]⟩, .int .i64 0, .int .u32 0, .int .i64 0, .int .i64 0, .slice none 0 0, .string ⟨#[]⟩, .string ⟨#[]⟩, .int .i64 0, .int .i64 0, .int .u64 0] 26 (0, 0))
  size : w.heap.size < Q

set_option maxHeartbeats 32000000 in
set_option maxRecDepth 100000 in
theorem ofTrap (v : Value) (w : World) (com : ByteArray) (arcs : List Nat) (a b c d : Nat) (gen spec : Int) (time : Nat) (l : List AV) (hcom : com.size ≤ 127) (hgd : GoodArcs arcs) (ha : a < 256) (hb : b < 256) (hc : c < 256) (hd : d < 256) (hgen : -2147483648 ≤ gen ∧ gen ≤ 2147483647) (hspec : -2147483648 ≤ spec ∧ spec ≤ 2147483647) (htime : time < 4294967296) (hl : l.length ≤ 20) (hok : ∀ x ∈ l, x.Ok)
    (hr : Rd w v (msgB 0 com (sealB 164 (trapHead arcs a b c d gen spec time 0 ++ sealB 48 (varsB l 0) 0) 0) 0)) :
    Calls Tryz.prog 12 #[v] w (RetDec w (fun vo => msgV 0 com 164 0 0 0 vo (dot arcs) (txt (ipT a b c d)) gen spec time) l) := by
  have HG := Lib.hid hgd
  obtain ⟨L5, hL5⟩ : ∃ L5, L5 = sealB 48 (varsB l 0) 0 ++ [] := ⟨_, rfl⟩
  obtain ⟨L4, hL4⟩ : ∃ L4, L4 = sealB 67 (uintB time) 0 ++ L5 := ⟨_, rfl⟩
  obtain ⟨L3, hL3⟩ : ∃ L3, L3 = sealB 2 (intB spec) 0 ++ L4 := ⟨_, rfl⟩
  obtain ⟨L2, hL2⟩ : ∃ L2, L2 = sealB 2 (intB gen) 0 ++ L3 := ⟨_, rfl⟩
  obtain ⟨L1, hL1⟩ : ∃ L1, L1 = sealB 64 [(a : Int), (b : Int), (c : Int), (d : Int)] 0 ++ L2 := ⟨_, rfl⟩
  obtain ⟨BD, hBD⟩ : ∃ BD, BD = sealB 6 (nameB arcs) 0 ++ L1 := ⟨_, rfl⟩
  obtain ⟨M3, hM3⟩ : ∃ M3, M3 = sealB 164 BD 0 ++ [] := ⟨_, rfl⟩
  obtain ⟨M2, hM2⟩ : ∃ M2, M2 = sealB 4 (bytesOf com) 0 ++ M3 := ⟨_, rfl⟩
  obtain ⟨M1, hM1⟩ : ∃ M1, M1 = sealB 2 (intB 0) 0 ++ M2 := ⟨_, rfl⟩
  have hall : msgB 0 com (sealB 164 (trapHead arcs a b c d gen spec time 0 ++ sealB 48 (varsB l 0) 0) 0) 0 = sealB 48 M1 0 ++ [] := by
    rw [hM1, hM2, hM3, hBD, hL1, hL2, hL3, hL4, hL5]
    simp only [msgB, trapHead, List.append_assoc, List.append_nil]
  rw [hall] at hr
  have b0 := varsB_length l 0 (by omega) hok
  have b1 := sealB_length 48 (varsB l 0) 0 (by omega)
  have b2 := sealB_length 67 (uintB time) 0 (by have := uintB_len8 time (by omega); omega)
  have b2' := uintB_len8 time (by omega)
  have b3 := sealB_length 2 (intB spec) 0 (by have := intB_le spec hspec; omega)
  have b3' := intB_le spec hspec
  have b4 := sealB_length 2 (intB gen) 0 (by have := intB_le gen hgen; omega)
  have b4' := intB_le gen hgen
  have b5 := sealB_length 64 [(a : Int), (b : Int), (c : Int), (d : Int)] 0 (by simp)
  have b5' : [(a : Int), (b : Int), (c : Int), (d : Int)].length = 4 := rfl
  have b6 := sealB_length 6 (nameB arcs) 0 (by have := hgd.bytes; omega)
  have b6' := hgd.bytes
  have c5 : L5.length ≤ 12400 := by rw [hL5, List.append_nil]; omega
  have c4 : L4.length ≤ 12420 := by rw [hL4, List.length_append]; omega
  have c3 : L3.length ≤ 12440 := by rw [hL3, List.length_append]; omega
  have c2 : L2.length ≤ 12460 := by rw [hL2, List.length_append]; omega
  have c1 : L1.length ≤ 12480 := by rw [hL1, List.length_append]; omega
  have cb : BD.length ≤ 12700 := by rw [hBD, List.length_append]; omega
  have b7 := sealB_length 164 BD 0 (by omega)
  have c6 : M3.length ≤ 12710 := by rw [hM3, List.append_nil]; omega
  have b8' : (bytesOf com).length ≤ 127 := by rw [bytesOf_length]; exact hcom
  have b8 := sealB_length 4 (bytesOf com) 0 (by omega)
  have c7 : M2.length ≤ 12900 := by rw [hM2, List.length_append]; omega
  have b9' := intB_le (0 : Int) (by omega)
  have b9 := sealB_length 2 (intB 0) 0 (by omega)
  have c8 : M1.length ≤ 13000 := by rw [hM1, List.length_append]; omega
  have N1 : Hid (∀ W u, Rd W u (sealB 48 M1 0 ++ []) → Calls Tryz.prog 25 #[u, .int .i64 48] W (RetNext W M1 [])) := fun W u h => specNext u W 48 M1 [] h (by omega) (by omega) (by simp)
  have N2 : Hid (∀ W u, Rd W u M1 → Calls Tryz.prog 26 #[u] W (fun e w' => ∃ v2, e = .returned (.tuple #[.int .i64 0, v2, .bool true]) ∧ Rd w' v2 M2 ∧ Below W.heap.size W w')) := fun W u h => specWhole u W 0 (by omega) M2 (by rw [← hM1]; exact h) (by omega)
  have N3 : Hid (∀ W u, Rd W u M2 → Calls Tryz.prog 25 #[u, .int .i64 4] W (RetNext W (bytesOf com) M3)) := fun W u h => specNext u W 4 _ M3 (by rw [hM2] at h; exact h) (by omega) (by omega) (by omega)
  have N4 : Hid (∀ W u, Rd W u M3 → Calls Tryz.prog 25 #[u, .int .i64 164] W (RetNext W BD [])) := fun W u h => specNext u W 164 BD [] (by rw [hM3] at h; exact h) (by omega) (by omega) (by simp)
  have N5 : Hid (∀ W u, Rd W u BD → Calls Tryz.prog 25 #[u, .int .i64 6] W (RetNext W (nameB arcs) L1)) := fun W u h => specNext u W 6 _ L1 (by rw [hBD] at h; exact h) (by omega) (by omega) (by omega)
  have N6 : Hid (∀ W u, Rd W u (nameB arcs) → Calls Tryz.prog 27 #[u] W (RetName W arcs)) := fun W u h => ofName_of HG.out HG.out.small h
  have N7 : Hid (∀ W u, Rd W u L1 → Calls Tryz.prog 25 #[u, .int .i64 64] W (RetNext W [(a : Int), (b : Int), (c : Int), (d : Int)] L2)) := fun W u h => specNext u W 64 _ L2 (by rw [hL1] at h; exact h) (by omega) (by omega) (by omega)
  have N8 : Hid (∀ W u, Rd W u L2 → Calls Tryz.prog 26 #[u] W (fun e w' => ∃ v2, e = .returned (.tuple #[.int .i64 gen, v2, .bool true]) ∧ Rd w' v2 L3 ∧ Below W.heap.size W w')) := fun W u h => specWhole u W gen hgen L3 (by rw [← hL2]; exact h) (by omega)
  have N9 : Hid (∀ W u, Rd W u L3 → Calls Tryz.prog 26 #[u] W (fun e w' => ∃ v2, e = .returned (.tuple #[.int .i64 spec, v2, .bool true]) ∧ Rd w' v2 L4 ∧ Below W.heap.size W w')) := fun W u h => specWhole u W spec hspec L4 (by rw [← hL3]; exact h) (by omega)
  have N10 : Hid (∀ W u, Rd W u L4 → Calls Tryz.prog 25 #[u, .int .i64 67] W (RetNext W (uintB time) L5)) := fun W u h => specNext u W 67 _ L5 (by rw [hL4] at h; exact h) (by omega) (by omega) (by omega)
  have N11 : Hid (∀ W u, Rd W u (uintB time) → Calls Tryz.prog 28 #[u] W (RetU W time)) := fun W u h => specOfUint u W time (by omega) h
  have N12 : Hid (∀ W u, Rd W u L5 → Calls Tryz.prog 25 #[u, .int .i64 48] W (RetNext W (varsB l 0) [])) := fun W u h => specNext u W 48 _ [] (by rw [hL5] at h; exact h) (by omega) (by omega) (by simp)
  have HV : Hid (∀ (k : Nat) (x : AV), l[k]? = some x → ∀ W u, Rd W u (varsB (l.drop k) 0) → Calls Tryz.prog 30 #[u] W (RetVar W (dot x.arcs) x.pay (varsB (l.drop (k + 1)) 0))) := fun k x hx W u h => by
    have hlt := (List.getElem?_eq_some_iff.1 hx).1
    have hxe := (List.getElem?_eq_some_iff.1 hx).2
    rw [List.drop_eq_getElem_cons hlt, hxe, varsB_cons] at h
    have hxo := hok x (List.mem_of_getElem? hx)
    refine specOfVar u W x.arcs x.pay _ hxo.nm.good hxo.pay ?_ h
    have h1 := varsB_length (l.drop (k + 1)) 0 (by omega) (fun y hy => hok y (List.mem_of_mem_drop hy))
    have h2 : (l.drop (k + 1)).length ≤ 20 := by rw [List.length_drop]; omega
    omega
  have HVB : Hid (∀ k, k < l.length → 0 < (varsB (l.drop k) 0).length ∧ (varsB (l.drop (k + 1)) 0).length < (varsB (l.drop k) 0).length ∧ (varsB (l.drop k) 0).length ≤ 12400) := fun k hk => by
    rw [List.drop_eq_getElem_cons hk, varsB_cons, List.length_append]
    have hp : 0 < (varB l[k].arcs l[k].pay 0).length := by unfold varB sealB; simp
    have h1 := varsB_length (l.drop (k + 1)) 0 (by omega) (fun y hy => hok y (List.mem_of_mem_drop hy))
    have h2 : (l.drop (k + 1)).length ≤ 19 := by rw [List.length_drop]; omega
    have h3 := varB_length l[k].arcs l[k].pay 0 (hok _ (List.getElem_mem hk)).nm.good (hok _ (List.getElem_mem hk)).pay (by omega)
    omega
  have HIP : Hid (a < 256 ∧ b < 256 ∧ c < 256 ∧ d < 256) := ⟨ha, hb, hc, hd⟩
  have HL := Lib.hid hl
  obtain ⟨W1, hW1⟩ : ∃ W1, W1 = w.alloc (.cells #[.int .i64 0, .string ⟨#[]⟩, .int .i64 0, .int .u32 0, .int .i64 0, .int .i64 0, .slice none 0 0, .string ⟨#[]⟩, .string ⟨#[]⟩, .int .i64 0, .int .i64 0, .int .u64 0] 26) := ⟨_, rfl⟩
  have hb1 : Below w.heap.size w W1 := by rw [hW1]; exact (Below.refl _ _).alloc (Nat.le_refl _) _
  have HZ1 : Hid (W1.heap[w.heap.size]? = some (.cells #[.int .i64 0, .string ⟨#[]⟩, .int .i64 0, .int .u32 0, .int .i64 0, .int .i64 0, .slice none 0 0, .string ⟨#[]⟩, .string ⟨#[]⟩, .int .i64 0, .int .i64 0, .int .u64 0] 26 (0, 0))) := by unfold Hid; rw [hW1]; exact heap_alloc_new w _
  have HB1 := Lib.hid hb1
  have HW1 := Lib.hid hW1
  have HR_v := Lib.hid (hr.keptBelow hb1)
  clear hall hr b0 b1 b2 b2' b3 b3' b4 b4' b5 b5' b6 b6' c5 c4 c3 c2 c1 cb b7 c6 b8' b8 c7 b9' b9 c8 hcom hgd ha hb hc hd hgen hspec htime hl hok hL5 hL4 hL3 hL2 hL1 hBD hM3 hM2 hM1 hb1 hW1
  go_enter Tryz.func12, Tryz.ntmps12
  have HC := Lib.hid (N1.out W1 v HR_v.out)
  go_wp2_with (go_at_call 25; rw [← HW1.out]; refine (HC.out).mono ?_; rintro e W2 ⟨v1, ve1, rfl, h_v1, h_ve1, hb⟩; refine Hid.out ?_)
  refine Lib.hid ?_
  have HB2 : Hid (Below w.heap.size w W2) := HB1.out.trans (hb.mono HB1.out.size)
  have HZ2 := Lib.hid ((hb.block _ (Lib.lt_of_heap HZ1.out)).trans HZ1.out)
  have HR_v1 := Lib.hid h_v1
  have hl_ve1 : ∀ W, (Builtin.len_ #[30] 3 #[ve1]).run Tryz.prog W = .ok (.int .i64 0) W := h_ve1.lenAt 0 rfl
  clear HC hb HB1 HZ1 HR_v N1 h_v1 h_ve1 HW1
  have HC := Lib.hid (N2.out W2 v1 HR_v1.out)
  go_wp2_with (go_at_call 26; refine (HC.out).mono ?_; rintro e W3 ⟨u1, rfl, h_u1, hb⟩; refine Hid.out ?_)
  refine Lib.hid ?_
  have HB3 : Hid (Below w.heap.size w W3) := HB2.out.trans (hb.mono HB2.out.size)
  have HZ3 := Lib.hid ((hb.block _ (Lib.lt_of_heap HZ2.out)).trans HZ2.out)
  have HR_u1 := Lib.hid h_u1
  clear HC hb HB2 HZ2 HR_v1 N2 h_u1
  have HC := Lib.hid (N3.out W3 u1 HR_u1.out)
  go_wp2_with (go_at_call 25; refine (HC.out).mono ?_; rintro e W4 ⟨vcom, u2, rfl, h_vcom, h_u2, hb⟩; refine Hid.out ?_)
  refine Lib.hid ?_
  have HB4 : Hid (Below w.heap.size w W4) := HB3.out.trans (hb.mono HB3.out.size)
  have HZ4 := Lib.hid ((hb.block _ (Lib.lt_of_heap HZ3.out)).trans HZ3.out)
  have HR_vcom := Lib.hid h_vcom
  have HR_u2 := Lib.hid h_u2
  clear HC hb HB3 HZ3 HR_u1 N3 h_vcom h_u2
  have HC := Lib.hid (N4.out W4 u2 HR_u2.out)
  go_wp2_with (go_at_call 25; refine (HC.out).mono ?_; rintro e W5 ⟨u3, ve2, rfl, h_u3, h_ve2, hb⟩; refine Hid.out ?_)
  refine Lib.hid ?_
  have HB5 : Hid (Below w.heap.size w W5) := HB4.out.trans (hb.mono HB4.out.size)
  have HZ5 := Lib.hid ((hb.block _ (Lib.lt_of_heap HZ4.out)).trans HZ4.out)
  replace HR_vcom := Lib.hid (HR_vcom.out.keptBelow hb)
  have HR_u3 := Lib.hid h_u3
  have hl_ve2 : ∀ W, (Builtin.len_ #[30] 3 #[ve2]).run Tryz.prog W = .ok (.int .i64 0) W := h_ve2.lenAt 0 rfl
  clear HC hb HB4 HZ4 HR_u2 N4 h_u3 h_ve2
  have HC := Lib.hid (N5.out W5 u3 HR_u3.out)
  go_wp2_with (go_at_call 25; refine (HC.out).mono ?_; rintro e W6 ⟨vn, u4, rfl, h_vn, h_u4, hb⟩; refine Hid.out ?_)
  refine Lib.hid ?_
  have HB6 : Hid (Below w.heap.size w W6) := HB5.out.trans (hb.mono HB5.out.size)
  have HZ6 := Lib.hid ((hb.block _ (Lib.lt_of_heap HZ5.out)).trans HZ5.out)
  replace HR_vcom := Lib.hid (HR_vcom.out.keptBelow hb)
  have HR_vn := Lib.hid h_vn
  have HR_u4 := Lib.hid h_u4
  clear HC hb HB5 HZ5 HR_u3 N5 h_vn h_u4
  have HC := Lib.hid (N6.out W6 vn HR_vn.out)
  go_wp2_with (go_at_call 27; refine (HC.out).mono ?_; rintro e W7 ⟨va, rfl, h_va, hb⟩; refine Hid.out ?_)
  refine Lib.hid ?_
  have HB7 : Hid (Below w.heap.size w W7) := HB6.out.trans (hb.mono HB6.out.size)
  have HZ7 := Lib.hid ((hb.block _ (Lib.lt_of_heap HZ6.out)).trans HZ6.out)
  have HO_va := Lib.hid h_va
  replace HR_vcom := Lib.hid (HR_vcom.out.keptBelow hb)
  replace HR_u4 := Lib.hid (HR_u4.out.keptBelow hb)
  clear HC hb HB6 HZ6 HR_vn N6 h_va
  have HC := Lib.hid (N7.out W7 u4 HR_u4.out)
  go_wp2_with (go_at_call 25; refine (HC.out).mono ?_; rintro e W8 ⟨vag, u5, rfl, h_vag, h_u5, hb⟩; refine Hid.out ?_)
  refine Lib.hid ?_
  have HB8 : Hid (Below w.heap.size w W8) := HB7.out.trans (hb.mono HB7.out.size)
  have HZ8 := Lib.hid ((hb.block _ (Lib.lt_of_heap HZ7.out)).trans HZ7.out)
  replace HR_vcom := Lib.hid (HR_vcom.out.keptBelow hb)
  replace HO_va := Lib.hid (HO_va.out.below hb)
  have HR_vag := Lib.hid h_vag
  have HR_u5 := Lib.hid h_u5
  have hl_vag : ∀ W, (Builtin.len_ #[30] 3 #[vag]).run Tryz.prog W = .ok (.int .i64 4) W := h_vag.lenAt 4 rfl
  clear HC hb HB7 HZ7 HR_u4 N7 h_vag h_u5
  have HC := Lib.hid (N8.out W8 u5 HR_u5.out)
  go_wp2_with (go_at_call 26; refine (HC.out).mono ?_; rintro e W9 ⟨u6, rfl, h_u6, hb⟩; refine Hid.out ?_)
  refine Lib.hid ?_
  have HB9 : Hid (Below w.heap.size w W9) := HB8.out.trans (hb.mono HB8.out.size)
  have HZ9 := Lib.hid ((hb.block _ (Lib.lt_of_heap HZ8.out)).trans HZ8.out)
  replace HR_vcom := Lib.hid (HR_vcom.out.keptBelow hb)
  replace HR_vag := Lib.hid (HR_vag.out.keptBelow hb)
  replace HO_va := Lib.hid (HO_va.out.below hb)
  have HR_u6 := Lib.hid h_u6
  clear HC hb HB8 HZ8 HR_u5 N8 h_u6
  have HC := Lib.hid (N9.out W9 u6 HR_u6.out)
  go_wp2_with (go_at_call 26; refine (HC.out).mono ?_; rintro e W10 ⟨u7, rfl, h_u7, hb⟩; refine Hid.out ?_)
  refine Lib.hid ?_
  have HB10 : Hid (Below w.heap.size w W10) := HB9.out.trans (hb.mono HB9.out.size)
  have HZ10 := Lib.hid ((hb.block _ (Lib.lt_of_heap HZ9.out)).trans HZ9.out)
  replace HR_vcom := Lib.hid (HR_vcom.out.keptBelow hb)
  replace HR_vag := Lib.hid (HR_vag.out.keptBelow hb)
  replace HO_va := Lib.hid (HO_va.out.below hb)
  have HR_u7 := Lib.hid h_u7
  clear HC hb HB9 HZ9 HR_u6 N9 h_u7
  have HC := Lib.hid (N10.out W10 u7 HR_u7.out)
  go_wp2_with (go_at_call 25; refine (HC.out).mono ?_; rintro e W11 ⟨vt, u8, rfl, h_vt, h_u8, hb⟩; refine Hid.out ?_)
  refine Lib.hid ?_
  have HB11 : Hid (Below w.heap.size w W11) := HB10.out.trans (hb.mono HB10.out.size)
  have HZ11 := Lib.hid ((hb.block _ (Lib.lt_of_heap HZ10.out)).trans HZ10.out)
  replace HR_vcom := Lib.hid (HR_vcom.out.keptBelow hb)
  replace HR_vag := Lib.hid (HR_vag.out.keptBelow hb)
  replace HO_va := Lib.hid (HO_va.out.below hb)
  have HR_vt := Lib.hid h_vt
  have HR_u8 := Lib.hid h_u8
  clear HC hb HB10 HZ10 HR_u7 N10 h_vt h_u8
  have HC := Lib.hid (N11.out W11 vt HR_vt.out)
  go_wp2_with (go_at_call 28; refine (HC.out).mono ?_; rintro e W12 ⟨rfl, hb⟩; refine Hid.out ?_)
  refine Lib.hid ?_
  have HB12 : Hid (Below w.heap.size w W12) := HB11.out.trans (hb.mono HB11.out.size)
  have HZ12 := Lib.hid ((hb.block _ (Lib.lt_of_heap HZ11.out)).trans HZ11.out)
  replace HR_vcom := Lib.hid (HR_vcom.out.keptBelow hb)
  replace HR_vag := Lib.hid (HR_vag.out.keptBelow hb)
  replace HR_u8 := Lib.hid (HR_u8.out.keptBelow hb)
  replace HO_va := Lib.hid (HO_va.out.below hb)
  clear HC hb HB11 HZ11 HR_vt N11 
  have HC := Lib.hid (N12.out W12 u8 HR_u8.out)
  go_wp2_with (go_at_call 25; refine (HC.out).mono ?_; rintro e W13 ⟨vls, ve3, rfl, h_vls, h_ve3, hb⟩; refine Hid.out ?_)
  refine Lib.hid ?_
  have HB13 : Hid (Below w.heap.size w W13) := HB12.out.trans (hb.mono HB12.out.size)
  have HZ13 := Lib.hid ((hb.block _ (Lib.lt_of_heap HZ12.out)).trans HZ12.out)
  replace HR_vcom := Lib.hid (HR_vcom.out.keptBelow hb)
  replace HR_vag := Lib.hid (HR_vag.out.keptBelow hb)
  replace HO_va := Lib.hid (HO_va.out.below hb)
  have HR_vls := Lib.hid h_vls
  have hl_ve3 : ∀ W, (Builtin.len_ #[30] 3 #[ve3]).run Tryz.prog W = .ok (.int .i64 0) W := h_ve3.lenAt 0 rfl
  clear HC hb HB12 HZ12 HR_u8 N12 h_vls h_ve3
  have HD : Hid (∀ W, Below W13.heap.size W13 W → Calls Tryz.prog 24 #[va] W fun e w' => e = .returned (.string (dot arcs)) ∧ Below W.heap.size W w') := fun W hW => dotted va arcs W (RdN.of_own (HO_va.out.below hW)) HG.out.small HG.out.sixty
  have HCV : Hid (∀ W, Below W13.heap.size W13 W → (convert 30 9 vcom).run Tryz.prog W = .ok (.string com) W) := fun W hW => by
    have h := conv_txt W vcom (bytesOf com) (HR_vcom.out.keptBelow hW)
    rw [txt_bytes] at h
    exact h
  clear HO_va HR_vcom
  go_wp2
  go_loopw [30, 176] (fun t i wr => ∃ (j : Nat) (tx : ByteArray), i = .int .i64 j ∧ t = .string tx ∧ j ≤ 4 ∧ bytesOf tx = ipAt a b c d j ∧ Below W13.heap.size W13 wr) (fun _ i _ => 4 - (intOf i).toNat)
  case atStart => exact ⟨0, ⟨#[]⟩, rfl, rfl, by omega, rfl, Below.refl _ _⟩
  case round =>
    obtain ⟨j, tx, rfl, rfl, hj, htx, hbb⟩ := hrel
    obtain ⟨V, rfl⟩ : ∃ V : World, V = wr := ⟨_, rfl⟩
    have HTT := Lib.hid htx
    have HBV := Lib.hid hbb
    clear htx hbb
    by_cases hj4 : j = 4
    · subst hj4
      have htt : tx = txt (ipT a b c d) := by have h := congrArg txt HTT.out; rw [txt_bytes] at h; exact h
      subst htt
      have HBW : Hid (Below w.heap.size w V) := HB13.out.trans (HBV.out.mono HB13.out.size)
      have HZV := Lib.hid (heapB HBV.out HZ13.out)
      have HRL := Lib.hid (HR_vls.out.keptBelow HBV.out)
      have HDV : Hid (∀ W, Below V.heap.size V W → Calls Tryz.prog 24 #[va] W fun e w' => e = .returned (.string (dot arcs)) ∧ Below W.heap.size W w') := fun W hW => HD.out W (HBV.out.trans (hW.mono HBV.out.size))
      have HCC : Hid (∀ W, Below V.heap.size V W → (convert 30 9 vcom).run Tryz.prog W = .ok (.string com) W) := fun W hW => HCV.out W (HBV.out.trans (hW.mono HBV.out.size))
      have kA : Below V.heap.size V V.drew := (Below.refl _ _).drew
      have kB : Below V.heap.size V (V.alloc (.cells #[.int .i64 0, .string ⟨#[]⟩, .int .i64 0, .int .u32 0, .int .i64 0, .int .i64 0, .slice none 0 0, .string ⟨#[]⟩, .string ⟨#[]⟩, .int .i64 0, .int .i64 0, .int .u64 0] 26)).drew := wA
      have n3 : (V.alloc (.cells #[.int .i64 0, .string ⟨#[]⟩, .int .i64 0, .int .u32 0, .int .i64 0, .int .i64 0, .slice none 0 0, .string ⟨#[]⟩, .string ⟨#[]⟩, .int .i64 0, .int .i64 0, .int .u64 0] 26)).drew.heap[V.heap.size]? = some (.cells #[.int .i64 0, .string ⟨#[]⟩, .int .i64 0, .int .u32 0, .int .i64 0, .int .i64 0, .slice none 0 0, .string ⟨#[]⟩, .string ⟨#[]⟩, .int .i64 0, .int .i64 0, .int .u64 0] 26 (0, 0)) := heap_alloc_new V _
      clear HTT HBV HB13 HZ13 HR_vls HR_vag HD HCV HIP hl_ve1 hl_ve2 hl_ve3 hl_vag hj
      go_upto_region 31 with fail
      go_region_held3 (fun W => (convert 30 9 vcom).run Tryz.prog W = .ok (.string com) W) (first | with_reducible exact HCC.out _ (setBel12 (kB.trans (hb4.mono kB.size)) (Nat.le_refl _)) | with_reducible exact HCC.out _ kA | with_reducible exact HCC.out _ kB | with_reducible exact HCC.out _ (kA.trans (hb4.mono kA.size)) | with_reducible exact HCC.out _ (kB.trans (hb4.mono kB.size)) | with_reducible exact HCC.out _ ((kA.trans (hb4.mono kA.size)).alloc (kA.trans (hb4.mono kA.size)).size _) ) (first | (go_at_call 24; refine (HDV.out _ ?hbW).mono ?_; (case hbW => first | with_reducible exact kA | with_reducible exact kB); rintro e W4 ⟨rfl, hb4⟩; try (with_reducible obtain ⟨q00, q01, q02, q03, q04, q05, q06, q07, q08, q09, q10, q11, q0f⟩ := twelveF (heapB hb4 n3))))
      all_goals
        rename_i hHeld
        first
        | (clear q00
           have hV4 : Below V.heap.size V W4 := kB.trans (hb4.mono kB.size)
           have hz4 : W4.heap[w.heap.size]? = _ := heapB hV4 HZV.out
           have hn4 : W4.heap[V.heap.size]? = _ := heapB hb4 n3
           have hQ1' : w.heap.size < V.heap.size := Lib.lt_of_heap HZV.out
           obtain ⟨Q, hQ⟩ : ∃ Q, Q = V.heap.size := ⟨_, rfl⟩
           obtain ⟨W5, hW5⟩ : ∃ W5, W5 = ((((((((((((W4.setCell ⟨Q, 0, none⟩ (.int .i64 0)).setCell ⟨Q, 1, none⟩ (.string com)).setCell ⟨Q, 2, none⟩ (.int .i64 164)).setCell ⟨Q, 3, none⟩ (.int .u32 0)).setCell ⟨Q, 4, none⟩ (.int .i64 0)).setCell ⟨Q, 5, none⟩ (.int .i64 0)).setCell ⟨Q, 6, none⟩ (.slice none 0 0)).setCell ⟨Q, 7, none⟩ (.string (dot arcs))).setCell ⟨Q, 8, none⟩ (.string (txt (ipT a b c d)))).setCell ⟨Q, 9, none⟩ (.int .i64 gen)).setCell ⟨Q, 10, none⟩ (.int .i64 spec)).setCell ⟨Q, 11, none⟩ (.int .u64 time)) := ⟨_, rfl⟩
           have hV5 : Below V.heap.size V W5 := by rw [hW5]; exact setBel12 hV4 (by omega)
           rw [← hQ] at hn4 hQ1'
           have HQ5 : Hid (W5.heap[Q]? = some (.cells #[.int .i64 0, .string com, .int .i64 164, .int .u32 0, .int .i64 0, .int .i64 0, .slice none 0 0, .string (dot arcs), .string (txt (ipT a b c d)), .int .i64 gen, .int .i64 spec, .int .u64 time] 26 (0, 0))) := by unfold Hid; rw [hW5]; exact setAll12 hn4
           have HZ5 : Hid (W5.heap[w.heap.size]? = some (.cells #[.int .i64 0, .string ⟨#[]⟩, .int .i64 0, .int .u32 0, .int .i64 0, .int .i64 0, .slice none 0 0, .string ⟨#[]⟩, .string ⟨#[]⟩, .int .i64 0, .int .i64 0, .int .u64 0] 26 (0, 0))) := by unfold Hid; rw [hW5]; exact heapS12 (by omega) hz4
           have HB5 : Hid (Below w.heap.size w W5) := HBW.out.trans (hV5.mono HBW.out.size)
           have HR5 := Lib.hid (HRL.out.keptBelow hV5)
           rw [← hQ, ← hW5]
           have hQ1 := hQ1'
           clear hn4 q01 q02 q03 q04 q05 q06 q07 q08 q09 q10 q11 q0f hQ1' hW5 hQ hz4 hV4 hV5)
        | (have hV4 : Below V.heap.size V W4 := kA.trans (hb4.mono kA.size)
           have hz4 : W4.heap[w.heap.size]? = _ := heapB hV4 HZV.out
           obtain ⟨Q, hQ⟩ : ∃ Q, Q = W4.heap.size := ⟨_, rfl⟩
           obtain ⟨W5, hW5⟩ : ∃ W5, W5 = W4.alloc (.cells #[.int .i64 0, .string com, .int .i64 164, .int .u32 0, .int .i64 0, .int .i64 0, .slice none 0 0, .string (dot arcs), .string (txt (ipT a b c d)), .int .i64 gen, .int .i64 spec, .int .u64 time] 26) := ⟨_, rfl⟩
           have hb5 : Below W4.heap.size W4 W5 := by rw [hW5]; exact (Below.refl _ _).alloc (Nat.le_refl _) _
           have hV5 : Below V.heap.size V W5 := hV4.trans (hb5.mono hV4.size)
           have HQ5 : Hid (W5.heap[Q]? = some (.cells #[.int .i64 0, .string com, .int .i64 164, .int .u32 0, .int .i64 0, .int .i64 0, .slice none 0 0, .string (dot arcs), .string (txt (ipT a b c d)), .int .i64 gen, .int .i64 spec, .int .u64 time] 26 (0, 0))) := by unfold Hid; rw [hW5, hQ]; exact heap_alloc_new W4 _
           rw [← hW5, ← hQ]
           have hQ1 : w.heap.size < Q := by rw [hQ]; exact Lib.lt_of_heap hz4
           have HZ5 := Lib.hid (heapB hb5 hz4)
           have HB5 : Hid (Below w.heap.size w W5) := HBW.out.trans (hV5.mono HBW.out.size)
           have HR5 := Lib.hid (HRL.out.keptBelow hV5)
           clear hb5 hW5 hQ hz4 hV4 hV5)
        clear hHeld n3 kA kB hb4 HDV HCC HBW HZV HRL
        have HSQ := Lib.hid hQ1
        clear hQ1
        go_wp2
        go_loopw [28] (fun s wr => ∃ (k : Nat) (vo : Value), k ≤ l.length ∧ OfAt w Q (fun vo => #[.int .i64 0, .string com, .int .i64 164, .int .u32 0, .int .i64 0, .int .i64 0, vo, .string (dot arcs), .string (txt (ipT a b c d)), .int .i64 gen, .int .i64 spec, .int .u64 time]) l k s vo wr) (fun s _ => sliceLen s)
        case atStart => exact ⟨0, .slice none 0 0, Nat.zero_le _, HR5.out, HQ5.out, OwnC.nil _ _ _ _, NoB.nil _, HB5.out, HZ5.out, HSQ.out⟩
        case round =>
          obtain ⟨k, vo, hk, hT⟩ := hrel
          obtain ⟨wo, rfl⟩ : ∃ wo : World, wo = wr := ⟨_, rfl⟩
          obtain ⟨s, rfl⟩ : ∃ s : Value, s = u28 := ⟨_, rfl⟩
          have HRR := Lib.hid hT.rd
          have HQ1 := Lib.hid hT.out
          have HO1 := Lib.hid hT.own
          have HN1 := Lib.hid hT.no
          have HB1 := Lib.hid hT.below
          have HZ1 := Lib.hid hT.res
          clear hT HR5 HQ5 HB5 HZ5
          by_cases hkn : k < l.length
          · obtain ⟨x, hx⟩ : ∃ x, l[k]? = some x := ⟨_, List.getElem?_eq_getElem hkn⟩
            obtain ⟨m, hm⟩ : ∃ m, m = (varsB (l.drop k) 0).length := ⟨_, rfl⟩
            obtain ⟨hv1, hv2, hv3⟩ := HVB.out k hkn
            rw [← hm] at hv1 hv2 hv3
            have HM2 := Lib.hid hv2
            have hls := HRR.out.lenAt m hm
            have HMM := Lib.hid hm
            have HCX := Lib.hid (HV.out k x hx wo s HRR.out)
            obtain ⟨s0, s1, s2, s3, s4, hsv⟩ : ∃ s0 s1 s2 s3 s4, toldV (dot x.arcs) x.pay = .agg #[.string s0, .int .i64 s1, .int .i64 s2, .int .u64 s3, .string s4] := ⟨_, _, _, _, _, rfl⟩
            unfold RetVar at HCX
            rw [hsv] at HCX
            have HSV := Lib.hid hsv
            have HX := Lib.hid hx
            clear hx hsv hm hv2
            go_wp2_with (go_at_call 30; refine (HCX.out).mono ?_; rintro e W2 ⟨s2', rfl, hrd2, hb2⟩; refine Hid.out ?_)
            refine Lib.hid ?_
            have HR2 := Lib.hid hrd2
            have HB2 : Hid (Below w.heap.size w W2) := HB1.out.trans (hb2.mono HB1.out.size)
            have HQ2 := Lib.hid (heapB hb2 HQ1.out)
            have HZ2 := Lib.hid (heapB hb2 HZ1.out)
            have HO2 := Lib.hid (HO1.out.below hb2)
            have HN2 := Lib.hid (HN1.out.below HO1.out hb2)
            clear hrd2 hb2 HCX hls
            go_upto_region 36 with fail
            obtain ⟨W3, hW3⟩ : ∃ W3, W3 = W2.alloc (.cells #[.string s0, .int .i64 s1, .int .i64 s2, .int .u64 s3, .string s4] 40) := ⟨_, rfl⟩
            obtain ⟨X, hX⟩ : ∃ X, X = W2.heap.size := ⟨_, rfl⟩
            have hb3 : Below W2.heap.size W2 W3 := by rw [hW3]; exact (Below.refl _ _).alloc (Nat.le_refl _) _
            have hx3 : W3.heap[X]? = some (.cells #[.string s0, .int .i64 s1, .int .i64 s2, .int .u64 s3, .string s4] 40 (0, 0)) := by rw [hW3, hX]; exact heap_alloc_new W2 _
            rw [← hW3, ← hX]
            have hz3 := heapB hb3 HZ2.out
            have hq3 := heapB hb3 HQ2.out
            have HB3 : Hid (Below w.heap.size w W3) := HB2.out.trans (hb3.mono HB2.out.size)
            have HO3 := Lib.hid (HO2.out.below hb3)
            have HN3 := Lib.hid (HN2.out.below HO2.out hb3)
            have HR3 := Lib.hid (HR2.out.keptBelow hb3)
            obtain ⟨x0, x1, x2, x3, x4⟩ := fiveC hx3
            have q6 : W3.cell? ⟨Q, 6, none⟩ = some vo := by rw [Lib.cell_of_heap hq3]; rfl
            have hnQ : some Q ≠ vo.ownBlock := fun e => by have := (HO3.out.lt e.symm).1; omega
            have hnR : some w.heap.size ≠ vo.ownBlock := fun e => by have := (HO3.out.lt e.symm).1; have := HSQ.out; omega
            have HZ3 := Lib.hid hz3
            have HQ3 := Lib.hid hq3
            have hQs : Q < W3.heap.size := Lib.lt_of_heap hq3
            have HHN := Lib.hid (And.intro hnQ hnR)
            have hk20 : k ≤ 20 := by have := HL.out; omega
            have HONE : Hid (∀ u ∈ ([.string s0, .int .i64 s1, .int .i64 s2, .int .u64 s3, .string s4] : List Value), Value.oneCell' u = true) := by
              intro u hu; simp at hu; rcases hu with rfl | rfl | rfl | rfl | rfl <;> rfl
            have HNOU : Hid (∀ u ∈ ([.string s0, .int .i64 s1, .int .i64 s2, .int .u64 s3, .string s4] : List Value), NoU u) := by
              intro u hu z; simp at hu; rcases hu with rfl | rfl | rfl | rfl | rfl <;> simp
            have HTC : Hid (toldC (l.take (k + 1)) = toldC (l.take k) ++ [.string s0, .int .i64 s1, .int .i64 s2, .int .u64 s3, .string s4]) := by
              unfold Hid
              rw [List.take_add_one, HX.out, Option.toList_some, toldC_snoc]
              have hv := HSV.out
              simp only [toldV] at hv
              injection hv with hv
              rw [show [Value.string (dot x.arcs), .int .i64 x.pay.typ, .int .i64 (toldI x.pay), .int .u64 (toldU x.pay), .string (toldT x.pay)] = [.string s0, .int .i64 s1, .int .i64 s2, .int .u64 s3, .string s4] from (congrArg Array.toList hv).symm.symm]
            clear hW3 hX hb3 hx3 hz3 hq3 hnQ hnR HO2 HO1 HN1 HN2 HB2 HQ2 HZ2 HR2
            go_wp2_with (at_builtin; refine wpList_appendV _ rfl _ _ rfl (Q + 1) _ k (toldC (l.take k)) [.string s0, .int .i64 s1, .int .i64 s2, .int .u64 s3, .string s4] W3.heap.size 1 rfl rfl (by exact HO3.out.alloc _) (by exact HN3.out.below HO3.out ((Below.refl _ _).alloc (Nat.le_refl _) _)) (toldC_no _) rfl HNOU.out (by exact new5 W3) HONE.out (by simp; omega) (by omega) ?_)
            intro v6 w6 hO6 hg6 hno6
            have hQ6 : w6.heap[Q]? = some (.cells #[.int .i64 0, .string com, .int .i64 164, .int .u32 0, .int .i64 0, .int .i64 0, vo, .string (dot arcs), .string (txt (ipT a b c d)), .int .i64 gen, .int .i64 spec, .int .u64 time] 26 (0, 0)) := (hg6.block Q (by simp; omega) HHN.out.1).trans ((Below.heap_alloc _ _ _ hQs).trans HQ3.out)
            have hZ6 : w6.heap[w.heap.size]? = some (.cells #[.int .i64 0, .string ⟨#[]⟩, .int .i64 0, .int .u32 0, .int .i64 0, .int .i64 0, .slice none 0 0, .string ⟨#[]⟩, .string ⟨#[]⟩, .int .i64 0, .int .i64 0, .int .u64 0] 26 (0, 0)) := (hg6.block w.heap.size (by have := Lib.lt_of_heap HZ3.out; simp; omega) HHN.out.2).trans ((Below.heap_alloc _ _ _ (Lib.lt_of_heap HZ3.out)).trans HZ3.out)
            have hB6 : Below w.heap.size w w6 := (HB3.out.alloc HB3.out.size _).grown hg6 (by have := HB3.out.size; simp; omega) (fun q e => by have := (HO3.out.lt e).1; have := HSQ.out; omega)
            have hO6' : OwnC 40 5 w6 (Q + 1) v6 (k + 1) (toldC (l.take (k + 1))) := by rw [HTC.out]; exact hO6
            have hR6 : Rd w6 s2' (varsB (l.drop (k + 1)) 0) := (HR3.out.keptBelow ((Below.refl _ _).alloc (Nat.le_refl _) _)).grown hg6 (HN3.out.below HO3.out ((Below.refl _ _).alloc (Nat.le_refl _) _))
            obtain ⟨A6, cap6, rfl⟩ := hO6.shape
            have p6 : w6.cell? ⟨Q, 6, none⟩ = some vo := by rw [Lib.cell_of_heap hQ6]; rfl
            have pf6 : w6.frozen? ⟨Q, 6, none⟩ = false := Lib.frozen_of_heap hQ6 6
            obtain ⟨Ao, co, hvo⟩ := HO3.out.shape
            have HNEXT : Hid (OfAt w Q (fun vo => #[.int .i64 0, .string com, .int .i64 164, .int .u32 0, .int .i64 0, .int .i64 0, vo, .string (dot arcs), .string (txt (ipT a b c d)), .int .i64 gen, .int .i64 spec, .int .u64 time]) l (k + 1) s2' (.slice A6 (k + 1) cap6) (w6.setCell ⟨Q, 6, none⟩ (.slice A6 (k + 1) cap6))) :=
              ⟨hR6.offCell hQ6 (fun j y => by rw [hvo]; rcases j with _ | _ | _ | _ | _ | _ | _ | _ | _ | _ | _ | _ | j <;> simp) ((Kp.refl _ _).setCell (.inl (by simp)) _), Lib.heap_setCell_same (i := 6) hQ6 _, hO6'.setCell (by omega) _, hno6.kept (fun q e => Below.heap_setCell _ _ _ _ (by have := (hO6.lt e).1; simp; omega)), hB6.setCell (by have := HSQ.out; simp; omega) _, by rw [Below.heap_setCell _ _ _ _ (by have := HSQ.out; simp; omega)]; exact hZ6, HSQ.out⟩
            clear hO6 hg6 hQ6 hZ6 hB6 hO6' hR6 hno6 x0 x1 x2 x3 x4 q6 hvo
            go_wp2
            go_roundw
            case rel => exact ⟨k + 1, _, hkn, HNEXT.out⟩
            case measure => rw [HNEXT.out.rd.sliceLen, HRR.out.sliceLen, ← HMM.out]; exact HM2.out
          · obtain rfl : k = l.length := by omega
            have hls : ∀ W, (Builtin.len_ #[30] 3 #[s]).run Tryz.prog W = .ok (.int .i64 0) W := HRR.out.lenAt 0 (by simp [varsB])
            have q0 : wo.cell? ⟨Q, 0, none⟩ = some (.int .i64 0) := by rw [Lib.cell_of_heap HQ1.out]; rfl
            have q1 : wo.cell? ⟨Q, 1, none⟩ = some (.string com) := by rw [Lib.cell_of_heap HQ1.out]; rfl
            have q2 : wo.cell? ⟨Q, 2, none⟩ = some (.int .i64 164) := by rw [Lib.cell_of_heap HQ1.out]; rfl
            have q3 : wo.cell? ⟨Q, 3, none⟩ = some (.int .u32 0) := by rw [Lib.cell_of_heap HQ1.out]; rfl
            have q4 : wo.cell? ⟨Q, 4, none⟩ = some (.int .i64 0) := by rw [Lib.cell_of_heap HQ1.out]; rfl
            have q5 : wo.cell? ⟨Q, 5, none⟩ = some (.int .i64 0) := by rw [Lib.cell_of_heap HQ1.out]; rfl
            have q6 : wo.cell? ⟨Q, 6, none⟩ = some (vo) := by rw [Lib.cell_of_heap HQ1.out]; rfl
            have q7 : wo.cell? ⟨Q, 7, none⟩ = some (.string (dot arcs)) := by rw [Lib.cell_of_heap HQ1.out]; rfl
            have q8 : wo.cell? ⟨Q, 8, none⟩ = some (.string (txt (ipT a b c d))) := by rw [Lib.cell_of_heap HQ1.out]; rfl
            have q9 : wo.cell? ⟨Q, 9, none⟩ = some (.int .i64 gen) := by rw [Lib.cell_of_heap HQ1.out]; rfl
            have q10 : wo.cell? ⟨Q, 10, none⟩ = some (.int .i64 spec) := by rw [Lib.cell_of_heap HQ1.out]; rfl
            have q11 : wo.cell? ⟨Q, 11, none⟩ = some (.int .u64 time) := by rw [Lib.cell_of_heap HQ1.out]; rfl
            have s_0 : wo.cell? ⟨w.heap.size, 0, none⟩ = some (.int .i64 0) := by rw [Lib.cell_of_heap HZ1.out]; rfl
            have s_1 : wo.cell? ⟨w.heap.size, 1, none⟩ = some (.string ⟨#[]⟩) := by rw [Lib.cell_of_heap HZ1.out]; rfl
            have s_2 : wo.cell? ⟨w.heap.size, 2, none⟩ = some (.int .i64 0) := by rw [Lib.cell_of_heap HZ1.out]; rfl
            have s_3 : wo.cell? ⟨w.heap.size, 3, none⟩ = some (.int .u32 0) := by rw [Lib.cell_of_heap HZ1.out]; rfl
            have s_4 : wo.cell? ⟨w.heap.size, 4, none⟩ = some (.int .i64 0) := by rw [Lib.cell_of_heap HZ1.out]; rfl
            have s_5 : wo.cell? ⟨w.heap.size, 5, none⟩ = some (.int .i64 0) := by rw [Lib.cell_of_heap HZ1.out]; rfl
            have s_6 : wo.cell? ⟨w.heap.size, 6, none⟩ = some (.slice none 0 0) := by rw [Lib.cell_of_heap HZ1.out]; rfl
            have s_7 : wo.cell? ⟨w.heap.size, 7, none⟩ = some (.string ⟨#[]⟩) := by rw [Lib.cell_of_heap HZ1.out]; rfl
            have s_8 : wo.cell? ⟨w.heap.size, 8, none⟩ = some (.string ⟨#[]⟩) := by rw [Lib.cell_of_heap HZ1.out]; rfl
            have s_9 : wo.cell? ⟨w.heap.size, 9, none⟩ = some (.int .i64 0) := by rw [Lib.cell_of_heap HZ1.out]; rfl
            have s_10 : wo.cell? ⟨w.heap.size, 10, none⟩ = some (.int .i64 0) := by rw [Lib.cell_of_heap HZ1.out]; rfl
            have s_11 : wo.cell? ⟨w.heap.size, 11, none⟩ = some (.int .u64 0) := by rw [Lib.cell_of_heap HZ1.out]; rfl
            have sf : ∀ i, wo.frozen? ⟨w.heap.size, i, none⟩ = false := fun i => Lib.frozen_of_heap HZ1.out i
            have hstv : ∀ (W : World) (q : Addr) (m : Mode), (store q vo m).run Tryz.prog W = stored Tryz.prog W q vo m := fun W q m => run_store _ W q vo m (by obtain ⟨A, c, rfl⟩ := HO1.out.shape; rfl)
            have hqr : Q ≠ w.heap.size := by have := HSQ.out; omega
            have HS := Lib.hid (setCells_at (g := w.heap.size) (T := 26) [(.int .i64 0), (.string com), (.int .i64 164), (.int .u32 0), (.int .i64 0), (.int .i64 0), (vo), (.string (dot arcs)), (.string (txt (ipT a b c d))), (.int .i64 gen), (.int .i64 spec), (.int .u64 time)] 0 wo _ HZ1.out (by simp))
            go_wp2
            change bodyPost _ _ _ _ _ (wo.setCells w.heap.size 0 [(.int .i64 0), (.string com), (.int .i64 164), (.int .u32 0), (.int .i64 0), (.int .i64 0), (vo), (.string (dot arcs)), (.string (txt (ipT a b c d))), (.int .i64 gen), (.int .i64 spec), (.int .u64 time)])
            obtain ⟨z1, z2⟩ := HS.out
            generalize wo.setCells w.heap.size 0 [(.int .i64 0), (.string com), (.int .i64 164), (.int .u32 0), (.int .i64 0), (.int .i64 0), (vo), (.string (dot arcs)), (.string (txt (ipT a b c d))), (.int .i64 gen), (.int .i64 spec), (.int .u64 time)] = WF at z1 z2 ⊢
            have k0 : WF.cell? ⟨w.heap.size, 0, none⟩ = some (.int .i64 0) := by rw [Lib.cell_of_heap z1]; rfl
            have k1 : WF.cell? ⟨w.heap.size, 1, none⟩ = some (.string com) := by rw [Lib.cell_of_heap z1]; rfl
            have k2 : WF.cell? ⟨w.heap.size, 2, none⟩ = some (.int .i64 164) := by rw [Lib.cell_of_heap z1]; rfl
            have k3 : WF.cell? ⟨w.heap.size, 3, none⟩ = some (.int .u32 0) := by rw [Lib.cell_of_heap z1]; rfl
            have k4 : WF.cell? ⟨w.heap.size, 4, none⟩ = some (.int .i64 0) := by rw [Lib.cell_of_heap z1]; rfl
            have k5 : WF.cell? ⟨w.heap.size, 5, none⟩ = some (.int .i64 0) := by rw [Lib.cell_of_heap z1]; rfl
            have k6 : WF.cell? ⟨w.heap.size, 6, none⟩ = some (vo) := by rw [Lib.cell_of_heap z1]; rfl
            have k7 : WF.cell? ⟨w.heap.size, 7, none⟩ = some (.string (dot arcs)) := by rw [Lib.cell_of_heap z1]; rfl
            have k8 : WF.cell? ⟨w.heap.size, 8, none⟩ = some (.string (txt (ipT a b c d))) := by rw [Lib.cell_of_heap z1]; rfl
            have k9 : WF.cell? ⟨w.heap.size, 9, none⟩ = some (.int .i64 gen) := by rw [Lib.cell_of_heap z1]; rfl
            have k10 : WF.cell? ⟨w.heap.size, 10, none⟩ = some (.int .i64 spec) := by rw [Lib.cell_of_heap z1]; rfl
            have k11 : WF.cell? ⟨w.heap.size, 11, none⟩ = some (.int .u64 time) := by rw [Lib.cell_of_heap z1]; rfl
            try simp only [Exit.inBlock, Exit.then]
            refine bodyPost_ret (v := .tuple #[.agg #[.int .i64 0, .string com, .int .i64 164, .int .u32 0, .int .i64 0, .int .i64 0, vo, .string (dot arcs), .string (txt (ipT a b c d)), .int .i64 gen, .int .i64 spec, .int .u64 time], .bool true]) (by simp [results, Tryz.results12, go_sem, k0, k1, k2, k3, k4, k5, k6, k7, k8, k9, k10, k11]) rfl ?_
            refine ⟨vo, rfl, ?_, HB1.out.trans (z2.below HB1.out.size (by simp))⟩
            have h1 := HO1.out
            rw [List.take_length] at h1
            exact OwnC.rebase (h1.kept (fun q hq => z2.block q (h1.lt hq).2 (by have := (h1.lt hq).1; have := HSQ.out; simp; omega))) (by have := HSQ.out; omega)
    · obtain ⟨x, hx⟩ : ∃ x, [a, b, c, d][j]? = some x := ⟨_, List.getElem?_eq_getElem (by simp; omega)⟩
      have hx256 : x < 256 := by
        have := List.mem_of_getElem? hx
        have hi := HIP.out
        simp at this
        omega
      have hxi : [(a : Int), (b : Int), (c : Int), (d : Int)][j]? = some (x : Int) := by
        have h := congrArg (Option.map (fun n : Nat => (n : Int))) hx
        rw [← List.getElem?_map] at h
        exact h
      have hrag := HR_vag.out.keptBelow HBV.out
      obtain ⟨aj, ij, kj⟩ := rd_idx hrag j x hxi
      have cj := kj V hrag
      have HCL : Hid (Calls Tryz.prog 29 #[.int .u64 x] V fun e w' => e = .returned (.string (txt (figs x))) ∧ Below V.heap.size V w') := figures x V (by omega)
      have hfs : (txt (figs x)).size ≤ 3 := by rw [txt_size]; exact figs_byte x hx256
      have hts : tx.size ≤ 15 := by rw [← bytesOf_length, HTT.out]; exact ipAt_short HIP.out.1 HIP.out.2.1 HIP.out.2.2.1 HIP.out.2.2.2 hj
      have hwx : IntKind.u64.wrap (x : Int) = x := by rw [IntKind.wrap_u64]; omega
      have hfx : bytesOf (txt (figs x)) = figs x := bytesOf_txt _ (fun c hc => by have := figs_range x c hc; omega)
      have HX := Lib.hid hx
      have HFX := Lib.hid hfx
      clear hx hxi kj hfx hrag
      by_cases hj0 : j = 0
      · subst hj0
        have hs1 : ¬ 9223372036854775807 < tx.size + (txt (figs x)).size := by omega
        have ij0 : ∀ W, (Instr.indexAt 30 vag (.int .i64 0)).run Tryz.prog W = .ok (.pointer (some aj)) W := ij
        have HNX : Hid (bytesOf (tx ++ txt (figs x)) = ipAt a b c d (0 + 1)) := by
          unfold Hid
          have h0 : ipAt a b c d (0 + 1) = ipAt a b c d 0 ++ figs x := by
            have h := HX.out
            simp at h; subst h; rfl
          rw [h0, bytesOf_append, HTT.out, HFX.out]
        go_wp2_with (go_at_call 29; refine (HCL.out).mono ?_; rintro e V9 ⟨rfl, hb9⟩; refine Hid.out ?_)
        refine Lib.hid ?_
        have HBX : Hid (Below W13.heap.size W13 V9) := HBV.out.trans (hb9.mono HBV.out.size)
        clear hb9 HCL cj
        go_wp2
        go_roundw
        case rel => exact ⟨0 + 1, _, by go_num, rfl, by omega, HNX.out, HBX.out⟩
        case measure => first | (simp [intOf]; done) | (simp [intOf]; omega)
      · have hj1 : 1 ≤ j := by omega
        have hw46 : ¬ 9223372036854775807 < tx.size + (⟨#[46]⟩ : ByteArray).size := by have : (⟨#[46]⟩ : ByteArray).size = 1 := rfl; omega
        obtain ⟨tt, htt⟩ : ∃ tt, tt = tx ++ (⟨#[46]⟩ : ByteArray) := ⟨_, rfl⟩
        have htts : tt.size ≤ 16 := by rw [htt, ByteArray.size_append]; have : (⟨#[46]⟩ : ByteArray).size = 1 := rfl; omega
        have HNX : Hid (bytesOf (tt ++ txt (figs x)) = ipAt a b c d (j + 1)) := by
          unfold Hid
          rw [ipAt_step hj1 HX.out, htt, bytesOf_append, bytesOf_append, HTT.out, HFX.out]
          rfl
        have hs1 : ¬ 9223372036854775807 < tt.size + (txt (figs x)).size := by omega
        have HTE := Lib.hid htt
        clear htt
        go_upto_region 29 with fail
        rw [← HTE.out]
        clear hw46
        go_wp2_with (go_at_call 29; refine (HCL.out).mono ?_; rintro e V9 ⟨rfl, hb9⟩; refine Hid.out ?_)
        refine Lib.hid ?_
        have HBX : Hid (Below W13.heap.size W13 V9) := HBV.out.trans (hb9.mono HBV.out.size)
        clear hb9 HCL cj
        go_wp2
        go_roundw
        case rel => exact ⟨j + 1, _, by go_num, rfl, by omega, HNX.out, HBX.out⟩
        case measure => first | (simp [intOf]; done) | (simp [intOf]; omega)
end Go.Proofs.YtpfmcdhmboclhaaGreatDoor
