/- spec: a variable out of its bytes. spec: a variable out of its bytes: numbers. -/
import Derived.Test.YtpfmcdhmboclhaaGreatDoorT06
set_option linter.unusedVariables false
set_option linter.unusedSimpArgs false
namespace Go.Proofs.YtpfmcdhmboclhaaGreatDoor
open Go.RowKit
set_option maxHeartbeats 8000000 in
set_option maxRecDepth 100000 in
theorem ofVar_130 (v : Value) (w : World) (arcs : List Nat) (rest : List Int) (hg : GoodArcs arcs) (hsz : rest.length ≤ 100000) (hr : Rd w v (varB arcs (.nul 130) 0 ++ rest)) :
    Calls Tryz.prog 30 #[v] w (RetVar w (dot arcs) (.nul 130) rest) := by
  obtain ⟨W1, hW1⟩ : ∃ W1, W1 = w.alloc (.cells #[.string ⟨#[]⟩, .int .i64 0, .int .i64 0, .int .u64 0, .string ⟨#[]⟩] 40) := ⟨_, rfl⟩
  have hb1 : Below w.heap.size w W1 := by rw [hW1]; exact (Below.refl _ _).alloc (Nat.le_refl _) _
  have hz1 : W1.heap[w.heap.size]? = some (.cells #[.string ⟨#[]⟩, .int .i64 0, .int .i64 0, .int .u64 0, .string ⟨#[]⟩] 40 (0, 0)) := by rw [hW1]; exact heap_alloc_new w _
  have HG := Lib.hid hg
  have hcl : (([] : List Int)).length ≤ 500 := Pay.con_len (p := .nul 130) (by exact .inr (.inr (.inr rfl)))
  have hnl : (nameB arcs).length ≤ 100 := hg.bytes
  have l1 := sealB_short 6 (nameB arcs) (by omega)
  have l2 := sealB_short (130) (([] : List Int)) (by omega)
  have HO1 := Lib.hid (specNext v W1 48 (sealB 6 (nameB arcs) 0 ++ sealB (130) (([] : List Int)) 0) rest (hr.keptBelow hb1) (by omega) (by rw [List.length_append]; omega) hsz)
  have HO2 : Hid (∀ W u, Rd W u (sealB 6 (nameB arcs) 0 ++ sealB (130) (([] : List Int)) 0) → Calls Tryz.prog 25 #[u, .int .i64 6] W (RetNext W (nameB arcs) (sealB (130) (([] : List Int)) 0))) := fun W u h => specNext u W 6 _ _ h (by omega) (by omega) (by omega)
  have HO3 : Hid (∀ W u, Rd W u (nameB arcs) → Calls Tryz.prog 27 #[u] W (RetName W arcs)) := fun W u h => ofName_of HG.out HG.out.small h
  have HO4 : Hid (∀ W u, Rd W u (sealB (130) (([] : List Int)) 0) → Calls Tryz.prog 44 #[u] W (RetOpen W (130) (([] : List Int)) [])) := fun W u h => specOpen u W (130) _ [] (by rw [List.append_nil]; exact h) (by omega) (by omega) (by simp)
  have HO5 : Hid (∀ W u, OwnCSome W u arcs → Calls Tryz.prog 24 #[u] W fun e w' => e = .returned (.string (dot arcs)) ∧ Below W.heap.size W w') := fun W u ⟨B, h⟩ => dotted u arcs W (RdN.of_own h) HG.out.small HG.out.sixty
  have HB1 := Lib.hid hb1
  have HW1 := Lib.hid hW1
  have HZ1 := Lib.hid hz1
  clear hb1 hW1 hz1 hr hcl hnl l1 l2 hg
  go_enter Tryz.func30, Tryz.ntmps30
  go_wp2_with (go_at_call 25; rw [← HW1.out]; refine (HO1.out).mono ?_; rintro e W2 ⟨v1, vr, rfl, h1, h2, hb2⟩; refine Hid.out ?_)
  refine Lib.hid ?_
  have HB2 : Hid (Below w.heap.size w W2) := HB1.out.trans (hb2.mono HB1.out.size)
  have HZ2 := Lib.hid ((hb2.block _ (Lib.lt_of_heap HZ1.out)).trans HZ1.out)
  have HV2 := Lib.hid h2
  have HC2 := Lib.hid (HO2.out W2 v1 h1)
  clear h1 h2 hb2 HO1 HO2 HW1 HZ1 HB1
  go_wp2_with (go_at_call 25; refine (HC2.out).mono ?_; rintro e W3 ⟨vn, vi, rfl, h1, h2, hb3⟩; refine Hid.out ?_)
  refine Lib.hid ?_
  have HB3 : Hid (Below w.heap.size w W3) := HB2.out.trans (hb3.mono HB2.out.size)
  have HZ3 := Lib.hid ((hb3.block _ (Lib.lt_of_heap HZ2.out)).trans HZ2.out)
  have HV3 := Lib.hid (HV2.out.keptBelow hb3)
  have HI3 := Lib.hid h2
  have HC3 := Lib.hid (HO3.out W3 vn h1)
  clear h1 h2 hb3 HC2 HZ2 HB2 HV2
  go_wp2_with (go_at_call 27; refine (HC3.out).mono ?_; rintro e W4 ⟨va, rfl, h1, hb4⟩; refine Hid.out ?_)
  refine Lib.hid ?_
  have HB4 : Hid (Below w.heap.size w W4) := HB3.out.trans (hb4.mono HB3.out.size)
  have HZ4 := Lib.hid ((hb4.block _ (Lib.lt_of_heap HZ3.out)).trans HZ3.out)
  have HV4 := Lib.hid (HV3.out.keptBelow hb4)
  have HA4 := Lib.hid h1
  have HC4 := Lib.hid (HO4.out W4 vi (HI3.out.keptBelow hb4))
  clear h1 hb4 HC3 HZ3 HB3 HV3 HI3
  go_wp2_with (go_at_call 44; refine (HC4.out).mono ?_; rintro e W5 ⟨vc, vl, rfl, h1, h2, hb5⟩; refine Hid.out ?_)
  refine Lib.hid ?_
  have HB5 : Hid (Below w.heap.size w W5) := HB4.out.trans (hb5.mono HB4.out.size)
  have HZ5 := Lib.hid ((hb5.block _ (Lib.lt_of_heap HZ4.out)).trans HZ4.out)
  have HV5 := Lib.hid (HV4.out.keptBelow hb5)
  have HC5 := Lib.hid (HO5.out W5 va ⟨_, HA4.out.below hb5⟩)
  have HCON5 := Lib.hid h1
  have hLl : ∀ W, (Builtin.len_ #[30] 3 #[vl]).run Tryz.prog W = .ok (.int .i64 0) W := h2.lenAt 0 rfl
  clear h1 h2 hb5 HC4 HZ4 HB4 HV4 HA4
  go_wp2_with (go_at_call 24; refine (HC5.out).mono ?_; rintro e W6 ⟨rfl, hb6⟩; refine Hid.out ?_)
  refine Lib.hid ?_
  have HB6 : Hid (Below w.heap.size w W6) := HB5.out.trans (hb6.mono HB5.out.size)
  have HZ6 := Lib.hid ((hb6.block _ (Lib.lt_of_heap HZ5.out)).trans HZ5.out)
  have HV6 := Lib.hid (HV5.out.keptBelow hb6)
  have HCON6 := Lib.hid (HCON5.out.keptBelow hb6)
  clear hb6 HC5 HZ5 HB5 HV5 HCON5
  clear HO3 HO4 HO5
  have hLc : ∀ W, (Builtin.len_ #[30] 3 #[vc]).run Tryz.prog W = .ok (.int .i64 0) W := HCON6.out.lenAt 0 rfl
  go_upto_region 38 with fail
  obtain ⟨W7, hW7⟩ : ∃ W7, W7 = W6.alloc (.cells #[.string (dot arcs), .int .i64 130, .int .i64 0, .int .u64 0, .string ⟨#[]⟩] 40) := ⟨_, rfl⟩
  rw [← hW7]
  have hb67 : Below W6.heap.size W6 W7 := by rw [hW7]; exact (Below.refl _ _).alloc (Nat.le_refl _) _
  have HQ7 : Hid (W7.heap[W6.heap.size]? = some (.cells #[.string (dot arcs), .int .i64 130, .int .i64 0, .int .u64 0, .string ⟨#[]⟩] 40 (0, 0))) := by unfold Hid; rw [hW7]; exact heap_alloc_new W6 _
  have HZ7 := Lib.hid ((hb67.block _ (Lib.lt_of_heap HZ6.out)).trans HZ6.out)
  have HB7 : Hid (Below w.heap.size w W7) := HB6.out.trans (hb67.mono HB6.out.size)
  have HV7 := Lib.hid (HV6.out.keptBelow hb67)
  have HCON7 := Lib.hid (HCON6.out.keptBelow hb67)
  clear hb67 hW7 HZ6 HB6 HV6 HCON6
  have e0 : W7.cell? ⟨W6.heap.size, 0, none⟩ = some (.string (dot arcs)) := by rw [Lib.cell_of_heap HQ7.out]; rfl
  have e1 : W7.cell? ⟨W6.heap.size, 1, none⟩ = some (.int .i64 130) := by rw [Lib.cell_of_heap HQ7.out]; rfl
  have e2 : W7.cell? ⟨W6.heap.size, 2, none⟩ = some (.int .i64 0) := by rw [Lib.cell_of_heap HQ7.out]; rfl
  have e3 : W7.cell? ⟨W6.heap.size, 3, none⟩ = some (.int .u64 0) := by rw [Lib.cell_of_heap HQ7.out]; rfl
  have e4 : W7.cell? ⟨W6.heap.size, 4, none⟩ = some (.string ⟨#[]⟩) := by rw [Lib.cell_of_heap HQ7.out]; rfl
  have s0 : W7.cell? ⟨w.heap.size, 0, none⟩ = some (.string ⟨#[]⟩) := by rw [Lib.cell_of_heap HZ7.out]; rfl
  have s1 : W7.cell? ⟨w.heap.size, 1, none⟩ = some (.int .i64 0) := by rw [Lib.cell_of_heap HZ7.out]; rfl
  have s2 : W7.cell? ⟨w.heap.size, 2, none⟩ = some (.int .i64 0) := by rw [Lib.cell_of_heap HZ7.out]; rfl
  have s3 : W7.cell? ⟨w.heap.size, 3, none⟩ = some (.int .u64 0) := by rw [Lib.cell_of_heap HZ7.out]; rfl
  have s4 : W7.cell? ⟨w.heap.size, 4, none⟩ = some (.string ⟨#[]⟩) := by rw [Lib.cell_of_heap HZ7.out]; rfl
  have sf : ∀ i, W7.frozen? ⟨w.heap.size, i, none⟩ = false := fun i => Lib.frozen_of_heap HZ7.out i
  have HS := Lib.hid (setCells_at (g := w.heap.size) (T := 40) [(.string (dot arcs)), (.int .i64 130), (.int .i64 0), (.int .u64 0), (.string ⟨#[]⟩)] 0 W7 _ HZ7.out (by simp))
  go_wp2
  change bodyPost _ _ _ _ _ (W7.setCells w.heap.size 0 [(.string (dot arcs)), (.int .i64 130), (.int .i64 0), (.int .u64 0), (.string ⟨#[]⟩)])
  obtain ⟨z1, z2⟩ := HS.out
  have HVF : Hid (Rd (W7.setCells w.heap.size 0 [(.string (dot arcs)), (.int .i64 130), (.int .i64 0), (.int .u64 0), (.string ⟨#[]⟩)]) vr rest) := HV7.out.offCell HZ7.out z40_no z2
  have HBF : Hid (Below w.heap.size w (W7.setCells w.heap.size 0 [(.string (dot arcs)), (.int .i64 130), (.int .i64 0), (.int .u64 0), (.string ⟨#[]⟩)])) := HB7.out.trans (z2.below HB7.out.size (by simp))
  generalize W7.setCells w.heap.size 0 [(.string (dot arcs)), (.int .i64 130), (.int .i64 0), (.int .u64 0), (.string ⟨#[]⟩)] = WF at z1 z2 HVF HBF ⊢
  have k0 : WF.cell? ⟨w.heap.size, 0, none⟩ = some (.string (dot arcs)) := by rw [Lib.cell_of_heap z1]; rfl
  have k1 : WF.cell? ⟨w.heap.size, 1, none⟩ = some (.int .i64 130) := by rw [Lib.cell_of_heap z1]; rfl
  have k2 : WF.cell? ⟨w.heap.size, 2, none⟩ = some (.int .i64 0) := by rw [Lib.cell_of_heap z1]; rfl
  have k3 : WF.cell? ⟨w.heap.size, 3, none⟩ = some (.int .u64 0) := by rw [Lib.cell_of_heap z1]; rfl
  have k4 : WF.cell? ⟨w.heap.size, 4, none⟩ = some (.string ⟨#[]⟩) := by rw [Lib.cell_of_heap z1]; rfl
  try simp only [Exit.inBlock, Exit.then]
  refine bodyPost_ret (v := .tuple #[.agg #[.string (dot arcs), .int .i64 130, .int .i64 0, .int .u64 0, .string ⟨#[]⟩], vr, .bool true]) (by simp [results, Tryz.results30, go_sem, k0, k1, k2, k3, k4]) rfl ?_
  exact ⟨vr, rfl, HVF.out, HBF.out⟩
end Go.Proofs.YtpfmcdhmboclhaaGreatDoor
namespace Go.Proofs.YtpfmcdhmboclhaaGreatDoor
open Go.RowKit

set_option maxHeartbeats 8000000 in
set_option maxRecDepth 100000 in
theorem ofVar_2 (v : Value) (w : World) (arcs : List Nat) (n : Int) (rest : List Int) (hg : GoodArcs arcs) (hn : -2147483648 ≤ n ∧ n ≤ 2147483647) (hsz : rest.length ≤ 100000) (hr : Rd w v (varB arcs (.int n) 0 ++ rest)) :
    Calls Tryz.prog 30 #[v] w (RetVar w (dot arcs) (.int n) rest) := by
  obtain ⟨W1, hW1⟩ : ∃ W1, W1 = w.alloc (.cells #[.string ⟨#[]⟩, .int .i64 0, .int .i64 0, .int .u64 0, .string ⟨#[]⟩] 40) := ⟨_, rfl⟩
  have hb1 : Below w.heap.size w W1 := by rw [hW1]; exact (Below.refl _ _).alloc (Nat.le_refl _) _
  have hz1 : W1.heap[w.heap.size]? = some (.cells #[.string ⟨#[]⟩, .int .i64 0, .int .i64 0, .int .u64 0, .string ⟨#[]⟩] 40 (0, 0)) := by rw [hW1]; exact heap_alloc_new w _
  have HG := Lib.hid hg
  have hcl : (intB n).length ≤ 500 := Pay.con_len (p := .int n) (by exact hn)
  have hnl : (nameB arcs).length ≤ 100 := hg.bytes
  have l1 := sealB_short 6 (nameB arcs) (by omega)
  have l2 := sealB_short (2) (intB n) (by omega)
  have HO1 := Lib.hid (specNext v W1 48 (sealB 6 (nameB arcs) 0 ++ sealB (2) (intB n) 0) rest (hr.keptBelow hb1) (by omega) (by rw [List.length_append]; omega) hsz)
  have HO2 : Hid (∀ W u, Rd W u (sealB 6 (nameB arcs) 0 ++ sealB (2) (intB n) 0) → Calls Tryz.prog 25 #[u, .int .i64 6] W (RetNext W (nameB arcs) (sealB (2) (intB n) 0))) := fun W u h => specNext u W 6 _ _ h (by omega) (by omega) (by omega)
  have HO3 : Hid (∀ W u, Rd W u (nameB arcs) → Calls Tryz.prog 27 #[u] W (RetName W arcs)) := fun W u h => ofName_of HG.out HG.out.small h
  have HO4 : Hid (∀ W u, Rd W u (sealB (2) (intB n) 0) → Calls Tryz.prog 44 #[u] W (RetOpen W (2) (intB n) [])) := fun W u h => specOpen u W (2) _ [] (by rw [List.append_nil]; exact h) (by omega) (by omega) (by simp)
  have HO5 : Hid (∀ W u, OwnCSome W u arcs → Calls Tryz.prog 24 #[u] W fun e w' => e = .returned (.string (dot arcs)) ∧ Below W.heap.size W w') := fun W u ⟨B, h⟩ => dotted u arcs W (RdN.of_own h) HG.out.small HG.out.sixty
  have HB1 := Lib.hid hb1
  have HW1 := Lib.hid hW1
  have HZ1 := Lib.hid hz1
  clear hb1 hW1 hz1 hr hcl hnl l1 l2 hg
  go_enter Tryz.func30, Tryz.ntmps30
  go_wp2_with (go_at_call 25; rw [← HW1.out]; refine (HO1.out).mono ?_; rintro e W2 ⟨v1, vr, rfl, h1, h2, hb2⟩; refine Hid.out ?_)
  refine Lib.hid ?_
  have HB2 : Hid (Below w.heap.size w W2) := HB1.out.trans (hb2.mono HB1.out.size)
  have HZ2 := Lib.hid ((hb2.block _ (Lib.lt_of_heap HZ1.out)).trans HZ1.out)
  have HV2 := Lib.hid h2
  have HC2 := Lib.hid (HO2.out W2 v1 h1)
  clear h1 h2 hb2 HO1 HO2 HW1 HZ1 HB1
  go_wp2_with (go_at_call 25; refine (HC2.out).mono ?_; rintro e W3 ⟨vn, vi, rfl, h1, h2, hb3⟩; refine Hid.out ?_)
  refine Lib.hid ?_
  have HB3 : Hid (Below w.heap.size w W3) := HB2.out.trans (hb3.mono HB2.out.size)
  have HZ3 := Lib.hid ((hb3.block _ (Lib.lt_of_heap HZ2.out)).trans HZ2.out)
  have HV3 := Lib.hid (HV2.out.keptBelow hb3)
  have HI3 := Lib.hid h2
  have HC3 := Lib.hid (HO3.out W3 vn h1)
  clear h1 h2 hb3 HC2 HZ2 HB2 HV2
  go_wp2_with (go_at_call 27; refine (HC3.out).mono ?_; rintro e W4 ⟨va, rfl, h1, hb4⟩; refine Hid.out ?_)
  refine Lib.hid ?_
  have HB4 : Hid (Below w.heap.size w W4) := HB3.out.trans (hb4.mono HB3.out.size)
  have HZ4 := Lib.hid ((hb4.block _ (Lib.lt_of_heap HZ3.out)).trans HZ3.out)
  have HV4 := Lib.hid (HV3.out.keptBelow hb4)
  have HA4 := Lib.hid h1
  have HC4 := Lib.hid (HO4.out W4 vi (HI3.out.keptBelow hb4))
  clear h1 hb4 HC3 HZ3 HB3 HV3 HI3
  go_wp2_with (go_at_call 44; refine (HC4.out).mono ?_; rintro e W5 ⟨vc, vl, rfl, h1, h2, hb5⟩; refine Hid.out ?_)
  refine Lib.hid ?_
  have HB5 : Hid (Below w.heap.size w W5) := HB4.out.trans (hb5.mono HB4.out.size)
  have HZ5 := Lib.hid ((hb5.block _ (Lib.lt_of_heap HZ4.out)).trans HZ4.out)
  have HV5 := Lib.hid (HV4.out.keptBelow hb5)
  have HC5 := Lib.hid (HO5.out W5 va ⟨_, HA4.out.below hb5⟩)
  have HCON5 := Lib.hid h1
  have hLl : ∀ W, (Builtin.len_ #[30] 3 #[vl]).run Tryz.prog W = .ok (.int .i64 0) W := h2.lenAt 0 rfl
  clear h1 h2 hb5 HC4 HZ4 HB4 HV4 HA4
  go_wp2_with (go_at_call 24; refine (HC5.out).mono ?_; rintro e W6 ⟨rfl, hb6⟩; refine Hid.out ?_)
  refine Lib.hid ?_
  have HB6 : Hid (Below w.heap.size w W6) := HB5.out.trans (hb6.mono HB5.out.size)
  have HZ6 := Lib.hid ((hb6.block _ (Lib.lt_of_heap HZ5.out)).trans HZ5.out)
  have HV6 := Lib.hid (HV5.out.keptBelow hb6)
  have HCON6 := Lib.hid (HCON5.out.keptBelow hb6)
  clear hb6 HC5 HZ5 HB5 HV5 HCON5
  clear HO3 HO4 HO5
  obtain ⟨W7, hW7⟩ : ∃ W7, W7 = W6.alloc (.cells #[.string (dot arcs), .int .i64 2, .int .i64 0, .int .u64 0, .string ⟨#[]⟩] 40) := ⟨_, rfl⟩
  have hb67 : Below W6.heap.size W6 W7 := by rw [hW7]; exact (Below.refl _ _).alloc (Nat.le_refl _) _
  have HQ7 : Hid (W7.heap[W6.heap.size]? = some (.cells #[.string (dot arcs), .int .i64 2, .int .i64 0, .int .u64 0, .string ⟨#[]⟩] 40 (0, 0))) := by unfold Hid; rw [hW7]; exact heap_alloc_new W6 _
  have HZ7 := Lib.hid ((hb67.block _ (Lib.lt_of_heap HZ6.out)).trans HZ6.out)
  have HB7 : Hid (Below w.heap.size w W7) := HB6.out.trans (hb67.mono HB6.out.size)
  have HV7 := Lib.hid (HV6.out.keptBelow hb67)
  have HCON7 := Lib.hid (specOfInt _ _ n hn (HCON6.out.keptBelow hb67))
  have HLT : Hid (w.heap.size < W6.heap.size) := Lib.lt_of_heap HZ6.out
  have HW7 := Lib.hid hW7
  clear hb67 hW7 HZ6 HB6 HV6 HCON6
  go_wp2_with (go_at_call 45; rw [← HW7.out]; refine (HCON7.out).mono ?_; rintro e W8 ⟨rfl, hb8⟩; refine Hid.out ?_)
  refine Lib.hid ?_
  have HQ8 := Lib.hid ((hb8.block _ (Lib.lt_of_heap HQ7.out)).trans HQ7.out)
  have HZ8 := Lib.hid ((hb8.block _ (Lib.lt_of_heap HZ7.out)).trans HZ7.out)
  have HB8 : Hid (Below w.heap.size w W8) := HB7.out.trans (hb8.mono HB7.out.size)
  have HV8 := Lib.hid (HV7.out.keptBelow hb8)
  have q2 : W8.cell? ⟨W6.heap.size, 2, none⟩ = some (.int .i64 0) := by rw [Lib.cell_of_heap HQ8.out]; rfl
  have qf : W8.frozen? ⟨W6.heap.size, 2, none⟩ = false := Lib.frozen_of_heap HQ8.out 2
  clear hb8 HW7 HQ7 HZ7 HB7 HV7 HCON7
  go_upto_region 38 with fail
  obtain ⟨W7, hW7⟩ : ∃ W7, W7 = W8.setCell ⟨W6.heap.size, 2, none⟩ (.int .i64 n) := ⟨_, rfl⟩
  rw [← hW7]
  have HQ7 : Hid (W7.heap[W6.heap.size]? = some (.cells #[.string (dot arcs), .int .i64 2, .int .i64 n, .int .u64 0, .string ⟨#[]⟩] 40 (0, 0))) := by unfold Hid; rw [hW7]; exact Lib.heap_setCell_same (i := 2) HQ8.out _
  have HZ7 : Hid (W7.heap[w.heap.size]? = some (.cells #[.string ⟨#[]⟩, .int .i64 0, .int .i64 0, .int .u64 0, .string ⟨#[]⟩] 40 (0, 0))) := by unfold Hid; rw [hW7, Below.heap_setCell _ _ _ _ (by have := HLT.out; simp; omega)]; exact HZ8.out
  have HB7 : Hid (Below w.heap.size w W7) := by unfold Hid; rw [hW7]; exact HB8.out.setCell (by have := HLT.out; simp; omega) _
  have HV7 : Hid (Rd W7 vr rest) := by
    rw [hW7]
    exact HV8.out.offCell HQ8.out (fun j x => by rcases j with _ | _ | _ | _ | _ | j <;> simp) ((Kp.refl _ _).setCell (.inl (by simp)) _)
  clear hW7 HQ8 HZ8 HB8 HV8 q2 qf
  have e0 : W7.cell? ⟨W6.heap.size, 0, none⟩ = some (.string (dot arcs)) := by rw [Lib.cell_of_heap HQ7.out]; rfl
  have e1 : W7.cell? ⟨W6.heap.size, 1, none⟩ = some (.int .i64 2) := by rw [Lib.cell_of_heap HQ7.out]; rfl
  have e2 : W7.cell? ⟨W6.heap.size, 2, none⟩ = some (.int .i64 n) := by rw [Lib.cell_of_heap HQ7.out]; rfl
  have e3 : W7.cell? ⟨W6.heap.size, 3, none⟩ = some (.int .u64 0) := by rw [Lib.cell_of_heap HQ7.out]; rfl
  have e4 : W7.cell? ⟨W6.heap.size, 4, none⟩ = some (.string ⟨#[]⟩) := by rw [Lib.cell_of_heap HQ7.out]; rfl
  have s0 : W7.cell? ⟨w.heap.size, 0, none⟩ = some (.string ⟨#[]⟩) := by rw [Lib.cell_of_heap HZ7.out]; rfl
  have s1 : W7.cell? ⟨w.heap.size, 1, none⟩ = some (.int .i64 0) := by rw [Lib.cell_of_heap HZ7.out]; rfl
  have s2 : W7.cell? ⟨w.heap.size, 2, none⟩ = some (.int .i64 0) := by rw [Lib.cell_of_heap HZ7.out]; rfl
  have s3 : W7.cell? ⟨w.heap.size, 3, none⟩ = some (.int .u64 0) := by rw [Lib.cell_of_heap HZ7.out]; rfl
  have s4 : W7.cell? ⟨w.heap.size, 4, none⟩ = some (.string ⟨#[]⟩) := by rw [Lib.cell_of_heap HZ7.out]; rfl
  have sf : ∀ i, W7.frozen? ⟨w.heap.size, i, none⟩ = false := fun i => Lib.frozen_of_heap HZ7.out i
  have HS := Lib.hid (setCells_at (g := w.heap.size) (T := 40) [(.string (dot arcs)), (.int .i64 2), (.int .i64 n), (.int .u64 0), (.string ⟨#[]⟩)] 0 W7 _ HZ7.out (by simp))
  go_wp2
  change bodyPost _ _ _ _ _ (W7.setCells w.heap.size 0 [(.string (dot arcs)), (.int .i64 2), (.int .i64 n), (.int .u64 0), (.string ⟨#[]⟩)])
  obtain ⟨z1, z2⟩ := HS.out
  have HVF : Hid (Rd (W7.setCells w.heap.size 0 [(.string (dot arcs)), (.int .i64 2), (.int .i64 n), (.int .u64 0), (.string ⟨#[]⟩)]) vr rest) := HV7.out.offCell HZ7.out z40_no z2
  have HBF : Hid (Below w.heap.size w (W7.setCells w.heap.size 0 [(.string (dot arcs)), (.int .i64 2), (.int .i64 n), (.int .u64 0), (.string ⟨#[]⟩)])) := HB7.out.trans (z2.below HB7.out.size (by simp))
  generalize W7.setCells w.heap.size 0 [(.string (dot arcs)), (.int .i64 2), (.int .i64 n), (.int .u64 0), (.string ⟨#[]⟩)] = WF at z1 z2 HVF HBF ⊢
  have k0 : WF.cell? ⟨w.heap.size, 0, none⟩ = some (.string (dot arcs)) := by rw [Lib.cell_of_heap z1]; rfl
  have k1 : WF.cell? ⟨w.heap.size, 1, none⟩ = some (.int .i64 2) := by rw [Lib.cell_of_heap z1]; rfl
  have k2 : WF.cell? ⟨w.heap.size, 2, none⟩ = some (.int .i64 n) := by rw [Lib.cell_of_heap z1]; rfl
  have k3 : WF.cell? ⟨w.heap.size, 3, none⟩ = some (.int .u64 0) := by rw [Lib.cell_of_heap z1]; rfl
  have k4 : WF.cell? ⟨w.heap.size, 4, none⟩ = some (.string ⟨#[]⟩) := by rw [Lib.cell_of_heap z1]; rfl
  try simp only [Exit.inBlock, Exit.then]
  refine bodyPost_ret (v := .tuple #[.agg #[.string (dot arcs), .int .i64 2, .int .i64 n, .int .u64 0, .string ⟨#[]⟩], vr, .bool true]) (by simp [results, Tryz.results30, go_sem, k0, k1, k2, k3, k4]) rfl ?_
  exact ⟨vr, rfl, HVF.out, HBF.out⟩
set_option maxHeartbeats 8000000 in
set_option maxRecDepth 100000 in
theorem ofVar_65 (v : Value) (w : World) (arcs : List Nat) (n : Nat) (rest : List Int) (hg : GoodArcs arcs) (hn : n < 4294967296) (hsz : rest.length ≤ 100000) (hr : Rd w v (varB arcs (.u32 65 n) 0 ++ rest)) :
    Calls Tryz.prog 30 #[v] w (RetVar w (dot arcs) (.u32 65 n) rest) := by
  obtain ⟨W1, hW1⟩ : ∃ W1, W1 = w.alloc (.cells #[.string ⟨#[]⟩, .int .i64 0, .int .i64 0, .int .u64 0, .string ⟨#[]⟩] 40) := ⟨_, rfl⟩
  have hb1 : Below w.heap.size w W1 := by rw [hW1]; exact (Below.refl _ _).alloc (Nat.le_refl _) _
  have hz1 : W1.heap[w.heap.size]? = some (.cells #[.string ⟨#[]⟩, .int .i64 0, .int .i64 0, .int .u64 0, .string ⟨#[]⟩] 40 (0, 0)) := by rw [hW1]; exact heap_alloc_new w _
  have HG := Lib.hid hg
  have hcl : (uintB n).length ≤ 500 := Pay.con_len (p := .u32 65 n) (by exact ⟨.inl rfl, hn⟩)
  have hnl : (nameB arcs).length ≤ 100 := hg.bytes
  have l1 := sealB_short 6 (nameB arcs) (by omega)
  have l2 := sealB_short (65) (uintB n) (by omega)
  have HO1 := Lib.hid (specNext v W1 48 (sealB 6 (nameB arcs) 0 ++ sealB (65) (uintB n) 0) rest (hr.keptBelow hb1) (by omega) (by rw [List.length_append]; omega) hsz)
  have HO2 : Hid (∀ W u, Rd W u (sealB 6 (nameB arcs) 0 ++ sealB (65) (uintB n) 0) → Calls Tryz.prog 25 #[u, .int .i64 6] W (RetNext W (nameB arcs) (sealB (65) (uintB n) 0))) := fun W u h => specNext u W 6 _ _ h (by omega) (by omega) (by omega)
  have HO3 : Hid (∀ W u, Rd W u (nameB arcs) → Calls Tryz.prog 27 #[u] W (RetName W arcs)) := fun W u h => ofName_of HG.out HG.out.small h
  have HO4 : Hid (∀ W u, Rd W u (sealB (65) (uintB n) 0) → Calls Tryz.prog 44 #[u] W (RetOpen W (65) (uintB n) [])) := fun W u h => specOpen u W (65) _ [] (by rw [List.append_nil]; exact h) (by omega) (by omega) (by simp)
  have HO5 : Hid (∀ W u, OwnCSome W u arcs → Calls Tryz.prog 24 #[u] W fun e w' => e = .returned (.string (dot arcs)) ∧ Below W.heap.size W w') := fun W u ⟨B, h⟩ => dotted u arcs W (RdN.of_own h) HG.out.small HG.out.sixty
  have HB1 := Lib.hid hb1
  have HW1 := Lib.hid hW1
  have HZ1 := Lib.hid hz1
  clear hb1 hW1 hz1 hr hcl hnl l1 l2 hg
  go_enter Tryz.func30, Tryz.ntmps30
  go_wp2_with (go_at_call 25; rw [← HW1.out]; refine (HO1.out).mono ?_; rintro e W2 ⟨v1, vr, rfl, h1, h2, hb2⟩; refine Hid.out ?_)
  refine Lib.hid ?_
  have HB2 : Hid (Below w.heap.size w W2) := HB1.out.trans (hb2.mono HB1.out.size)
  have HZ2 := Lib.hid ((hb2.block _ (Lib.lt_of_heap HZ1.out)).trans HZ1.out)
  have HV2 := Lib.hid h2
  have HC2 := Lib.hid (HO2.out W2 v1 h1)
  clear h1 h2 hb2 HO1 HO2 HW1 HZ1 HB1
  go_wp2_with (go_at_call 25; refine (HC2.out).mono ?_; rintro e W3 ⟨vn, vi, rfl, h1, h2, hb3⟩; refine Hid.out ?_)
  refine Lib.hid ?_
  have HB3 : Hid (Below w.heap.size w W3) := HB2.out.trans (hb3.mono HB2.out.size)
  have HZ3 := Lib.hid ((hb3.block _ (Lib.lt_of_heap HZ2.out)).trans HZ2.out)
  have HV3 := Lib.hid (HV2.out.keptBelow hb3)
  have HI3 := Lib.hid h2
  have HC3 := Lib.hid (HO3.out W3 vn h1)
  clear h1 h2 hb3 HC2 HZ2 HB2 HV2
  go_wp2_with (go_at_call 27; refine (HC3.out).mono ?_; rintro e W4 ⟨va, rfl, h1, hb4⟩; refine Hid.out ?_)
  refine Lib.hid ?_
  have HB4 : Hid (Below w.heap.size w W4) := HB3.out.trans (hb4.mono HB3.out.size)
  have HZ4 := Lib.hid ((hb4.block _ (Lib.lt_of_heap HZ3.out)).trans HZ3.out)
  have HV4 := Lib.hid (HV3.out.keptBelow hb4)
  have HA4 := Lib.hid h1
  have HC4 := Lib.hid (HO4.out W4 vi (HI3.out.keptBelow hb4))
  clear h1 hb4 HC3 HZ3 HB3 HV3 HI3
  go_wp2_with (go_at_call 44; refine (HC4.out).mono ?_; rintro e W5 ⟨vc, vl, rfl, h1, h2, hb5⟩; refine Hid.out ?_)
  refine Lib.hid ?_
  have HB5 : Hid (Below w.heap.size w W5) := HB4.out.trans (hb5.mono HB4.out.size)
  have HZ5 := Lib.hid ((hb5.block _ (Lib.lt_of_heap HZ4.out)).trans HZ4.out)
  have HV5 := Lib.hid (HV4.out.keptBelow hb5)
  have HC5 := Lib.hid (HO5.out W5 va ⟨_, HA4.out.below hb5⟩)
  have HCON5 := Lib.hid h1
  have hLl : ∀ W, (Builtin.len_ #[30] 3 #[vl]).run Tryz.prog W = .ok (.int .i64 0) W := h2.lenAt 0 rfl
  clear h1 h2 hb5 HC4 HZ4 HB4 HV4 HA4
  go_wp2_with (go_at_call 24; refine (HC5.out).mono ?_; rintro e W6 ⟨rfl, hb6⟩; refine Hid.out ?_)
  refine Lib.hid ?_
  have HB6 : Hid (Below w.heap.size w W6) := HB5.out.trans (hb6.mono HB5.out.size)
  have HZ6 := Lib.hid ((hb6.block _ (Lib.lt_of_heap HZ5.out)).trans HZ5.out)
  have HV6 := Lib.hid (HV5.out.keptBelow hb6)
  have HCON6 := Lib.hid (HCON5.out.keptBelow hb6)
  clear hb6 HC5 HZ5 HB5 HV5 HCON5
  clear HO3 HO4 HO5
  obtain ⟨W7, hW7⟩ : ∃ W7, W7 = W6.alloc (.cells #[.string (dot arcs), .int .i64 65, .int .i64 0, .int .u64 0, .string ⟨#[]⟩] 40) := ⟨_, rfl⟩
  have hb67 : Below W6.heap.size W6 W7 := by rw [hW7]; exact (Below.refl _ _).alloc (Nat.le_refl _) _
  have HQ7 : Hid (W7.heap[W6.heap.size]? = some (.cells #[.string (dot arcs), .int .i64 65, .int .i64 0, .int .u64 0, .string ⟨#[]⟩] 40 (0, 0))) := by unfold Hid; rw [hW7]; exact heap_alloc_new W6 _
  have HZ7 := Lib.hid ((hb67.block _ (Lib.lt_of_heap HZ6.out)).trans HZ6.out)
  have HB7 : Hid (Below w.heap.size w W7) := HB6.out.trans (hb67.mono HB6.out.size)
  have HV7 := Lib.hid (HV6.out.keptBelow hb67)
  have HCON7 := Lib.hid (specOfUint _ _ n (by omega) (HCON6.out.keptBelow hb67))
  have HLT : Hid (w.heap.size < W6.heap.size) := Lib.lt_of_heap HZ6.out
  have HW7 := Lib.hid hW7
  clear hb67 hW7 HZ6 HB6 HV6 HCON6
  go_wp2_with (go_at_call 28; rw [← HW7.out]; refine (HCON7.out).mono ?_; rintro e W8 ⟨rfl, hb8⟩; refine Hid.out ?_)
  refine Lib.hid ?_
  have HQ8 := Lib.hid ((hb8.block _ (Lib.lt_of_heap HQ7.out)).trans HQ7.out)
  have HZ8 := Lib.hid ((hb8.block _ (Lib.lt_of_heap HZ7.out)).trans HZ7.out)
  have HB8 : Hid (Below w.heap.size w W8) := HB7.out.trans (hb8.mono HB7.out.size)
  have HV8 := Lib.hid (HV7.out.keptBelow hb8)
  have q3 : W8.cell? ⟨W6.heap.size, 3, none⟩ = some (.int .u64 0) := by rw [Lib.cell_of_heap HQ8.out]; rfl
  have qf : W8.frozen? ⟨W6.heap.size, 3, none⟩ = false := Lib.frozen_of_heap HQ8.out 3
  clear hb8 HW7 HQ7 HZ7 HB7 HV7 HCON7
  go_upto_region 38 with fail
  obtain ⟨W7, hW7⟩ : ∃ W7, W7 = W8.setCell ⟨W6.heap.size, 3, none⟩ (.int .u64 n) := ⟨_, rfl⟩
  rw [← hW7]
  have HQ7 : Hid (W7.heap[W6.heap.size]? = some (.cells #[.string (dot arcs), .int .i64 65, .int .i64 0, .int .u64 n, .string ⟨#[]⟩] 40 (0, 0))) := by unfold Hid; rw [hW7]; exact Lib.heap_setCell_same (i := 3) HQ8.out _
  have HZ7 : Hid (W7.heap[w.heap.size]? = some (.cells #[.string ⟨#[]⟩, .int .i64 0, .int .i64 0, .int .u64 0, .string ⟨#[]⟩] 40 (0, 0))) := by unfold Hid; rw [hW7, Below.heap_setCell _ _ _ _ (by have := HLT.out; simp; omega)]; exact HZ8.out
  have HB7 : Hid (Below w.heap.size w W7) := by unfold Hid; rw [hW7]; exact HB8.out.setCell (by have := HLT.out; simp; omega) _
  have HV7 : Hid (Rd W7 vr rest) := by
    rw [hW7]
    exact HV8.out.offCell HQ8.out (fun j x => by rcases j with _ | _ | _ | _ | _ | j <;> simp) ((Kp.refl _ _).setCell (.inl (by simp)) _)
  clear hW7 HQ8 HZ8 HB8 HV8 q3 qf
  have e0 : W7.cell? ⟨W6.heap.size, 0, none⟩ = some (.string (dot arcs)) := by rw [Lib.cell_of_heap HQ7.out]; rfl
  have e1 : W7.cell? ⟨W6.heap.size, 1, none⟩ = some (.int .i64 65) := by rw [Lib.cell_of_heap HQ7.out]; rfl
  have e2 : W7.cell? ⟨W6.heap.size, 2, none⟩ = some (.int .i64 0) := by rw [Lib.cell_of_heap HQ7.out]; rfl
  have e3 : W7.cell? ⟨W6.heap.size, 3, none⟩ = some (.int .u64 n) := by rw [Lib.cell_of_heap HQ7.out]; rfl
  have e4 : W7.cell? ⟨W6.heap.size, 4, none⟩ = some (.string ⟨#[]⟩) := by rw [Lib.cell_of_heap HQ7.out]; rfl
  have s0 : W7.cell? ⟨w.heap.size, 0, none⟩ = some (.string ⟨#[]⟩) := by rw [Lib.cell_of_heap HZ7.out]; rfl
  have s1 : W7.cell? ⟨w.heap.size, 1, none⟩ = some (.int .i64 0) := by rw [Lib.cell_of_heap HZ7.out]; rfl
  have s2 : W7.cell? ⟨w.heap.size, 2, none⟩ = some (.int .i64 0) := by rw [Lib.cell_of_heap HZ7.out]; rfl
  have s3 : W7.cell? ⟨w.heap.size, 3, none⟩ = some (.int .u64 0) := by rw [Lib.cell_of_heap HZ7.out]; rfl
  have s4 : W7.cell? ⟨w.heap.size, 4, none⟩ = some (.string ⟨#[]⟩) := by rw [Lib.cell_of_heap HZ7.out]; rfl
  have sf : ∀ i, W7.frozen? ⟨w.heap.size, i, none⟩ = false := fun i => Lib.frozen_of_heap HZ7.out i
  have HS := Lib.hid (setCells_at (g := w.heap.size) (T := 40) [(.string (dot arcs)), (.int .i64 65), (.int .i64 0), (.int .u64 n), (.string ⟨#[]⟩)] 0 W7 _ HZ7.out (by simp))
  go_wp2
  change bodyPost _ _ _ _ _ (W7.setCells w.heap.size 0 [(.string (dot arcs)), (.int .i64 65), (.int .i64 0), (.int .u64 n), (.string ⟨#[]⟩)])
  obtain ⟨z1, z2⟩ := HS.out
  have HVF : Hid (Rd (W7.setCells w.heap.size 0 [(.string (dot arcs)), (.int .i64 65), (.int .i64 0), (.int .u64 n), (.string ⟨#[]⟩)]) vr rest) := HV7.out.offCell HZ7.out z40_no z2
  have HBF : Hid (Below w.heap.size w (W7.setCells w.heap.size 0 [(.string (dot arcs)), (.int .i64 65), (.int .i64 0), (.int .u64 n), (.string ⟨#[]⟩)])) := HB7.out.trans (z2.below HB7.out.size (by simp))
  generalize W7.setCells w.heap.size 0 [(.string (dot arcs)), (.int .i64 65), (.int .i64 0), (.int .u64 n), (.string ⟨#[]⟩)] = WF at z1 z2 HVF HBF ⊢
  have k0 : WF.cell? ⟨w.heap.size, 0, none⟩ = some (.string (dot arcs)) := by rw [Lib.cell_of_heap z1]; rfl
  have k1 : WF.cell? ⟨w.heap.size, 1, none⟩ = some (.int .i64 65) := by rw [Lib.cell_of_heap z1]; rfl
  have k2 : WF.cell? ⟨w.heap.size, 2, none⟩ = some (.int .i64 0) := by rw [Lib.cell_of_heap z1]; rfl
  have k3 : WF.cell? ⟨w.heap.size, 3, none⟩ = some (.int .u64 n) := by rw [Lib.cell_of_heap z1]; rfl
  have k4 : WF.cell? ⟨w.heap.size, 4, none⟩ = some (.string ⟨#[]⟩) := by rw [Lib.cell_of_heap z1]; rfl
  try simp only [Exit.inBlock, Exit.then]
  refine bodyPost_ret (v := .tuple #[.agg #[.string (dot arcs), .int .i64 65, .int .i64 0, .int .u64 n, .string ⟨#[]⟩], vr, .bool true]) (by simp [results, Tryz.results30, go_sem, k0, k1, k2, k3, k4]) rfl ?_
  exact ⟨vr, rfl, HVF.out, HBF.out⟩
end Go.Proofs.YtpfmcdhmboclhaaGreatDoor
