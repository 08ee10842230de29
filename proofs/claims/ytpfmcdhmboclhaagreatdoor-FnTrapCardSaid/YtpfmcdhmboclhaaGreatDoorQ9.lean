/- spec: a variable out of its bytes: an address. -/
import Derived.Test.YtpfmcdhmboclhaaGreatDoorT09
import Derived.Deep.RegionHeld3
set_option linter.unusedVariables false
set_option linter.unusedSimpArgs false
namespace Go.Proofs.YtpfmcdhmboclhaaGreatDoor
open Go.RowKit

/-- The text of the first numbers of an address. -/
def ipAt (a b c d : Nat) : Nat → List Int
  | 0 => []
  | 1 => figs a
  | 2 => figs a ++ [46] ++ figs b
  | 3 => figs a ++ [46] ++ figs b ++ [46] ++ figs c
  | _ => ipT a b c d
theorem ipAt_step {a b c d j x : Nat} (hj : 1 ≤ j) (hx : [a, b, c, d][j]? = some x) : ipAt a b c d (j + 1) = ipAt a b c d j ++ [46] ++ figs x := by
  match j, hj with
  | 1, _ => simp at hx; subst hx; rfl
  | 2, _ => simp at hx; subst hx; rfl
  | 3, _ => simp at hx; subst hx; rfl
  | j + 4, _ => simp at hx
theorem ipAt_short {a b c d j : Nat} (ha : a < 256) (hb : b < 256) (hc : c < 256) (hd : d < 256) (hj : j ≤ 4) : (ipAt a b c d j).length ≤ 15 := by
  have h1 := figs_byte a ha
  have h2 := figs_byte b hb
  have h3 := figs_byte c hc
  have h4 := figs_byte d hd
  match j, hj with
  | 0, _ => simp [ipAt]
  | 1, _ => simp [ipAt]; omega
  | 2, _ => simp [ipAt]; omega
  | 3, _ => simp [ipAt]; omega
  | 4, _ => simp [ipAt, ipT]; omega
set_option maxHeartbeats 8000000 in
set_option maxRecDepth 100000 in
theorem ofVar_64 (v : Value) (w : World) (arcs : List Nat) (s : ByteArray) (a b c d : Nat) (rest : List Int) (hg : GoodArcs arcs) (hip : ipOf (bytesOf s) = some [a, b, c, d]) (hss : s.size ≤ 2147483647) (ha : a < 256) (hb : b < 256) (hc : c < 256) (hd : d < 256) (hsz : rest.length ≤ 100000) (hr : Rd w v (varB arcs (.ip s a b c d) 0 ++ rest)) :
    Calls Tryz.prog 30 #[v] w (RetVar w (dot arcs) (.ip s a b c d) rest) := by
  obtain ⟨W1, hW1⟩ : ∃ W1, W1 = w.alloc (.cells #[.string ⟨#[]⟩, .int .i64 0, .int .i64 0, .int .u64 0, .string ⟨#[]⟩] 40) := ⟨_, rfl⟩
  have hb1 : Below w.heap.size w W1 := by rw [hW1]; exact (Below.refl _ _).alloc (Nat.le_refl _) _
  have hz1 : W1.heap[w.heap.size]? = some (.cells #[.string ⟨#[]⟩, .int .i64 0, .int .i64 0, .int .u64 0, .string ⟨#[]⟩] 40 (0, 0)) := by rw [hW1]; exact heap_alloc_new w _
  have HG := Lib.hid hg
  have hcl : ([(a : Int), (b : Int), (c : Int), (d : Int)]).length ≤ 500 := Pay.con_len (p := .ip s a b c d) (by exact ⟨hip, hss⟩)
  have hnl : (nameB arcs).length ≤ 100 := hg.bytes
  have l1 := sealB_short 6 (nameB arcs) (by omega)
  have l2 := sealB_short (64) ([(a : Int), (b : Int), (c : Int), (d : Int)]) (by omega)
  have HO1 := Lib.hid (specNext v W1 48 (sealB 6 (nameB arcs) 0 ++ sealB (64) ([(a : Int), (b : Int), (c : Int), (d : Int)]) 0) rest (hr.keptBelow hb1) (by omega) (by rw [List.length_append]; omega) hsz)
  have HO2 : Hid (∀ W u, Rd W u (sealB 6 (nameB arcs) 0 ++ sealB (64) ([(a : Int), (b : Int), (c : Int), (d : Int)]) 0) → Calls Tryz.prog 25 #[u, .int .i64 6] W (RetNext W (nameB arcs) (sealB (64) ([(a : Int), (b : Int), (c : Int), (d : Int)]) 0))) := fun W u h => specNext u W 6 _ _ h (by omega) (by omega) (by omega)
  have HO3 : Hid (∀ W u, Rd W u (nameB arcs) → Calls Tryz.prog 27 #[u] W (RetName W arcs)) := fun W u h => ofName_of HG.out HG.out.small h
  have HO4 : Hid (∀ W u, Rd W u (sealB (64) ([(a : Int), (b : Int), (c : Int), (d : Int)]) 0) → Calls Tryz.prog 44 #[u] W (RetOpen W (64) ([(a : Int), (b : Int), (c : Int), (d : Int)]) [])) := fun W u h => specOpen u W (64) _ [] (by rw [List.append_nil]; exact h) (by omega) (by omega) (by simp)
  have HO5 : Hid (∀ W u, OwnCSome W u arcs → Calls Tryz.prog 24 #[u] W fun e w' => e = .returned (.string (dot arcs)) ∧ Below W.heap.size W w') := fun W u ⟨B, h⟩ => dotted u arcs W (RdN.of_own h) HG.out.small HG.out.sixty
  have HB1 := Lib.hid hb1
  have HW1 := Lib.hid hW1
  have HZ1 := Lib.hid hz1
  clear hb1 hW1 hz1 hr hcl hnl l1 l2 hg
  go_enter Tryz.func30, Tryz.ntmps30
  go_wp2_with (go_at_call 25; rw [← HW1.out]; refine (HO1.out).mono ?_; rintro e W2 ⟨v1, vr, rfl, h1, h2, hb2⟩; refine Hid.out ?_)
  refine Lib.hid ?_
  have HB2 : Hid (Below w.heap.size w W2) := HB1.out.trans (hb2.mono HB1.out.size)
  have HZ2 := Lib.hid ((hb2.block _ (Lib.lt_of_heap HZ1.out)).trans HZ1.out)
  have HV2 := Lib.hid h2
  have HC2 := Lib.hid (HO2.out W2 v1 h1)
  clear h1 h2 hb2 HO1 HO2 HW1 HZ1 HB1
  go_wp2_with (go_at_call 25; refine (HC2.out).mono ?_; rintro e W3 ⟨vn, vi, rfl, h1, h2, hb3⟩; refine Hid.out ?_)
  refine Lib.hid ?_
  have HB3 : Hid (Below w.heap.size w W3) := HB2.out.trans (hb3.mono HB2.out.size)
  have HZ3 := Lib.hid ((hb3.block _ (Lib.lt_of_heap HZ2.out)).trans HZ2.out)
  have HV3 := Lib.hid (HV2.out.keptBelow hb3)
  have HI3 := Lib.hid h2
  have HC3 := Lib.hid (HO3.out W3 vn h1)
  clear h1 h2 hb3 HC2 HZ2 HB2 HV2
  go_wp2_with (go_at_call 27; refine (HC3.out).mono ?_; rintro e W4 ⟨va, rfl, h1, hb4⟩; refine Hid.out ?_)
  refine Lib.hid ?_
  have HB4 : Hid (Below w.heap.size w W4) := HB3.out.trans (hb4.mono HB3.out.size)
  have HZ4 := Lib.hid ((hb4.block _ (Lib.lt_of_heap HZ3.out)).trans HZ3.out)
  have HV4 := Lib.hid (HV3.out.keptBelow hb4)
  have HA4 := Lib.hid h1
  have HC4 := Lib.hid (HO4.out W4 vi (HI3.out.keptBelow hb4))
  clear h1 hb4 HC3 HZ3 HB3 HV3 HI3
  go_wp2_with (go_at_call 44; refine (HC4.out).mono ?_; rintro e W5 ⟨vc, vl, rfl, h1, h2, hb5⟩; refine Hid.out ?_)
  refine Lib.hid ?_
  have HB5 : Hid (Below w.heap.size w W5) := HB4.out.trans (hb5.mono HB4.out.size)
  have HZ5 := Lib.hid ((hb5.block _ (Lib.lt_of_heap HZ4.out)).trans HZ4.out)
  have HV5 := Lib.hid (HV4.out.keptBelow hb5)
  have HC5 := Lib.hid (HO5.out W5 va ⟨_, HA4.out.below hb5⟩)
  have HCON5 := Lib.hid h1
  have hLl : ∀ W, (Builtin.len_ #[30] 3 #[vl]).run Tryz.prog W = .ok (.int .i64 0) W := h2.lenAt 0 rfl
  clear h1 h2 hb5 HC4 HZ4 HB4 HV4 HA4
  go_wp2_with (go_at_call 24; refine (HC5.out).mono ?_; rintro e W6 ⟨rfl, hb6⟩; refine Hid.out ?_)
  refine Lib.hid ?_
  have HB6 : Hid (Below w.heap.size w W6) := HB5.out.trans (hb6.mono HB5.out.size)
  have HZ6 := Lib.hid ((hb6.block _ (Lib.lt_of_heap HZ5.out)).trans HZ5.out)
  have HV6 := Lib.hid (HV5.out.keptBelow hb6)
  have HCON6 := Lib.hid (HCON5.out.keptBelow hb6)
  clear hb6 HC5 HZ5 HB5 HV5 HCON5
  clear HO3 HO4 HO5
  have hLc : ∀ W, (Builtin.len_ #[30] 3 #[vc]).run Tryz.prog W = .ok (.int .i64 4) W := HCON6.out.lenAt 4 rfl
  obtain ⟨W7, hW7⟩ : ∃ W7, W7 = W6.alloc (.cells #[.string (dot arcs), .int .i64 64, .int .i64 0, .int .u64 0, .string ⟨#[]⟩] 40) := ⟨_, rfl⟩
  have hb67 : Below W6.heap.size W6 W7 := by rw [hW7]; exact (Below.refl _ _).alloc (Nat.le_refl _) _
  have HQ7 : Hid (W7.heap[W6.heap.size]? = some (.cells #[.string (dot arcs), .int .i64 64, .int .i64 0, .int .u64 0, .string ⟨#[]⟩] 40 (0, 0))) := by unfold Hid; rw [hW7]; exact heap_alloc_new W6 _
  have HZ7 := Lib.hid ((hb67.block _ (Lib.lt_of_heap HZ6.out)).trans HZ6.out)
  have HB7 : Hid (Below w.heap.size w W7) := HB6.out.trans (hb67.mono HB6.out.size)
  have HV7 := Lib.hid (HV6.out.keptBelow hb67)
  have HCON7 := Lib.hid (HCON6.out.keptBelow hb67)
  have HLT : Hid (w.heap.size < W6.heap.size) := Lib.lt_of_heap HZ6.out
  clear hb67 HZ6 HB6 HV6 HCON6 hip hss
  obtain ⟨Q, hQ⟩ : ∃ Q, Q = W6.heap.size := ⟨_, rfl⟩
  go_wp2
  rw [← hW7]
  rw [← hQ] at HQ7 HLT ⊢
  clear hW7 hQ
  go_loopw [109] (fun i wr => ∃ (j : Nat) (t : ByteArray), i = .int .i64 j ∧ j ≤ 4 ∧ bytesOf t = ipAt a b c d j ∧ wr.heap[Q]? = some (.cells #[.string (dot arcs), .int .i64 64, .int .i64 0, .int .u64 0, .string t] 40 (0, 0)) ∧ wr.heap[w.heap.size]? = some (.cells #[.string ⟨#[]⟩, .int .i64 0, .int .i64 0, .int .u64 0, .string ⟨#[]⟩] 40 (0, 0)) ∧ Below w.heap.size w wr ∧ Rd wr vr rest ∧ Rd wr vc [(a : Int), (b : Int), (c : Int), (d : Int)]) (fun i _ => 4 - (intOf i).toNat)
  case atStart => exact ⟨0, ⟨#[]⟩, rfl, by omega, rfl, HQ7.out, HZ7.out, HB7.out, HV7.out, HCON7.out⟩
  case round =>
    obtain ⟨j, t, rfl, hj, ht, hq, hz, hbb, hv, hcn⟩ := hrel
    obtain ⟨W8, rfl⟩ : ∃ W8 : World, W8 = wr := ⟨_, rfl⟩
    clear HQ7 HZ7 HB7 HV7 HCON7
    have HQ8 := Lib.hid hq
    have HZ8 := Lib.hid hz
    have HB8 := Lib.hid hbb
    have HV8 := Lib.hid hv
    have HC8 := Lib.hid hcn
    have HTT := Lib.hid ht
    clear hq hz hbb hv hcn ht
    by_cases hj4 : j = 4
    · subst hj4
      have htt : t = txt (ipT a b c d) := by have h := congrArg txt HTT.out; rw [txt_bytes] at h; exact h
      subst htt
      go_upto_region 38 with fail
      obtain ⟨W7, hW7⟩ : ∃ W7, W7 = W8 := ⟨_, rfl⟩
      rw [← hW7] at HQ8 HZ8 HB8 HV8 ⊢
      have HQ7 := HQ8
      have HZ7 := HZ8
      have HB7 := HB8
      have HV7 := HV8
      clear hW7 HQ8 HZ8 HB8 HV8 HC8 HTT
      have e0 : W7.cell? ⟨Q, 0, none⟩ = some (.string (dot arcs)) := by rw [Lib.cell_of_heap HQ7.out]; rfl
      have e1 : W7.cell? ⟨Q, 1, none⟩ = some (.int .i64 64) := by rw [Lib.cell_of_heap HQ7.out]; rfl
      have e2 : W7.cell? ⟨Q, 2, none⟩ = some (.int .i64 0) := by rw [Lib.cell_of_heap HQ7.out]; rfl
      have e3 : W7.cell? ⟨Q, 3, none⟩ = some (.int .u64 0) := by rw [Lib.cell_of_heap HQ7.out]; rfl
      have e4 : W7.cell? ⟨Q, 4, none⟩ = some (.string (txt (ipT a b c d))) := by rw [Lib.cell_of_heap HQ7.out]; rfl
      have s0 : W7.cell? ⟨w.heap.size, 0, none⟩ = some (.string ⟨#[]⟩) := by rw [Lib.cell_of_heap HZ7.out]; rfl
      have s1 : W7.cell? ⟨w.heap.size, 1, none⟩ = some (.int .i64 0) := by rw [Lib.cell_of_heap HZ7.out]; rfl
      have s2 : W7.cell? ⟨w.heap.size, 2, none⟩ = some (.int .i64 0) := by rw [Lib.cell_of_heap HZ7.out]; rfl
      have s3 : W7.cell? ⟨w.heap.size, 3, none⟩ = some (.int .u64 0) := by rw [Lib.cell_of_heap HZ7.out]; rfl
      have s4 : W7.cell? ⟨w.heap.size, 4, none⟩ = some (.string ⟨#[]⟩) := by rw [Lib.cell_of_heap HZ7.out]; rfl
      have sf : ∀ i, W7.frozen? ⟨w.heap.size, i, none⟩ = false := fun i => Lib.frozen_of_heap HZ7.out i
      have HS := Lib.hid (setCells_at (g := w.heap.size) (T := 40) [(.string (dot arcs)), (.int .i64 64), (.int .i64 0), (.int .u64 0), (.string (txt (ipT a b c d)))] 0 W7 _ HZ7.out (by simp))
      go_wp2
      change bodyPost _ _ _ _ _ (W7.setCells w.heap.size 0 [(.string (dot arcs)), (.int .i64 64), (.int .i64 0), (.int .u64 0), (.string (txt (ipT a b c d)))])
      obtain ⟨z1, z2⟩ := HS.out
      have HVF : Hid (Rd (W7.setCells w.heap.size 0 [(.string (dot arcs)), (.int .i64 64), (.int .i64 0), (.int .u64 0), (.string (txt (ipT a b c d)))]) vr rest) := HV7.out.offCell HZ7.out z40_no z2
      have HBF : Hid (Below w.heap.size w (W7.setCells w.heap.size 0 [(.string (dot arcs)), (.int .i64 64), (.int .i64 0), (.int .u64 0), (.string (txt (ipT a b c d)))])) := HB7.out.trans (z2.below HB7.out.size (by simp))
      generalize W7.setCells w.heap.size 0 [(.string (dot arcs)), (.int .i64 64), (.int .i64 0), (.int .u64 0), (.string (txt (ipT a b c d)))] = WF at z1 z2 HVF HBF ⊢
      have k0 : WF.cell? ⟨w.heap.size, 0, none⟩ = some (.string (dot arcs)) := by rw [Lib.cell_of_heap z1]; rfl
      have k1 : WF.cell? ⟨w.heap.size, 1, none⟩ = some (.int .i64 64) := by rw [Lib.cell_of_heap z1]; rfl
      have k2 : WF.cell? ⟨w.heap.size, 2, none⟩ = some (.int .i64 0) := by rw [Lib.cell_of_heap z1]; rfl
      have k3 : WF.cell? ⟨w.heap.size, 3, none⟩ = some (.int .u64 0) := by rw [Lib.cell_of_heap z1]; rfl
      have k4 : WF.cell? ⟨w.heap.size, 4, none⟩ = some (.string (txt (ipT a b c d))) := by rw [Lib.cell_of_heap z1]; rfl
      try simp only [Exit.inBlock, Exit.then]
      refine bodyPost_ret (v := .tuple #[.agg #[.string (dot arcs), .int .i64 64, .int .i64 0, .int .u64 0, .string (txt (ipT a b c d))], vr, .bool true]) (by simp [results, Tryz.results30, go_sem, k0, k1, k2, k3, k4]) rfl ?_
      exact ⟨vr, rfl, HVF.out, HBF.out⟩
    · obtain ⟨x, hx⟩ : ∃ x, [a, b, c, d][j]? = some x := ⟨_, List.getElem?_eq_getElem (by simp; omega)⟩
      have hx256 : x < 256 := by
        have := List.mem_of_getElem? hx
        simp at this
        omega
      have hxi : [(a : Int), (b : Int), (c : Int), (d : Int)][j]? = some (x : Int) := by
        have h := congrArg (Option.map (fun n : Nat => (n : Int))) hx
        rw [← List.getElem?_map] at h
        exact h
      obtain ⟨aj, ij, kj⟩ := rd_idx HC8.out j x hxi
      have cj := kj W8 HC8.out
      have HCL : Hid (∀ W, Calls Tryz.prog 29 #[.int .u64 x] W fun e w' => e = .returned (.string (txt (figs x))) ∧ Below W.heap.size W w') := fun W => figures x W (by omega)
      have hfs : (txt (figs x)).size ≤ 3 := by rw [txt_size]; exact figs_byte x hx256
      have hts : t.size ≤ 15 := by rw [← bytesOf_length, HTT.out]; exact ipAt_short ha hb hc hd hj
      have hwx : IntKind.u64.wrap (x : Int) = x := by rw [IntKind.wrap_u64]; omega
      have hfx : bytesOf (txt (figs x)) = figs x := bytesOf_txt _ (fun c hc => by have := figs_range x c hc; omega)
      have HX := Lib.hid hx
      have HFX := Lib.hid hfx
      have c4 : W8.cell? ⟨Q, 4, none⟩ = some (.string t) := by rw [Lib.cell_of_heap HQ8.out]; rfl
      have qf : W8.frozen? ⟨Q, 4, none⟩ = false := Lib.frozen_of_heap HQ8.out 4
      clear hx hxi kj hfx
      by_cases hj0 : j = 0
      · subst hj0
        have hs1 : ¬ 9223372036854775807 < t.size + (txt (figs x)).size := by omega
        have ij0 : ∀ W, (Instr.indexAt 30 vc (.int .i64 0)).run Tryz.prog W = .ok (.pointer (some aj)) W := ij
        have HNX : Hid (bytesOf (t ++ txt (figs x)) = ipAt a b c d (0 + 1)) := by
          unfold Hid
          have h0 : ipAt a b c d (0 + 1) = ipAt a b c d 0 ++ figs x := by
            have h := HX.out
            simp at h; subst h; rfl
          rw [h0, bytesOf_append, HTT.out, HFX.out]
        go_wp2
        have c4d : W8.drew.cell? ⟨Q, 4, none⟩ = some (.string t) := c4
        have hqd : W8.drew.heap[Q]? = _ := HQ8.out
        go_region_with (first | (go_at_call 29; refine (HCL.out _).mono ?_; rintro e W9 ⟨rfl, hb9⟩; have c9 : W9.cell? ⟨Q, 4, none⟩ = some (.string t) := cellB hb9 c4d; have f9 : W9.frozen? ⟨Q, 4, none⟩ = false := Lib.frozen_of_heap ((hb9.block _ (Lib.lt_of_heap hqd)).trans hqd) 4))
        all_goals
          replace hb9 : Below W8.heap.size W8 W9 := Below.trans (b := W8.drew) ((Below.refl _ _).drew) hb9
          have hq9 := (hb9.block _ (Lib.lt_of_heap HQ8.out)).trans HQ8.out
          have hz9 := (hb9.block _ (Lib.lt_of_heap HZ8.out)).trans HZ8.out
          have hbb9 : Below w.heap.size w W9 := HB8.out.trans (hb9.mono HB8.out.size)
          have hv9 := HV8.out.keptBelow hb9
          have hc9 := HC8.out.keptBelow hb9
          obtain ⟨X, hX⟩ : ∃ X, X = W9.setCell ⟨Q, 4, none⟩ (.string (t ++ txt (figs x))) := ⟨_, rfl⟩
          have HQX : Hid (X.heap[Q]? = some (.cells #[.string (dot arcs), .int .i64 64, .int .i64 0, .int .u64 0, .string (t ++ txt (figs x))] 40 (0, 0))) := by unfold Hid; rw [hX]; exact Lib.heap_setCell_same (i := 4) hq9 _
          have HZX : Hid (X.heap[w.heap.size]? = some (.cells #[.string ⟨#[]⟩, .int .i64 0, .int .i64 0, .int .u64 0, .string ⟨#[]⟩] 40 (0, 0))) := by unfold Hid; rw [hX, Below.heap_setCell _ _ _ _ (by have := HLT.out; simp; omega)]; exact hz9
          have HBX : Hid (Below w.heap.size w X) := by unfold Hid; rw [hX]; exact hbb9.setCell (by have := HLT.out; simp; omega) _
          have HVX : Hid (Rd X vr rest) := by
            rw [hX]
            exact hv9.offCell hq9 (fun j x => by rcases j with _ | _ | _ | _ | _ | j <;> simp) ((Kp.refl _ _).setCell (.inl (by simp)) _)
          have HCX : Hid (Rd X vc [(a : Int), (b : Int), (c : Int), (d : Int)]) := by
            rw [hX]
            exact hc9.offCell hq9 (fun j x => by rcases j with _ | _ | _ | _ | _ | j <;> simp) ((Kp.refl _ _).setCell (.inl (by simp)) _)
          rw [← hX]
          clear hX hq9 hz9 hbb9 hv9 hc9 HQ8 HZ8 HB8 HV8 HC8 c4 qf hb9 cj c4d hqd c9 f9
          go_wp2
          go_roundw
          case rel => exact ⟨0 + 1, _, by go_num, by omega, HNX.out, HQX.out, HZX.out, HBX.out, HVX.out, HCX.out⟩
          case measure => first | (simp [intOf]; done) | (simp [intOf]; omega)
      · have hj1 : 1 ≤ j := by omega
        have hw46 : ¬ 9223372036854775807 < t.size + (⟨#[46]⟩ : ByteArray).size := by have : (⟨#[46]⟩ : ByteArray).size = 1 := rfl; omega
        obtain ⟨tt, htt⟩ : ∃ tt, tt = t ++ (⟨#[46]⟩ : ByteArray) := ⟨_, rfl⟩
        have htts : tt.size ≤ 16 := by rw [htt, ByteArray.size_append]; have : (⟨#[46]⟩ : ByteArray).size = 1 := rfl; omega
        have HNX : Hid (bytesOf (tt ++ txt (figs x)) = ipAt a b c d (j + 1)) := by
          unfold Hid
          rw [ipAt_step hj1 HX.out, htt, bytesOf_append, bytesOf_append, HTT.out, HFX.out]
          rfl
        go_upto_region 31 with fail
        rw [← htt]
        clear htt
        obtain ⟨V8, hV8⟩ : ∃ V8, V8 = W8.setCell ⟨Q, 4, none⟩ (.string tt) := ⟨_, rfl⟩
        rw [← hV8]
        have HQV : Hid (V8.heap[Q]? = some (.cells #[.string (dot arcs), .int .i64 64, .int .i64 0, .int .u64 0, .string tt] 40 (0, 0))) := by unfold Hid; rw [hV8]; exact Lib.heap_setCell_same (i := 4) HQ8.out _
        have HZV : Hid (V8.heap[w.heap.size]? = some (.cells #[.string ⟨#[]⟩, .int .i64 0, .int .i64 0, .int .u64 0, .string ⟨#[]⟩] 40 (0, 0))) := by unfold Hid; rw [hV8, Below.heap_setCell _ _ _ _ (by have := HLT.out; simp; omega)]; exact HZ8.out
        have HBV : Hid (Below w.heap.size w V8) := by unfold Hid; rw [hV8]; exact HB8.out.setCell (by have := HLT.out; simp; omega) _
        have HVV : Hid (Rd V8 vr rest) := by
          rw [hV8]
          exact HV8.out.offCell HQ8.out (fun j x => by rcases j with _ | _ | _ | _ | _ | j <;> simp) ((Kp.refl _ _).setCell (.inl (by simp)) _)
        have HCV : Hid (Rd V8 vc [(a : Int), (b : Int), (c : Int), (d : Int)]) := by
          rw [hV8]
          exact HC8.out.offCell HQ8.out (fun j x => by rcases j with _ | _ | _ | _ | _ | j <;> simp) ((Kp.refl _ _).setCell (.inl (by simp)) _)
        clear hV8 HQ8 HZ8 HB8 HV8 HC8 c4 qf hw46
        obtain ⟨W8', hW8⟩ : ∃ W, W = V8 := ⟨_, rfl⟩
        have HQ8 := HQV
        have HZ8 := HZV
        have HB8 := HBV
        have HV8 := HVV
        have HC8 := HCV
        clear HQV HZV HBV HVV HCV hW8 W8'
        have c4 : V8.cell? ⟨Q, 4, none⟩ = some (.string tt) := by rw [Lib.cell_of_heap HQ8.out]; rfl
        have qf : V8.frozen? ⟨Q, 4, none⟩ = false := Lib.frozen_of_heap HQ8.out 4
        have hs1 : ¬ 9223372036854775807 < tt.size + (txt (figs x)).size := by omega
        have c4d : V8.drew.cell? ⟨Q, 4, none⟩ = some (.string tt) := c4
        have hqd : V8.drew.heap[Q]? = _ := HQ8.out
        go_region_with (first | (go_at_call 29; refine (HCL.out _).mono ?_; rintro e W9 ⟨rfl, hb9⟩; have c9 : W9.cell? ⟨Q, 4, none⟩ = some (.string tt) := cellB hb9 c4d; have f9 : W9.frozen? ⟨Q, 4, none⟩ = false := Lib.frozen_of_heap ((hb9.block _ (Lib.lt_of_heap hqd)).trans hqd) 4))
        all_goals
          replace hb9 : Below V8.heap.size V8 W9 := Below.trans (b := V8.drew) ((Below.refl _ _).drew) hb9
          have hq9 := (hb9.block _ (Lib.lt_of_heap HQ8.out)).trans HQ8.out
          have hz9 := (hb9.block _ (Lib.lt_of_heap HZ8.out)).trans HZ8.out
          have hbb9 : Below w.heap.size w W9 := HB8.out.trans (hb9.mono HB8.out.size)
          have hv9 := HV8.out.keptBelow hb9
          have hc9 := HC8.out.keptBelow hb9
          obtain ⟨X, hX⟩ : ∃ X, X = W9.setCell ⟨Q, 4, none⟩ (.string (tt ++ txt (figs x))) := ⟨_, rfl⟩
          have HQX : Hid (X.heap[Q]? = some (.cells #[.string (dot arcs), .int .i64 64, .int .i64 0, .int .u64 0, .string (tt ++ txt (figs x))] 40 (0, 0))) := by unfold Hid; rw [hX]; exact Lib.heap_setCell_same (i := 4) hq9 _
          have HZX : Hid (X.heap[w.heap.size]? = some (.cells #[.string ⟨#[]⟩, .int .i64 0, .int .i64 0, .int .u64 0, .string ⟨#[]⟩] 40 (0, 0))) := by unfold Hid; rw [hX, Below.heap_setCell _ _ _ _ (by have := HLT.out; simp; omega)]; exact hz9
          have HBX : Hid (Below w.heap.size w X) := by unfold Hid; rw [hX]; exact hbb9.setCell (by have := HLT.out; simp; omega) _
          have HVX : Hid (Rd X vr rest) := by
            rw [hX]
            exact hv9.offCell hq9 (fun j x => by rcases j with _ | _ | _ | _ | _ | j <;> simp) ((Kp.refl _ _).setCell (.inl (by simp)) _)
          have HCX : Hid (Rd X vc [(a : Int), (b : Int), (c : Int), (d : Int)]) := by
            rw [hX]
            exact hc9.offCell hq9 (fun j x => by rcases j with _ | _ | _ | _ | _ | j <;> simp) ((Kp.refl _ _).setCell (.inl (by simp)) _)
          rw [← hX]
          clear hX hq9 hz9 hbb9 hv9 hc9 HQ8 HZ8 HB8 HV8 HC8 c4 qf hb9 cj c4d hqd c9 f9
          go_wp2
          go_roundw
          case rel => exact ⟨j + 1, _, by go_num, by omega, HNX.out, HQX.out, HZX.out, HBX.out, HVX.out, HCX.out⟩
          case measure => first | (simp [intOf]; done) | (simp [intOf]; omega)

end Go.Proofs.YtpfmcdhmboclhaaGreatDoor
