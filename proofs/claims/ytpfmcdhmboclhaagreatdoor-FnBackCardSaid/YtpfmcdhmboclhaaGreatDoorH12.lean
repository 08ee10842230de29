/- spec: a message as it is told, where it is one of those that are asked. spec: a message as it is told. -/
import Derived.Test.YtpfmcdhmboclhaaGreatDoorH08
import Derived.Test.YtpfmcdhmboclhaaGreatDoorH09
import Derived.Test.YtpfmcdhmboclhaaGreatDoorH10
import Derived.Test.YtpfmcdhmboclhaaGreatDoorH11
set_option linter.unusedVariables false
set_option linter.unusedSimpArgs false
namespace Go.Proofs.YtpfmcdhmboclhaaGreatDoor
open Go.RowKit
/-- The state of Told's loop. -/
structure TolAt (w : World) (Q : Nat) (f : Value → Array Value) (rs : List Raw) (k : Nat) (l : List AV) (vo : Value) (wr : World) : Prop where
  avs : AVk rs k l
  out : wr.heap[Q]? = some (.cells (f vo) 26 (0, 0))
  own : OwnC 40 5 wr (Q + 1) vo k (toldC l)
  below : Below w.heap.size w wr
  res : wr.heap[w.heap.size + 1]? = some (.cells #[.int .i64 0, .string ⟨#[]⟩, .int .i64 0, .int .u32 0, .int .i64 0, .int .i64 0, .slice none 0 0, .string ⟨#[]⟩, .string ⟨#[]⟩, .int .i64 0, .int .i64 0, .int .u64 0] 26 (0, 0))
  size : w.heap.size + 1 < Q
set_option maxHeartbeats 16000000 in
set_option maxRecDepth 100000 in
theorem told_yes (w : World) (ver : Int) (com : ByteArray) (kind id st ix : Int) (A : Option Addr) (n c : Nat) (rs : List Raw) (hn : rs.length = n) (hrow : RawRow w A rs) (hwf : ∀ x ∈ rs, WfV x) (hfit : ∀ x ∈ rs, FitsV x) (h : TolOk ver com kind id st ix n ⟨#[]⟩ ⟨#[]⟩ 0 0 0) :
    Calls Tryz.prog 7 #[msgV ver com kind id st ix (.slice A n c) ⟨#[]⟩ ⟨#[]⟩ 0 0 0] w (RetTold w ver com kind id st ix n rs ⟨#[]⟩ ⟨#[]⟩ 0 0 0) := by
  have HT := Lib.hid h
  obtain ⟨h_ver0, h_ver1, h_com, h_kind0, h_kind1, h_kind4, h_st0, h_st1, h_ix0, h_ix1, h_n, h_id, -, -, -, -, -⟩ := h
  have z_kind4 : (kind == 164) = false := by simpa using h_kind4
  have HN := Lib.hid hn
  have HROW := Lib.hid hrow
  have HWF := Lib.hid hwf
  have HFIT := Lib.hid hfit
  clear hn hrow hwf hfit
  simp only [msgV]
  go_enter Tryz.func7, Tryz.ntmps7
  go_wp2
  obtain ⟨W0, hW0⟩ : ∃ W0, W0 = ((w.alloc (.cells #[.int .i64 ver, .string com, .int .i64 kind, .int .u32 id, .int .i64 st, .int .i64 ix, .slice A n c, .string ⟨#[]⟩, .string ⟨#[]⟩, .int .i64 0, .int .i64 0, .int .u64 0] 26)).alloc (.cells #[.int .i64 0, .string ⟨#[]⟩, .int .i64 0, .int .u32 0, .int .i64 0, .int .i64 0, .slice none 0 0, .string ⟨#[]⟩, .string ⟨#[]⟩, .int .i64 0, .int .i64 0, .int .u64 0] 26)).alloc (.cells #[.int .i64 ver, .string com, .int .i64 kind, .int .u32 id, .int .i64 st, .int .i64 ix, .slice none 0 0, .string ⟨#[]⟩, .string ⟨#[]⟩, .int .i64 0, .int .i64 0, .int .u64 0] 26) := ⟨_, rfl⟩
  rw [← hW0]
  have hb0 : Below w.heap.size w W0 := by
    rw [hW0]
    repeat first | exact Below.refl _ _ | refine Below.alloc ?_ (by first | (simp; done) | (simp; omega)) _
  have hs0 : W0.heap.size = w.heap.size + 3 := by rw [hW0]; simp
  have hz0 : W0.heap[w.heap.size + 1]? = some (.cells #[.int .i64 0, .string ⟨#[]⟩, .int .i64 0, .int .u32 0, .int .i64 0, .int .i64 0, .slice none 0 0, .string ⟨#[]⟩, .string ⟨#[]⟩, .int .i64 0, .int .i64 0, .int .u64 0] 26 (0, 0)) := by
    rw [hW0, Below.heap_alloc _ _ _ (by simp)]
    have hh := heap_alloc_new (w.alloc (.cells #[.int .i64 ver, .string com, .int .i64 kind, .int .u32 id, .int .i64 st, .int .i64 ix, .slice A n c, .string ⟨#[]⟩, .string ⟨#[]⟩, .int .i64 0, .int .i64 0, .int .u64 0] 26)) (.cells #[.int .i64 0, .string ⟨#[]⟩, .int .i64 0, .int .u32 0, .int .i64 0, .int .i64 0, .slice none 0 0, .string ⟨#[]⟩, .string ⟨#[]⟩, .int .i64 0, .int .i64 0, .int .u64 0] 26)
    rwa [show (w.alloc (.cells #[.int .i64 ver, .string com, .int .i64 kind, .int .u32 id, .int .i64 st, .int .i64 ix, .slice A n c, .string ⟨#[]⟩, .string ⟨#[]⟩, .int .i64 0, .int .i64 0, .int .u64 0] 26)).heap.size = w.heap.size + 1 by simp] at hh
  have hq0 : W0.heap[w.heap.size + 2]? = some (.cells #[.int .i64 ver, .string com, .int .i64 kind, .int .u32 id, .int .i64 st, .int .i64 ix, .slice none 0 0, .string ⟨#[]⟩, .string ⟨#[]⟩, .int .i64 0, .int .i64 0, .int .u64 0] 26 (0, 0)) := by
    rw [hW0]
    have hh := heap_alloc_new ((w.alloc (.cells #[.int .i64 ver, .string com, .int .i64 kind, .int .u32 id, .int .i64 st, .int .i64 ix, .slice A n c, .string ⟨#[]⟩, .string ⟨#[]⟩, .int .i64 0, .int .i64 0, .int .u64 0] 26)).alloc (.cells #[.int .i64 0, .string ⟨#[]⟩, .int .i64 0, .int .u32 0, .int .i64 0, .int .i64 0, .slice none 0 0, .string ⟨#[]⟩, .string ⟨#[]⟩, .int .i64 0, .int .i64 0, .int .u64 0] 26)) (.cells #[.int .i64 ver, .string com, .int .i64 kind, .int .u32 id, .int .i64 st, .int .i64 ix, .slice none 0 0, .string ⟨#[]⟩, .string ⟨#[]⟩, .int .i64 0, .int .i64 0, .int .u64 0] 26)
    rwa [show ((w.alloc (.cells #[.int .i64 ver, .string com, .int .i64 kind, .int .u32 id, .int .i64 st, .int .i64 ix, .slice A n c, .string ⟨#[]⟩, .string ⟨#[]⟩, .int .i64 0, .int .i64 0, .int .u64 0] 26)).alloc (.cells #[.int .i64 0, .string ⟨#[]⟩, .int .i64 0, .int .u32 0, .int .i64 0, .int .i64 0, .slice none 0 0, .string ⟨#[]⟩, .string ⟨#[]⟩, .int .i64 0, .int .i64 0, .int .u64 0] 26)).heap.size = w.heap.size + 2 by simp] at hh
  have HB0 := Lib.hid hb0
  have HZ0 := Lib.hid hz0
  have HQ0 := Lib.hid hq0
  obtain ⟨Q, hQ⟩ : ∃ Q, Q = w.heap.size + 2 := ⟨_, rfl⟩
  have HQQ := Lib.hid hQ
  rw [← hQ] at HQ0 ⊢
  clear hW0 hb0 hs0 hz0 hq0 hQ h_ver0 h_ver1 h_com h_kind0 h_kind1 h_kind4 h_st0 h_st1 h_ix0 h_ix1 h_id z_kind4
  go_loopw [113] (fun i wr => ∃ (k : Nat) (l : List AV) (vo : Value), i = .int .i64 k ∧ k ≤ n ∧ TolAt w Q (fun vo => #[.int .i64 ver, .string com, .int .i64 kind, .int .u32 id, .int .i64 st, .int .i64 ix, vo, .string ⟨#[]⟩, .string ⟨#[]⟩, .int .i64 0, .int .i64 0, .int .u64 0]) rs k l vo wr) (fun i _ => n - (intOf i).toNat)
  case atStart => exact ⟨0, [], .slice none 0 0, rfl, Nat.zero_le _, ⟨rfl, fun j x h => by omega⟩, HQ0.out, OwnC.nil _ _ _ _, HB0.out, HZ0.out, by rw [HQQ.out]; omega⟩
  case round =>
    obtain ⟨k, l, vo, rfl, hk, hT⟩ := hrel
    obtain ⟨wo, rfl⟩ : ∃ wo : World, wo = wr := ⟨_, rfl⟩
    have HA := Lib.hid hT.avs
    have HQ1 := Lib.hid hT.out
    have HO1 := Lib.hid hT.own
    have HB1 := Lib.hid hT.below
    have HZ1 := Lib.hid hT.res
    have HSZ := Lib.hid hT.size
    clear hT
    by_cases hkn : k < n
    · obtain ⟨x, hx⟩ : ∃ x, rs[k]? = some x := ⟨_, List.getElem?_eq_getElem (by rw [HN.out]; exact hkn)⟩
      obtain ⟨g, o, rfl, e0, e1, e2, e3, e4⟩ := HROW.out k x hx
      have e0 := cellB HB1.out e0
      have e1 := cellB HB1.out e1
      have e2 := cellB HB1.out e2
      have e3 := cellB HB1.out e3
      have e4 := cellB HB1.out e4
      obtain ⟨f1, f2⟩ := HFIT.out x (List.mem_of_getElem? hx)
      obtain ⟨wi, wu0, wu1⟩ := HWF.out x (List.mem_of_getElem? hx)
      obtain ⟨un, hun⟩ : ∃ un : Nat, x.u = (un : Int) := ⟨x.u.toNat, by omega⟩
      have HV : Hid (∀ W, Calls Tryz.prog 15 #[varV x.name x.t x.i x.u x.text, .int .i64 0] W (RetVal W (avOf x.name x.t x.i x.u x.text) 0)) := fun W => by rw [hun]; exact specValue W x.name x.t x.i un x.text 0 (by omega) wi (by omega) f1 f2
      obtain ⟨xn, hxn⟩ : ∃ xn, xn = x.name := ⟨_, rfl⟩
      obtain ⟨xt, hxt⟩ : ∃ xt, xt = x.t := ⟨_, rfl⟩
      obtain ⟨xi, hxi⟩ : ∃ xi, xi = x.i := ⟨_, rfl⟩
      obtain ⟨xu, hxu⟩ : ∃ xu, xu = x.u := ⟨_, rfl⟩
      obtain ⟨xx, hxx⟩ : ∃ xx, xx = x.text := ⟨_, rfl⟩
      obtain ⟨ao, hao⟩ : ∃ ao, ao = avOf x.name x.t x.i x.u x.text := ⟨_, rfl⟩
      rw [← hao, ← hxn, ← hxt, ← hxi, ← hxu, ← hxx] at HV
      rw [← hxn] at e0
      rw [← hxt] at e1
      rw [← hxi] at e2
      rw [← hxu] at e3
      rw [← hxx] at e4
      unfold varV at HV
      have HX := Lib.hid hx
      have HAO := Lib.hid hao
      clear hx hxn hxt hxi hxu hxx hao f1 f2 wi wu0 wu1 hun
      go_wp2_with (go_at_call 15; refine (HV.out _).mono ?_; rintro e W2 ⟨v1, v2, s0, s1, s2, s3, s4, b, rfl, hbb, hyes, hb2⟩; have HBB := Lib.hid hbb; clear hbb; refine Hid.out ?_)
      refine Lib.hid ?_
      have HY := Lib.hid hyes
      have hba : Below wo.heap.size wo W2 := Below.trans ((Below.refl _ _).alloc (Nat.le_refl _) _) (hb2.mono (by simp))
      have HB2 : Hid (Below w.heap.size w W2) := HB1.out.trans (hba.mono HB1.out.size)
      have HQ2 : Hid (W2.heap[Q]? = some (.cells #[.int .i64 ver, .string com, .int .i64 kind, .int .u32 id, .int .i64 st, .int .i64 ix, vo, .string ⟨#[]⟩, .string ⟨#[]⟩, .int .i64 0, .int .i64 0, .int .u64 0] 26 (0, 0))) := (hba.block _ (Lib.lt_of_heap HQ1.out)).trans HQ1.out
      have HZ2 : Hid (W2.heap[w.heap.size + 1]? = some (.cells #[.int .i64 0, .string ⟨#[]⟩, .int .i64 0, .int .u32 0, .int .i64 0, .int .i64 0, .slice none 0 0, .string ⟨#[]⟩, .string ⟨#[]⟩, .int .i64 0, .int .i64 0, .int .u64 0] 26 (0, 0))) := (hba.block _ (Lib.lt_of_heap HZ1.out)).trans HZ1.out
      have HO2 := Lib.hid (HO1.out.below hba)
      clear hyes hb2 hba e0 e1 e2 e3 e4 HV
      cases b with
      | false =>
        go_upto_region 8 with fail
        obtain ⟨W3, hW3⟩ : ∃ W3, W3 = W2.alloc (.cells #[.string s0, .int .i64 s1, .int .i64 s2, .int .u64 s3, .string s4] 40) := ⟨_, rfl⟩
        rw [← hW3]
        have hb3 : Below W2.heap.size W2 W3 := by rw [hW3]; exact (Below.refl _ _).alloc (Nat.le_refl _) _
        have hz3 : W3.heap[w.heap.size + 1]? = some (.cells #[.int .i64 0, .string ⟨#[]⟩, .int .i64 0, .int .u32 0, .int .i64 0, .int .i64 0, .slice none 0 0, .string ⟨#[]⟩, .string ⟨#[]⟩, .int .i64 0, .int .i64 0, .int .u64 0] 26 (0, 0)) := (hb3.block _ (Lib.lt_of_heap HZ2.out)).trans HZ2.out
        have HB3 : Hid (Below w.heap.size w W3) := HB2.out.trans (hb3.mono HB2.out.size)
        have s_0 : W3.cell? ⟨w.heap.size + 1, 0, none⟩ = some (.int .i64 0) := by rw [Lib.cell_of_heap hz3]; rfl
        have s_1 : W3.cell? ⟨w.heap.size + 1, 1, none⟩ = some (.string ⟨#[]⟩) := by rw [Lib.cell_of_heap hz3]; rfl
        have s_2 : W3.cell? ⟨w.heap.size + 1, 2, none⟩ = some (.int .i64 0) := by rw [Lib.cell_of_heap hz3]; rfl
        have s_3 : W3.cell? ⟨w.heap.size + 1, 3, none⟩ = some (.int .u32 0) := by rw [Lib.cell_of_heap hz3]; rfl
        have s_4 : W3.cell? ⟨w.heap.size + 1, 4, none⟩ = some (.int .i64 0) := by rw [Lib.cell_of_heap hz3]; rfl
        have s_5 : W3.cell? ⟨w.heap.size + 1, 5, none⟩ = some (.int .i64 0) := by rw [Lib.cell_of_heap hz3]; rfl
        have s_6 : W3.cell? ⟨w.heap.size + 1, 6, none⟩ = some (.slice none 0 0) := by rw [Lib.cell_of_heap hz3]; rfl
        have s_7 : W3.cell? ⟨w.heap.size + 1, 7, none⟩ = some (.string ⟨#[]⟩) := by rw [Lib.cell_of_heap hz3]; rfl
        have s_8 : W3.cell? ⟨w.heap.size + 1, 8, none⟩ = some (.string ⟨#[]⟩) := by rw [Lib.cell_of_heap hz3]; rfl
        have s_9 : W3.cell? ⟨w.heap.size + 1, 9, none⟩ = some (.int .i64 0) := by rw [Lib.cell_of_heap hz3]; rfl
        have s_10 : W3.cell? ⟨w.heap.size + 1, 10, none⟩ = some (.int .i64 0) := by rw [Lib.cell_of_heap hz3]; rfl
        have s_11 : W3.cell? ⟨w.heap.size + 1, 11, none⟩ = some (.int .u64 0) := by rw [Lib.cell_of_heap hz3]; rfl
        have sf : ∀ i, W3.frozen? ⟨w.heap.size + 1, i, none⟩ = false := fun i => Lib.frozen_of_heap hz3 i
        have HS := Lib.hid (setCells_at (g := w.heap.size + 1) (T := 26) [(.int .i64 0), (.string ⟨#[]⟩), (.int .i64 0), (.int .u32 0), (.int .i64 0), (.int .i64 0), (.slice none 0 0), (.string ⟨#[]⟩), (.string ⟨#[]⟩), (.int .i64 0), (.int .i64 0), (.int .u64 0)] 0 W3 _ hz3 (by simp))
        clear hW3 hb3 hz3 HO2 HY HO1
        go_wp2
        change bodyPost _ _ _ _ _ (W3.setCells (w.heap.size + 1) 0 [(.int .i64 0), (.string ⟨#[]⟩), (.int .i64 0), (.int .u32 0), (.int .i64 0), (.int .i64 0), (.slice none 0 0), (.string ⟨#[]⟩), (.string ⟨#[]⟩), (.int .i64 0), (.int .i64 0), (.int .u64 0)])
        obtain ⟨z1, z2⟩ := HS.out
        generalize W3.setCells (w.heap.size + 1) 0 [(.int .i64 0), (.string ⟨#[]⟩), (.int .i64 0), (.int .u32 0), (.int .i64 0), (.int .i64 0), (.slice none 0 0), (.string ⟨#[]⟩), (.string ⟨#[]⟩), (.int .i64 0), (.int .i64 0), (.int .u64 0)] = WF at z1 z2 ⊢
        have k0 : WF.cell? ⟨w.heap.size + 1, 0, none⟩ = some (.int .i64 0) := by rw [Lib.cell_of_heap z1]; rfl
        have k1 : WF.cell? ⟨w.heap.size + 1, 1, none⟩ = some (.string ⟨#[]⟩) := by rw [Lib.cell_of_heap z1]; rfl
        have k2 : WF.cell? ⟨w.heap.size + 1, 2, none⟩ = some (.int .i64 0) := by rw [Lib.cell_of_heap z1]; rfl
        have k3 : WF.cell? ⟨w.heap.size + 1, 3, none⟩ = some (.int .u32 0) := by rw [Lib.cell_of_heap z1]; rfl
        have k4 : WF.cell? ⟨w.heap.size + 1, 4, none⟩ = some (.int .i64 0) := by rw [Lib.cell_of_heap z1]; rfl
        have k5 : WF.cell? ⟨w.heap.size + 1, 5, none⟩ = some (.int .i64 0) := by rw [Lib.cell_of_heap z1]; rfl
        have k6 : WF.cell? ⟨w.heap.size + 1, 6, none⟩ = some (.slice none 0 0) := by rw [Lib.cell_of_heap z1]; rfl
        have k7 : WF.cell? ⟨w.heap.size + 1, 7, none⟩ = some (.string ⟨#[]⟩) := by rw [Lib.cell_of_heap z1]; rfl
        have k8 : WF.cell? ⟨w.heap.size + 1, 8, none⟩ = some (.string ⟨#[]⟩) := by rw [Lib.cell_of_heap z1]; rfl
        have k9 : WF.cell? ⟨w.heap.size + 1, 9, none⟩ = some (.int .i64 0) := by rw [Lib.cell_of_heap z1]; rfl
        have k10 : WF.cell? ⟨w.heap.size + 1, 10, none⟩ = some (.int .i64 0) := by rw [Lib.cell_of_heap z1]; rfl
        have k11 : WF.cell? ⟨w.heap.size + 1, 11, none⟩ = some (.int .u64 0) := by rw [Lib.cell_of_heap z1]; rfl
        try simp only [Exit.inBlock, Exit.then]
        refine bodyPost_ret (v := .tuple #[.agg #[.int .i64 0, .string ⟨#[]⟩, .int .i64 0, .int .u32 0, .int .i64 0, .int .i64 0, .slice none 0 0, .string ⟨#[]⟩, .string ⟨#[]⟩, .int .i64 0, .int .i64 0, .int .u64 0], .bool false]) (by simp [results, Tryz.results7, go_sem, k0, k1, k2, k3, k4, k5, k6, k7, k8, k9, k10, k11]) rfl ?_
        exact ⟨.inl rfl, HB3.out.trans (z2.below HB3.out.size (by simp))⟩
      | true =>
        obtain ⟨y, hy⟩ : ∃ y, ao = some y := Option.isSome_iff_exists.1 (HBB.out.symm)
        have HVV := Lib.hid (HY.out y hy).2
        have HYY := Lib.hid hy
        have HN1 : Hid (AVk rs (k + 1) (l ++ [y])) := HA.out.snoc HX.out (by rw [← HAO.out]; exact hy)
        clear hy
        go_upto_region 10 with fail
        obtain ⟨W3, hW3⟩ : ∃ W3, W3 = W2.alloc (.cells #[.string s0, .int .i64 s1, .int .i64 s2, .int .u64 s3, .string s4] 40) := ⟨_, rfl⟩
        obtain ⟨X, hX⟩ : ∃ X, X = W2.heap.size := ⟨_, rfl⟩
        have hb3 : Below W2.heap.size W2 W3 := by rw [hW3]; exact (Below.refl _ _).alloc (Nat.le_refl _) _
        have hx3 : W3.heap[X]? = some (.cells #[.string s0, .int .i64 s1, .int .i64 s2, .int .u64 s3, .string s4] 40 (0, 0)) := by rw [hW3, hX]; exact heap_alloc_new W2 _
        rw [← hW3, ← hX]
        have hz3 : W3.heap[w.heap.size + 1]? = some (.cells #[.int .i64 0, .string ⟨#[]⟩, .int .i64 0, .int .u32 0, .int .i64 0, .int .i64 0, .slice none 0 0, .string ⟨#[]⟩, .string ⟨#[]⟩, .int .i64 0, .int .i64 0, .int .u64 0] 26 (0, 0)) := (hb3.block _ (Lib.lt_of_heap HZ2.out)).trans HZ2.out
        have hq3 : W3.heap[Q]? = some (.cells #[.int .i64 ver, .string com, .int .i64 kind, .int .u32 id, .int .i64 st, .int .i64 ix, vo, .string ⟨#[]⟩, .string ⟨#[]⟩, .int .i64 0, .int .i64 0, .int .u64 0] 26 (0, 0)) := (hb3.block _ (Lib.lt_of_heap HQ2.out)).trans HQ2.out
        have HB3 : Hid (Below w.heap.size w W3) := HB2.out.trans (hb3.mono HB2.out.size)
        have HO3 := Lib.hid (HO2.out.below hb3)
        obtain ⟨x0, x1, x2, x3, x4⟩ := fiveC hx3
        have q6 : W3.cell? ⟨Q, 6, none⟩ = some vo := by rw [Lib.cell_of_heap hq3]; rfl
        have hnQ : some Q ≠ vo.ownBlock := fun e => by have := (HO3.out.lt e.symm).1; omega
        have hnR : some (w.heap.size + 1) ≠ vo.ownBlock := fun e => by have := (HO3.out.lt e.symm).1; have := HSZ.out; omega
        have HZ3 := Lib.hid hz3
        have HQ3 := Lib.hid hq3
        have hQs : Q < W3.heap.size := Lib.lt_of_heap hq3
        have HHN := Lib.hid (And.intro hnQ hnR)
        have hk20 : k ≤ 20 := by omega
        have HONE : Hid (∀ u ∈ [Value.string s0, .int .i64 s1, .int .i64 s2, .int .u64 s3, .string s4], Value.oneCell' u = true) := by
          intro u hu; simp at hu; rcases hu with rfl | rfl | rfl | rfl | rfl <;> rfl
        have HTC : Hid (toldC (l ++ [y]) = toldC l ++ [.string s0, .int .i64 s1, .int .i64 s2, .int .u64 s3, .string s4]) := by
          unfold Hid
          rw [toldC_snoc]
          have hv := HVV.out
          simp only [toldV] at hv
          injection hv with hv
          rw [show [Value.string (dot y.arcs), .int .i64 y.pay.typ, .int .i64 (toldI y.pay), .int .u64 (toldU y.pay), .string (toldT y.pay)] = [Value.string s0, .int .i64 s1, .int .i64 s2, .int .u64 s3, .string s4] from (congrArg Array.toList hv).symm]
        clear hW3 hX hb3 hx3 hz3 hq3 hnQ hnR HO2 HO1 HY HB2 HQ2 HZ2
        go_wp2_with (at_builtin; refine wpList_appendC elem23 (by omega) _ rfl _ _ rfl (Q + 1) _ k (toldC l) [.string s0, .int .i64 s1, .int .i64 s2, .int .u64 s3, .string s4] W3.heap.size 1 rfl rfl (by exact HO3.out.alloc _) rfl (by exact new5 W3) HONE.out (by simp; omega) (by omega) ?_)
        intro v6 w6 hO6 hg6 _
        have hQ6 : w6.heap[Q]? = some (.cells #[.int .i64 ver, .string com, .int .i64 kind, .int .u32 id, .int .i64 st, .int .i64 ix, vo, .string ⟨#[]⟩, .string ⟨#[]⟩, .int .i64 0, .int .i64 0, .int .u64 0] 26 (0, 0)) := (hg6.block Q (by simp; omega) HHN.out.1).trans ((Below.heap_alloc _ _ _ hQs).trans HQ3.out)
        have hZ6 : w6.heap[w.heap.size + 1]? = some (.cells #[.int .i64 0, .string ⟨#[]⟩, .int .i64 0, .int .u32 0, .int .i64 0, .int .i64 0, .slice none 0 0, .string ⟨#[]⟩, .string ⟨#[]⟩, .int .i64 0, .int .i64 0, .int .u64 0] 26 (0, 0)) := (hg6.block (w.heap.size + 1) (by have := Lib.lt_of_heap HZ3.out; simp; omega) HHN.out.2).trans ((Below.heap_alloc _ _ _ (Lib.lt_of_heap HZ3.out)).trans HZ3.out)
        have hB6 : Below w.heap.size w w6 := (HB3.out.alloc HB3.out.size _).grown hg6 (by have := HB3.out.size; simp; omega) (fun q e => by have := (HO3.out.lt e).1; have := HSZ.out; omega)
        have hO6' : OwnC 40 5 w6 (Q + 1) v6 (k + 1) (toldC (l ++ [y])) := by rw [HTC.out]; exact hO6
        obtain ⟨A6, cap6, rfl⟩ := hO6.shape
        have p6 : w6.cell? ⟨Q, 6, none⟩ = some vo := by rw [Lib.cell_of_heap hQ6]; rfl
        have pf6 : w6.frozen? ⟨Q, 6, none⟩ = false := Lib.frozen_of_heap hQ6 6
        have HNEXT : Hid (TolAt w Q (fun vo => #[.int .i64 ver, .string com, .int .i64 kind, .int .u32 id, .int .i64 st, .int .i64 ix, vo, .string ⟨#[]⟩, .string ⟨#[]⟩, .int .i64 0, .int .i64 0, .int .u64 0]) rs (k + 1) (l ++ [y]) (.slice A6 (k + 1) cap6) (w6.setCell ⟨Q, 6, none⟩ (.slice A6 (k + 1) cap6))) :=
          ⟨HN1.out, Lib.heap_setCell_same (i := 6) hQ6 _, hO6'.setCell (by omega) _, hB6.setCell (by have := HSZ.out; simp; omega) _, by rw [Below.heap_setCell _ _ _ _ (by have := HSZ.out; simp; omega)]; exact hZ6, HSZ.out⟩
        clear hO6 hg6 hQ6 hZ6 hB6 hO6' x0 x1 x2 x3 x4 q6
        go_wp2
        go_roundw
        case rel => exact ⟨k + 1, _, _, by go_num, hkn, HNEXT.out⟩
        case measure => simp [intOf]; omega
    · obtain rfl : k = n := by omega
      have hln : l.length = k := HA.out.1
      have HAVS : Hid (AVs rs l) := ⟨by rw [hln, HN.out], fun j x hx => HA.out.2 j x (by have := (List.getElem?_eq_some_iff.1 hx).1; rw [HN.out] at this; exact this) hx⟩
      have q0 : wo.cell? ⟨Q, 0, none⟩ = some (.int .i64 ver) := by rw [Lib.cell_of_heap HQ1.out]; rfl
      have q1 : wo.cell? ⟨Q, 1, none⟩ = some (.string com) := by rw [Lib.cell_of_heap HQ1.out]; rfl
      have q2 : wo.cell? ⟨Q, 2, none⟩ = some (.int .i64 kind) := by rw [Lib.cell_of_heap HQ1.out]; rfl
      have q3 : wo.cell? ⟨Q, 3, none⟩ = some (.int .u32 id) := by rw [Lib.cell_of_heap HQ1.out]; rfl
      have q4 : wo.cell? ⟨Q, 4, none⟩ = some (.int .i64 st) := by rw [Lib.cell_of_heap HQ1.out]; rfl
      have q5 : wo.cell? ⟨Q, 5, none⟩ = some (.int .i64 ix) := by rw [Lib.cell_of_heap HQ1.out]; rfl
      have q6 : wo.cell? ⟨Q, 6, none⟩ = some (vo) := by rw [Lib.cell_of_heap HQ1.out]; rfl
      have q7 : wo.cell? ⟨Q, 7, none⟩ = some (.string ⟨#[]⟩) := by rw [Lib.cell_of_heap HQ1.out]; rfl
      have q8 : wo.cell? ⟨Q, 8, none⟩ = some (.string ⟨#[]⟩) := by rw [Lib.cell_of_heap HQ1.out]; rfl
      have q9 : wo.cell? ⟨Q, 9, none⟩ = some (.int .i64 0) := by rw [Lib.cell_of_heap HQ1.out]; rfl
      have q10 : wo.cell? ⟨Q, 10, none⟩ = some (.int .i64 0) := by rw [Lib.cell_of_heap HQ1.out]; rfl
      have q11 : wo.cell? ⟨Q, 11, none⟩ = some (.int .u64 0) := by rw [Lib.cell_of_heap HQ1.out]; rfl
      have s0 : wo.cell? ⟨w.heap.size + 1, 0, none⟩ = some (.int .i64 0) := by rw [Lib.cell_of_heap HZ1.out]; rfl
      have s1 : wo.cell? ⟨w.heap.size + 1, 1, none⟩ = some (.string ⟨#[]⟩) := by rw [Lib.cell_of_heap HZ1.out]; rfl
      have s2 : wo.cell? ⟨w.heap.size + 1, 2, none⟩ = some (.int .i64 0) := by rw [Lib.cell_of_heap HZ1.out]; rfl
      have s3 : wo.cell? ⟨w.heap.size + 1, 3, none⟩ = some (.int .u32 0) := by rw [Lib.cell_of_heap HZ1.out]; rfl
      have s4 : wo.cell? ⟨w.heap.size + 1, 4, none⟩ = some (.int .i64 0) := by rw [Lib.cell_of_heap HZ1.out]; rfl
      have s5 : wo.cell? ⟨w.heap.size + 1, 5, none⟩ = some (.int .i64 0) := by rw [Lib.cell_of_heap HZ1.out]; rfl
      have s6 : wo.cell? ⟨w.heap.size + 1, 6, none⟩ = some (.slice none 0 0) := by rw [Lib.cell_of_heap HZ1.out]; rfl
      have s7 : wo.cell? ⟨w.heap.size + 1, 7, none⟩ = some (.string ⟨#[]⟩) := by rw [Lib.cell_of_heap HZ1.out]; rfl
      have s8 : wo.cell? ⟨w.heap.size + 1, 8, none⟩ = some (.string ⟨#[]⟩) := by rw [Lib.cell_of_heap HZ1.out]; rfl
      have s9 : wo.cell? ⟨w.heap.size + 1, 9, none⟩ = some (.int .i64 0) := by rw [Lib.cell_of_heap HZ1.out]; rfl
      have s10 : wo.cell? ⟨w.heap.size + 1, 10, none⟩ = some (.int .i64 0) := by rw [Lib.cell_of_heap HZ1.out]; rfl
      have s11 : wo.cell? ⟨w.heap.size + 1, 11, none⟩ = some (.int .u64 0) := by rw [Lib.cell_of_heap HZ1.out]; rfl
      have sf : ∀ i, wo.frozen? ⟨w.heap.size + 1, i, none⟩ = false := fun i => Lib.frozen_of_heap HZ1.out i
      have hstv : ∀ (W : World) (q : Addr) (m : Mode), (store q vo m).run Tryz.prog W = stored Tryz.prog W q vo m := fun W q m => run_store _ W q vo m (by obtain ⟨A, c, rfl⟩ := HO1.out.shape; rfl)
      have hqr : Q ≠ w.heap.size + 1 := by have := HSZ.out; omega
      have HS := Lib.hid (setCells_at (g := w.heap.size + 1) (T := 26) [(.int .i64 ver), (.string com), (.int .i64 kind), (.int .u32 id), (.int .i64 st), (.int .i64 ix), (vo), (.string ⟨#[]⟩), (.string ⟨#[]⟩), (.int .i64 0), (.int .i64 0), (.int .u64 0)] 0 wo _ HZ1.out (by simp))
      clear hln
      go_wp2
      change bodyPost _ _ _ _ _ (wo.setCells (w.heap.size + 1) 0 [(.int .i64 ver), (.string com), (.int .i64 kind), (.int .u32 id), (.int .i64 st), (.int .i64 ix), (vo), (.string ⟨#[]⟩), (.string ⟨#[]⟩), (.int .i64 0), (.int .i64 0), (.int .u64 0)])
      obtain ⟨z1, z2⟩ := HS.out
      generalize wo.setCells (w.heap.size + 1) 0 [(.int .i64 ver), (.string com), (.int .i64 kind), (.int .u32 id), (.int .i64 st), (.int .i64 ix), (vo), (.string ⟨#[]⟩), (.string ⟨#[]⟩), (.int .i64 0), (.int .i64 0), (.int .u64 0)] = WF at z1 z2 ⊢
      have k0 : WF.cell? ⟨w.heap.size + 1, 0, none⟩ = some (.int .i64 ver) := by rw [Lib.cell_of_heap z1]; rfl
      have k1 : WF.cell? ⟨w.heap.size + 1, 1, none⟩ = some (.string com) := by rw [Lib.cell_of_heap z1]; rfl
      have k2 : WF.cell? ⟨w.heap.size + 1, 2, none⟩ = some (.int .i64 kind) := by rw [Lib.cell_of_heap z1]; rfl
      have k3 : WF.cell? ⟨w.heap.size + 1, 3, none⟩ = some (.int .u32 id) := by rw [Lib.cell_of_heap z1]; rfl
      have k4 : WF.cell? ⟨w.heap.size + 1, 4, none⟩ = some (.int .i64 st) := by rw [Lib.cell_of_heap z1]; rfl
      have k5 : WF.cell? ⟨w.heap.size + 1, 5, none⟩ = some (.int .i64 ix) := by rw [Lib.cell_of_heap z1]; rfl
      have k6 : WF.cell? ⟨w.heap.size + 1, 6, none⟩ = some (vo) := by rw [Lib.cell_of_heap z1]; rfl
      have k7 : WF.cell? ⟨w.heap.size + 1, 7, none⟩ = some (.string ⟨#[]⟩) := by rw [Lib.cell_of_heap z1]; rfl
      have k8 : WF.cell? ⟨w.heap.size + 1, 8, none⟩ = some (.string ⟨#[]⟩) := by rw [Lib.cell_of_heap z1]; rfl
      have k9 : WF.cell? ⟨w.heap.size + 1, 9, none⟩ = some (.int .i64 0) := by rw [Lib.cell_of_heap z1]; rfl
      have k10 : WF.cell? ⟨w.heap.size + 1, 10, none⟩ = some (.int .i64 0) := by rw [Lib.cell_of_heap z1]; rfl
      have k11 : WF.cell? ⟨w.heap.size + 1, 11, none⟩ = some (.int .u64 0) := by rw [Lib.cell_of_heap z1]; rfl
      try simp only [Exit.inBlock, Exit.then]
      refine bodyPost_ret (v := .tuple #[.agg #[.int .i64 ver, .string com, .int .i64 kind, .int .u32 id, .int .i64 st, .int .i64 ix, vo, .string ⟨#[]⟩, .string ⟨#[]⟩, .int .i64 0, .int .i64 0, .int .u64 0], .bool true]) (by simp [results, Tryz.results7, go_sem, k0, k1, k2, k3, k4, k5, k6, k7, k8, k9, k10, k11]) rfl ?_
      refine ⟨.inr ⟨vo, l, rfl, HT.out, HAVS.out, ?_⟩, HB1.out.trans (z2.below HB1.out.size (by simp))⟩
      have h1 := HO1.out
      rw [← HA.out.1] at h1
      exact OwnC.rebase (h1.kept (fun q hq => z2.block q (h1.lt hq).2 (by have := (h1.lt hq).1; have := HSZ.out; simp; omega))) (by have := HSZ.out; omega)
end Go.Proofs.YtpfmcdhmboclhaaGreatDoor
namespace Go.Proofs.YtpfmcdhmboclhaaGreatDoor
open Go.RowKit

/-- spec.Told. -/
theorem specTold (w : World) (ver : Int) (com : ByteArray) (kind id st ix : Int) (ent agent : ByteArray) (gen spec time : Int) (A : Option Addr) (n c : Nat) (rs : List Raw) (hn : rs.length = n) (hn31 : n ≤ 2147483647) (hrow : RawRow w A rs) (hwf : ∀ x ∈ rs, WfV x) (hfit : ∀ x ∈ rs, FitsV x) (hcom : com.size ≤ 2147483647) :
    Calls Tryz.prog 7 #[msgV ver com kind id st ix (.slice A n c) ent agent gen spec time] w (RetTold w ver com kind id st ix n rs ent agent gen spec time) := by
  by_cases h_ver0 : 0 ≤ ver
  case neg => exact told_ver0 w ver com kind id st ix ent agent gen spec time A n c rs hcom hn31 (by omega)
  by_cases h_ver1 : ver ≤ 1
  case neg => exact told_ver1 w ver com kind id st ix ent agent gen spec time A n c rs hcom hn31 h_ver0 (by omega)
  by_cases h_com : com.size ≤ 127
  case neg => exact told_com w ver com kind id st ix ent agent gen spec time A n c rs hcom hn31 h_ver0 h_ver1 (by omega)
  by_cases h_kind0 : 160 ≤ kind
  case neg => exact told_kind0 w ver com kind id st ix ent agent gen spec time A n c rs hcom hn31 h_ver0 h_ver1 h_com (by omega)
  by_cases h_kind1 : kind ≤ 168
  case neg => exact told_kind1 w ver com kind id st ix ent agent gen spec time A n c rs hcom hn31 h_ver0 h_ver1 h_com h_kind0 (by omega)
  by_cases h_kind4 : kind ≠ 164
  case neg => exact told_kind4 w ver com kind id st ix ent agent gen spec time A n c rs hcom hn31 h_ver0 h_ver1 h_com h_kind0 h_kind1 (by omega)
  by_cases h_st0 : 0 ≤ st
  case neg => exact told_st0 w ver com kind id st ix ent agent gen spec time A n c rs hcom hn31 h_ver0 h_ver1 h_com h_kind0 h_kind1 h_kind4 (by omega)
  by_cases h_st1 : st ≤ 127
  case neg => exact told_st1 w ver com kind id st ix ent agent gen spec time A n c rs hcom hn31 h_ver0 h_ver1 h_com h_kind0 h_kind1 h_kind4 h_st0 (by omega)
  by_cases h_ix0 : 0 ≤ ix
  case neg => exact told_ix0 w ver com kind id st ix ent agent gen spec time A n c rs hcom hn31 h_ver0 h_ver1 h_com h_kind0 h_kind1 h_kind4 h_st0 h_st1 (by omega)
  by_cases h_ix1 : ix ≤ 127
  case neg => exact told_ix1 w ver com kind id st ix ent agent gen spec time A n c rs hcom hn31 h_ver0 h_ver1 h_com h_kind0 h_kind1 h_kind4 h_st0 h_st1 h_ix0 (by omega)
  by_cases h_n : n ≤ 20
  case neg => exact told_n w ver com kind id st ix ent agent gen spec time A n c rs hcom hn31 h_ver0 h_ver1 h_com h_kind0 h_kind1 h_kind4 h_st0 h_st1 h_ix0 h_ix1 (by omega)
  by_cases h_id : id < 2147483648
  case neg => exact told_id w ver com kind id st ix ent agent gen spec time A n c rs hcom hn31 h_ver0 h_ver1 h_com h_kind0 h_kind1 h_kind4 h_st0 h_st1 h_ix0 h_ix1 h_n (by omega)
  by_cases h_ent : ent = ⟨#[]⟩
  case neg => exact told_ent w ver com kind id st ix ent agent gen spec time A n c rs hcom hn31 h_ver0 h_ver1 h_com h_kind0 h_kind1 h_kind4 h_st0 h_st1 h_ix0 h_ix1 h_n h_id h_ent
  by_cases h_agent : agent = ⟨#[]⟩
  case neg => exact told_agent w ver com kind id st ix ent agent gen spec time A n c rs hcom hn31 h_ver0 h_ver1 h_com h_kind0 h_kind1 h_kind4 h_st0 h_st1 h_ix0 h_ix1 h_n h_id h_ent h_agent
  by_cases h_gen : gen = 0
  case neg => exact told_gen w ver com kind id st ix ent agent gen spec time A n c rs hcom hn31 h_ver0 h_ver1 h_com h_kind0 h_kind1 h_kind4 h_st0 h_st1 h_ix0 h_ix1 h_n h_id h_ent h_agent h_gen
  by_cases h_spec : spec = 0
  case neg => exact told_spec w ver com kind id st ix ent agent gen spec time A n c rs hcom hn31 h_ver0 h_ver1 h_com h_kind0 h_kind1 h_kind4 h_st0 h_st1 h_ix0 h_ix1 h_n h_id h_ent h_agent h_gen h_spec
  by_cases h_time : time = 0
  case neg => exact told_time w ver com kind id st ix ent agent gen spec time A n c rs hcom hn31 h_ver0 h_ver1 h_com h_kind0 h_kind1 h_kind4 h_st0 h_st1 h_ix0 h_ix1 h_n h_id h_ent h_agent h_gen h_spec h_time
  subst h_ent
  subst h_agent
  subst h_gen
  subst h_spec
  subst h_time
  exact told_yes w ver com kind id st ix A n c rs hn hrow hwf hfit ⟨h_ver0, h_ver1, h_com, h_kind0, h_kind1, h_kind4, h_st0, h_st1, h_ix0, h_ix1, h_n, h_id, rfl, rfl, rfl, rfl, rfl⟩
end Go.Proofs.YtpfmcdhmboclhaaGreatDoor
