/- impl: Encode of a trap of version 1. -/
import Derived.Deep.RegionHeld3
import Derived.Test.YtpfmcdhmboclhaaGreatDoorT00
set_option linter.unusedVariables false
set_option linter.unusedSimpArgs false
namespace Go.Proofs.YtpfmcdhmboclhaaGreatDoor
open Go.RowKit

theorem pk_chain {W : World} {P : Nat} {b0 b1 b2 b3 b4 b5 b6 b7 b8 b9 b10 b11 b12 u0 u1 u2 u3 u4 y0 y1 y2 y3 y4 : Value} (h : W.heap[P]? = some (.cells #[b0, b1, b2, b3, b4, b5, b6, b7, b8, b9, b10, b11, b12, u0, u1, u2, u3, u4] 52 (0, 0))) :
    (((((W.setCell ⟨P, 13, none⟩ y0).setCell ⟨P, 14, none⟩ y1).setCell ⟨P, 15, none⟩ y2).setCell ⟨P, 16, none⟩ y3).setCell ⟨P, 17, none⟩ y4).heap[P]? = some (.cells #[b0, b1, b2, b3, b4, b5, b6, b7, b8, b9, b10, b11, b12, y0, y1, y2, y3, y4] 52 (0, 0)) :=
  Lib.heap_setCell_same (i := 17) (Lib.heap_setCell_same (i := 16) (Lib.heap_setCell_same (i := 15) (Lib.heap_setCell_same (i := 14) (Lib.heap_setCell_same (i := 13) h y0) y1) y2) y3) y4
theorem trap_chain0 {w W1 C : World} {X : Obj} {b0 b1 b2 b3 b4 b5 b6 b7 b8 b9 b10 b11 b12 u0 u1 u2 u3 u4 y0 y1 y2 y3 y4 : Value} (x0 : W1.heap[w.heap.size]? = some X) (x1 : W1.heap[w.heap.size + 1]? = some (.cells #[b0, b1, b2, b3, b4, b5, b6, b7, b8, b9, b10, b11, b12, u0, u1, u2, u3, u4] 52 (0, 0))) (hb : Below w.heap.size w W1)
    (h : C = ((((W1.setCell ⟨w.heap.size + 1, 13, none⟩ y0).setCell ⟨w.heap.size + 1, 14, none⟩ y1).setCell ⟨w.heap.size + 1, 15, none⟩ y2).setCell ⟨w.heap.size + 1, 16, none⟩ y3).setCell ⟨w.heap.size + 1, 17, none⟩ y4) :
    C.heap[w.heap.size]? = some X ∧ C.heap[w.heap.size + 1]? = some (.cells #[b0, b1, b2, b3, b4, b5, b6, b7, b8, b9, b10, b11, b12, y0, y1, y2, y3, y4] 52 (0, 0)) ∧ Below w.heap.size w C := by
  have h2 := pk_chain x1 (y0 := y0) (y1 := y1) (y2 := y2) (y3 := y3) (y4 := y4)
  rw [← h] at h2
  refine ⟨?_, h2, ?_⟩
  · rw [h, Below.heap_setCell _ _ _ _ (by simp), Below.heap_setCell _ _ _ _ (by simp), Below.heap_setCell _ _ _ _ (by simp), Below.heap_setCell _ _ _ _ (by simp), Below.heap_setCell _ _ _ _ (by simp)]
    exact x0
  · rw [h]
    exact ((((hb.setCell (by simp) _).setCell (by simp) _).setCell (by simp) _).setCell (by simp) _).setCell (by simp) _
theorem trap_chain {w W1 W0 : World} {X : Obj} {b0 b1 b2 b3 b4 b5 b6 b7 b8 b9 b10 b11 b12 u0 u1 u2 u3 u4 y0 y1 y2 y3 y4 : Value} (x0 : W1.heap[w.heap.size]? = some X) (x1 : W1.heap[w.heap.size + 1]? = some (.cells #[b0, b1, b2, b3, b4, b5, b6, b7, b8, b9, b10, b11, b12, u0, u1, u2, u3, u4] 52 (0, 0))) (hb : Below w.heap.size w W1)
    (h : W0 = (((((W1.setCell ⟨w.heap.size + 1, 13, none⟩ y0).setCell ⟨w.heap.size + 1, 14, none⟩ y1).setCell ⟨w.heap.size + 1, 15, none⟩ y2).setCell ⟨w.heap.size + 1, 16, none⟩ y3).setCell ⟨w.heap.size + 1, 17, none⟩ y4).drew) :
    W0.heap[w.heap.size]? = some X ∧ W0.heap[w.heap.size + 1]? = some (.cells #[b0, b1, b2, b3, b4, b5, b6, b7, b8, b9, b10, b11, b12, y0, y1, y2, y3, y4] 52 (0, 0)) ∧ Below w.heap.size w W0 := by
  obtain ⟨C, hC⟩ : ∃ C, C = ((((W1.setCell ⟨w.heap.size + 1, 13, none⟩ y0).setCell ⟨w.heap.size + 1, 14, none⟩ y1).setCell ⟨w.heap.size + 1, 15, none⟩ y2).setCell ⟨w.heap.size + 1, 16, none⟩ y3).setCell ⟨w.heap.size + 1, 17, none⟩ y4 := ⟨_, rfl⟩
  rw [← hC] at h
  obtain ⟨h1, h2, h3⟩ := trap_chain0 x0 x1 hb hC
  subst h
  exact ⟨h1, h2, h3.drew⟩
theorem keep5 {W : World} {Q i P : Nat} {i0 i1 i2 i3 i4 : Nat} {a b c d e v : Value} (h : W.drew.cell? ⟨P, i0, none⟩ = some a ∧ W.drew.cell? ⟨P, i1, none⟩ = some b ∧ W.drew.cell? ⟨P, i2, none⟩ = some c ∧ W.drew.cell? ⟨P, i3, none⟩ = some d ∧ W.drew.cell? ⟨P, i4, none⟩ = some e) (hq : Q ≠ P) :
    (W.setCell ⟨Q, i, none⟩ v).drew.cell? ⟨P, i0, none⟩ = some a ∧ (W.setCell ⟨Q, i, none⟩ v).drew.cell? ⟨P, i1, none⟩ = some b ∧ (W.setCell ⟨Q, i, none⟩ v).drew.cell? ⟨P, i2, none⟩ = some c ∧ (W.setCell ⟨Q, i, none⟩ v).drew.cell? ⟨P, i3, none⟩ = some d ∧ (W.setCell ⟨Q, i, none⟩ v).drew.cell? ⟨P, i4, none⟩ = some e := by
  have key : ∀ j, (W.setCell ⟨Q, i, none⟩ v).drew.cell? ⟨P, j, none⟩ = W.drew.cell? ⟨P, j, none⟩ := fun j => by
    show (W.setCell ⟨Q, i, none⟩ v).cell? ⟨P, j, none⟩ = W.cell? ⟨P, j, none⟩
    exact World.cell?_setCell_other _ _ _ _ (by intro e; injection e with e1; first | exact hq e1 | exact hq e1.symm)
  simp only [key]
  exact h
theorem trap_length (arcs : List Nat) (a b c d : Nat) (gen spec : Int) (time : Nat) (l : List AV) (hn : GoodArcs arcs) (hg : -2147483648 ≤ gen ∧ gen ≤ 2147483647) (hs : -2147483648 ≤ spec ∧ spec ≤ 2147483647) (ht : time < 4294967296) (hok : ∀ x ∈ l, x.Ok) (hl : l.length ≤ 20) :
    (sealB 164 (trapHead arcs a b c d gen spec time 0 ++ sealB 48 (varsB l 0) 0) 0).length ≤ 13100 := by
  have g0 := varsB_length l 0 (by omega) hok
  have g1 := hn.bytes
  have g2 := sealB_length 6 (nameB arcs) 0 (by omega)
  have g3 := sealB_length 64 [(a : Int), (b : Int), (c : Int), (d : Int)] 0 (by simp)
  have g4 := intB_le gen hg
  have g5 := intB_le spec hs
  have g6 := uintB_short time (by omega)
  have g7 := sealB_length 2 (intB gen) 0 (by omega)
  have g8 := sealB_length 2 (intB spec) 0 (by omega)
  have g9 := sealB_length 67 (uintB time) 0 (by omega)
  have g10 := sealB_length 48 (varsB l 0) 0 (by omega)
  have g11 : (trapHead arcs a b c d gen spec time 0 ++ sealB 48 (varsB l 0) 0).length ≤ 13000 := by
    simp only [trapHead, List.length_append]
    simp at g3
    omega
  have := sealB_length 164 (trapHead arcs a b c d gen spec time 0 ++ sealB 48 (varsB l 0) 0) 0 (by omega)
  omega
set_option maxHeartbeats 16000000 in
set_option maxRecDepth 100000 in
theorem encode_trap (w : World) (ver : Nat) (com : ByteArray) (id st ix : Nat) (ent agent : ByteArray) (gen spec : Int) (time : Nat) (A : Option Addr) (n c : Nat) (rs : List Raw) (l : List AV) (z : Addr) (hz : NetLaid w z)
    (hv1 : ver ≤ 1) (ht : time < 4294967296) (hn : rs.length = n) (hn2 : n ≤ 20) (hc : com.size ≤ 127) (he : ent.size ≤ 1000) (hst : st ≤ 127) (hix : ix ≤ 127) (hrow : RawRow w A rs) (hsame : Same rs l) (hok : ∀ x ∈ l, x.Ok) (arcs : List Nat) (a b' c' d : Nat) (hnm : Nm ent arcs) (hip : ipOf (bytesOf agent) = some [a, b', c', d]) (hsz : agent.size ≤ 2147483647) (hg : -2147483648 ≤ gen ∧ gen ≤ 2147483647) (hs : -2147483648 ≤ spec ∧ spec ≤ 2147483647) :
    Calls Tryz.prog 8 #[msgV ver com 164 id st ix (.slice A n c) ent agent gen spec time] w (RetE w (msgB ver com (sealB 164 (trapHead arcs a b' c' d gen spec time 0 ++ sealB 48 (varsB l 0) 0) 0) 0)) := by
  have HZ := Lib.hid hz
  have HN := Lib.hid hn
  have HROW := Lib.hid hrow
  have HSAME := Lib.hid hsame
  have HOK := Lib.hid hok
  have HC := Lib.hid hc
  have HV := Lib.hid hv1
  have HST := Lib.hid hst
  have HIX := Lib.hid hix
  have HT := Lib.hid ht
  have HNM2 := Lib.hid hnm
  have HIP := Lib.hid hip
  have HSZ := Lib.hid hsz
  have HG := Lib.hid hg
  have HS := Lib.hid hs
  clear hnm hip hsz hg hs
  obtain ⟨pk, hpk⟩ : ∃ pk : Value → Array Value, pk = fun vp => #[.int .u8 ver, .string com, .int .u8 164, .int .u32 0, .int .u32 id, .int .u32 0, .int .u8 0, .int .u8 0, .int .u8 0, .int .u32 0, vp, .slice none 0 0, .bool false, .string ent, .string agent, .int .i64 gen, .int .i64 spec, .int .u64 time] := ⟨_, rfl⟩
  have HPK := Lib.hid hpk
  clear hz hn hrow hsame hok hpk
  simp only [msgV]
  go_enter Tryz.func8, Tryz.ntmps8
  have hBX : Below w.heap.size w ((w.alloc (.cells #[.int .i64 ver, .string com, .int .i64 164, .int .u32 id, .int .i64 st, .int .i64 ix, .slice A n c, .string ent, .string agent, .int .i64 gen, .int .i64 spec, .int .u64 time] 26)).alloc (.cells #[.int .u8 ver, .string com, .int .u8 164, .int .u32 0, .int .u32 id, .int .u32 0, .int .u8 0, .int .u8 0, .int .u8 0, .int .u32 0, .slice none 0 0, .slice none 0 0, .bool false, .string ⟨#[]⟩, .string ⟨#[]⟩, .int .i64 0, .int .i64 0, .int .u64 0] 52)) := ((Below.refl _ _).alloc (Nat.le_refl _) _).alloc (by simp) _
  have HBX := Lib.hid hBX
  have HCA := Lib.hid (addressOk agent a b' c' d z ((w.alloc (.cells #[.int .i64 ver, .string com, .int .i64 164, .int .u32 id, .int .i64 st, .int .i64 ix, .slice A n c, .string ent, .string agent, .int .i64 gen, .int .i64 spec, .int .u64 time] 26)).alloc (.cells #[.int .u8 ver, .string com, .int .u8 164, .int .u32 0, .int .u32 id, .int .u32 0, .int .u8 0, .int .u8 0, .int .u8 0, .int .u32 0, .slice none 0 0, .slice none 0 0, .bool false, .string ⟨#[]⟩, .string ⟨#[]⟩, .int .i64 0, .int .i64 0, .int .u64 0] 52)) (HZ.out.below hBX) HIP.out HSZ.out)
  clear hBX
  go_wp2_with (go_at_call 16; refine (HCA.out).mono ?_; rintro e W1 ⟨rfl, hb⟩; refine Hid.out ?_)
  refine Lib.hid ?_
  have x0 : W1.heap[w.heap.size]? = some (.cells #[.int .i64 ver, .string com, .int .i64 164, .int .u32 id, .int .i64 st, .int .i64 ix, .slice A n c, .string ent, .string agent, .int .i64 gen, .int .i64 spec, .int .u64 time] 26 (0, 0)) := by
    rw [hb.block _ (by simp; omega), Below.heap_alloc _ _ _ (by simp)]; exact heap_alloc_new w _
  have x1 : W1.heap[w.heap.size + 1]? = some (.cells #[.int .u8 ver, .string com, .int .u8 164, .int .u32 0, .int .u32 id, .int .u32 0, .int .u8 0, .int .u8 0, .int .u8 0, .int .u32 0, .slice none 0 0, .slice none 0 0, .bool false, .string ⟨#[]⟩, .string ⟨#[]⟩, .int .i64 0, .int .i64 0, .int .u64 0] 52 (0, 0)) := by
    rw [hb.block _ (by simp)]
    have hh := heap_alloc_new (w.alloc (.cells #[.int .i64 ver, .string com, .int .i64 164, .int .u32 id, .int .i64 st, .int .i64 ix, .slice A n c, .string ent, .string agent, .int .i64 gen, .int .i64 spec, .int .u64 time] 26)) (.cells #[.int .u8 ver, .string com, .int .u8 164, .int .u32 0, .int .u32 id, .int .u32 0, .int .u8 0, .int .u8 0, .int .u8 0, .int .u32 0, .slice none 0 0, .slice none 0 0, .bool false, .string ⟨#[]⟩, .string ⟨#[]⟩, .int .i64 0, .int .i64 0, .int .u64 0] 52)
    rwa [show (w.alloc (.cells #[.int .i64 ver, .string com, .int .i64 164, .int .u32 id, .int .i64 st, .int .i64 ix, .slice A n c, .string ent, .string agent, .int .i64 gen, .int .i64 spec, .int .u64 time] 26)).heap.size = w.heap.size + 1 by simp] at hh
  have HB1 : Hid (Below w.heap.size w W1) := HBX.out.trans (hb.mono HBX.out.size)
  have HX0 := Lib.hid x0
  have HX1 := Lib.hid x1
  have e7 : W1.cell? ⟨w.heap.size, 7, none⟩ = some (.string ent) := by rw [Lib.cell_of_heap x0]; rfl
  have e8 : W1.cell? ⟨w.heap.size, 8, none⟩ = some (.string agent) := by rw [Lib.cell_of_heap x0]; rfl
  have e9 : W1.cell? ⟨w.heap.size, 9, none⟩ = some (.int .i64 gen) := by rw [Lib.cell_of_heap x0]; rfl
  have e10 : W1.cell? ⟨w.heap.size, 10, none⟩ = some (.int .i64 spec) := by rw [Lib.cell_of_heap x0]; rfl
  have e11 : W1.cell? ⟨w.heap.size, 11, none⟩ = some (.int .u64 time) := by rw [Lib.cell_of_heap x0]; rfl
  have f13 : W1.cell? ⟨w.heap.size + 1, 13, none⟩ = some (.string ⟨#[]⟩) := by rw [Lib.cell_of_heap x1]; rfl
  have f14 : W1.cell? ⟨w.heap.size + 1, 14, none⟩ = some (.string ⟨#[]⟩) := by rw [Lib.cell_of_heap x1]; rfl
  have f15 : W1.cell? ⟨w.heap.size + 1, 15, none⟩ = some (.int .i64 0) := by rw [Lib.cell_of_heap x1]; rfl
  have f16 : W1.cell? ⟨w.heap.size + 1, 16, none⟩ = some (.int .i64 0) := by rw [Lib.cell_of_heap x1]; rfl
  have f17 : W1.cell? ⟨w.heap.size + 1, 17, none⟩ = some (.int .u64 0) := by rw [Lib.cell_of_heap x1]; rfl
  have fr : ∀ i, W1.frozen? ⟨w.heap.size + 1, i, none⟩ = false := fun i => Lib.frozen_of_heap x1 i
  clear hb x0 x1
  go_wp2
  have hS0 : W1.drew.cell? ⟨w.heap.size, 7, none⟩ = some (.string ent) ∧ W1.drew.cell? ⟨w.heap.size, 8, none⟩ = some (.string agent) ∧ W1.drew.cell? ⟨w.heap.size, 9, none⟩ = some (.int .i64 gen) ∧ W1.drew.cell? ⟨w.heap.size, 10, none⟩ = some (.int .i64 spec) ∧ W1.drew.cell? ⟨w.heap.size, 11, none⟩ = some (.int .u64 time) := ⟨e7, e8, e9, e10, e11⟩
  have hne1 : w.heap.size + 1 ≠ w.heap.size := by omega
  clear e7 e8 e9 e10 e11
  go_region_held3 (fun W => W.cell? ⟨w.heap.size, 7, none⟩ = some (.string ent) ∧ W.cell? ⟨w.heap.size, 8, none⟩ = some (.string agent) ∧ W.cell? ⟨w.heap.size, 9, none⟩ = some (.int .i64 gen) ∧ W.cell? ⟨w.heap.size, 10, none⟩ = some (.int .i64 spec) ∧ W.cell? ⟨w.heap.size, 11, none⟩ = some (.int .u64 time)) (first | with_reducible exact hS0 | (rename_i hh _ _; with_reducible exact keep5 hh hne1)) (fail)
  obtain ⟨W0, hW0⟩ : ∃ W0, W0 = (((((W1.setCell ⟨w.heap.size + 1, 13, none⟩ (.string ent)).setCell ⟨w.heap.size + 1, 14, none⟩ (.string agent)).setCell ⟨w.heap.size + 1, 15, none⟩ (.int .i64 gen)).setCell ⟨w.heap.size + 1, 16, none⟩ (.int .i64 spec)).setCell ⟨w.heap.size + 1, 17, none⟩ (.int .u64 time)).drew := ⟨_, rfl⟩
  obtain ⟨y0, y1, y2⟩ := trap_chain HX0.out HX1.out HB1.out hW0
  rw [← hW0]
  have HBOX := Lib.hid y0
  have HP0 := Lib.hid y1
  have HB0 := Lib.hid y2
  clear y0 y1 y2
  clear hW0 hS0 f13 f14 f15 f16 f17 fr HX0 HX1 HB1 HBX HCA ht
  have hln : l.length = n := by rw [HSAME.out.len, HN.out]
  have HLN := Lib.hid hln
  have HN2 := Lib.hid hn2
  have b6 : W0.cell? ⟨w.heap.size, 6, none⟩ = some (.slice A n c) := by rw [Lib.cell_of_heap HBOX.out]; rfl
  clear hln hn2 hc he hst hix hv1
  go_wp2
  go_loopw [133] (fun i wr => ∃ (k : Nat) (vp : Value), i = .int .i64 k ∧ EncAt w l pk k vp wr) (fun i _ => n - (intOf i).toNat)
  case atStart =>
    refine ⟨0, .slice none 0 0, rfl, Nat.zero_le _, ?_, OwnC.nil _ _ _ _, HB0.out, Nat.succ_le_of_lt (Lib.lt_of_heap HP0.out)⟩
    rw [HP0.out, HPK.out]
  case round =>
    obtain ⟨k, vp, rfl, hE⟩ := hrel
    obtain ⟨wo, rfl⟩ : ∃ wo : World, wo = wr := ⟨_, rfl⟩
    have HE := Lib.hid hE
    have hk : k ≤ n := by rw [← HLN.out]; exact hE.le
    clear hE b6
    by_cases hkl : k < n
    · obtain ⟨x, hx⟩ : ∃ x, rs[k]? = some x := ⟨_, List.getElem?_eq_getElem (by rw [HN.out]; exact hkl)⟩
      obtain ⟨y, hy, hnm, hns, hiv⟩ := HSAME.out.each k x hx
      obtain ⟨g, o, rfl, e0, e1, e2, e3, e4⟩ := HROW.out k x hx
      have e0 := cellB HE.out.below e0
      have e1 := cellB HE.out.below e1
      have e2 := cellB HE.out.below e2
      have e3 := cellB HE.out.below e3
      have e4 := cellB HE.out.below e4
      have HY := Lib.hid hy
      have HYO := Lib.hid (HOK.out y (List.mem_of_getElem? hy))
      have hZ1 := HZ.out.below (HE.out.below.alloc HE.out.below.size (.cells #[.string x.name, .int .i64 x.t, .int .i64 x.i, .int .u64 x.u, .string x.text] 40))
      have HCP := Lib.hid (pdu (wo.alloc (.cells #[.string x.name, .int .i64 x.t, .int .i64 x.i, .int .u64 x.u, .string x.text] 40)) x.name x.t x.i x.u x.text y.pay z hZ1 hns HYO.out.pay hiv)
      have HNM := Lib.hid hnm
      obtain ⟨xn, hxn⟩ : ∃ xn, xn = x.name := ⟨_, rfl⟩
      obtain ⟨xt, hxt⟩ : ∃ xt, xt = x.t := ⟨_, rfl⟩
      obtain ⟨xi, hxi⟩ : ∃ xi, xi = x.i := ⟨_, rfl⟩
      obtain ⟨xu, hxu⟩ : ∃ xu, xu = x.u := ⟨_, rfl⟩
      obtain ⟨xx, hxx⟩ : ∃ xx, xx = x.text := ⟨_, rfl⟩
      rw [← hxn] at e0
      rw [← hxt] at e1
      rw [← hxi] at e2
      rw [← hxu] at e3
      rw [← hxx] at e4
      rw [← hxn, ← hxt, ← hxi, ← hxu, ← hxx] at HCP
      have HXN := Lib.hid hxn
      simp only [varV] at HCP
      clear hx hy hnm hns hiv hZ1 hxn hxt hxi hxu hxx
      go_wp2_with (go_at_call 17; refine (HCP.out).mono ?_; rintro e W1 ⟨rfl, hb⟩; refine Hid.out ?_)
      refine Lib.hid ?_
      have hB1 : Below wo.heap.size wo W1 := ((Below.refl _ _).alloc (Nat.le_refl _) _).trans (hb.mono (by simp))
      obtain ⟨pv, hpv⟩ : ∃ pv, pv = y.pay.val := ⟨_, rfl⟩
      obtain ⟨pt, hpt⟩ : ∃ pt, pt = y.pay.typ := ⟨_, rfl⟩
      have hst1 : ∀ (W : World) (q : Addr) (m : Mode), (store q pv m).run Tryz.prog W = stored Tryz.prog W q pv m := fun W q m => run_store _ W q pv m (by rw [hpv]; exact y.pay.one)
      have hpk1 : W1.heap[w.heap.size + 1]? = some (.cells (pk vp) 52 (0, 0)) := (hB1.block _ (Lib.lt_of_heap HE.out.pkt)).trans HE.out.pkt
      have p10 : W1.cell? ⟨w.heap.size + 1, 10, none⟩ = some vp := by rw [Lib.cell_of_heap hpk1, HPK.out]; rfl
      have HOW := Lib.hid (HE.out.own.below hB1)
      have HB1 := Lib.hid (HE.out.below.trans (hB1.mono HE.out.below.size))
      have HSZ1 : Hid (w.heap.size + 2 ≤ W1.heap.size) := Nat.le_trans HE.out.size hB1.size
      have HPK1 := Lib.hid hpk1
      have HPV := Lib.hid hpv
      have HPT := Lib.hid hpt
      have HONE : Hid (∀ u ∈ [pv, .string xn, .int .u8 pt], Value.oneCell' u = true) := by
        intro u hu
        simp at hu
        rcases hu with rfl | rfl | rfl
        · rw [hpv]; exact y.pay.one
        · rfl
        · rfl
      simp only [← hpv, ← hpt]
      have p10a : ∀ o1, (W1.alloc o1).cell? ⟨w.heap.size + 1, 10, none⟩ = some vp := fun o1 => cellB ((Below.refl _ _).alloc (Nat.le_refl _) o1) p10
      clear hb hB1 hpk1 hpv hpt e0 e1 e2 e3 e4 HCP p10
      go_wp2_with (at_builtin; refine wpList_appendC elem46 (by omega) _ rfl _ _ rfl (w.heap.size + 2) vp k (pduCells (l.take k)) [pv, .string xn, .int .u8 pt] (W1.heap.size + 1) 1 rfl rfl (by exact (HOW.out.alloc _).alloc _) rfl ?ca HONE.out (by have := HSZ1.out; simp; omega) (by have := HN2.out; omega) ?_)
      case ca =>
        intro j u hu
        have hh := heap_alloc_new (W1.alloc (.cells #[pv, .string xn, .int .u8 pt] 56)) (.cells #[pv, .string xn, .int .u8 pt] 56)
        rw [show (W1.alloc (.cells #[pv, .string xn, .int .u8 pt] 56)).heap.size = W1.heap.size + 1 by simp] at hh
        rw [Lib.cell_of_heap hh]
        simpa using hu
      intro v2 w2 hO2 hg2 hor
      have hb2 : Below (w.heap.size + 2) W1 w2 := (((Below.refl _ _).alloc HSZ1.out _).alloc (by have := HSZ1.out; simp; omega) _).grown hg2 (by have := HSZ1.out; simp; omega) (fun k e => (HOW.out.lt e).1)
      have hpk2 : w2.heap[w.heap.size + 1]? = some (.cells (pk vp) 52 (0, 0)) := (hb2.block _ (by omega)).trans HPK1.out
      have q10 : w2.cell? ⟨w.heap.size + 1, 10, none⟩ = some vp := by rw [Lib.cell_of_heap hpk2, HPK.out]; rfl
      have qf : ∀ i, w2.frozen? ⟨w.heap.size + 1, i, none⟩ = false := fun i => Lib.frozen_of_heap hpk2 i
      obtain ⟨A2, c2, rfl⟩ := hO2.shape
      have HNEXT : Hid (EncAt w l pk (k + 1) (.slice A2 (k + 1) c2) (w2.setCell ⟨w.heap.size + 1, 10, none⟩ (.slice A2 (k + 1) c2))) := by
        refine ⟨by rw [HLN.out]; omega, ?_, ?_, ?_, ?_⟩
        · have := Lib.heap_setCell_same (i := 10) hpk2 (.slice A2 (k + 1) c2)
          rw [this, HPK.out]; rfl
        · have h1 : OwnC 56 3 w2 (w.heap.size + 2) (.slice A2 (k + 1) c2) (k + 1) (pduCells (l.take (k + 1))) := by
            rw [List.take_add_one, HY.out]
            show OwnC 56 3 w2 (w.heap.size + 2) (.slice A2 (k + 1) c2) (k + 1) (pduCells (l.take k ++ [y]))
            rw [pduCells_snoc, ← HNM.out, ← HXN.out, ← HPV.out, ← HPT.out]
            exact hO2
          exact h1.setCell (by omega) _
        · exact (HB1.out.trans (hb2.mono (by omega))).setCell (by simp) _
        · have := hb2.size
          have := HSZ1.out
          simp; omega
      clear hO2 hg2 hor hb2 hpk2 HOW HPK1
      go_wp2
      go_roundw
      case rel => exact ⟨k + 1, _, by go_num, HNEXT.out⟩
      case measure => simp [intOf]; omega
    · obtain rfl : k = n := by omega
      have hown := HE.out.own
      rw [show l.take k = l by rw [← HLN.out]; exact List.take_length] at hown
      have hpr : PduRow wo vp l := pduRow_of (by rw [HLN.out]; exact hown)
      have HPKT := Lib.hid HE.out.pkt
      have hpc : ∀ (i : Nat) (x : Value), (pk vp)[i]? = some x → wo.cell? ⟨w.heap.size + 1, i, none⟩ = some x := fun i x hx => by rw [Lib.cell_of_heap HPKT.out]; exact hx
      rw [HPK.out] at hpc
      have hZo := HZ.out.below HE.out.below
      have hbody : ∀ W, Below wo.heap.size wo W → Calls Tryz.prog 53 #[.pointer (some ⟨w.heap.size + 1, 0, none⟩)] W (RetB W (sealB 164 (trapHead arcs a b' c' d gen spec time 0 ++ sealB 48 (varsB l 0) 0) 0)) := fun W hb => marshalPDU_trap W (w.heap.size + 1) ent agent arcs a b' c' d gen spec time vp l z (hZo.below hb) (cellB hb (hpc 2 _ rfl)) (cellB hb (hpc 10 _ rfl)) (cellB hb (hpc 13 _ rfl)) (cellB hb (hpc 14 _ rfl)) (cellB hb (hpc 15 _ rfl)) (cellB hb (hpc 16 _ rfl)) (cellB hb (hpc 17 _ rfl)) HNM2.out HIP.out HSZ.out HG.out HS.out HT.out (hpr.below hb) HOK.out (by rw [HLN.out]; exact HN2.out)
      have hbl : (sealB 164 (trapHead arcs a b' c' d gen spec time 0 ++ sealB 48 (varsB l 0) 0) 0).length ≤ 13100 := by
        exact trap_length arcs a b' c' d gen spec time l HNM2.out.good HG.out HS.out HT.out HOK.out (by rw [HLN.out]; exact HN2.out)
      have HM := Lib.hid (marshalMsg2 _ _ _ (marshalMsg wo (w.heap.size + 1) ver com (sealB 164 (trapHead arcs a b' c' d gen spec time 0 ++ sealB 48 (varsB l 0) 0) 0) (hpc 0 _ rfl) (hpc 1 _ rfl) HV.out HC.out hbl (by simp [sealB]) hbody))
      have HBL : Hid ((msgB ver com (sealB 164 (trapHead arcs a b' c' d gen spec time 0 ++ sealB 48 (varsB l 0) 0) 0) 0).length ≤ 14000) := by
        show (msgB ver com (sealB 164 (trapHead arcs a b' c' d gen spec time 0 ++ sealB 48 (varsB l 0) 0) 0) 0).length ≤ 14000
        have g1 := HC.out
        have g2 := intB_small ver (by have := HV.out; omega)
        have g3 := sealB_length 4 (bytesOf com) 0 (by rw [bytesOf_length]; omega)
        have g4 := sealB_length 2 (intB ver) 0 (by rw [← g2]; simp)
        have g5 : (intB ver).length = 1 := by rw [← g2]; rfl
        rw [bytesOf_length] at g3
        have g6 := sealB_length 48 (sealB 2 (intB ver) 0 ++ sealB 4 (bytesOf com) 0 ++ (sealB 164 (trapHead arcs a b' c' d gen spec time 0 ++ sealB 48 (varsB l 0) 0) 0)) 0 (by simp only [List.length_append]; omega)
        simp only [List.length_append] at g6
        unfold msgB
        omega
      obtain ⟨LB, hLB⟩ : ∃ LB, LB = msgB ver com (sealB 164 (trapHead arcs a b' c' d gen spec time 0 ++ sealB 48 (varsB l 0) 0) 0) 0 := ⟨_, rfl⟩
      have hLne : LB ≠ [] := by rw [hLB]; simp [msgB, sealB]
      rw [← hLB] at HM HBL
      have HLB := Lib.hid hLB
      have HLNE := Lib.hid hLne
      clear hpr hpc hZo hbody hbl hown hLB hLne hkl hk
      go_wp2_with (go_at_call 18; refine (HM.out).mono ?_; rintro e W1 ⟨u1, rfl, hr, hn, hb⟩; refine Hid.out ?_)
      refine Lib.hid ?_
      have HR1 := Lib.hid hr
      have HB1 := Lib.hid (HE.out.below.trans (hb.mono HE.out.below.size))
      clear hr hn hb HM
      go_wp2_with (go_at_call 19; refine (cloneBytes _ u1 LB HR1.out HLNE.out (by have := HBL.out; omega)).mono ?_; rintro e W2 ⟨u2, rfl, hO2, hb2⟩; refine Hid.out ?_)
      refine Lib.hid ?_
      have HRET : Hid (RetE w (msgB ver com (sealB 164 (trapHead arcs a b' c' d gen spec time 0 ++ sealB 48 (varsB l 0) 0) 0) 0) (.returned (.tuple #[u2, .bool true])) W2) := by
        rw [← HLB.out]
        exact Lib.hid ⟨u2, rfl, hO2.base HB1.out.size, HB1.out.trans (hb2.mono HB1.out.size)⟩
      clear hO2 hb2
      go_wp2
      go_ret2
      exact HRET.out
end Go.Proofs.YtpfmcdhmboclhaaGreatDoor
