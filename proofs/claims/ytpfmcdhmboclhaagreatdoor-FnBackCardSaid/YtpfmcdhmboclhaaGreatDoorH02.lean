/- impl: Encode of kind 165. gosnmp: the head of a message is read. gosnmp: a message's body of kind 165 is read. -/
import Derived.Test.YtpfmcdhmboclhaaGreatDoorG16
import Derived.Test.YtpfmcdhmboclhaaGreatDoorH00
set_option linter.unusedVariables false
set_option linter.unusedSimpArgs false
namespace Go.Proofs.YtpfmcdhmboclhaaGreatDoor
open Go.RowKit

set_option maxHeartbeats 16000000 in
set_option maxRecDepth 100000 in
theorem encode_bulk (w : World) (ver : Nat) (com : ByteArray) (id st ix : Nat) (ent agent : ByteArray) (gen spec : Int) (time : Nat) (A : Option Addr) (n c : Nat) (rs : List Raw) (l : List AV) (z : Addr) (hz : NetLaid w z)
    (hv1 : ver ≤ 1) (hid : id < 2147483648) (hn : rs.length = n) (hn2 : n ≤ 20) (hc : com.size ≤ 127) (he : ent.size ≤ 1000) (hst : st ≤ 127) (hix : ix ≤ 127) (hrow : RawRow w A rs) (hsame : Same rs l) (hok : ∀ x ∈ l, x.Ok) :
    Calls Tryz.prog 8 #[msgV ver com 165 id st ix (.slice A n c) ent agent gen spec time] w (RetE w (msgB ver com (sealB 165 (bodyB id st ix l 0) 0) 0)) := by
  have HZ := Lib.hid hz
  have HN := Lib.hid hn
  have HROW := Lib.hid hrow
  have HSAME := Lib.hid hsame
  have HOK := Lib.hid hok
  have HC := Lib.hid hc
  have HV := Lib.hid hv1
  have HST := Lib.hid hst
  have HIX := Lib.hid hix
  have HID := Lib.hid hid
  obtain ⟨pk, hpk⟩ : ∃ pk : Value → Array Value, pk = fun vp => #[.int .u8 ver, .string com, .int .u8 165, .int .u32 0, .int .u32 id, .int .u32 0, .int .u8 0, .int .u8 0, .int .u8 st, .int .u32 ix, vp, .slice none 0 0, .bool false, .string ⟨#[]⟩, .string ⟨#[]⟩, .int .i64 0, .int .i64 0, .int .u64 0] := ⟨_, rfl⟩
  have HPK := Lib.hid hpk
  clear hz hn hrow hsame hok hpk
  simp only [msgV]
  go_enter Tryz.func8, Tryz.ntmps8
  go_wp2
  go_region
  obtain ⟨W0, hW0⟩ : ∃ W0, W0 = ((w.alloc (.cells #[.int .i64 ver, .string com, .int .i64 165, .int .u32 id, .int .i64 st, .int .i64 ix, .slice A n c, .string ent, .string agent, .int .i64 gen, .int .i64 spec, .int .u64 time] 26)).alloc (.cells #[.int .u8 ver, .string com, .int .u8 165, .int .u32 0, .int .u32 id, .int .u32 0, .int .u8 0, .int .u8 0, .int .u8 st, .int .u32 ix, .slice none 0 0, .slice none 0 0, .bool false, .string ⟨#[]⟩, .string ⟨#[]⟩, .int .i64 0, .int .i64 0, .int .u64 0] 52)).drew := ⟨_, rfl⟩
  rw [← hW0]
  have HBOX : Hid (W0.heap[w.heap.size]? = some (.cells #[.int .i64 ver, .string com, .int .i64 165, .int .u32 id, .int .i64 st, .int .i64 ix, .slice A n c, .string ent, .string agent, .int .i64 gen, .int .i64 spec, .int .u64 time] 26 (0, 0))) := by
    rw [hW0]
    show ((w.alloc _).alloc _).heap[w.heap.size]? = _
    rw [Below.heap_alloc _ _ _ (by simp)]; exact heap_alloc_new w _
  have HP0 : Hid (W0.heap[w.heap.size + 1]? = some (.cells #[.int .u8 ver, .string com, .int .u8 165, .int .u32 0, .int .u32 id, .int .u32 0, .int .u8 0, .int .u8 0, .int .u8 st, .int .u32 ix, .slice none 0 0, .slice none 0 0, .bool false, .string ⟨#[]⟩, .string ⟨#[]⟩, .int .i64 0, .int .i64 0, .int .u64 0] 52 (0, 0))) := by
    rw [hW0]
    show ((w.alloc _).alloc _).heap[w.heap.size + 1]? = _
    have hh := heap_alloc_new (w.alloc (.cells #[.int .i64 ver, .string com, .int .i64 165, .int .u32 id, .int .i64 st, .int .i64 ix, .slice A n c, .string ent, .string agent, .int .i64 gen, .int .i64 spec, .int .u64 time] 26)) (.cells #[.int .u8 ver, .string com, .int .u8 165, .int .u32 0, .int .u32 id, .int .u32 0, .int .u8 0, .int .u8 0, .int .u8 st, .int .u32 ix, .slice none 0 0, .slice none 0 0, .bool false, .string ⟨#[]⟩, .string ⟨#[]⟩, .int .i64 0, .int .i64 0, .int .u64 0] 52)
    rwa [show (w.alloc (.cells #[.int .i64 ver, .string com, .int .i64 165, .int .u32 id, .int .i64 st, .int .i64 ix, .slice A n c, .string ent, .string agent, .int .i64 gen, .int .i64 spec, .int .u64 time] 26)).heap.size = w.heap.size + 1 by simp] at hh
  have HB0 : Hid (Below w.heap.size w W0) := by
    rw [hW0]
    exact Lib.hid ((((Below.refl _ _).alloc (Nat.le_refl _) _).alloc (by simp) _).drew)
  clear hW0
  have hln : l.length = n := by rw [HSAME.out.len, HN.out]
  have HLN := Lib.hid hln
  have HN2 := Lib.hid hn2
  have b6 : W0.cell? ⟨w.heap.size, 6, none⟩ = some (.slice A n c) := by rw [Lib.cell_of_heap HBOX.out]; rfl
  clear hln hn2 hc he hst hix hv1
  go_wp2
  go_loopw [133] (fun i wr => ∃ (k : Nat) (vp : Value), i = .int .i64 k ∧ EncAt w l pk k vp wr) (fun i _ => n - (intOf i).toNat)
  case atStart =>
    refine ⟨0, .slice none 0 0, rfl, Nat.zero_le _, ?_, OwnC.nil _ _ _ _, HB0.out, Nat.succ_le_of_lt (Lib.lt_of_heap HP0.out)⟩
    rw [HP0.out, HPK.out]
  case round =>
    obtain ⟨k, vp, rfl, hE⟩ := hrel
    obtain ⟨wo, rfl⟩ : ∃ wo : World, wo = wr := ⟨_, rfl⟩
    have HE := Lib.hid hE
    have hk : k ≤ n := by rw [← HLN.out]; exact hE.le
    clear hE b6
    by_cases hkl : k < n
    · obtain ⟨x, hx⟩ : ∃ x, rs[k]? = some x := ⟨_, List.getElem?_eq_getElem (by rw [HN.out]; exact hkl)⟩
      obtain ⟨y, hy, hnm, hns, hiv⟩ := HSAME.out.each k x hx
      obtain ⟨g, o, rfl, e0, e1, e2, e3, e4⟩ := HROW.out k x hx
      have e0 := cellB HE.out.below e0
      have e1 := cellB HE.out.below e1
      have e2 := cellB HE.out.below e2
      have e3 := cellB HE.out.below e3
      have e4 := cellB HE.out.below e4
      have HY := Lib.hid hy
      have HYO := Lib.hid (HOK.out y (List.mem_of_getElem? hy))
      have hZ1 := HZ.out.below (HE.out.below.alloc HE.out.below.size (.cells #[.string x.name, .int .i64 x.t, .int .i64 x.i, .int .u64 x.u, .string x.text] 40))
      have HCP := Lib.hid (pdu (wo.alloc (.cells #[.string x.name, .int .i64 x.t, .int .i64 x.i, .int .u64 x.u, .string x.text] 40)) x.name x.t x.i x.u x.text y.pay z hZ1 hns HYO.out.pay hiv)
      have HNM := Lib.hid hnm
      obtain ⟨xn, hxn⟩ : ∃ xn, xn = x.name := ⟨_, rfl⟩
      obtain ⟨xt, hxt⟩ : ∃ xt, xt = x.t := ⟨_, rfl⟩
      obtain ⟨xi, hxi⟩ : ∃ xi, xi = x.i := ⟨_, rfl⟩
      obtain ⟨xu, hxu⟩ : ∃ xu, xu = x.u := ⟨_, rfl⟩
      obtain ⟨xx, hxx⟩ : ∃ xx, xx = x.text := ⟨_, rfl⟩
      rw [← hxn] at e0
      rw [← hxt] at e1
      rw [← hxi] at e2
      rw [← hxu] at e3
      rw [← hxx] at e4
      rw [← hxn, ← hxt, ← hxi, ← hxu, ← hxx] at HCP
      have HXN := Lib.hid hxn
      simp only [varV] at HCP
      clear hx hy hnm hns hiv hZ1 hxn hxt hxi hxu hxx
      go_wp2_with (go_at_call 17; refine (HCP.out).mono ?_; rintro e W1 ⟨rfl, hb⟩; refine Hid.out ?_)
      refine Lib.hid ?_
      have hB1 : Below wo.heap.size wo W1 := ((Below.refl _ _).alloc (Nat.le_refl _) _).trans (hb.mono (by simp))
      obtain ⟨pv, hpv⟩ : ∃ pv, pv = y.pay.val := ⟨_, rfl⟩
      obtain ⟨pt, hpt⟩ : ∃ pt, pt = y.pay.typ := ⟨_, rfl⟩
      have hst1 : ∀ (W : World) (q : Addr) (m : Mode), (store q pv m).run Tryz.prog W = stored Tryz.prog W q pv m := fun W q m => run_store _ W q pv m (by rw [hpv]; exact y.pay.one)
      have hpk1 : W1.heap[w.heap.size + 1]? = some (.cells (pk vp) 52 (0, 0)) := (hB1.block _ (Lib.lt_of_heap HE.out.pkt)).trans HE.out.pkt
      have p10 : W1.cell? ⟨w.heap.size + 1, 10, none⟩ = some vp := by rw [Lib.cell_of_heap hpk1, HPK.out]; rfl
      have HOW := Lib.hid (HE.out.own.below hB1)
      have HB1 := Lib.hid (HE.out.below.trans (hB1.mono HE.out.below.size))
      have HSZ1 : Hid (w.heap.size + 2 ≤ W1.heap.size) := Nat.le_trans HE.out.size hB1.size
      have HPK1 := Lib.hid hpk1
      have HPV := Lib.hid hpv
      have HPT := Lib.hid hpt
      have HONE : Hid (∀ u ∈ [pv, .string xn, .int .u8 pt], Value.oneCell' u = true) := by
        intro u hu
        simp at hu
        rcases hu with rfl | rfl | rfl
        · rw [hpv]; exact y.pay.one
        · rfl
        · rfl
      simp only [← hpv, ← hpt]
      have p10a : ∀ o1, (W1.alloc o1).cell? ⟨w.heap.size + 1, 10, none⟩ = some vp := fun o1 => cellB ((Below.refl _ _).alloc (Nat.le_refl _) o1) p10
      clear hb hB1 hpk1 hpv hpt e0 e1 e2 e3 e4 HCP p10
      go_wp2_with (at_builtin; refine wpList_appendC elem46 (by omega) _ rfl _ _ rfl (w.heap.size + 2) vp k (pduCells (l.take k)) [pv, .string xn, .int .u8 pt] (W1.heap.size + 1) 1 rfl rfl (by exact (HOW.out.alloc _).alloc _) rfl ?ca HONE.out (by have := HSZ1.out; simp; omega) (by have := HN2.out; omega) ?_)
      case ca =>
        intro j u hu
        have hh := heap_alloc_new (W1.alloc (.cells #[pv, .string xn, .int .u8 pt] 56)) (.cells #[pv, .string xn, .int .u8 pt] 56)
        rw [show (W1.alloc (.cells #[pv, .string xn, .int .u8 pt] 56)).heap.size = W1.heap.size + 1 by simp] at hh
        rw [Lib.cell_of_heap hh]
        simpa using hu
      intro v2 w2 hO2 hg2 hor
      have hb2 : Below (w.heap.size + 2) W1 w2 := (((Below.refl _ _).alloc HSZ1.out _).alloc (by have := HSZ1.out; simp; omega) _).grown hg2 (by have := HSZ1.out; simp; omega) (fun k e => (HOW.out.lt e).1)
      have hpk2 : w2.heap[w.heap.size + 1]? = some (.cells (pk vp) 52 (0, 0)) := (hb2.block _ (by omega)).trans HPK1.out
      have q10 : w2.cell? ⟨w.heap.size + 1, 10, none⟩ = some vp := by rw [Lib.cell_of_heap hpk2, HPK.out]; rfl
      have qf : ∀ i, w2.frozen? ⟨w.heap.size + 1, i, none⟩ = false := fun i => Lib.frozen_of_heap hpk2 i
      obtain ⟨A2, c2, rfl⟩ := hO2.shape
      have HNEXT : Hid (EncAt w l pk (k + 1) (.slice A2 (k + 1) c2) (w2.setCell ⟨w.heap.size + 1, 10, none⟩ (.slice A2 (k + 1) c2))) := by
        refine ⟨by rw [HLN.out]; omega, ?_, ?_, ?_, ?_⟩
        · have := Lib.heap_setCell_same (i := 10) hpk2 (.slice A2 (k + 1) c2)
          rw [this, HPK.out]; rfl
        · have h1 : OwnC 56 3 w2 (w.heap.size + 2) (.slice A2 (k + 1) c2) (k + 1) (pduCells (l.take (k + 1))) := by
            rw [List.take_add_one, HY.out]
            show OwnC 56 3 w2 (w.heap.size + 2) (.slice A2 (k + 1) c2) (k + 1) (pduCells (l.take k ++ [y]))
            rw [pduCells_snoc, ← HNM.out, ← HXN.out, ← HPV.out, ← HPT.out]
            exact hO2
          exact h1.setCell (by omega) _
        · exact (HB1.out.trans (hb2.mono (by omega))).setCell (by simp) _
        · have := hb2.size
          have := HSZ1.out
          simp; omega
      clear hO2 hg2 hor hb2 hpk2 HOW HPK1
      go_wp2
      go_roundw
      case rel => exact ⟨k + 1, _, by go_num, HNEXT.out⟩
      case measure => simp [intOf]; omega
    · obtain rfl : k = n := by omega
      have hown := HE.out.own
      rw [show l.take k = l by rw [← HLN.out]; exact List.take_length] at hown
      have hpr : PduRow wo vp l := pduRow_of (by rw [HLN.out]; exact hown)
      have HPKT := Lib.hid HE.out.pkt
      have hpc : ∀ (i : Nat) (x : Value), (pk vp)[i]? = some x → wo.cell? ⟨w.heap.size + 1, i, none⟩ = some x := fun i x hx => by rw [Lib.cell_of_heap HPKT.out]; exact hx
      rw [HPK.out] at hpc
      have hZo := HZ.out.below HE.out.below
      have hbody : ∀ W, Below wo.heap.size wo W → Calls Tryz.prog 53 #[.pointer (some ⟨w.heap.size + 1, 0, none⟩)] W (RetB W (sealB 165 (bodyB id st ix l 0) 0)) := fun W hb => marshalPDU_bulk W (w.heap.size + 1) id st ix vp l z (hZo.below hb) (cellB hb (hpc 2 _ rfl)) (cellB hb (hpc 10 _ rfl)) (cellB hb (hpc 4 _ rfl)) (cellB hb (hpc 8 _ rfl)) (cellB hb (hpc 9 _ rfl)) HID.out (Nat.lt_succ_of_le HST.out) (Nat.lt_succ_of_le HIX.out) (hpr.below hb) HOK.out (by rw [HLN.out]; exact HN2.out)
      have hbl : (sealB 165 (bodyB id st ix l 0) 0).length ≤ 13100 := by
        exact bodyB_length 165 id st ix l HID.out HST.out HIX.out HOK.out (by rw [HLN.out]; exact HN2.out)
      have HM := Lib.hid (marshalMsg2 _ _ _ (marshalMsg wo (w.heap.size + 1) ver com (sealB 165 (bodyB id st ix l 0) 0) (hpc 0 _ rfl) (hpc 1 _ rfl) HV.out HC.out hbl (by simp [sealB]) hbody))
      have HBL : Hid ((msgB ver com (sealB 165 (bodyB id st ix l 0) 0) 0).length ≤ 14000) := by
        show (msgB ver com (sealB 165 (bodyB id st ix l 0) 0) 0).length ≤ 14000
        have g1 := HC.out
        have g2 := intB_small ver (by have := HV.out; omega)
        have g3 := sealB_length 4 (bytesOf com) 0 (by rw [bytesOf_length]; omega)
        have g4 := sealB_length 2 (intB ver) 0 (by rw [← g2]; simp)
        have g5 : (intB ver).length = 1 := by rw [← g2]; rfl
        rw [bytesOf_length] at g3
        have g6 := sealB_length 48 (sealB 2 (intB ver) 0 ++ sealB 4 (bytesOf com) 0 ++ (sealB 165 (bodyB id st ix l 0) 0)) 0 (by simp only [List.length_append]; omega)
        simp only [List.length_append] at g6
        unfold msgB
        omega
      obtain ⟨LB, hLB⟩ : ∃ LB, LB = msgB ver com (sealB 165 (bodyB id st ix l 0) 0) 0 := ⟨_, rfl⟩
      have hLne : LB ≠ [] := by rw [hLB]; simp [msgB, sealB]
      rw [← hLB] at HM HBL
      have HLB := Lib.hid hLB
      have HLNE := Lib.hid hLne
      clear hpr hpc hZo hbody hbl hown hLB hLne hkl hk
      go_wp2_with (go_at_call 18; refine (HM.out).mono ?_; rintro e W1 ⟨u1, rfl, hr, hn, hb⟩; refine Hid.out ?_)
      refine Lib.hid ?_
      have HR1 := Lib.hid hr
      have HB1 := Lib.hid (HE.out.below.trans (hb.mono HE.out.below.size))
      clear hr hn hb HM
      go_wp2_with (go_at_call 19; refine (cloneBytes _ u1 LB HR1.out HLNE.out (by have := HBL.out; omega)).mono ?_; rintro e W2 ⟨u2, rfl, hO2, hb2⟩; refine Hid.out ?_)
      refine Lib.hid ?_
      have HRET : Hid (RetE w (msgB ver com (sealB 165 (bodyB id st ix l 0) 0) 0) (.returned (.tuple #[u2, .bool true])) W2) := by
        rw [← HLB.out]
        exact Lib.hid ⟨u2, rfl, hO2.base HB1.out.size, HB1.out.trans (hb2.mono HB1.out.size)⟩
      clear hO2 hb2
      go_wp2
      go_ret2
      exact HRET.out
end Go.Proofs.YtpfmcdhmboclhaaGreatDoor
namespace Go.Proofs.YtpfmcdhmboclhaaGreatDoor
open Go.RowKit

theorem sP {g pk i : Nat} {v : Value} {W W' : World} (hg : W.heap[g]? = some (.cells #[] 68 (0, 0))) (hc : W.cell? ⟨pk, i, none⟩ = some v) (hb : Below W.heap.size W W') :
    (partAt ⟨g, 0, none⟩ 0 0).run Tryz.prog W' = .ok ⟨g, 0, none⟩ W' ∧ W'.cell? ⟨pk, i, none⟩ = some v := ⟨partTo hg hb, cellB hb hc⟩
end Go.Proofs.YtpfmcdhmboclhaaGreatDoor
namespace Go.Proofs.YtpfmcdhmboclhaaGreatDoor
open Go.RowKit

set_option maxHeartbeats 64000000 in
set_option maxRecDepth 100000 in
theorem response_bulk (G : World → Prop) (X : List Nat) (base : Nat) (vp0 q0 q1 q3 q4 q5 q6 q7 q8 q9 q11 q12 q13 q14 q15 q16 q17 : Value) (w : World) (b o n c g pk wd : Nat) (id st ix : Nat) (l : List AV) (z : Addr) (hid : id < 2147483648) (hst : st ≤ 127) (hix : ix ≤ 127) (hl : l.length ≤ 20) (hok : ∀ x ∈ l, x.Ok) (hwd : wd ≤ 2) (hn : (sealB 165 (bodyB id st ix l wd) wd).length = n) (hnc : n ≤ c) (hc : c ≤ 9223372036854775807 ∧ n ≤ 1000000)
    (hX : pk ∈ X) (hpb : pk < base) (hbw : base ≤ w.heap.size) (hO0 : OwnC 56 3 w base vp0 0 []) (hinv0 : ∀ q, vp0.ownBlock = some q → q ∈ X) (hG : ∀ W, Kp X w W → G W) (hzG : ∀ W, G W → NetLaid W z) (htG : ∀ W, G W → Tab W) (haG : ∀ W, G W → AsnLaid W) (hgG : ∀ W, G W → W.heap[g]? = some (.cells #[] 68 (0, 0)))
    (hatG : ∀ W, G W → At W b o (sealB 165 (bodyB id st ix l wd) wd)) (hpk : w.heap[pk]? = some (.cells #[q0, q1, (.int .u8 165), q3, q4, q5, q6, q7, q8, q9, vp0, q11, q12, q13, q14, q15, q16, q17] 52 (0, 0))) :
    Calls Tryz.prog 62 #[.pointer (some ⟨g, 0, none⟩), .slice (some ⟨b, o, none⟩) n c, .pointer (some ⟨pk, 0, none⟩)] w (RetVbl G X base w (fun v => #[q0, q1, (.int .u8 165), q3, (.int .u32 id), q5, q6, q7, (.int .u8 st), (.int .u32 ix), v, q11, q12, q13, q14, q15, q16, q17]) pk l) := by
  obtain ⟨s1, hs1⟩ : ∃ s, s = sealB 2 (intB id) wd := ⟨_, rfl⟩
  obtain ⟨s2, hs2⟩ : ∃ s, s = sealB 2 (intB st) wd := ⟨_, rfl⟩
  obtain ⟨s3, hs3⟩ : ∃ s, s = sealB 2 (intB ix) wd := ⟨_, rfl⟩
  obtain ⟨s4, hs4⟩ : ∃ s, s = sealB 48 (varsB l wd) wd := ⟨_, rfl⟩
  have hbody : bodyB id st ix l wd = s1 ++ s2 ++ s3 ++ s4 := by rw [hs1, hs2, hs3, hs4]; rfl
  rw [hbody] at hn hatG
  have hvl := varsB_length l wd hwd hok
  have g1 := sval_intB id (by omega)
  have g2 := sval_intB st (by omega)
  have g3 := sval_intB ix (by omega)
  have h1 : s1.length ≤ 10 := by have := sealB_length 2 (intB id) wd (by omega); rw [hs1]; omega
  have h2 : s2.length ≤ 10 := by have := sealB_length 2 (intB st) wd (by omega); rw [hs2]; omega
  have h3 : s3.length ≤ 10 := by have := sealB_length 2 (intB ix) wd (by omega); rw [hs3]; omega
  have h4 : s4.length ≤ 13000 := by have := sealB_length 48 (varsB l wd) wd (by omega); rw [hs4]; omega
  have h4p : 2 ≤ s4.length := by rw [hs4, sealB_len]; have := hdr_ge (varsB l wd).length wd; omega
  obtain ⟨L1, hL1⟩ : ∃ L, L = s1.length := ⟨_, rfl⟩
  obtain ⟨L2, hL2⟩ : ∃ L, L = s2.length := ⟨_, rfl⟩
  obtain ⟨L3, hL3⟩ : ∃ L, L = s3.length := ⟨_, rfl⟩
  obtain ⟨L4, hL4⟩ : ∃ L, L = s4.length := ⟨_, rfl⟩
  obtain ⟨k, hk⟩ : ∃ k, k = (s1 ++ s2 ++ s3 ++ s4).length := ⟨_, rfl⟩
  obtain ⟨j, hj⟩ : ∃ j, j = hdr k wd := ⟨_, rfl⟩
  have hkl : k = L1 + L2 + L3 + L4 := by rw [hk, hL1, hL2, hL3, hL4]; simp; omega
  have hN : n = k + j := by rw [← hn, hj, hk]; exact sealB_len _ _ _
  have hj2 : 2 ≤ j := by rw [hj]; exact hdr_ge k wd
  have HAT1 : Hid (∀ W, G W → At W b (o + j) (sealB 2 (intB id) wd ++ (s2 ++ (s3 ++ s4)))) := by
    intro W hW
    have h := hatG W hW
    have h' : At W b o (165 :: (lenB (s1 ++ s2 ++ s3 ++ s4).length wd ++ ((s1 ++ s2 ++ s3 ++ s4) ++ []))) := by rw [List.append_nil]; exact h
    have h'' := h'.con
    rw [← hk, ← hj] at h''
    rw [← hs1]
    simpa using h''
  have HAT2 : Hid (∀ W, G W → At W b (o + (j + L1)) (sealB 2 (intB st) wd ++ (s3 ++ s4))) := by
    intro W hW
    have h := (HAT1.out W hW).right
    rw [← hs1, ← hL1, Nat.add_assoc, hs2] at h
    exact h
  have HAT3 : Hid (∀ W, G W → At W b (o + (j + L1 + L2)) (sealB 2 (intB ix) wd ++ s4)) := by
    intro W hW
    have h := (HAT2.out W hW).right
    rw [← hs2, ← hL2, Nat.add_assoc, hs3] at h
    exact h
  have HAT4 : Hid (∀ W, G W → At W b (o + (j + L1 + L2 + L3)) (sealB 48 (varsB l wd) wd)) := by
    intro W hW
    have h := (HAT3.out W hW).right
    rw [← hs3, ← hL3, Nat.add_assoc, hs4] at h
    exact h
  have HL1 : Hid (L1 = (sealB 2 (intB id) wd).length) := by rw [← hs1]; exact hL1
  have HL2 : Hid (L2 = (sealB 2 (intB st) wd).length) := by rw [← hs2]; exact hL2
  have HL3 : Hid (L3 = (sealB 2 (intB ix) wd).length) := by rw [← hs3]; exact hL3
  have HL4 : Hid ((sealB 48 (varsB l wd) wd).length = L4) := by rw [← hs4]; exact hL4.symm
  have hGP : ∀ W, Kp [pk] w W → G W := fun W hW => hG W (hW.mono (fun q _ hq => by rw [List.mem_singleton.1 hq]; exact hX))
  have hwG := hGP w (Kp.refl _ _)
  have hatw := hatG w hwG
  rw [sealB, ← hk] at hatw
  have HPL := Lib.hid (parseLength w b o n c k wd 165 (s1 ++ s2 ++ s3 ++ s4) (by omega) hwd hatw (by rw [← hj]; omega) hnc hc)
  rw [← hj, ← hN] at HPL
  have HGP := Lib.hid hGP
  have HG := Lib.hid hG
  have HZ := Lib.hid hzG
  have HT := Lib.hid htG
  have HA := Lib.hid haG
  have HGG := Lib.hid hgG
  have HOK := Lib.hid hok
  have HX := Lib.hid hX
  have HO0 := Lib.hid hO0
  have HINV0 := Lib.hid hinv0
  have HLL := Lib.hid hl
  have HP0 := Lib.hid hpk
  have HK0 := Lib.hid (Kp.refl [pk] w)
  have hb4 : j + L1 + L2 + L3 + 2 ≤ n := by omega
  have HN : Hid (n = j + L1 + L2 + L3 + L4) := by unfold Hid; omega
  have d1 : decide ((j : Int) + (L1 : Int) < 0) = false := by simp; omega
  have d2 : decide ((j : Int) + (L1 : Int) + (L2 : Int) < 0) = false := by simp; omega
  have d3 : decide ((j : Int) + (L1 : Int) + (L2 : Int) + (L3 : Int) < 0) = false := by simp; omega
  have cj0 : c ≠ j := by omega
  have cj1 : c ≠ j + L1 := by omega
  have cj2 : c ≠ j + L1 + L2 := by omega
  have cj3 : c ≠ j + L1 + L2 + L3 := by omega
  have ta := ta_3_3
  have hb1 : j + L1 + 2 ≤ n := by omega
  have hb2 : j + L1 + L2 + 2 ≤ n := by omega
  have hst2 : st < 256 := by omega
  have hix2 : ix < 256 := by omega
  have hid2 : id < 4294967296 := by omega
  have hand : bits .and .i64 (ix : Int) 2147483647 = ix := by
    have h127 : ∀ x : Nat, x < 128 → bits .and .i64 (x : Int) 2147483647 = x := by
      intro x hx
      have := (bits_nat .i64 63 (by decide) (fun n h0 h1 => by rw [IntKind.wrap_i64]; omega) x 2147483647 (by omega) (by omega)).1
      rw [show (2147483647 : Int) = ((2147483647 : Nat) : Int) from rfl, this, show (2147483647 : Nat) = 2 ^ 31 - 1 from rfl, Nat.and_two_pow_sub_one_eq_mod, Nat.mod_eq_of_lt (by omega)]
    exact h127 ix (by omega)
  clear hn hatG hvl g1 g2 g3 h1 h2 h3 h4 h4p hbody hL1 hL2 hL3 hL4 hk hj hkl hN hs1 hs2 hs3 hs4 hGP hwG hatw hG hzG htG haG hgG hok hX hO0 hinv0 hl hpk
  go_enter Tryz.func62, Tryz.ntmps62
  go_wp2_with (go_at_call 76; refine (HPL.out).mono ?_; rintro e W1 ⟨rfl, hw1⟩; refine Hid.out ?_)
  refine Lib.hid ?_
  subst hw1
  clear HPL
  have hpW0 := run_part W1 g (HGG.out W1 (HGP.out _ HK0.out))
  go_wp2_with (go_at_call 61; refine (printf _ _ _).mono ?_; rintro e V0 ⟨rfl, hb0⟩; refine Hid.out ?_)
  refine Lib.hid ?_
  have hB0 : Below (W1).heap.size W1 V0 := thenB ((Below.refl _ _).alloc (Nat.le_refl _) _) hb0
  have HKV0 : Hid (Kp [pk] W1 V0) := HK0.out.add hB0
  have HPV0 : Hid (V0.heap[pk]? = some (.cells #[q0, q1, (.int .u8 165), q3, q4, q5, q6, q7, q8, q9, vp0, q11, q12, q13, q14, q15, q16, q17] 52 (0, 0))) := (hB0.block pk (Lib.lt_of_heap HP0.out)).trans HP0.out
  clear hb0 hB0 hpW0
  go_upto_region 8 with fail
  have hgW1 := HGG.out V0 (HGP.out _ HKV0.out)
  have HGW1 := Lib.hid hgW1
  have HFD1 : Hid (∀ a m cc msg, a = o + (j) → L1 ≤ m → m ≤ cc → cc ≤ 9223372036854775807 ∧ m ≤ 1000000 → Calls Tryz.prog 60 #[.agg #[], .slice (some ⟨b, a, none⟩) m cc, .string msg] (V0).drew (RetF (V0).drew (.iface 3 (.int .i64 id)) L1)) := by
    intro a m cc msg ha hm hmc hcc
    have hat := HAT1.out (V0).drew (HGP.out _ HKV0.out.drew)
    rw [← ha] at hat
    have := field_2 (V0).drew b a m cc wd msg (id : Int) _ (by omega) hwd hat (by rw [← HL1.out]; exact hm) hmc hcc
    rwa [← HL1.out] at this
  clear hgW1
  go_region_held (fun W => (partAt ⟨g, 0, none⟩ 0 0).run Tryz.prog W = .ok ⟨g, 0, none⟩ W) (first | exact run_part _ g HGW1.out | exact partTo (W := (V0).drew) HGW1.out hbT) (first | (go_at_call 60; refine (HFD1.out _ _ _ _ (by omega) (by omega) (by omega) (by omega)).mono ?_; rintro e V1 ⟨rfl, hbT⟩))
  rename_i hHeld
  have HKV1 : Hid (Kp [pk] W1 V1) := HKV0.out.drew.add hbT
  have HPV1 : Hid (V1.heap[pk]? = some (.cells #[q0, q1, (.int .u8 165), q3, q4, q5, q6, q7, q8, q9, vp0, q11, q12, q13, q14, q15, q16, q17] 52 (0, 0))) := (hbT.block pk (Lib.lt_of_heap HPV0.out)).trans HPV0.out
  clear hbT HFD1 HGW1 hHeld
  have e2 : V1.cell? ⟨pk, 4, none⟩ = some q4 := by rw [Lib.cell_of_heap HPV1.out]; rfl
  have f2 : V1.frozen? ⟨pk, 4, none⟩ = false := Lib.frozen_of_heap HPV1.out 4
  have HKV2 : Hid (Kp [pk] W1 (V1.setCell ⟨pk, 4, none⟩ (.int .u32 id))) := HKV1.out.setCell (.inl (by simp)) _
  have HPV2 : Hid ((V1.setCell ⟨pk, 4, none⟩ (.int .u32 id)).heap[pk]? = some (.cells #[q0, q1, (.int .u8 165), q3, (.int .u32 id), q5, q6, q7, q8, q9, vp0, q11, q12, q13, q14, q15, q16, q17] 52 (0, 0))) := Lib.heap_setCell_same (i := 4) HPV1.out _
  go_upto_region 17 with fail
  obtain ⟨S3, hS3⟩ : ∃ S, S = (V1.setCell ⟨pk, 4, none⟩ (.int .u32 id)) := ⟨_, rfl⟩
  rw [← hS3]
  have HKS3 : Hid (Kp [pk] W1 S3) := by rw [hS3]; exact HKV2.out
  have HPS3 : Hid (S3.heap[pk]? = some (.cells #[q0, q1, (.int .u8 165), q3, (.int .u32 id), q5, q6, q7, q8, q9, vp0, q11, q12, q13, q14, q15, q16, q17] 52 (0, 0))) := by rw [hS3]; exact HPV2.out
  clear hS3 e2 f2
  have HGW3 := Lib.hid (HGG.out S3 (HGP.out _ HKS3.out))
  have HCW3 : Hid (S3.cell? ⟨pk, 4, none⟩ = some (.int .u32 id)) := by unfold Hid; rw [Lib.cell_of_heap HPS3.out]; rfl
  go_region_held3 (fun W => (partAt ⟨g, 0, none⟩ 0 0).run Tryz.prog W = .ok ⟨g, 0, none⟩ W ∧ W.cell? ⟨pk, 4, none⟩ = some (.int .u32 id)) (first | exact sP HGW3.out HCW3.out (Below.refl _ _).drew | exact sP HGW3.out HCW3.out ((Below.refl _ _).alloc (Nat.le_refl _) _).drew | exact sP HGW3.out HCW3.out (thenB ((Below.refl _ _).alloc (Nat.le_refl _) _).drew hbT)) (first | (go_at_call 61; refine (printf _ _ _).mono ?_; rintro e V3 ⟨rfl, hbT⟩))
  rename_i hHeld
  have hB3 : Below (S3).heap.size S3 V3 := thenB ((Below.refl _ _).alloc (Nat.le_refl _) _).drew hbT
  have HKV3 : Hid (Kp [pk] W1 V3) := HKS3.out.add hB3
  have HPV3 : Hid (V3.heap[pk]? = some (.cells #[q0, q1, (.int .u8 165), q3, (.int .u32 id), q5, q6, q7, q8, q9, vp0, q11, q12, q13, q14, q15, q16, q17] 52 (0, 0))) := (hB3.block pk (Lib.lt_of_heap HPS3.out)).trans HPS3.out
  clear hbT hHeld HGW3 HCW3 hB3
  have ck : V3.cell? ⟨pk, 2, none⟩ = some (.int .u8 165) := by rw [Lib.cell_of_heap HPV3.out]; rfl
  go_upto_region 19 with fail
  have hgW4 := HGG.out V3 (HGP.out _ HKV3.out)
  have HGW4 := Lib.hid hgW4
  have HFD4 : Hid (∀ a m cc msg, a = o + (j + L1) → L2 ≤ m → m ≤ cc → cc ≤ 9223372036854775807 ∧ m ≤ 1000000 → Calls Tryz.prog 60 #[.agg #[], .slice (some ⟨b, a, none⟩) m cc, .string msg] (V3).drew (RetF (V3).drew (.iface 3 (.int .i64 st)) L2)) := by
    intro a m cc msg ha hm hmc hcc
    have hat := HAT2.out (V3).drew (HGP.out _ HKV3.out.drew)
    rw [← ha] at hat
    have := field_2 (V3).drew b a m cc wd msg (st : Int) _ (by omega) hwd hat (by rw [← HL2.out]; exact hm) hmc hcc
    rwa [← HL2.out] at this
  clear hgW4
  go_region_held (fun W => (partAt ⟨g, 0, none⟩ 0 0).run Tryz.prog W = .ok ⟨g, 0, none⟩ W) (first | exact run_part _ g HGW4.out | exact partTo (W := (V3).drew) HGW4.out hbT) (first | (go_at_call 60; refine (HFD4.out _ _ _ _ (by omega) (by omega) (by omega) (by omega)).mono ?_; rintro e V4 ⟨rfl, hbT⟩))
  rename_i hHeld
  have HKV4 : Hid (Kp [pk] W1 V4) := HKV3.out.drew.add hbT
  have HPV4 : Hid (V4.heap[pk]? = some (.cells #[q0, q1, (.int .u8 165), q3, (.int .u32 id), q5, q6, q7, q8, q9, vp0, q11, q12, q13, q14, q15, q16, q17] 52 (0, 0))) := (hbT.block pk (Lib.lt_of_heap HPV3.out)).trans HPV3.out
  clear hbT HFD4 HGW4 hHeld
  have e5 : V4.cell? ⟨pk, 8, none⟩ = some q8 := by rw [Lib.cell_of_heap HPV4.out]; rfl
  have f5 : V4.frozen? ⟨pk, 8, none⟩ = false := Lib.frozen_of_heap HPV4.out 8
  have HKV5 : Hid (Kp [pk] W1 (V4.setCell ⟨pk, 8, none⟩ (.int .u8 st))) := HKV4.out.setCell (.inl (by simp)) _
  have HPV5 : Hid ((V4.setCell ⟨pk, 8, none⟩ (.int .u8 st)).heap[pk]? = some (.cells #[q0, q1, (.int .u8 165), q3, (.int .u32 id), q5, q6, q7, (.int .u8 st), q9, vp0, q11, q12, q13, q14, q15, q16, q17] 52 (0, 0))) := Lib.heap_setCell_same (i := 8) HPV4.out _
  go_upto_region 28 with fail
  obtain ⟨S6, hS6⟩ : ∃ S, S = (V4.setCell ⟨pk, 8, none⟩ (.int .u8 st)) := ⟨_, rfl⟩
  rw [← hS6]
  have HKS6 : Hid (Kp [pk] W1 S6) := by rw [hS6]; exact HKV5.out
  have HPS6 : Hid (S6.heap[pk]? = some (.cells #[q0, q1, (.int .u8 165), q3, (.int .u32 id), q5, q6, q7, (.int .u8 st), q9, vp0, q11, q12, q13, q14, q15, q16, q17] 52 (0, 0))) := by rw [hS6]; exact HPV5.out
  clear hS6 e5 f5
  have hgW6 := HGG.out S6 (HGP.out _ HKS6.out)
  have HGW6 := Lib.hid hgW6
  have HFD6 : Hid (∀ a m cc msg, a = o + (j + L1 + L2) → L3 ≤ m → m ≤ cc → cc ≤ 9223372036854775807 ∧ m ≤ 1000000 → Calls Tryz.prog 60 #[.agg #[], .slice (some ⟨b, a, none⟩) m cc, .string msg] (S6).drew (RetF (S6).drew (.iface 3 (.int .i64 ix)) L3)) := by
    intro a m cc msg ha hm hmc hcc
    have hat := HAT3.out (S6).drew (HGP.out _ HKS6.out.drew)
    rw [← ha] at hat
    have := field_2 (S6).drew b a m cc wd msg (ix : Int) _ (by omega) hwd hat (by rw [← HL3.out]; exact hm) hmc hcc
    rwa [← HL3.out] at this
  clear hgW6
  go_region_held (fun W => (partAt ⟨g, 0, none⟩ 0 0).run Tryz.prog W = .ok ⟨g, 0, none⟩ W) (first | exact run_part _ g HGW6.out | exact partTo (W := (S6).drew) HGW6.out hbT) (first | (go_at_call 60; refine (HFD6.out _ _ _ _ (by omega) (by omega) (by omega) (by omega)).mono ?_; rintro e V6 ⟨rfl, hbT⟩))
  rename_i hHeld
  have HKV6 : Hid (Kp [pk] W1 V6) := HKS6.out.drew.add hbT
  have HPV6 : Hid (V6.heap[pk]? = some (.cells #[q0, q1, (.int .u8 165), q3, (.int .u32 id), q5, q6, q7, (.int .u8 st), q9, vp0, q11, q12, q13, q14, q15, q16, q17] 52 (0, 0))) := (hbT.block pk (Lib.lt_of_heap HPS6.out)).trans HPS6.out
  clear hbT HFD6 HGW6 hHeld
  have e7 : V6.cell? ⟨pk, 9, none⟩ = some q9 := by rw [Lib.cell_of_heap HPV6.out]; rfl
  have f7 : V6.frozen? ⟨pk, 9, none⟩ = false := Lib.frozen_of_heap HPV6.out 9
  have HKV7 : Hid (Kp [pk] W1 (V6.setCell ⟨pk, 9, none⟩ (.int .u32 ix))) := HKV6.out.setCell (.inl (by simp)) _
  have HPV7 : Hid ((V6.setCell ⟨pk, 9, none⟩ (.int .u32 ix)).heap[pk]? = some (.cells #[q0, q1, (.int .u8 165), q3, (.int .u32 id), q5, q6, q7, (.int .u8 st), (.int .u32 ix), vp0, q11, q12, q13, q14, q15, q16, q17] 52 (0, 0))) := Lib.heap_setCell_same (i := 9) HPV6.out _
  have hinvL : ∀ q, vp0.ownBlock = some q → q ∈ X ∨ (V6.setCell ⟨pk, 9, none⟩ (.int .u32 ix)).heap.size ≤ q := fun q hq => .inl (HINV0.out q hq)
  have hOL : OwnC 56 3 (V6.setCell ⟨pk, 9, none⟩ (.int .u32 ix)) base vp0 0 [] := HO0.out.kept (fun q hq => HKV7.out.block q (HO0.out.lt hq).2 (by have := (HO0.out.lt hq).1; simp; omega))
  have hKX : Kp X W1 (V6.setCell ⟨pk, 9, none⟩ (.int .u32 ix)) := HKV7.out.mono (fun q _ hq => by rw [List.mem_singleton.1 hq]; exact HX.out)
  have HV : Hid (∀ a m cc, a = o + (j + L1 + L2 + L3) → m = L4 → m ≤ cc → cc ≤ 9223372036854775807 ∧ m ≤ 1000000 → Calls Tryz.prog 81 #[.pointer (some ⟨g, 0, none⟩), .slice (some ⟨b, a, none⟩) m cc, .pointer (some ⟨pk, 0, none⟩)] (V6.setCell ⟨pk, 9, none⟩ (.int .u32 ix)) (RetVbl G X base (V6.setCell ⟨pk, 9, none⟩ (.int .u32 ix)) (fun v => #[q0, q1, (.int .u8 165), q3, (.int .u32 id), q5, q6, q7, (.int .u8 st), (.int .u32 ix), v, q11, q12, q13, q14, q15, q16, q17]) pk l)) := by
    intro a m cc ha hm hmc hcc
    refine unmarshalVBL G X base vp0 (V6.setCell ⟨pk, 9, none⟩ (.int .u32 ix)) b a m cc g pk wd (fun v => #[q0, q1, (.int .u8 165), q3, (.int .u32 id), q5, q6, q7, (.int .u8 st), (.int .u32 ix), v, q11, q12, q13, q14, q15, q16, q17]) l z HLL.out HOK.out hwd (by rw [hm]; exact HL4.out) hmc hcc ⟨fun v => rfl, fun u v => rfl⟩ HX.out hpb (Nat.le_trans hbw hKX.size) hOL hinvL (fun W hW => HG.out W (hKX.trans hW)) HZ.out HT.out HA.out HGG.out (fun W hW => by rw [ha]; exact HAT4.out W hW) HPV7.out
  have HKX := Lib.hid hKX
  clear hinvL hOL hKX
  go_wp2_with (go_at_call 81; refine (HV.out _ _ _ (by omega) (by have := HN.out; omega) (by omega) (by omega)).mono ?_; rintro e WZ ⟨rfl, vs', vp', z1, z2, z3, z4⟩; refine Hid.out ?_)
  refine Lib.hid ?_
  have HR : Hid (RetVbl G X base W1 (fun v => #[q0, q1, (.int .u8 165), q3, (.int .u32 id), q5, q6, q7, (.int .u8 st), (.int .u32 ix), v, q11, q12, q13, q14, q15, q16, q17]) pk l (.returned .nilIface) WZ) := ⟨rfl, vs', vp', z1, z2, z3, HKX.out.trans z4⟩
  clear z1 z2 z3 z4
  go_wp2
  go_ret
  exact HR.out
end Go.Proofs.YtpfmcdhmboclhaaGreatDoor
