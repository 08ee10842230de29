/- laws: FnTrap, walked. -/
import Derived.Test.YtpfmcdhmboclhaaGreatDoorR8
import Derived.Test.YtpfmcdhmboclhaaGreatDoorR9
import Derived.Test.YtpfmcdhmboclhaaGreatDoorJ3
import Derived.Test.YtpfmcdhmboclhaaGreatDoorJ7
import Derived.Test.YtpfmcdhmboclhaaGreatDoorT03
import Derived.Test.YtpfmcdhmboclhaaGreatDoorT04
set_option linter.unusedVariables false
set_option linter.unusedSimpArgs false
namespace Go.Proofs.YtpfmcdhmboclhaaGreatDoor
open Go.RowKit

/-- spec.TrapTold. -/
theorem specTrapTold (w : World) (ver : Int) (com : ByteArray) (kind id st ix : Int) (ent agent : ByteArray) (gen spec time : Int) (A : Option Addr) (n c : Nat) (rs : List Raw) (hn : rs.length = n) (hn31 : n ≤ 2147483647) (hrow : RawRow w A rs) (hwf : ∀ x ∈ rs, WfV x) (hfit : ∀ x ∈ rs, FitsV x) (hcom : com.size ≤ 2147483647) (hent : ent.size ≤ 2147483647) (hag : agent.size ≤ 2147483647) :
    Calls Tryz.prog 11 #[msgV ver com kind id st ix (.slice A n c) ent agent gen spec time] w (RetTrp w ver com kind id st ix n rs ent agent gen spec time) := by
  by_cases h : ∃ arcs ip, TrpOk ver com kind id st ix n ent agent gen spec time arcs ip
  · obtain ⟨arcs, ip, h⟩ := h
    obtain ⟨ha, hp, rfl, rfl, h1, h2, h3, h4, h5, h6, h7, rfl, rfl, rfl⟩ := h
    exact trap_yes w com ent agent gen spec time A n c rs arcs ip hent hag hn hrow hwf hfit ⟨ha, hp, rfl, rfl, h1, h2, h3, h4, h5, h6, h7, rfl, rfl, rfl⟩
  · exact trap_no w ver com kind id st ix ent agent gen spec time A n c rs hent hag hcom hn31 h

theorem arcs_short {ent : ByteArray} {arcs : List Nat} (h : arcsOf (bytesOf ent) = some arcs) : ent.size ≤ 1000 := by
  have h1 := dot_short (arcsOf_good h)
  have h2 : (text arcs).length ≤ 1000 := by
    unfold dot at h1
    rw [txt_size] at h1
    omega
  rw [← bytesOf_length]
  rcases arcsOf_text h with e | e
  · rw [e]; exact h2
  · rw [e, List.length_tail]; omega
theorem ip_same {agent : ByteArray} {a b c d : Nat} (h : ipOf (bytesOf agent) = some [a, b, c, d]) : agent = txt (ipT a b c d) ∧ a < 256 ∧ b < 256 ∧ c < 256 ∧ d < 256 := by
  obtain ⟨a', b', c', d', he, htx, h1, h2, h3, h4⟩ := ipOf_text h
  injection he with e1 he
  injection he with e2 he
  injection he with e3 he
  injection he with e4 he
  subst e1; subst e2; subst e3; subst e4
  refine ⟨?_, h1, h2, h3, h4⟩
  refine bytesOf_inj ?_
  rw [bytesOf_txt _ (ipT_range a b c d), htx]
  simp [ipT, Go.Proofs.YtpfmcdhmboclhaaGreatDoor.text]
theorem trapB_length (arcs : List Nat) (a b c d : Nat) (gen spec : Int) (time wd : Nat) (com : ByteArray) (l : List AV) (hg : GoodArcs arcs) (hgen : -2147483648 ≤ gen ∧ gen ≤ 2147483647) (hspec : -2147483648 ≤ spec ∧ spec ≤ 2147483647) (htime : time < 4294967296) (hcom : com.size ≤ 127) (hl : l.length ≤ 20) (hok : ∀ x ∈ l, x.Ok) (hwd : wd ≤ 2) :
    (msgB 0 com (sealB 164 (trapHead arcs a b c d gen spec time wd ++ sealB 48 (varsB l wd) wd) wd) wd).length ≤ 13400 := by
  have b0 := varsB_length l wd hwd hok
  have b48 := sealB_length 48 (varsB l wd) wd (by omega)
  have b67' := uintB_len8 time (by omega)
  have b67 := sealB_length 67 (uintB time) wd (by omega)
  have b2s' := intB_le spec hspec
  have b2s := sealB_length 2 (intB spec) wd (by omega)
  have b2g' := intB_le gen hgen
  have b2g := sealB_length 2 (intB gen) wd (by omega)
  have b64 := sealB_length 64 [(a : Int), (b : Int), (c : Int), (d : Int)] wd (by simp)
  have b64' : [(a : Int), (b : Int), (c : Int), (d : Int)].length = 4 := rfl
  have b6' := hg.bytes
  have b6 := sealB_length 6 (nameB arcs) wd (by omega)
  have hb : (trapHead arcs a b c d gen spec time wd ++ sealB 48 (varsB l wd) wd).length ≤ 12700 := by
    unfold trapHead
    simp only [List.length_append]; omega
  have b164 := sealB_length 164 _ wd (show (trapHead arcs a b c d gen spec time wd ++ sealB 48 (varsB l wd) wd).length < 65536 by omega)
  exact msgB_short 0 com _ (by omega) hcom (by omega) wd hwd
/-- What TrapTold returns, laid out. -/
theorem RetTrp.flat {w w' : World} {ver : Int} {com : ByteArray} {kind id st ix : Int} {n : Nat} {rs : List Raw} {ent agent : ByteArray} {gen spec time : Int} {e : Ending} (h : RetTrp w ver com kind id st ix n rs ent agent gen spec time e w') :
    ∃ m0 m1 m2 m3 m4 m5 A6 n6 c6 m7 m8 m9 m10 m11 b, e = .returned (.tuple #[.agg #[.int .i64 m0, .string m1, .int .i64 m2, .int .u32 m3, .int .i64 m4, .int .i64 m5, .slice A6 n6 c6, .string m7, .string m8, .int .i64 m9, .int .i64 m10, .int .u64 m11], .bool b]) ∧
      (b = true → m0 = 0 ∧ com = m1 ∧ m2 = 164 ∧ m3 = 0 ∧ m4 = 0 ∧ m5 = 0 ∧ agent = m8 ∧ gen = m9 ∧ spec = m10 ∧ time = m11 ∧ ∃ arcs ip l, m7 = dot arcs ∧ TrpOk ver com kind id st ix n ent agent gen spec time arcs ip ∧ AVs rs l ∧ n6 = l.length ∧ OwnC 40 5 w' w.heap.size (.slice A6 n6 c6) l.length (toldC l)) ∧ Below w.heap.size w w' := by
  obtain ⟨h, hb⟩ := h
  rcases h with rfl | ⟨arcs, ip, vo, l, rfl, hok, havs, hown⟩
  · exact ⟨_, _, _, _, _, _, _, _, _, _, _, _, _, _, false, rfl, (fun e => by cases e), hb⟩
  · obtain ⟨A, c, rfl⟩ := hown.shape
    exact ⟨_, _, _, _, _, _, _, _, _, _, _, _, _, _, true, rfl, (fun _ => ⟨rfl, rfl, rfl, rfl, rfl, rfl, rfl, rfl, rfl, rfl, arcs, ip, l, rfl, hok, havs, rfl, hown⟩), hb⟩

set_option maxHeartbeats 32000000 in
set_option maxRecDepth 100000 in
theorem fnTrap_any (w : World) (ver : Int) (com : ByteArray) (kind id st ix : Int) (ent agent : ByteArray) (gen spec time : Int) (A : Option Addr) (n c : Nat) (rs : List Raw) (z : Addr) (wide : Nat) (hG : Given w com ent agent id time A n rs z) (htm : 0 ≤ time) (hwide : wide < 256) :
    Calls Tryz.prog 5 #[msgV ver com kind id st ix (.slice A n c) ent agent gen spec time, .int .u8 wide] w fun e w' => e = .returned (.bool true) ∧ Below w.heap.size w w' := by
  have HG := Lib.hid hG
  have HTM := Lib.hid htm
  obtain ⟨W1, hW1⟩ : ∃ W1, W1 = w.alloc (.cells #[.int .i64 ver, .string com, .int .i64 kind, .int .u32 id, .int .i64 st, .int .i64 ix, .slice A n c, .string ent, .string agent, .int .i64 gen, .int .i64 spec, .int .u64 time] 26) := ⟨_, rfl⟩
  have hb1 : Below w.heap.size w W1 := by rw [hW1]; exact (Below.refl _ _).alloc (Nat.le_refl _) _
  have h1 : W1.heap[w.heap.size]? = some (.cells #[.int .i64 ver, .string com, .int .i64 kind, .int .u32 id, .int .i64 st, .int .i64 ix, .slice A n c, .string ent, .string agent, .int .i64 gen, .int .i64 spec, .int .u64 time] 26 (0, 0)) := by rw [hW1]; exact heap_alloc_new w _
  have HF := Lib.hid (fits2 W1 ver com kind id st ix ent agent gen spec time A n c rs hG.cnt hG.n63 (hG.row.below hb1) hG.far hG.com hG.ent hG.agent)
  have HB1 := Lib.hid hb1
  have HW1 := Lib.hid hW1
  have H1 := Lib.hid h1
  obtain ⟨wd, hwd⟩ : ∃ wd : Nat, wd = wide % 3 := ⟨_, rfl⟩
  have hrem : Int.tmod (wide : Int) 3 = (wd : Int) := by rw [hwd, Int.tmod_eq_emod_of_nonneg (by omega)]; omega
  have hwd3 : wd ≤ 2 := by omega
  have HWDE := Lib.hid hwd
  clear hG hb1 hW1 h1 hwd htm
  simp only [msgV]
  simp only [msgV] at HF
  go_enter Tryz.func5, Tryz.ntmps5
  go_wp2_with (go_at_call 6; rw [← HW1.out]; refine (HF.out).mono ?_; rintro e W2 ⟨b, rfl, hyes, hb2⟩; refine Hid.out ?_)
  refine Lib.hid ?_
  have HB2 : Hid (Below w.heap.size w W2) := HB1.out.trans (hb2.mono HB1.out.size)
  have H2 := Lib.hid ((hb2.block _ (Lib.lt_of_heap H1.out)).trans H1.out)
  clear hb2 HF
  cases b with
  | false =>
    clear hyes
    go_wp2
    go_ret
    exact ⟨rfl, HB2.out⟩
  | true =>
    have HFIT := Lib.hid (hyes (by first | rfl | trivial))
    clear hyes
    have HT := Lib.hid (specTrapTold W2 ver com kind id st ix ent agent gen spec time A n c rs HG.out.cnt HFIT.out.n (HG.out.row.below HB2.out) HG.out.wf HFIT.out.vars HFIT.out.com HFIT.out.ent HFIT.out.agent)
    simp only [msgV] at HT
    obtain ⟨e0, e1, e2, e3, e4, e5, e6, e7, e8, e9, e10, e11⟩ := twelve H2.out
    go_wp2_with (go_at_call 11; refine (HT.out).mono ?_; rintro e W3 hret; obtain ⟨m0, m1, m2, m3, m4, m5, A3, nl, c3, m7, m8, m9, m10, m11, b, rfl, hyes, hb3⟩ := hret.flat; clear hret; refine Hid.out ?_)
    cases b with
    | false =>
      refine Lib.hid ?_
      have HB3 : Hid (Below w.heap.size w W3) := HB2.out.trans (hb3.mono HB2.out.size)
      clear hb3 HT hyes e0 e1 e2 e3 e4 e5 e6 e7 e8 e9 e10 e11
      go_wp2
      go_ret
      exact ⟨rfl, HB3.out.alloc HB3.out.size _⟩
    | true =>
      obtain ⟨rfl, rfl, rfl, rfl, rfl, rfl, rfl, rfl, rfl, rfl, arcs, ip, l, rfl, hok, havs, hnl, hown⟩ := hyes (by first | rfl | trivial)
      obtain ⟨h_arcs, h_ip, rfl, rfl, h_com, h_gen0, h_gen1, h_spec0, h_spec1, h_time, h_n, rfl, rfl, rfl⟩ := hok
      obtain ⟨time, rfl⟩ : ∃ v : Nat, time = (v : Int) := ⟨time.toNat, by have := HTM.out; omega⟩
      obtain ⟨a1, a2, a3, a4, hip, -⟩ := ipOf_text h_ip
      subst hip
      obtain ⟨hags, p1, p2, p3, p4⟩ := ip_same h_ip
      obtain ⟨hsame, hoks⟩ := havs.same HG.out.wf HFIT.out.vars
      have hl20 : l.length ≤ 20 := by rw [havs.len, HG.out.cnt]; exact h_n
      have hgd := arcsOf_good h_arcs
      have HB3 : Hid (Below w.heap.size w W3) := HB2.out.trans (hb3.mono HB2.out.size)
      have H3 := Lib.hid ((hb3.block _ (Lib.lt_of_heap H2.out)).trans H2.out)
      obtain ⟨BB, hBB⟩ : ∃ BB, BB = msgB 0 com (sealB 164 (trapHead arcs a1 a2 a3 a4 gen spec time 0 ++ sealB 48 (varsB l 0) 0) 0) 0 := ⟨_, rfl⟩
      obtain ⟨TB, hTB⟩ : ∃ TB, TB = msgB 0 com (sealB 164 (trapHead arcs a1 a2 a3 a4 gen spec time wd ++ sealB 48 (varsB l wd) wd) wd) wd := ⟨_, rfl⟩
      have HE : Hid (∀ W, Below w.heap.size w W → Calls Tryz.prog 8 #[msgV 0 com 164 0 0 0 (.slice A n c) ent agent gen spec time] W (RetE W BB)) := fun W hW => by
        rw [hBB]
        exact encode_trap W 0 com 0 0 0 ent agent gen spec time A n c rs l z (HG.out.net.below hW) (by omega) (by omega) HG.out.cnt h_n h_com (arcs_short h_arcs) (by omega) (by omega) (HG.out.row.below hW) hsame hoks arcs a1 a2 a3 a4 ⟨hgd, arcsOf_text h_arcs, HFIT.out.ent⟩ h_ip HFIT.out.agent (by omega) (by omega)
      have HO : Hid (∀ W v, Rd W v BB → Calls Tryz.prog 12 #[v] W (RetDec W (fun vo => msgV 0 com 164 0 0 0 vo (dot arcs) agent gen spec time) l)) := fun W v hv => by
        rw [hBB] at hv
        have h := ofTrap v W com arcs a1 a2 a3 a4 gen spec time l h_com hgd p1 p2 p3 p4 (by omega) (by omega) (by omega) hl20 hoks hv
        rw [← hags] at h
        exact h
      have HTB : Hid (∀ W, Below w.heap.size w W → Calls Tryz.prog 13 #[msgV 0 com 164 0 0 0 (.slice A n c) ent agent gen spec time, .int .i64 wd] W (fun e w' => ∃ v, e = .returned v ∧ Rd w' v TB ∧ Below W.heap.size W w')) := fun W hW => by
        rw [hTB]
        exact trapBytes W wd 0 com 164 0 0 0 ent agent gen spec time A n c rs l arcs a1 a2 a3 a4 hwd3 HG.out.cnt h_n (HG.out.row.below hW) HG.out.wf HFIT.out.vars havs hoks HFIT.out.ent HFIT.out.agent h_com h_arcs h_ip (by omega) (by omega) (by omega)
      have HD : Hid (∀ W v, Below w.heap.size w W → Rd W v TB → Calls Tryz.prog 9 #[v] W (RetDec W (fun vo => msgV 0 com 164 0 0 0 vo (dot arcs) agent gen spec time) l)) := fun W v hW hv => by
        rw [hTB] at hv
        have hlen := trapB_length arcs a1 a2 a3 a4 gen spec time wd com l hgd (by omega) (by omega) (by omega) h_com hl20 hoks hwd3
        rw [hags]
        exact decode_trap W v _ com 0 _ _ gen spec time _ _ _ _ _ _ _ _ l z (by omega) hl20 hoks hv (msgB_ne _ _ _ _) (by omega) (HG.out.net.below hW) (HG.out.tab.below hW) (HG.out.asn.below hW) (fun W b o n c g hz ht ha hn hnc hcc hg hat => packet_164 W b o n c g wd 0 com arcs a1 a2 a3 a4 gen spec time l z (by omega) h_com hgd ⟨p1, p2, p3, p4⟩ (by omega) (by omega) (by omega) hl20 hoks hwd3 hn (by omega) hnc hcc hz ht ha hg hat)
      have HL20 := Lib.hid hl20
      have HOWN := Lib.hid hown
      simp only [msgV] at HE HO HTB HD
      clear hb3 HT hyes e0 e1 e2 e3 e4 e5 e6 e7 e8 e9 e10 e11 hsame hoks havs hBB hTB hl20 h_arcs h_ip h_com h_gen0 h_gen1 h_spec0 h_spec1 h_time h_n hown hags p1 p2 p3 p4 hgd
      rw [← hnl] at HL20 HOWN
      have HNL := Lib.hid hnl
      clear hnl
      refine Lib.hid ?_
      obtain ⟨X3, hX3⟩ : ∃ X3, X3 = W3.alloc (.cells #[.int .i64 0, .string com, .int .i64 164, .int .u32 0, .int .i64 0, .int .i64 0, .slice A3 nl c3, .string (dot arcs), .string agent, .int .i64 gen, .int .i64 spec, .int .u64 time] 26) := ⟨_, rfl⟩
      have hbx : Below W3.heap.size W3 X3 := by rw [hX3]; exact (Below.refl _ _).alloc (Nat.le_refl _) _
      have HBXX3 : Hid (Below w.heap.size w X3) := HB3.out.trans (hbx.mono HB3.out.size)
      have HX3 := Lib.hid hX3
      have HMX3 : Hid (X3.heap[W3.heap.size]? = some (.cells #[.int .i64 0, .string com, .int .i64 164, .int .u32 0, .int .i64 0, .int .i64 0, .slice A3 nl c3, .string (dot arcs), .string agent, .int .i64 gen, .int .i64 spec, .int .u64 time] 26 (0, 0))) := by unfold Hid; rw [hX3]; exact heap_alloc_new W3 _
      have hy3 : X3.heap[w.heap.size]? = _ := (hbx.block _ (Lib.lt_of_heap H3.out)).trans H3.out
      have HP3 := Lib.hid hy3
      rw [hX3] at hy3
      obtain ⟨e0, e1, e2, e3, e4, e5, e6, e7, e8, e9, e10, e11⟩ := twelve hy3
      clear hy3
      have HT3 : Hid (RdT X3 (.slice A3 nl c3) l) := RdT.of_own (l := l) (by rw [← HNL.out]; exact HOWN.out.below hbx)
      have HE1 := Lib.hid (HE.out X3 HBXX3.out)
      clear hX3 hbx HE
      go_wp2_with (go_at_call 8; rw [← HX3.out]; refine (HE1.out).mono ?_; rintro e W4 ⟨v4, rfl, hO4, hb4⟩; refine Hid.out ?_)
      refine Lib.hid ?_
      have HB4 : Hid (Below w.heap.size w W4) := HBXX3.out.trans (hb4.mono HBXX3.out.size)
      have HM4 := Lib.hid (heapB hb4 HMX3.out)
      have HP4 := Lib.hid (heapB hb4 HP3.out)
      have HT4 := Lib.hid (HT3.out.below hb4)
      have HO1 := Lib.hid (HO.out W4 v4 hO4.reads)
      clear hb4 hO4 HE1 HO e0 e1 e2 e3 e4 e5 e6 e7 e8 e9 e10 e11 HX3
      go_wp2_with (go_at_call 12; refine (HO1.out).mono ?_; rintro e W5 ⟨v5, rfl, hO5, hb5⟩; refine Hid.out ?_)
      obtain ⟨A5, c5, rfl⟩ := hO5.shape
      have HRT5 := Lib.hid (RdT.of_own hO5)
      rw [← HNL.out] at HRT5
      simp only [← HNL.out]
      refine Lib.hid ?_
      have HB5 : Hid (Below w.heap.size w W5) := HB4.out.trans (hb5.mono HB4.out.size)
      have HM5 := Lib.hid (heapB hb5 HM4.out)
      have HP5 := Lib.hid (heapB hb5 HP4.out)
      have HT5 := Lib.hid (HT4.out.below hb5)
      clear hO5 hb5 HO1
      obtain ⟨X5, hX5⟩ : ∃ X5, X5 = W5.alloc (.cells #[.int .i64 0, .string com, .int .i64 164, .int .u32 0, .int .i64 0, .int .i64 0, .slice A5 nl c5, .string (dot arcs), .string agent, .int .i64 gen, .int .i64 spec, .int .u64 time] 26) := ⟨_, rfl⟩
      have hbx : Below W5.heap.size W5 X5 := by rw [hX5]; exact (Below.refl _ _).alloc (Nat.le_refl _) _
      have HBXX5 : Hid (Below w.heap.size w X5) := HB5.out.trans (hbx.mono HB5.out.size)
      have HX5 := Lib.hid hX5
      have HMX5 : Hid (X5.heap[W5.heap.size]? = some (.cells #[.int .i64 0, .string com, .int .i64 164, .int .u32 0, .int .i64 0, .int .i64 0, .slice A5 nl c5, .string (dot arcs), .string agent, .int .i64 gen, .int .i64 spec, .int .u64 time] 26 (0, 0))) := by unfold Hid; rw [hX5]; exact heap_alloc_new W5 _
      have HPX5 := Lib.hid (heapB hbx HP5.out)
      have HMW5 := Lib.hid (heapB hbx HM5.out)
      have HRX5 := Lib.hid (HRT5.out.below hbx)
      have HTX5 := Lib.hid (HT5.out.below hbx)
      have hy5 := HPX5.out
      rw [hX5] at hy5
      obtain ⟨e0, e1, e2, e3, e4, e5, e6, e7, e8, e9, e10, e11⟩ := twelve hy5
      clear hy5
      have HTB1 := Lib.hid (HTB.out X5 HBXX5.out)
      clear hX5 hbx HTB HM5 HP5 HT5 HRT5 HM4 HP4 HT4
      go_wp2_with (go_at_call 13; rw [← HX5.out]; refine (HTB1.out).mono ?_; rintro e W6 ⟨v6, rfl, hR6, hb6⟩; refine Hid.out ?_)
      refine Lib.hid ?_
      have HB6 : Hid (Below w.heap.size w W6) := HBXX5.out.trans (hb6.mono HBXX5.out.size)
      have HD1 := Lib.hid (HD.out W6 v6 HB6.out hR6)
      have HG6 := Lib.hid (heapB hb6 HMX5.out)
      have HM6 := Lib.hid (heapB hb6 HMW5.out)
      have HR6 := Lib.hid (HRX5.out.below hb6)
      have HT6 := Lib.hid (HTX5.out.below hb6)
      clear hR6 hb6 HTB1 HD e0 e1 e2 e3 e4 e5 e6 e7 e8 e9 e10 e11 HX5
      go_wp2_with (go_at_call 9; refine (HD1.out).mono ?_; rintro e W7 ⟨v7, rfl, hO7, hb7⟩; refine Hid.out ?_)
      obtain ⟨A7, c7, rfl⟩ := hO7.shape
      have HRT7 := Lib.hid (RdT.of_own hO7)
      rw [← HNL.out] at HRT7
      simp only [← HNL.out]
      refine Lib.hid ?_
      have HB7 : Hid (Below w.heap.size w W7) := HB6.out.trans (hb7.mono HB6.out.size)
      have HG7 := Lib.hid (heapB hb7 HG6.out)
      have HM7 := Lib.hid (heapB hb7 HM6.out)
      have HR7 := Lib.hid (HR6.out.below hb7)
      have HT7 := Lib.hid (HT6.out.below hb7)
      clear hO7 hb7 HD1
      obtain ⟨X7, hX7⟩ : ∃ X7, X7 = W7.alloc (.cells #[.int .i64 0, .string com, .int .i64 164, .int .u32 0, .int .i64 0, .int .i64 0, .slice A7 nl c7, .string (dot arcs), .string agent, .int .i64 gen, .int .i64 spec, .int .u64 time] 26) := ⟨_, rfl⟩
      have hbx : Below W7.heap.size W7 X7 := by rw [hX7]; exact (Below.refl _ _).alloc (Nat.le_refl _) _
      have HBXX7 : Hid (Below w.heap.size w X7) := HB7.out.trans (hbx.mono HB7.out.size)
      have HX7 := Lib.hid hX7
      have HMX7 : Hid (X7.heap[W7.heap.size]? = some (.cells #[.int .i64 0, .string com, .int .i64 164, .int .u32 0, .int .i64 0, .int .i64 0, .slice A7 nl c7, .string (dot arcs), .string agent, .int .i64 gen, .int .i64 spec, .int .u64 time] 26 (0, 0))) := by unfold Hid; rw [hX7]; exact heap_alloc_new W7 _
      have HGX7 := Lib.hid (heapB hbx HG7.out)
      have HMW7 := Lib.hid (heapB hbx HM7.out)
      have HRX7 := Lib.hid (HR7.out.below hbx)
      have HTX7 := Lib.hid (HT7.out.below hbx)
      have HKX7 := Lib.hid (HRT7.out.below hbx)
      have hs1 := same_eq X7 0 com 164 0 0 0 (dot arcs) agent gen spec time (.slice A5 nl c5) (.slice A3 nl c3) l HRX7.out HTX7.out (by rw [← HNL.out]; exact HL20.out)
      simp only [msgV] at hs1
      have HS1 := Lib.hid hs1
      have hg7 := HGX7.out
      rw [hX7] at hg7
      obtain ⟨g0, g1, g2, g3, g4, g5, g6, g7, g8, g9, g10, g11⟩ := twelve hg7
      have hm7 := HMW7.out
      rw [hX7] at hm7
      obtain ⟨m0, m1, m2, m3, m4, m5, m6, m7, m8, m9, m10, m11⟩ := twelve hm7
      clear hX7 hbx hs1 hg7 hm7
      go_wp2_with (go_at_call 10; rw [← HX7.out]; refine (HS1.out).mono ?_; rintro e W8 ⟨rfl, hb8⟩; refine Hid.out ?_)
      refine Lib.hid ?_
      have HB8 : Hid (Below w.heap.size w W8) := HBXX7.out.trans (hb8.mono HBXX7.out.size)
      have HK8 := Lib.hid (heapB hb8 HMX7.out)
      have HM8 := Lib.hid (heapB hb8 HMW7.out)
      have hs2 := same_eq W8 0 com 164 0 0 0 (dot arcs) agent gen spec time (.slice A7 nl c7) (.slice A3 nl c3) l (HKX7.out.below hb8) (HTX7.out.below hb8) (by rw [← HNL.out]; exact HL20.out)
      simp only [msgV] at hs2
      have HS2 := Lib.hid hs2
      clear hb8 hs2 HS1 g0 g1 g2 g3 g4 g5 g6 g7 g8 g9 g10 g11 m0 m1 m2 m3 m4 m5 m6 m7 m8 m9 m10 m11
      obtain ⟨g0, g1, g2, g3, g4, g5, g6, g7, g8, g9, g10, g11⟩ := twelve HK8.out
      obtain ⟨m0, m1, m2, m3, m4, m5, m6, m7, m8, m9, m10, m11⟩ := twelve HM8.out
      go_wp2_with (go_at_call 10; refine (HS2.out).mono ?_; rintro e W9 ⟨rfl, hb9⟩; refine Hid.out ?_)
      refine Lib.hid ?_
      have HB9 : Hid (Below w.heap.size w W9) := HB8.out.trans (hb9.mono HB8.out.size)
      clear hb9 HS2 g0 g1 g2 g3 g4 g5 g6 g7 g8 g9 g10 g11 m0 m1 m2 m3 m4 m5 m6 m7 m8 m9 m10 m11
      go_wp2
      go_ret
      exact ⟨rfl, HB9.out⟩
end Go.Proofs.YtpfmcdhmboclhaaGreatDoor
