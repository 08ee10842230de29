/- impl: Decode of kind 164. -/
import Derived.Test.YtpfmcdhmboclhaaGreatDoorG19
import Derived.Test.YtpfmcdhmboclhaaGreatDoorT01
set_option linter.unusedVariables false
set_option linter.unusedSimpArgs false
namespace Go.Proofs.YtpfmcdhmboclhaaGreatDoor
open Go.RowKit

set_option maxHeartbeats 64000000 in
set_option maxRecDepth 100000 in
theorem decode_trap (w : World) (vb : Value) (bs : List Int) (com : ByteArray) (ver : Nat) (ent agent : ByteArray) (gen spec : Int) (time : Nat) (p3 p5 p6 p7 p8 p9 p11 p12 : Value) (l : List AV) (z : Addr) (hver : ver < 256) (hl : l.length ≤ 20) (hok : ∀ x ∈ l, x.Ok) (hrd : Rd w vb bs) (hne : bs ≠ []) (hlen : bs.length ≤ 16384) (hz : NetLaid w z) (ht : Tab w) (ha : AsnLaid w)
    (HPKT : ∀ (W : World) (b o n c g : Nat), NetLaid W z → Tab W → AsnLaid W → bs.length = n → n ≤ c → c ≤ 9223372036854775807 ∧ n ≤ 1000000 → W.heap[g]? = some (.cells #[] 68 (0, 0)) → At W b o bs → Calls Tryz.prog 20 #[.pointer (some ⟨g, 0, none⟩), .slice (some ⟨b, o, none⟩) n c] W (RetPkt W (fun v => #[.int .u8 ver, .string com, .int .u8 164, p3, .int .u32 0, p5, p6, p7, p8, p9, v, p11, p12, .string ent, .string agent, .int .i64 gen, .int .i64 spec, .int .u64 time]) l)) :
    Calls Tryz.prog 9 #[vb] w (RetDec w (fun vo => .agg #[.int .i64 ver, .string com, .int .i64 164, .int .u32 0, .int .i64 0, .int .i64 0, vo, .string ent, .string agent, .int .i64 gen, .int .i64 spec, .int .u64 time]) l) := by
  obtain ⟨A0, c0, rfl, hc1, hc2, hcells⟩ := hrd
  have hrd : Rd w (.slice A0 bs.length c0) bs := ⟨A0, c0, rfl, hc1, hc2, hcells⟩
  obtain ⟨n, hn⟩ : ∃ n, n = bs.length := ⟨_, rfl⟩
  rw [← hn] at hrd hlen hc1 ⊢
  have hlit : (n : Int) ≤ 16384 := by omega
  obtain ⟨W1, hW1⟩ : ∃ W1, W1 = (w.alloc (.cells #[.int .i64 0, .string ⟨#[]⟩, .int .i64 0, .int .u32 0, .int .i64 0, .int .i64 0, .slice none 0 0, .string ⟨#[]⟩, .string ⟨#[]⟩, .int .i64 0, .int .i64 0, .int .u64 0] 26)).alloc (.cells #[] 68) := ⟨_, rfl⟩
  have hb1 : Below w.heap.size w W1 := by rw [hW1]; exact ((Below.refl _ _).alloc (Nat.le_refl _) _).alloc (by simp) _
  have hr1 : W1.heap[w.heap.size]? = some (.cells #[.int .i64 0, .string ⟨#[]⟩, .int .i64 0, .int .u32 0, .int .i64 0, .int .i64 0, .slice none 0 0, .string ⟨#[]⟩, .string ⟨#[]⟩, .int .i64 0, .int .i64 0, .int .u64 0] 26 (0, 0)) := by rw [hW1, Below.heap_alloc _ _ _ (by simp)]; exact heap_alloc_new w _
  have hg1 : W1.heap[w.heap.size + 1]? = some (.cells #[] 68 (0, 0)) := by
    rw [hW1]
    have hh := heap_alloc_new (w.alloc (.cells #[.int .i64 0, .string ⟨#[]⟩, .int .i64 0, .int .u32 0, .int .i64 0, .int .i64 0, .slice none 0 0, .string ⟨#[]⟩, .string ⟨#[]⟩, .int .i64 0, .int .i64 0, .int .u64 0] 26)) (.cells #[] 68)
    rwa [show (w.alloc (.cells #[.int .i64 0, .string ⟨#[]⟩, .int .i64 0, .int .u32 0, .int .i64 0, .int .i64 0, .slice none 0 0, .string ⟨#[]⟩, .string ⟨#[]⟩, .int .i64 0, .int .i64 0, .int .u64 0] 26)).heap.size = w.heap.size + 1 by simp] at hh
  have HCL := Lib.hid (cloneBytes W1 (.slice A0 n c0) bs (hrd.keptBelow hb1) hne (by omega))
  have HB1 := Lib.hid hb1
  have HR1 := Lib.hid hr1
  have HG1 := Lib.hid hg1
  have HW1 := Lib.hid hW1
  have HN := Lib.hid hn
  have HZ := Lib.hid hz
  have HT := Lib.hid ht
  have HA := Lib.hid ha
  have HOK := Lib.hid hok
  have HNE := Lib.hid hne
  have HPK := Lib.hid HPKT
  have HLL := Lib.hid hl
  clear hb1 hr1 hg1 hW1 hn hz ht ha hok hne HPKT hrd hcells hl
  go_enter Tryz.func9, Tryz.ntmps9
  go_wp2_with (go_at_call 19; rw [← HW1.out]; refine (HCL.out).mono ?_; rintro e W2 ⟨v2, rfl, hO2, hB2⟩; refine Hid.out ?_)
  refine Lib.hid ?_
  obtain ⟨rfl, hb0⟩ | ⟨gb, cap, cur, rfl, hgb, hcur, hcp1, hcp2, hcp3, hcp4⟩ := hO2.form
  · exact absurd hb0 HNE.out
  have HB2 := Lib.hid (HB1.out.trans (hB2.mono HB1.out.size))
  have hcapb : cap ≤ 9223372036854775807 := by unfold maxLen at hcp2; omega
  have hn16 : bs.length ≤ 16384 := by rw [← HN.out]; exact hlen
  have HP := Lib.hid (HPK.out W2 gb 0 bs.length cap (w.heap.size + 1) (HZ.out.below HB2.out) (HT.out.below HB2.out) (HA.out.below HB2.out) rfl hcp1 ⟨hcapb, by omega⟩ ((hB2.block _ (Lib.lt_of_heap HG1.out)).trans HG1.out) (At.of_rd hO2.reads))
  have HR2 := Lib.hid ((hB2.block _ (Lib.lt_of_heap HR1.out)).trans HR1.out)
  clear hO2 hgb hcur hcp1 hcp2 hcp3 hcp4 hB2 HCL
  go_wp2_with (go_at_call 20; refine (HP.out).mono ?_; rintro e W3 ⟨rfl, vs, vp, base, hwb, hp3, hO3, hrow, hB3⟩; refine Hid.out ?_)
  refine Lib.hid ?_
  obtain ⟨pk, hpk⟩ : ∃ pk, pk = W2.heap.size := ⟨_, rfl⟩
  rw [← hpk] at hp3 hwb
  simp only [← hpk]
  have HPP := Lib.hid hpk
  have HP3 := Lib.hid hp3
  have HO3 := Lib.hid hO3
  have HROW := Lib.hid hrow
  have HWB := Lib.hid hwb
  have HB3 := Lib.hid (HB2.out.trans (hB3.mono HB2.out.size))
  have HB23 := Lib.hid hB3
  clear hpk hp3 hO3 hrow hwb hB3 HP
  have hwv : IntKind.i64.wrap (ver : Int) = ver := by rw [IntKind.wrap_i64]; omega
  have hwk : IntKind.i64.wrap 164 = 164 := by decide
  go_upto_region 6 with fail
  go_region_held3 (fun W => W.cell? ⟨pk, 0, none⟩ = some (.int .u8 ver) ∧ W.cell? ⟨pk, 1, none⟩ = some (.string com) ∧ W.cell? ⟨pk, 2, none⟩ = some (.int .u8 164) ∧ W.cell? ⟨pk, 4, none⟩ = some (.int .u32 0)) (first | exact fourC (W := W3.drew) HP3.out | exact fourA HP3.out) (fail)
  rename_i hHeld
  obtain ⟨Q, hQ⟩ : ∃ Q, Q = W3.heap.size := ⟨_, rfl⟩
  obtain ⟨W4, hW4⟩ : ∃ W4, W4 = (W3.alloc (.cells #[.int .i64 ver, .string com, .int .i64 164, .int .u32 0, .int .i64 0, .int .i64 0, .slice none 0 0, .string ⟨#[]⟩, .string ⟨#[]⟩, .int .i64 0, .int .i64 0, .int .u64 0] 26)).drew := ⟨_, rfl⟩
  rw [← hW4, ← hQ]
  have hb4 : Below W3.heap.size W3 W4 := by rw [hW4]; exact ((Below.refl _ _).alloc (Nat.le_refl _) _).drew
  have hsz4 : W4.heap.size = Q + 1 := by rw [hW4, hQ]; simp [World.drew, -World.drew_eq, -World.alloc_eq, World.alloc]
  have hq4 : W4.heap[Q]? = some (.cells #[.int .i64 ver, .string com, .int .i64 164, .int .u32 0, .int .i64 0, .int .i64 0, .slice none 0 0, .string ⟨#[]⟩, .string ⟨#[]⟩, .int .i64 0, .int .i64 0, .int .u64 0] 26 (0, 0)) := by rw [hW4, hQ]; exact heap_alloc_new W3 _
  have hp4 : W4.heap[pk]? = _ := (hb4.block pk (Lib.lt_of_heap HP3.out)).trans HP3.out
  have hpq : Q ≠ pk := by rw [hQ]; exact Ne.symm (Nat.ne_of_lt (Lib.lt_of_heap HP3.out))
  have HB4 := Lib.hid hb4
  have HQ4 := Lib.hid hq4
  have HP4 := Lib.hid hp4
  have HQQ := Lib.hid hQ
  have q2 : W4.cell? ⟨Q, 2, none⟩ = some (.int .i64 164) := by rw [Lib.cell_of_heap hq4]; rfl
  have q7 : W4.cell? ⟨Q, 7, none⟩ = some (.string ⟨#[]⟩) := by rw [Lib.cell_of_heap hq4]; rfl
  have q8 : W4.cell? ⟨Q, 8, none⟩ = some (.string ⟨#[]⟩) := by rw [Lib.cell_of_heap hq4]; rfl
  have q9 : W4.cell? ⟨Q, 9, none⟩ = some (.int .i64 0) := by rw [Lib.cell_of_heap hq4]; rfl
  have q10 : W4.cell? ⟨Q, 10, none⟩ = some (.int .i64 0) := by rw [Lib.cell_of_heap hq4]; rfl
  have q11 : W4.cell? ⟨Q, 11, none⟩ = some (.int .u64 0) := by rw [Lib.cell_of_heap hq4]; rfl
  have qf : ∀ i, W4.frozen? ⟨Q, i, none⟩ = false := fun i => Lib.frozen_of_heap hq4 i
  have hS2 : W4.drew.cell? ⟨pk, 13, none⟩ = some (.string ent) ∧ W4.drew.cell? ⟨pk, 14, none⟩ = some (.string agent) ∧ W4.drew.cell? ⟨pk, 15, none⟩ = some (.int .i64 gen) ∧ W4.drew.cell? ⟨pk, 16, none⟩ = some (.int .i64 spec) ∧ W4.drew.cell? ⟨pk, 17, none⟩ = some (.int .u64 time) := ⟨by show W4.cell? _ = _; rw [Lib.cell_of_heap hp4]; rfl, by show W4.cell? _ = _; rw [Lib.cell_of_heap hp4]; rfl, by show W4.cell? _ = _; rw [Lib.cell_of_heap hp4]; rfl, by show W4.cell? _ = _; rw [Lib.cell_of_heap hp4]; rfl, by show W4.cell? _ = _; rw [Lib.cell_of_heap hp4]; rfl⟩
  clear hHeld hW4 hb4 hq4 hp4 hQ hwv hwk
  go_upto_region 10 with fail
  go_region_held3 (fun W => W.cell? ⟨pk, 13, none⟩ = some (.string ent) ∧ W.cell? ⟨pk, 14, none⟩ = some (.string agent) ∧ W.cell? ⟨pk, 15, none⟩ = some (.int .i64 gen) ∧ W.cell? ⟨pk, 16, none⟩ = some (.int .i64 spec) ∧ W.cell? ⟨pk, 17, none⟩ = some (.int .u64 time)) (first | with_reducible exact hS2 | (rename_i hh _ _; with_reducible exact keep5 hh hpq)) (fail)
  rename_i hHeld
  obtain ⟨W5, hW5⟩ : ∃ W5, W5 = (((((W4.setCell ⟨Q, 7, none⟩ (.string ent)).setCell ⟨Q, 8, none⟩ (.string agent)).setCell ⟨Q, 9, none⟩ (.int .i64 gen)).setCell ⟨Q, 10, none⟩ (.int .i64 spec)).setCell ⟨Q, 11, none⟩ (.int .u64 time)).drew := ⟨_, rfl⟩
  rw [← hW5]
  have hq5 : W5.heap[Q]? = some (.cells #[.int .i64 ver, .string com, .int .i64 164, .int .u32 0, .int .i64 0, .int .i64 0, .slice none 0 0, .string ent, .string agent, .int .i64 gen, .int .i64 spec, .int .u64 time] 26 (0, 0)) := by
    rw [hW5]; exact (Lib.heap_setCell_same (i := 11) (Lib.heap_setCell_same (i := 10) (Lib.heap_setCell_same (i := 9) (Lib.heap_setCell_same (i := 8) (Lib.heap_setCell_same (i := 7) HQ4.out _) _) _) _) _)
  have hsz5 : W5.heap.size = Q + 1 := by rw [hW5]; simpa [World.setCell, World.drew, -World.drew_eq] using hsz4
  have HSZ5 := Lib.hid hsz5
  have hk45 : Kp [Q] W4 W5 := by rw [hW5]; exact ((((((Kp.refl [Q] W4).setCell (.inl (by simp)) _).setCell (.inl (by simp)) _).setCell (.inl (by simp)) _).setCell (.inl (by simp)) _).setCell (.inl (by simp)) _).drew
  have hQ3 : Q = W3.heap.size := HQQ.out
  have hk35 : Kp [Q] W3 W5 := (Kp.of_below HB4.out [Q]).trans hk45
  have hp5 : W5.heap[pk]? = _ := hk35.heap HP3.out (by simp; exact Ne.symm hpq)
  have hO5 : OwnC 56 3 W5 base vp l.length (decC l vs) := HO3.out.kept (fun q hq => by
    have := (HO3.out.lt hq).2
    exact hk35.block q this (by simp; omega))
  obtain ⟨A1, cp1, hvp⟩ := hO5.shape
  have p10 : W5.cell? ⟨pk, 10, none⟩ = some vp := by rw [Lib.cell_of_heap hp5]; rfl
  obtain ⟨nl, hnl⟩ : ∃ nl, nl = l.length := ⟨_, rfl⟩
  rw [← hnl] at hvp
  have HNL := Lib.hid hnl
  have hnl20 : nl ≤ 20 := by rw [hnl]; exact HLL.out
  have HQ5 := Lib.hid hq5
  have HK35 := Lib.hid hk35
  have HO5 := Lib.hid hO5
  have hb5 : Below W2.heap.size W2 W5 := HB23.out.trans (hk35.below HB23.out.size (by simp; have := HB23.out.size; omega))
  have HB5 := Lib.hid hb5
  have hszQ : Q < W5.heap.size := Lib.lt_of_heap hq5
  clear hQ3 hsz4 hsz5 hHeld hW5 hq5 hk45 hk35 hp5 hO5 hb5 hnl q2 q7 q8 q9 q10 q11 qf hS2
  subst hvp
  go_wp2
  go_loopw [108] (fun i wr => ∃ (k : Nat) (vo : Value), i = .int .i64 k ∧ DecAt w W5 Q pk (fun vo => #[.int .i64 ver, .string com, .int .i64 164, .int .u32 0, .int .i64 0, .int .i64 0, vo, .string ent, .string agent, .int .i64 gen, .int .i64 spec, .int .u64 time]) l k vo wr) (fun i _ => nl - (intOf i).toNat)
  case atStart => exact ⟨0, .slice none 0 0, rfl, Nat.zero_le _, HQ5.out, OwnC.nil _ _ _ _, Kp.refl _ _⟩
  case round =>
    obtain ⟨k, vo, rfl, h1, h2, h3, h4⟩ := hrel
    obtain ⟨wo, rfl⟩ : ∃ wo : World, wo = wr := ⟨_, rfl⟩
    have hk : k ≤ nl := by rw [HNL.out]; exact h1
    have H2 := Lib.hid h2
    have H3 := Lib.hid h3
    have H4 := Lib.hid h4
    clear p10
    by_cases hkn : k < nl
    · obtain ⟨x, hx⟩ : ∃ x, l[k]? = some x := ⟨_, List.getElem?_eq_getElem (by rw [← HNL.out]; exact hkn)⟩
      obtain ⟨v, hv⟩ : ∃ v, vs[k]? = some v := ⟨_, List.getElem?_eq_getElem (by rw [← HROW.out.len, ← HNL.out]; exact hkn)⟩
      obtain ⟨g, cap9, hv9, hg9, hcc⟩ := HO5.out.cell (by rw [← HNL.out]; omega)
      injection hv9 with a1 a2 a3
      subst a1
      obtain ⟨d0, d1, d2⟩ := decC_at l vs k x v hx hv
      have hgQ : g < Q := by rw [HQQ.out]; exact (HO3.out.lt (k := g) rfl).2
      have hcw : ∀ (i : Nat) (y : Value), (decC l vs)[i]? = some y → wo.cell? ⟨g, i, none⟩ = some y := fun i y hy => by
        rw [h4.cell (p := ⟨g, i, none⟩) (by show g < _; rw [HSZ5.out]; omega) (by simp; omega)]
        exact hcc i y hy
      obtain ⟨ty, hty⟩ : ∃ ty, ty = x.pay.typ := ⟨_, rfl⟩
      obtain ⟨I, hI⟩ : ∃ I, I = toldI x.pay := ⟨_, rfl⟩
      obtain ⟨U, hU⟩ : ∃ U, U = toldU x.pay := ⟨_, rfl⟩
      obtain ⟨T, hT⟩ : ∃ T, T = toldT x.pay := ⟨_, rfl⟩
      have b0 := hcw _ _ d0
      have b1 := hcw _ _ d1
      have b2 := hcw _ _ d2
      rw [← hty] at b2
      have hdv := HROW.out.each k x v hx hv
      have hvs := (hdv W5 HB5.out).shape
      have HX := Lib.hid hx
      have HDV := Lib.hid hdv
      have HTY := Lib.hid hty
      have HI := Lib.hid hI
      have HU := Lib.hid hU
      have HTT := Lib.hid hT
      obtain ⟨i0, z0, hi, hz, hz1, hz2, hz3⟩ := elem23.info
      have h_ap := Lib.hid (And.intro hi (And.intro hz (And.intro hz1 (And.intro hz2 hz3))))
      clear hi hz hz1 hz2 hz3 hx hv hg9 hcc a2 a3 d0 d1 d2 hcw hty hI hU hT hdv h2 h3 h4 hgQ
      rcases hvs with rfl | ⟨vt, vu, rfl⟩
      · have hwr : ∃ WR, WR = wo.alloc (.cells #[.nilIface, .string (dot x.arcs), .int .u8 ty] 56) := ⟨_, rfl⟩
        obtain ⟨WR, hWR⟩ := hwr
        have hrR : WR.heap[wo.heap.size]? = some (.cells #[.nilIface, .string (dot x.arcs), .int .u8 ty] 56 (0, 0)) := by rw [hWR]; exact heap_alloc_new wo _
        have hbR : Below wo.heap.size wo WR := by rw [hWR]; exact (Below.refl _ _).alloc (Nat.le_refl _) _
        have hqR : WR.heap[Q]? = _ := (hbR.block Q (Lib.lt_of_heap H2.out)).trans H2.out
        have hoR := OwnC.below H3.out hbR
        have q6 : WR.cell? ⟨Q, 6, none⟩ = some vo := by rw [Lib.cell_of_heap hqR]; rfl
        have hBR : Below W2.heap.size W2 WR := (HB5.out.trans (H4.out.below HB5.out.size (by simp; have := HB23.out.size; have := HQQ.out; omega))).trans (hbR.mono (Nat.le_trans HB5.out.size H4.out.size))
        have HTD : Hid (Calls Tryz.prog 21 #[.string (dot x.arcs), .int .u8 ty, .nilIface] WR.drew fun e w' => e = .returned (.agg #[.string (dot x.arcs), .int .i64 ty, .int .i64 I, .int .u64 U, .string T]) ∧ Below WR.drew.heap.size WR.drew w') := by
          have := told (dot x.arcs) x.pay (.nilIface) WR.drew (HOK.out x (List.mem_of_getElem? HX.out)).pay (HDV.out _ hBR.drew)
          rw [← HTY.out] at this
          simp only [toldV, ← HTY.out, ← HI.out, ← HU.out, ← HTT.out] at this
          exact this
        have HRR := Lib.hid hrR
        have HQR := Lib.hid hqR
        have HOR := Lib.hid hoR
        have HBRR := Lib.hid hbR
        have hQr : Q ≠ wo.heap.size := Nat.ne_of_lt (Lib.lt_of_heap H2.out)
        have hnQ : some Q ≠ vo.ownBlock := fun e => by have := (H3.out.lt e.symm).1; omega
        have hnr : some wo.heap.size ≠ vo.ownBlock := fun e => Nat.lt_irrefl _ (H3.out.lt e.symm).2
        have hQ1 : Q + 1 ≤ WR.heap.size := by have := hbR.size; have := Lib.lt_of_heap H2.out; omega
        have HONE : Hid (∀ u ∈ [Value.string (dot x.arcs), .int .i64 ty, .int .i64 I, .int .u64 U, .string T], Value.oneCell' u = true) := by
          intro u hu; simp at hu; rcases hu with rfl | rfl | rfl | rfl | rfl <;> rfl
        have hk20 : k ≤ 20 := by omega
        clear hrR hbR hqR hoR hBR
        go_upto_region 16 with fail
        rw [← hWR]
        clear hWR b0 b1 b2
        have r0 := (three56 (W := WR) HRR.out).1
        have r1 := (three56 (W := WR) HRR.out).2.1
        have r2 := (three56 (W := WR) HRR.out).2.2
        go_region_law (first | (refine step_append_lies _ rfl (.tmp 113) (.tmp 121) 23 rfl (Q + 1) 40 i0 z0 5 56 Tryz.underlying23 h_ap.out.1 h_ap.out.2.1 h_ap.out.2.2.1 h_ap.out.2.2.2.1 h_ap.out.2.2.2.2 (by omega) vo k (toldC (l.take k)) (by rfl) (by exact hOT.alloc _) ⟨WT.heap.size, 0, none⟩ 1 1 [.string (dot x.arcs), .int .i64 ty, .int .i64 I, .int .u64 U, .string T] (by rfl) (by rfl) (by exact World.news_of_block (heap_alloc_new WT _)) HONE.out (by omega) (by unfold maxLen; omega) (by omega) (by simp; omega) _ rfl ?_; rintro gg cap6 w6 hown hgrow hlie hlt6; have hR6 : w6.heap[wo.heap.size]? = some (.cells #[.nilIface, .string (dot x.arcs), .int .u8 ty] 56 (0, 0)) := (hgrow.block _ (by have := Lib.lt_of_heap hRT; simp; omega) hnr).trans ((Below.heap_alloc _ _ _ (Lib.lt_of_heap hRT)).trans hRT); have hQ6 : w6.heap[Q]? = _ := (hgrow.block Q (by have := Lib.lt_of_heap hQT; simp; omega) hnQ).trans ((Below.heap_alloc _ _ _ (Lib.lt_of_heap hQT)).trans hQT); have q66 : w6.cell? ⟨Q, 6, none⟩ = some vo := (by rw [Lib.cell_of_heap hQ6]; rfl); have f66 : w6.frozen? ⟨Q, 6, none⟩ = false := Lib.frozen_of_heap hQ6 6) | (go_simp; go_at_call 21; refine (HTD.out).mono ?_; rintro e WT ⟨rfl, hbT⟩; have hRT : WT.heap[wo.heap.size]? = some (.cells #[.nilIface, .string (dot x.arcs), .int .u8 ty] 56 (0, 0)) := (hbT.block _ (Lib.lt_of_heap HRR.out)).trans HRR.out; have hQT : WT.heap[Q]? = _ := (hbT.block Q (Lib.lt_of_heap HQR.out)).trans HQR.out; have hOT := OwnC.below (w := WR.drew) HOR.out hbT; have q6T : WT.cell? ⟨Q, 6, none⟩ = some vo := (by rw [Lib.cell_of_heap hQT]; rfl); have q6A : ∀ o1, (WT.alloc o1).cell? ⟨Q, 6, none⟩ = some vo := (fun o1 => cellB ((Below.refl _ _).alloc (Nat.le_refl _) o1) q6T); have hsT : WR.heap.size ≤ WT.heap.size := hbT.size))
        all_goals
          have hb6 : Kp [Q] W5 w6 := ((((H4.out.add HBRR.out).drew.add hbT).alloc _)).grown hgrow (fun q e => .inr (by have := (H3.out.lt e).1; rw [HSZ5.out]; exact this))
          have HNEXT : Hid (DecAt w W5 Q pk (fun vo => #[.int .i64 ver, .string com, .int .i64 164, .int .u32 0, .int .i64 0, .int .i64 0, vo, .string ent, .string agent, .int .i64 gen, .int .i64 spec, .int .u64 time]) l (k + 1) (.slice (some ⟨gg, 0, none⟩) (k + 1) cap6) (w6.setCell ⟨Q, 6, none⟩ (.slice (some ⟨gg, 0, none⟩) (k + 1) cap6))) := by
            refine ⟨by rw [← HNL.out]; omega, Lib.heap_setCell_same (i := 6) hQ6 _, ?_, hb6.setCell (.inl (by simp)) _⟩
            have h1 : OwnC 40 5 w6 (Q + 1) (.slice (some ⟨gg, 0, none⟩) (k + 1) cap6) (k + 1) (toldC (l.take (k + 1))) := by
              rw [List.take_add_one, HX.out, Option.toList_some, toldC_snoc, ← HTY.out, ← HI.out, ← HU.out, ← HTT.out]
              exact hown
            exact h1.setCell (by omega) _
          clear hown hgrow hlie hlt6 hb6 hR6 hQ6 q66 f66 hRT hQT hOT q6T q6A hbT hsT
          go_wp2
          go_roundw
        all_goals first
          | (case rel => exact ⟨k + 1, _, by go_num, HNEXT.out⟩)
          | (case measure => simp [intOf]; omega)
      · have hwr : ∃ WR, WR = wo.alloc (.cells #[.iface vt vu, .string (dot x.arcs), .int .u8 ty] 56) := ⟨_, rfl⟩
        obtain ⟨WR, hWR⟩ := hwr
        have hrR : WR.heap[wo.heap.size]? = some (.cells #[.iface vt vu, .string (dot x.arcs), .int .u8 ty] 56 (0, 0)) := by rw [hWR]; exact heap_alloc_new wo _
        have hbR : Below wo.heap.size wo WR := by rw [hWR]; exact (Below.refl _ _).alloc (Nat.le_refl _) _
        have hqR : WR.heap[Q]? = _ := (hbR.block Q (Lib.lt_of_heap H2.out)).trans H2.out
        have hoR := OwnC.below H3.out hbR
        have q6 : WR.cell? ⟨Q, 6, none⟩ = some vo := by rw [Lib.cell_of_heap hqR]; rfl
        have hBR : Below W2.heap.size W2 WR := (HB5.out.trans (H4.out.below HB5.out.size (by simp; have := HB23.out.size; have := HQQ.out; omega))).trans (hbR.mono (Nat.le_trans HB5.out.size H4.out.size))
        have HTD : Hid (Calls Tryz.prog 21 #[.string (dot x.arcs), .int .u8 ty, .iface vt vu] WR.drew fun e w' => e = .returned (.agg #[.string (dot x.arcs), .int .i64 ty, .int .i64 I, .int .u64 U, .string T]) ∧ Below WR.drew.heap.size WR.drew w') := by
          have := told (dot x.arcs) x.pay (.iface vt vu) WR.drew (HOK.out x (List.mem_of_getElem? HX.out)).pay (HDV.out _ hBR.drew)
          rw [← HTY.out] at this
          simp only [toldV, ← HTY.out, ← HI.out, ← HU.out, ← HTT.out] at this
          exact this
        have HRR := Lib.hid hrR
        have HQR := Lib.hid hqR
        have HOR := Lib.hid hoR
        have HBRR := Lib.hid hbR
        have hQr : Q ≠ wo.heap.size := Nat.ne_of_lt (Lib.lt_of_heap H2.out)
        have hnQ : some Q ≠ vo.ownBlock := fun e => by have := (H3.out.lt e.symm).1; omega
        have hnr : some wo.heap.size ≠ vo.ownBlock := fun e => Nat.lt_irrefl _ (H3.out.lt e.symm).2
        have hQ1 : Q + 1 ≤ WR.heap.size := by have := hbR.size; have := Lib.lt_of_heap H2.out; omega
        have HONE : Hid (∀ u ∈ [Value.string (dot x.arcs), .int .i64 ty, .int .i64 I, .int .u64 U, .string T], Value.oneCell' u = true) := by
          intro u hu; simp at hu; rcases hu with rfl | rfl | rfl | rfl | rfl <;> rfl
        have hk20 : k ≤ 20 := by omega
        clear hrR hbR hqR hoR hBR
        go_upto_region 16 with fail
        rw [← hWR]
        clear hWR b0 b1 b2
        have r0 := (three56 (W := WR) HRR.out).1
        have r1 := (three56 (W := WR) HRR.out).2.1
        have r2 := (three56 (W := WR) HRR.out).2.2
        go_region_law (first | (refine step_append_lies _ rfl (.tmp 113) (.tmp 121) 23 rfl (Q + 1) 40 i0 z0 5 56 Tryz.underlying23 h_ap.out.1 h_ap.out.2.1 h_ap.out.2.2.1 h_ap.out.2.2.2.1 h_ap.out.2.2.2.2 (by omega) vo k (toldC (l.take k)) (by rfl) (by exact hOT.alloc _) ⟨WT.heap.size, 0, none⟩ 1 1 [.string (dot x.arcs), .int .i64 ty, .int .i64 I, .int .u64 U, .string T] (by rfl) (by rfl) (by exact World.news_of_block (heap_alloc_new WT _)) HONE.out (by omega) (by unfold maxLen; omega) (by omega) (by simp; omega) _ rfl ?_; rintro gg cap6 w6 hown hgrow hlie hlt6; have hR6 : w6.heap[wo.heap.size]? = some (.cells #[.iface vt vu, .string (dot x.arcs), .int .u8 ty] 56 (0, 0)) := (hgrow.block _ (by have := Lib.lt_of_heap hRT; simp; omega) hnr).trans ((Below.heap_alloc _ _ _ (Lib.lt_of_heap hRT)).trans hRT); have hQ6 : w6.heap[Q]? = _ := (hgrow.block Q (by have := Lib.lt_of_heap hQT; simp; omega) hnQ).trans ((Below.heap_alloc _ _ _ (Lib.lt_of_heap hQT)).trans hQT); have q66 : w6.cell? ⟨Q, 6, none⟩ = some vo := (by rw [Lib.cell_of_heap hQ6]; rfl); have f66 : w6.frozen? ⟨Q, 6, none⟩ = false := Lib.frozen_of_heap hQ6 6) | (go_simp; go_at_call 21; refine (HTD.out).mono ?_; rintro e WT ⟨rfl, hbT⟩; have hRT : WT.heap[wo.heap.size]? = some (.cells #[.iface vt vu, .string (dot x.arcs), .int .u8 ty] 56 (0, 0)) := (hbT.block _ (Lib.lt_of_heap HRR.out)).trans HRR.out; have hQT : WT.heap[Q]? = _ := (hbT.block Q (Lib.lt_of_heap HQR.out)).trans HQR.out; have hOT := OwnC.below (w := WR.drew) HOR.out hbT; have q6T : WT.cell? ⟨Q, 6, none⟩ = some vo := (by rw [Lib.cell_of_heap hQT]; rfl); have q6A : ∀ o1, (WT.alloc o1).cell? ⟨Q, 6, none⟩ = some vo := (fun o1 => cellB ((Below.refl _ _).alloc (Nat.le_refl _) o1) q6T); have hsT : WR.heap.size ≤ WT.heap.size := hbT.size))
        all_goals
          have hb6 : Kp [Q] W5 w6 := ((((H4.out.add HBRR.out).drew.add hbT).alloc _)).grown hgrow (fun q e => .inr (by have := (H3.out.lt e).1; rw [HSZ5.out]; exact this))
          have HNEXT : Hid (DecAt w W5 Q pk (fun vo => #[.int .i64 ver, .string com, .int .i64 164, .int .u32 0, .int .i64 0, .int .i64 0, vo, .string ent, .string agent, .int .i64 gen, .int .i64 spec, .int .u64 time]) l (k + 1) (.slice (some ⟨gg, 0, none⟩) (k + 1) cap6) (w6.setCell ⟨Q, 6, none⟩ (.slice (some ⟨gg, 0, none⟩) (k + 1) cap6))) := by
            refine ⟨by rw [← HNL.out]; omega, Lib.heap_setCell_same (i := 6) hQ6 _, ?_, hb6.setCell (.inl (by simp)) _⟩
            have h1 : OwnC 40 5 w6 (Q + 1) (.slice (some ⟨gg, 0, none⟩) (k + 1) cap6) (k + 1) (toldC (l.take (k + 1))) := by
              rw [List.take_add_one, HX.out, Option.toList_some, toldC_snoc, ← HTY.out, ← HI.out, ← HU.out, ← HTT.out]
              exact hown
            exact h1.setCell (by omega) _
          clear hown hgrow hlie hlt6 hb6 hR6 hQ6 q66 f66 hRT hQT hOT q6T q6A hbT hsT
          go_wp2
          go_roundw
        all_goals first
          | (case rel => exact ⟨k + 1, _, by go_num, HNEXT.out⟩)
          | (case measure => simp [intOf]; omega)
    · obtain rfl : k = nl := by omega
      have hl9 : l.take k = l := by rw [HNL.out]; exact List.take_length
      rw [hl9] at h3
      have hbw : Below w.heap.size w wo := (HB2.out.trans (HB5.out.mono HB2.out.size)).trans (h4.below ((HB2.out.trans (HB5.out.mono HB2.out.size)).size) (by simp; have := HB3.out.size; have := HQQ.out; omega))
      have hr9 : wo.heap[w.heap.size]? = some (.cells #[.int .i64 0, .string ⟨#[]⟩, .int .i64 0, .int .u32 0, .int .i64 0, .int .i64 0, .slice none 0 0, .string ⟨#[]⟩, .string ⟨#[]⟩, .int .i64 0, .int .i64 0, .int .u64 0] 26 (0, 0)) := by
        have hlt := Lib.lt_of_heap HR2.out
        have h6 : W5.heap[w.heap.size]? = _ := (HB5.out.block _ hlt).trans HR2.out
        exact h4.heap h6 (by simp; have := HB23.out.size; have := HQQ.out; omega)
      have e0 : wo.cell? ⟨Q, 0, none⟩ = some (.int .i64 ver) := by rw [Lib.cell_of_heap h2]; rfl
      have e1 : wo.cell? ⟨Q, 1, none⟩ = some (.string com) := by rw [Lib.cell_of_heap h2]; rfl
      have e2 : wo.cell? ⟨Q, 2, none⟩ = some (.int .i64 164) := by rw [Lib.cell_of_heap h2]; rfl
      have e3 : wo.cell? ⟨Q, 3, none⟩ = some (.int .u32 0) := by rw [Lib.cell_of_heap h2]; rfl
      have e4 : wo.cell? ⟨Q, 4, none⟩ = some (.int .i64 0) := by rw [Lib.cell_of_heap h2]; rfl
      have e5 : wo.cell? ⟨Q, 5, none⟩ = some (.int .i64 0) := by rw [Lib.cell_of_heap h2]; rfl
      have e6 : wo.cell? ⟨Q, 6, none⟩ = some (vo) := by rw [Lib.cell_of_heap h2]; rfl
      have e7 : wo.cell? ⟨Q, 7, none⟩ = some (.string ent) := by rw [Lib.cell_of_heap h2]; rfl
      have e8 : wo.cell? ⟨Q, 8, none⟩ = some (.string agent) := by rw [Lib.cell_of_heap h2]; rfl
      have e9 : wo.cell? ⟨Q, 9, none⟩ = some (.int .i64 gen) := by rw [Lib.cell_of_heap h2]; rfl
      have e10 : wo.cell? ⟨Q, 10, none⟩ = some (.int .i64 spec) := by rw [Lib.cell_of_heap h2]; rfl
      have e11 : wo.cell? ⟨Q, 11, none⟩ = some (.int .u64 time) := by rw [Lib.cell_of_heap h2]; rfl
      have s0 : wo.cell? ⟨w.heap.size, 0, none⟩ = some (.int .i64 0) := by rw [Lib.cell_of_heap hr9]; rfl
      have s1 : wo.cell? ⟨w.heap.size, 1, none⟩ = some (.string ⟨#[]⟩) := by rw [Lib.cell_of_heap hr9]; rfl
      have s2 : wo.cell? ⟨w.heap.size, 2, none⟩ = some (.int .i64 0) := by rw [Lib.cell_of_heap hr9]; rfl
      have s3 : wo.cell? ⟨w.heap.size, 3, none⟩ = some (.int .u32 0) := by rw [Lib.cell_of_heap hr9]; rfl
      have s4 : wo.cell? ⟨w.heap.size, 4, none⟩ = some (.int .i64 0) := by rw [Lib.cell_of_heap hr9]; rfl
      have s5 : wo.cell? ⟨w.heap.size, 5, none⟩ = some (.int .i64 0) := by rw [Lib.cell_of_heap hr9]; rfl
      have s6 : wo.cell? ⟨w.heap.size, 6, none⟩ = some (.slice none 0 0) := by rw [Lib.cell_of_heap hr9]; rfl
      have s7 : wo.cell? ⟨w.heap.size, 7, none⟩ = some (.string ⟨#[]⟩) := by rw [Lib.cell_of_heap hr9]; rfl
      have s8 : wo.cell? ⟨w.heap.size, 8, none⟩ = some (.string ⟨#[]⟩) := by rw [Lib.cell_of_heap hr9]; rfl
      have s9 : wo.cell? ⟨w.heap.size, 9, none⟩ = some (.int .i64 0) := by rw [Lib.cell_of_heap hr9]; rfl
      have s10 : wo.cell? ⟨w.heap.size, 10, none⟩ = some (.int .i64 0) := by rw [Lib.cell_of_heap hr9]; rfl
      have s11 : wo.cell? ⟨w.heap.size, 11, none⟩ = some (.int .u64 0) := by rw [Lib.cell_of_heap hr9]; rfl
      have sf : ∀ i, wo.frozen? ⟨w.heap.size, i, none⟩ = false := fun i => Lib.frozen_of_heap hr9 i
      have hsQ : w.heap.size < Q + 1 := by have := HB3.out.size; have := HQQ.out; omega
      have hsQn : Q ≠ w.heap.size := by have := HB23.out.size; have := Lib.lt_of_heap HR2.out; have := HQQ.out; omega
      have hstv : ∀ (W : World) (q : Addr) (m : Mode), (store q vo m).run Tryz.prog W = stored Tryz.prog W q vo m := fun W q m => run_store _ W q vo m (by obtain ⟨A, c, rfl⟩ := h3.shape; rfl)
      have HBW := Lib.hid hbw
      have HOW : Hid (OwnC 40 5 wo (Q + 1) vo l.length (toldC l)) := by have := h3; rw [hl9, ← HNL.out] at *; exact h3
      have hr9' := hr9
      clear hl9 h2 h3 h4 hbw hr9
      have hs := setCells_at (g := w.heap.size) (T := 26) [(.int .i64 ver), (.string com), (.int .i64 164), (.int .u32 0), (.int .i64 0), (.int .i64 0), vo, (.string ent), (.string agent), (.int .i64 gen), (.int .i64 spec), (.int .u64 time)] 0 wo _ hr9' (by simp)
      have HS := Lib.hid hs
      clear hs hr9'
      go_wp2
      change bodyPost _ _ _ _ _ (wo.setCells w.heap.size 0 [(.int .i64 ver), (.string com), (.int .i64 164), (.int .u32 0), (.int .i64 0), (.int .i64 0), vo, (.string ent), (.string agent), (.int .i64 gen), (.int .i64 spec), (.int .u64 time)])
      obtain ⟨z1, z2⟩ := HS.out
      generalize wo.setCells w.heap.size 0 [(.int .i64 ver), (.string com), (.int .i64 164), (.int .u32 0), (.int .i64 0), (.int .i64 0), vo, (.string ent), (.string agent), (.int .i64 gen), (.int .i64 spec), (.int .u64 time)] = WF at z1 z2 ⊢
      have k0 : WF.cell? ⟨w.heap.size, 0, none⟩ = some (.int .i64 ver) := by rw [Lib.cell_of_heap z1]; rfl
      have k1 : WF.cell? ⟨w.heap.size, 1, none⟩ = some (.string com) := by rw [Lib.cell_of_heap z1]; rfl
      have k2 : WF.cell? ⟨w.heap.size, 2, none⟩ = some (.int .i64 164) := by rw [Lib.cell_of_heap z1]; rfl
      have k3 : WF.cell? ⟨w.heap.size, 3, none⟩ = some (.int .u32 0) := by rw [Lib.cell_of_heap z1]; rfl
      have k4 : WF.cell? ⟨w.heap.size, 4, none⟩ = some (.int .i64 0) := by rw [Lib.cell_of_heap z1]; rfl
      have k5 : WF.cell? ⟨w.heap.size, 5, none⟩ = some (.int .i64 0) := by rw [Lib.cell_of_heap z1]; rfl
      have k6 : WF.cell? ⟨w.heap.size, 6, none⟩ = some vo := by rw [Lib.cell_of_heap z1]; rfl
      have k7 : WF.cell? ⟨w.heap.size, 7, none⟩ = some (.string ent) := by rw [Lib.cell_of_heap z1]; rfl
      have k8 : WF.cell? ⟨w.heap.size, 8, none⟩ = some (.string agent) := by rw [Lib.cell_of_heap z1]; rfl
      have k9 : WF.cell? ⟨w.heap.size, 9, none⟩ = some (.int .i64 gen) := by rw [Lib.cell_of_heap z1]; rfl
      have k10 : WF.cell? ⟨w.heap.size, 10, none⟩ = some (.int .i64 spec) := by rw [Lib.cell_of_heap z1]; rfl
      have k11 : WF.cell? ⟨w.heap.size, 11, none⟩ = some (.int .u64 time) := by rw [Lib.cell_of_heap z1]; rfl
      try simp only [Exit.inBlock, Exit.then]
      refine bodyPost_ret (v := .tuple #[.agg #[.int .i64 ver, .string com, .int .i64 164, .int .u32 0, .int .i64 0, .int .i64 0, vo, .string ent, .string agent, .int .i64 gen, .int .i64 spec, .int .u64 time], .bool true]) (by simp [results, Tryz.results9, go_sem, k0, k1, k2, k3, k4, k5, k6, k7, k8, k9, k10, k11]) rfl ?_
      exact ⟨vo, rfl, OwnC.rebase (HOW.out.kept (fun q hq => z2.block q (HOW.out.lt hq).2 (by have := (HOW.out.lt hq).1; simp; omega))) (by omega), HBW.out.trans (z2.below HBW.out.size (by simp))⟩
end Go.Proofs.YtpfmcdhmboclhaaGreatDoor
