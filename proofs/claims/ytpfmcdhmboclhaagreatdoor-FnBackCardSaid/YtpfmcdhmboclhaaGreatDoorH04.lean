/- gosnmp: what a message carries is read. gosnmp: a packet is read. -/
import Derived.Test.YtpfmcdhmboclhaaGreatDoorG17
import Derived.Test.YtpfmcdhmboclhaaGreatDoorH03
set_option linter.unusedVariables false
set_option linter.unusedSimpArgs false
namespace Go.Proofs.YtpfmcdhmboclhaaGreatDoor
open Go.RowKit
set_option maxHeartbeats 64000000 in
set_option maxRecDepth 100000 in
theorem payload_163 (G : World → Prop) (X : List Nat) (base : Nat) (vp0 q0 q1 q2 q3 q4 q5 q6 q7 q8 q9 q11 q12 q13 q14 q15 q16 q17 : Value) (w : World) (b o n c g pk wd k0 : Nat) (id st ix : Nat) (l : List AV) (z : Addr) (hid : id < 2147483648) (hst : st ≤ 127) (hix : ix ≤ 127) (hl : l.length ≤ 20) (hok : ∀ x ∈ l, x.Ok) (hwd : wd ≤ 2) (hn : k0 + (sealB 163 (bodyB id st ix l wd) wd).length = n) (hnc : n ≤ c) (hc : c ≤ 9223372036854775807 ∧ n ≤ 1000000)
    (hX : pk ∈ X) (hpb : pk < base) (hbw : base ≤ w.heap.size) (hO0 : OwnC 56 3 w base vp0 0 []) (hinv0 : ∀ q, vp0.ownBlock = some q → q ∈ X) (hG : ∀ W, Kp X w W → G W) (hzG : ∀ W, G W → NetLaid W z) (htG : ∀ W, G W → Tab W) (haG : ∀ W, G W → AsnLaid W) (hgG : ∀ W, G W → W.heap[g]? = some (.cells #[] 68 (0, 0)))
    (hatG : ∀ W, G W → At W b (o + k0) (sealB 163 (bodyB id st ix l wd) wd)) (hpk : w.heap[pk]? = some (.cells #[q0, q1, q2, q3, q4, q5, q6, q7, q8, q9, vp0, q11, q12, q13, q14, q15, q16, q17] 52 (0, 0))) :
    Calls Tryz.prog 41 #[.pointer (some ⟨g, 0, none⟩), .slice (some ⟨b, o, none⟩) n c, .int .i64 k0, .pointer (some ⟨pk, 0, none⟩)] w (RetVbl G X base w (fun v => #[q0, q1, (.int .u8 163), q3, (.int .u32 id), q5, (.int .u8 st), (.int .u8 ix), q8, q9, v, q11, (.bool false), q13, q14, q15, q16, q17]) pk l) := by
  obtain ⟨L, hL⟩ : ∃ L, L = (sealB 163 (bodyB id st ix l wd) wd).length := ⟨_, rfl⟩
  have hL2 : 2 ≤ L := by rw [hL, sealB_len]; have := hdr_ge (bodyB id st ix l wd).length wd; omega
  rw [← hL] at hn
  have hGP : ∀ W, Kp [pk] w W → G W := fun W hW => hG W (hW.mono (fun q _ hq => by rw [List.mem_singleton.1 hq]; exact hX))
  have HGP := Lib.hid hGP
  have HG := Lib.hid hG
  have HGG := Lib.hid hgG
  have HP0 := Lib.hid hpk
  have HK0 := Lib.hid (Kp.refl [pk] w)
  have HX := Lib.hid hX
  have hk0n : k0 < n := by omega
  have hck : c ≠ k0 := by omega
  have c0 : w.cell? ⟨b, o + k0, none⟩ = some (.int .u8 163) := (hatG w (hGP w (Kp.refl _ _))).head
  have HC : Hid (∀ W a m cc, Kp [pk] w W → W.heap[pk]? = some (.cells #[q0, q1, (.int .u8 163), q3, q4, q5, q6, q7, q8, q9, vp0, q11, q12, q13, q14, q15, q16, q17] 52 (0, 0)) → a = o + k0 → m = L → m ≤ cc → cc ≤ 9223372036854775807 ∧ m ≤ 1000000 → Calls Tryz.prog 62 #[.pointer (some ⟨g, 0, none⟩), .slice (some ⟨b, a, none⟩) m cc, .pointer (some ⟨pk, 0, none⟩)] W (RetVbl G X base W (fun v => #[q0, q1, (.int .u8 163), q3, (.int .u32 id), q5, (.int .u8 st), (.int .u8 ix), q8, q9, v, q11, q12, q13, q14, q15, q16, q17]) pk l)) := by
    intro W a m cc hK hP ha hm hmc hcc
    have hKX : Kp X w W := hK.mono (fun q _ hq => by rw [List.mem_singleton.1 hq]; exact hX)
    exact response_plain G X base vp0 q0 q1 q3 q4 q5 q6 q7 q8 q9 q11 q12 q13 q14 q15 q16 q17 W b a m cc g pk wd 163 id st ix l z hid hst hix hl hok hwd (by omega) (by rw [hm, hL]; try rfl) hmc hcc hX hpb (Nat.le_trans hbw hK.size) (hO0.kept (fun q hq => hK.block q (hO0.lt hq).2 (by have := (hO0.lt hq).1; simp; omega))) hinv0 (fun W2 h2 => hG W2 (hKX.trans h2)) hzG htG haG hgG (fun W2 h2 => by rw [ha]; exact hatG W2 h2) hP
  clear hGP hG hgG hpk hX hatG hL hl hok hzG htG haG hO0 hinv0
  go_enter Tryz.func41, Tryz.ntmps41
  have hpW0 := run_part w g (HGG.out w (HGP.out _ HK0.out))
  go_wp2_with (go_at_call 61; refine (printf _ _ _).mono ?_; rintro e V0 ⟨rfl, hb0⟩; refine Hid.out ?_)
  refine Lib.hid ?_
  have hB0 : Below (w).heap.size w V0 := thenB ((Below.refl _ _).alloc (Nat.le_refl _) _) hb0
  have HKV0 : Hid (Kp [pk] w V0) := HK0.out.add hB0
  have HPV0 : Hid (V0.heap[pk]? = some (.cells #[q0, q1, q2, q3, q4, q5, q6, q7, q8, q9, vp0, q11, q12, q13, q14, q15, q16, q17] 52 (0, 0))) := (hB0.block pk (Lib.lt_of_heap HP0.out)).trans HP0.out
  have ck0 : V0.cell? ⟨b, o + k0, none⟩ = some (.int .u8 163) := cellB hB0 c0
  clear hb0 hB0 hpW0
  have e1 : V0.cell? ⟨pk, 2, none⟩ = some q2 := by rw [Lib.cell_of_heap HPV0.out]; rfl
  have f1 : V0.frozen? ⟨pk, 2, none⟩ = false := Lib.frozen_of_heap HPV0.out 2
  have HKV1 : Hid (Kp [pk] w (V0.setCell ⟨pk, 2, none⟩ (.int .u8 163))) := HKV0.out.setCell (.inl (by simp)) _
  have HPV1 : Hid ((V0.setCell ⟨pk, 2, none⟩ (.int .u8 163)).heap[pk]? = some (.cells #[q0, q1, (.int .u8 163), q3, q4, q5, q6, q7, q8, q9, vp0, q11, q12, q13, q14, q15, q16, q17] 52 (0, 0))) := Lib.heap_setCell_same (i := 2) HPV0.out _
  have HCW := Lib.hid (HC.out (V0.setCell ⟨pk, 2, none⟩ (.int .u8 163)))
  go_wp2_with (go_at_call 62; refine (HCW.out _ _ _ HKV1.out HPV1.out (by omega) (by omega) (by omega) (by omega)).mono ?_; rintro e WZ ⟨rfl, vs', vp', z1, z2, z3, z4⟩; refine Hid.out ?_)
  refine Lib.hid ?_
  have hKX : Kp X w (V0.setCell ⟨pk, 2, none⟩ (.int .u8 163)) := HKV1.out.mono (fun q _ hq => by rw [List.mem_singleton.1 hq]; exact HX.out)
  have f12 : WZ.frozen? ⟨pk, 12, none⟩ = false := Lib.frozen_of_heap z1 12
  have e12 : WZ.cell? ⟨pk, 12, none⟩ = some q12 := by rw [Lib.cell_of_heap z1]; rfl
  have HR : Hid (RetVbl G X base w (fun v => #[q0, q1, (.int .u8 163), q3, (.int .u32 id), q5, (.int .u8 st), (.int .u8 ix), q8, q9, v, q11, (.bool false), q13, q14, q15, q16, q17]) pk l (.returned .nilIface) (WZ.setCell ⟨pk, 12, none⟩ (.bool false))) := by
    refine ⟨rfl, vs', vp', ?_, z2.setCell hpb _, z3, (hKX.trans z4).setCell (.inl HX.out) _⟩
    exact Lib.heap_setCell_same (i := 12) z1 _
  clear z1 z2 z3 z4 hKX
  go_wp2
  go_ret
  exact HR.out
set_option maxHeartbeats 64000000 in
set_option maxRecDepth 100000 in
theorem payload_166 (G : World → Prop) (X : List Nat) (base : Nat) (vp0 q0 q1 q2 q3 q4 q5 q6 q7 q8 q9 q11 q12 q13 q14 q15 q16 q17 : Value) (w : World) (b o n c g pk wd k0 : Nat) (id st ix : Nat) (l : List AV) (z : Addr) (hid : id < 2147483648) (hst : st ≤ 127) (hix : ix ≤ 127) (hl : l.length ≤ 20) (hok : ∀ x ∈ l, x.Ok) (hwd : wd ≤ 2) (hn : k0 + (sealB 166 (bodyB id st ix l wd) wd).length = n) (hnc : n ≤ c) (hc : c ≤ 9223372036854775807 ∧ n ≤ 1000000)
    (hX : pk ∈ X) (hpb : pk < base) (hbw : base ≤ w.heap.size) (hO0 : OwnC 56 3 w base vp0 0 []) (hinv0 : ∀ q, vp0.ownBlock = some q → q ∈ X) (hG : ∀ W, Kp X w W → G W) (hzG : ∀ W, G W → NetLaid W z) (htG : ∀ W, G W → Tab W) (haG : ∀ W, G W → AsnLaid W) (hgG : ∀ W, G W → W.heap[g]? = some (.cells #[] 68 (0, 0)))
    (hatG : ∀ W, G W → At W b (o + k0) (sealB 166 (bodyB id st ix l wd) wd)) (hpk : w.heap[pk]? = some (.cells #[q0, q1, q2, q3, q4, q5, q6, q7, q8, q9, vp0, q11, q12, q13, q14, q15, q16, q17] 52 (0, 0))) :
    Calls Tryz.prog 41 #[.pointer (some ⟨g, 0, none⟩), .slice (some ⟨b, o, none⟩) n c, .int .i64 k0, .pointer (some ⟨pk, 0, none⟩)] w (RetVbl G X base w (fun v => #[q0, q1, (.int .u8 166), q3, (.int .u32 id), q5, (.int .u8 st), (.int .u8 ix), q8, q9, v, q11, (.bool true), q13, q14, q15, q16, q17]) pk l) := by
  obtain ⟨L, hL⟩ : ∃ L, L = (sealB 166 (bodyB id st ix l wd) wd).length := ⟨_, rfl⟩
  have hL2 : 2 ≤ L := by rw [hL, sealB_len]; have := hdr_ge (bodyB id st ix l wd).length wd; omega
  rw [← hL] at hn
  have hGP : ∀ W, Kp [pk] w W → G W := fun W hW => hG W (hW.mono (fun q _ hq => by rw [List.mem_singleton.1 hq]; exact hX))
  have HGP := Lib.hid hGP
  have HG := Lib.hid hG
  have HGG := Lib.hid hgG
  have HP0 := Lib.hid hpk
  have HK0 := Lib.hid (Kp.refl [pk] w)
  have HX := Lib.hid hX
  have hk0n : k0 < n := by omega
  have hck : c ≠ k0 := by omega
  have c0 : w.cell? ⟨b, o + k0, none⟩ = some (.int .u8 166) := (hatG w (hGP w (Kp.refl _ _))).head
  have HC : Hid (∀ W a m cc, Kp [pk] w W → W.heap[pk]? = some (.cells #[q0, q1, (.int .u8 166), q3, q4, q5, q6, q7, q8, q9, vp0, q11, q12, q13, q14, q15, q16, q17] 52 (0, 0)) → a = o + k0 → m = L → m ≤ cc → cc ≤ 9223372036854775807 ∧ m ≤ 1000000 → Calls Tryz.prog 62 #[.pointer (some ⟨g, 0, none⟩), .slice (some ⟨b, a, none⟩) m cc, .pointer (some ⟨pk, 0, none⟩)] W (RetVbl G X base W (fun v => #[q0, q1, (.int .u8 166), q3, (.int .u32 id), q5, (.int .u8 st), (.int .u8 ix), q8, q9, v, q11, q12, q13, q14, q15, q16, q17]) pk l)) := by
    intro W a m cc hK hP ha hm hmc hcc
    have hKX : Kp X w W := hK.mono (fun q _ hq => by rw [List.mem_singleton.1 hq]; exact hX)
    exact response_plain G X base vp0 q0 q1 q3 q4 q5 q6 q7 q8 q9 q11 q12 q13 q14 q15 q16 q17 W b a m cc g pk wd 166 id st ix l z hid hst hix hl hok hwd (by omega) (by rw [hm, hL]; try rfl) hmc hcc hX hpb (Nat.le_trans hbw hK.size) (hO0.kept (fun q hq => hK.block q (hO0.lt hq).2 (by have := (hO0.lt hq).1; simp; omega))) hinv0 (fun W2 h2 => hG W2 (hKX.trans h2)) hzG htG haG hgG (fun W2 h2 => by rw [ha]; exact hatG W2 h2) hP
  clear hGP hG hgG hpk hX hatG hL hl hok hzG htG haG hO0 hinv0
  go_enter Tryz.func41, Tryz.ntmps41
  have hpW0 := run_part w g (HGG.out w (HGP.out _ HK0.out))
  go_wp2_with (go_at_call 61; refine (printf _ _ _).mono ?_; rintro e V0 ⟨rfl, hb0⟩; refine Hid.out ?_)
  refine Lib.hid ?_
  have hB0 : Below (w).heap.size w V0 := thenB ((Below.refl _ _).alloc (Nat.le_refl _) _) hb0
  have HKV0 : Hid (Kp [pk] w V0) := HK0.out.add hB0
  have HPV0 : Hid (V0.heap[pk]? = some (.cells #[q0, q1, q2, q3, q4, q5, q6, q7, q8, q9, vp0, q11, q12, q13, q14, q15, q16, q17] 52 (0, 0))) := (hB0.block pk (Lib.lt_of_heap HP0.out)).trans HP0.out
  have ck0 : V0.cell? ⟨b, o + k0, none⟩ = some (.int .u8 166) := cellB hB0 c0
  clear hb0 hB0 hpW0
  have e1 : V0.cell? ⟨pk, 2, none⟩ = some q2 := by rw [Lib.cell_of_heap HPV0.out]; rfl
  have f1 : V0.frozen? ⟨pk, 2, none⟩ = false := Lib.frozen_of_heap HPV0.out 2
  have HKV1 : Hid (Kp [pk] w (V0.setCell ⟨pk, 2, none⟩ (.int .u8 166))) := HKV0.out.setCell (.inl (by simp)) _
  have HPV1 : Hid ((V0.setCell ⟨pk, 2, none⟩ (.int .u8 166)).heap[pk]? = some (.cells #[q0, q1, (.int .u8 166), q3, q4, q5, q6, q7, q8, q9, vp0, q11, q12, q13, q14, q15, q16, q17] 52 (0, 0))) := Lib.heap_setCell_same (i := 2) HPV0.out _
  have HCW := Lib.hid (HC.out (V0.setCell ⟨pk, 2, none⟩ (.int .u8 166)))
  go_wp2_with (go_at_call 62; refine (HCW.out _ _ _ HKV1.out HPV1.out (by omega) (by omega) (by omega) (by omega)).mono ?_; rintro e WZ ⟨rfl, vs', vp', z1, z2, z3, z4⟩; refine Hid.out ?_)
  refine Lib.hid ?_
  have hKX : Kp X w (V0.setCell ⟨pk, 2, none⟩ (.int .u8 166)) := HKV1.out.mono (fun q _ hq => by rw [List.mem_singleton.1 hq]; exact HX.out)
  have f12 : WZ.frozen? ⟨pk, 12, none⟩ = false := Lib.frozen_of_heap z1 12
  have e12 : WZ.cell? ⟨pk, 12, none⟩ = some q12 := by rw [Lib.cell_of_heap z1]; rfl
  have HR : Hid (RetVbl G X base w (fun v => #[q0, q1, (.int .u8 166), q3, (.int .u32 id), q5, (.int .u8 st), (.int .u8 ix), q8, q9, v, q11, (.bool true), q13, q14, q15, q16, q17]) pk l (.returned .nilIface) (WZ.setCell ⟨pk, 12, none⟩ (.bool true))) := by
    refine ⟨rfl, vs', vp', ?_, z2.setCell hpb _, z3, (hKX.trans z4).setCell (.inl HX.out) _⟩
    exact Lib.heap_setCell_same (i := 12) z1 _
  clear z1 z2 z3 z4 hKX
  go_wp2
  go_ret
  exact HR.out
set_option maxHeartbeats 64000000 in
set_option maxRecDepth 100000 in
theorem payload_167 (G : World → Prop) (X : List Nat) (base : Nat) (vp0 q0 q1 q2 q3 q4 q5 q6 q7 q8 q9 q11 q12 q13 q14 q15 q16 q17 : Value) (w : World) (b o n c g pk wd k0 : Nat) (id st ix : Nat) (l : List AV) (z : Addr) (hid : id < 2147483648) (hst : st ≤ 127) (hix : ix ≤ 127) (hl : l.length ≤ 20) (hok : ∀ x ∈ l, x.Ok) (hwd : wd ≤ 2) (hn : k0 + (sealB 167 (bodyB id st ix l wd) wd).length = n) (hnc : n ≤ c) (hc : c ≤ 9223372036854775807 ∧ n ≤ 1000000)
    (hX : pk ∈ X) (hpb : pk < base) (hbw : base ≤ w.heap.size) (hO0 : OwnC 56 3 w base vp0 0 []) (hinv0 : ∀ q, vp0.ownBlock = some q → q ∈ X) (hG : ∀ W, Kp X w W → G W) (hzG : ∀ W, G W → NetLaid W z) (htG : ∀ W, G W → Tab W) (haG : ∀ W, G W → AsnLaid W) (hgG : ∀ W, G W → W.heap[g]? = some (.cells #[] 68 (0, 0)))
    (hatG : ∀ W, G W → At W b (o + k0) (sealB 167 (bodyB id st ix l wd) wd)) (hpk : w.heap[pk]? = some (.cells #[q0, q1, q2, q3, q4, q5, q6, q7, q8, q9, vp0, q11, q12, q13, q14, q15, q16, q17] 52 (0, 0))) :
    Calls Tryz.prog 41 #[.pointer (some ⟨g, 0, none⟩), .slice (some ⟨b, o, none⟩) n c, .int .i64 k0, .pointer (some ⟨pk, 0, none⟩)] w (RetVbl G X base w (fun v => #[q0, q1, (.int .u8 167), q3, (.int .u32 id), q5, (.int .u8 st), (.int .u8 ix), q8, q9, v, q11, (.bool false), q13, q14, q15, q16, q17]) pk l) := by
  obtain ⟨L, hL⟩ : ∃ L, L = (sealB 167 (bodyB id st ix l wd) wd).length := ⟨_, rfl⟩
  have hL2 : 2 ≤ L := by rw [hL, sealB_len]; have := hdr_ge (bodyB id st ix l wd).length wd; omega
  rw [← hL] at hn
  have hGP : ∀ W, Kp [pk] w W → G W := fun W hW => hG W (hW.mono (fun q _ hq => by rw [List.mem_singleton.1 hq]; exact hX))
  have HGP := Lib.hid hGP
  have HG := Lib.hid hG
  have HGG := Lib.hid hgG
  have HP0 := Lib.hid hpk
  have HK0 := Lib.hid (Kp.refl [pk] w)
  have HX := Lib.hid hX
  have hk0n : k0 < n := by omega
  have hck : c ≠ k0 := by omega
  have c0 : w.cell? ⟨b, o + k0, none⟩ = some (.int .u8 167) := (hatG w (hGP w (Kp.refl _ _))).head
  have HC : Hid (∀ W a m cc, Kp [pk] w W → W.heap[pk]? = some (.cells #[q0, q1, (.int .u8 167), q3, q4, q5, q6, q7, q8, q9, vp0, q11, q12, q13, q14, q15, q16, q17] 52 (0, 0)) → a = o + k0 → m = L → m ≤ cc → cc ≤ 9223372036854775807 ∧ m ≤ 1000000 → Calls Tryz.prog 62 #[.pointer (some ⟨g, 0, none⟩), .slice (some ⟨b, a, none⟩) m cc, .pointer (some ⟨pk, 0, none⟩)] W (RetVbl G X base W (fun v => #[q0, q1, (.int .u8 167), q3, (.int .u32 id), q5, (.int .u8 st), (.int .u8 ix), q8, q9, v, q11, q12, q13, q14, q15, q16, q17]) pk l)) := by
    intro W a m cc hK hP ha hm hmc hcc
    have hKX : Kp X w W := hK.mono (fun q _ hq => by rw [List.mem_singleton.1 hq]; exact hX)
    exact response_plain G X base vp0 q0 q1 q3 q4 q5 q6 q7 q8 q9 q11 q12 q13 q14 q15 q16 q17 W b a m cc g pk wd 167 id st ix l z hid hst hix hl hok hwd (by omega) (by rw [hm, hL]; try rfl) hmc hcc hX hpb (Nat.le_trans hbw hK.size) (hO0.kept (fun q hq => hK.block q (hO0.lt hq).2 (by have := (hO0.lt hq).1; simp; omega))) hinv0 (fun W2 h2 => hG W2 (hKX.trans h2)) hzG htG haG hgG (fun W2 h2 => by rw [ha]; exact hatG W2 h2) hP
  clear hGP hG hgG hpk hX hatG hL hl hok hzG htG haG hO0 hinv0
  go_enter Tryz.func41, Tryz.ntmps41
  have hpW0 := run_part w g (HGG.out w (HGP.out _ HK0.out))
  go_wp2_with (go_at_call 61; refine (printf _ _ _).mono ?_; rintro e V0 ⟨rfl, hb0⟩; refine Hid.out ?_)
  refine Lib.hid ?_
  have hB0 : Below (w).heap.size w V0 := thenB ((Below.refl _ _).alloc (Nat.le_refl _) _) hb0
  have HKV0 : Hid (Kp [pk] w V0) := HK0.out.add hB0
  have HPV0 : Hid (V0.heap[pk]? = some (.cells #[q0, q1, q2, q3, q4, q5, q6, q7, q8, q9, vp0, q11, q12, q13, q14, q15, q16, q17] 52 (0, 0))) := (hB0.block pk (Lib.lt_of_heap HP0.out)).trans HP0.out
  have ck0 : V0.cell? ⟨b, o + k0, none⟩ = some (.int .u8 167) := cellB hB0 c0
  clear hb0 hB0 hpW0
  have e1 : V0.cell? ⟨pk, 2, none⟩ = some q2 := by rw [Lib.cell_of_heap HPV0.out]; rfl
  have f1 : V0.frozen? ⟨pk, 2, none⟩ = false := Lib.frozen_of_heap HPV0.out 2
  have HKV1 : Hid (Kp [pk] w (V0.setCell ⟨pk, 2, none⟩ (.int .u8 167))) := HKV0.out.setCell (.inl (by simp)) _
  have HPV1 : Hid ((V0.setCell ⟨pk, 2, none⟩ (.int .u8 167)).heap[pk]? = some (.cells #[q0, q1, (.int .u8 167), q3, q4, q5, q6, q7, q8, q9, vp0, q11, q12, q13, q14, q15, q16, q17] 52 (0, 0))) := Lib.heap_setCell_same (i := 2) HPV0.out _
  have HCW := Lib.hid (HC.out (V0.setCell ⟨pk, 2, none⟩ (.int .u8 167)))
  go_wp2_with (go_at_call 62; refine (HCW.out _ _ _ HKV1.out HPV1.out (by omega) (by omega) (by omega) (by omega)).mono ?_; rintro e WZ ⟨rfl, vs', vp', z1, z2, z3, z4⟩; refine Hid.out ?_)
  refine Lib.hid ?_
  have hKX : Kp X w (V0.setCell ⟨pk, 2, none⟩ (.int .u8 167)) := HKV1.out.mono (fun q _ hq => by rw [List.mem_singleton.1 hq]; exact HX.out)
  have f12 : WZ.frozen? ⟨pk, 12, none⟩ = false := Lib.frozen_of_heap z1 12
  have e12 : WZ.cell? ⟨pk, 12, none⟩ = some q12 := by rw [Lib.cell_of_heap z1]; rfl
  have HR : Hid (RetVbl G X base w (fun v => #[q0, q1, (.int .u8 167), q3, (.int .u32 id), q5, (.int .u8 st), (.int .u8 ix), q8, q9, v, q11, (.bool false), q13, q14, q15, q16, q17]) pk l (.returned .nilIface) (WZ.setCell ⟨pk, 12, none⟩ (.bool false))) := by
    refine ⟨rfl, vs', vp', ?_, z2.setCell hpb _, z3, (hKX.trans z4).setCell (.inl HX.out) _⟩
    exact Lib.heap_setCell_same (i := 12) z1 _
  clear z1 z2 z3 z4 hKX
  go_wp2
  go_ret
  exact HR.out
set_option maxHeartbeats 64000000 in
set_option maxRecDepth 100000 in
theorem payload_168 (G : World → Prop) (X : List Nat) (base : Nat) (vp0 q0 q1 q2 q3 q4 q5 q6 q7 q8 q9 q11 q12 q13 q14 q15 q16 q17 : Value) (w : World) (b o n c g pk wd k0 : Nat) (id st ix : Nat) (l : List AV) (z : Addr) (hid : id < 2147483648) (hst : st ≤ 127) (hix : ix ≤ 127) (hl : l.length ≤ 20) (hok : ∀ x ∈ l, x.Ok) (hwd : wd ≤ 2) (hn : k0 + (sealB 168 (bodyB id st ix l wd) wd).length = n) (hnc : n ≤ c) (hc : c ≤ 9223372036854775807 ∧ n ≤ 1000000)
    (hX : pk ∈ X) (hpb : pk < base) (hbw : base ≤ w.heap.size) (hO0 : OwnC 56 3 w base vp0 0 []) (hinv0 : ∀ q, vp0.ownBlock = some q → q ∈ X) (hG : ∀ W, Kp X w W → G W) (hzG : ∀ W, G W → NetLaid W z) (htG : ∀ W, G W → Tab W) (haG : ∀ W, G W → AsnLaid W) (hgG : ∀ W, G W → W.heap[g]? = some (.cells #[] 68 (0, 0)))
    (hatG : ∀ W, G W → At W b (o + k0) (sealB 168 (bodyB id st ix l wd) wd)) (hpk : w.heap[pk]? = some (.cells #[q0, q1, q2, q3, q4, q5, q6, q7, q8, q9, vp0, q11, q12, q13, q14, q15, q16, q17] 52 (0, 0))) :
    Calls Tryz.prog 41 #[.pointer (some ⟨g, 0, none⟩), .slice (some ⟨b, o, none⟩) n c, .int .i64 k0, .pointer (some ⟨pk, 0, none⟩)] w (RetVbl G X base w (fun v => #[q0, q1, (.int .u8 168), q3, (.int .u32 id), q5, (.int .u8 st), (.int .u8 ix), q8, q9, v, q11, (.bool false), q13, q14, q15, q16, q17]) pk l) := by
  obtain ⟨L, hL⟩ : ∃ L, L = (sealB 168 (bodyB id st ix l wd) wd).length := ⟨_, rfl⟩
  have hL2 : 2 ≤ L := by rw [hL, sealB_len]; have := hdr_ge (bodyB id st ix l wd).length wd; omega
  rw [← hL] at hn
  have hGP : ∀ W, Kp [pk] w W → G W := fun W hW => hG W (hW.mono (fun q _ hq => by rw [List.mem_singleton.1 hq]; exact hX))
  have HGP := Lib.hid hGP
  have HG := Lib.hid hG
  have HGG := Lib.hid hgG
  have HP0 := Lib.hid hpk
  have HK0 := Lib.hid (Kp.refl [pk] w)
  have HX := Lib.hid hX
  have hk0n : k0 < n := by omega
  have hck : c ≠ k0 := by omega
  have c0 : w.cell? ⟨b, o + k0, none⟩ = some (.int .u8 168) := (hatG w (hGP w (Kp.refl _ _))).head
  have HC : Hid (∀ W a m cc, Kp [pk] w W → W.heap[pk]? = some (.cells #[q0, q1, (.int .u8 168), q3, q4, q5, q6, q7, q8, q9, vp0, q11, q12, q13, q14, q15, q16, q17] 52 (0, 0)) → a = o + k0 → m = L → m ≤ cc → cc ≤ 9223372036854775807 ∧ m ≤ 1000000 → Calls Tryz.prog 62 #[.pointer (some ⟨g, 0, none⟩), .slice (some ⟨b, a, none⟩) m cc, .pointer (some ⟨pk, 0, none⟩)] W (RetVbl G X base W (fun v => #[q0, q1, (.int .u8 168), q3, (.int .u32 id), q5, (.int .u8 st), (.int .u8 ix), q8, q9, v, q11, q12, q13, q14, q15, q16, q17]) pk l)) := by
    intro W a m cc hK hP ha hm hmc hcc
    have hKX : Kp X w W := hK.mono (fun q _ hq => by rw [List.mem_singleton.1 hq]; exact hX)
    exact response_plain G X base vp0 q0 q1 q3 q4 q5 q6 q7 q8 q9 q11 q12 q13 q14 q15 q16 q17 W b a m cc g pk wd 168 id st ix l z hid hst hix hl hok hwd (by omega) (by rw [hm, hL]; try rfl) hmc hcc hX hpb (Nat.le_trans hbw hK.size) (hO0.kept (fun q hq => hK.block q (hO0.lt hq).2 (by have := (hO0.lt hq).1; simp; omega))) hinv0 (fun W2 h2 => hG W2 (hKX.trans h2)) hzG htG haG hgG (fun W2 h2 => by rw [ha]; exact hatG W2 h2) hP
  clear hGP hG hgG hpk hX hatG hL hl hok hzG htG haG hO0 hinv0
  go_enter Tryz.func41, Tryz.ntmps41
  have hpW0 := run_part w g (HGG.out w (HGP.out _ HK0.out))
  go_wp2_with (go_at_call 61; refine (printf _ _ _).mono ?_; rintro e V0 ⟨rfl, hb0⟩; refine Hid.out ?_)
  refine Lib.hid ?_
  have hB0 : Below (w).heap.size w V0 := thenB ((Below.refl _ _).alloc (Nat.le_refl _) _) hb0
  have HKV0 : Hid (Kp [pk] w V0) := HK0.out.add hB0
  have HPV0 : Hid (V0.heap[pk]? = some (.cells #[q0, q1, q2, q3, q4, q5, q6, q7, q8, q9, vp0, q11, q12, q13, q14, q15, q16, q17] 52 (0, 0))) := (hB0.block pk (Lib.lt_of_heap HP0.out)).trans HP0.out
  have ck0 : V0.cell? ⟨b, o + k0, none⟩ = some (.int .u8 168) := cellB hB0 c0
  clear hb0 hB0 hpW0
  have e1 : V0.cell? ⟨pk, 2, none⟩ = some q2 := by rw [Lib.cell_of_heap HPV0.out]; rfl
  have f1 : V0.frozen? ⟨pk, 2, none⟩ = false := Lib.frozen_of_heap HPV0.out 2
  have HKV1 : Hid (Kp [pk] w (V0.setCell ⟨pk, 2, none⟩ (.int .u8 168))) := HKV0.out.setCell (.inl (by simp)) _
  have HPV1 : Hid ((V0.setCell ⟨pk, 2, none⟩ (.int .u8 168)).heap[pk]? = some (.cells #[q0, q1, (.int .u8 168), q3, q4, q5, q6, q7, q8, q9, vp0, q11, q12, q13, q14, q15, q16, q17] 52 (0, 0))) := Lib.heap_setCell_same (i := 2) HPV0.out _
  have HCW := Lib.hid (HC.out (V0.setCell ⟨pk, 2, none⟩ (.int .u8 168)))
  go_wp2_with (go_at_call 62; refine (HCW.out _ _ _ HKV1.out HPV1.out (by omega) (by omega) (by omega) (by omega)).mono ?_; rintro e WZ ⟨rfl, vs', vp', z1, z2, z3, z4⟩; refine Hid.out ?_)
  refine Lib.hid ?_
  have hKX : Kp X w (V0.setCell ⟨pk, 2, none⟩ (.int .u8 168)) := HKV1.out.mono (fun q _ hq => by rw [List.mem_singleton.1 hq]; exact HX.out)
  have f12 : WZ.frozen? ⟨pk, 12, none⟩ = false := Lib.frozen_of_heap z1 12
  have e12 : WZ.cell? ⟨pk, 12, none⟩ = some q12 := by rw [Lib.cell_of_heap z1]; rfl
  have HR : Hid (RetVbl G X base w (fun v => #[q0, q1, (.int .u8 168), q3, (.int .u32 id), q5, (.int .u8 st), (.int .u8 ix), q8, q9, v, q11, (.bool false), q13, q14, q15, q16, q17]) pk l (.returned .nilIface) (WZ.setCell ⟨pk, 12, none⟩ (.bool false))) := by
    refine ⟨rfl, vs', vp', ?_, z2.setCell hpb _, z3, (hKX.trans z4).setCell (.inl HX.out) _⟩
    exact Lib.heap_setCell_same (i := 12) z1 _
  clear z1 z2 z3 z4 hKX
  go_wp2
  go_ret
  exact HR.out
set_option maxHeartbeats 64000000 in
set_option maxRecDepth 100000 in
theorem payload_165 (G : World → Prop) (X : List Nat) (base : Nat) (vp0 q0 q1 q2 q3 q4 q5 q6 q7 q8 q9 q11 q12 q13 q14 q15 q16 q17 : Value) (w : World) (b o n c g pk wd k0 : Nat) (id st ix : Nat) (l : List AV) (z : Addr) (hid : id < 2147483648) (hst : st ≤ 127) (hix : ix ≤ 127) (hl : l.length ≤ 20) (hok : ∀ x ∈ l, x.Ok) (hwd : wd ≤ 2) (hn : k0 + (sealB 165 (bodyB id st ix l wd) wd).length = n) (hnc : n ≤ c) (hc : c ≤ 9223372036854775807 ∧ n ≤ 1000000)
    (hX : pk ∈ X) (hpb : pk < base) (hbw : base ≤ w.heap.size) (hO0 : OwnC 56 3 w base vp0 0 []) (hinv0 : ∀ q, vp0.ownBlock = some q → q ∈ X) (hG : ∀ W, Kp X w W → G W) (hzG : ∀ W, G W → NetLaid W z) (htG : ∀ W, G W → Tab W) (haG : ∀ W, G W → AsnLaid W) (hgG : ∀ W, G W → W.heap[g]? = some (.cells #[] 68 (0, 0)))
    (hatG : ∀ W, G W → At W b (o + k0) (sealB 165 (bodyB id st ix l wd) wd)) (hpk : w.heap[pk]? = some (.cells #[q0, q1, q2, q3, q4, q5, q6, q7, q8, q9, vp0, q11, q12, q13, q14, q15, q16, q17] 52 (0, 0))) :
    Calls Tryz.prog 41 #[.pointer (some ⟨g, 0, none⟩), .slice (some ⟨b, o, none⟩) n c, .int .i64 k0, .pointer (some ⟨pk, 0, none⟩)] w (RetVbl G X base w (fun v => #[q0, q1, (.int .u8 165), q3, (.int .u32 id), q5, q6, q7, (.int .u8 st), (.int .u32 ix), v, q11, (.bool false), q13, q14, q15, q16, q17]) pk l) := by
  obtain ⟨L, hL⟩ : ∃ L, L = (sealB 165 (bodyB id st ix l wd) wd).length := ⟨_, rfl⟩
  have hL2 : 2 ≤ L := by rw [hL, sealB_len]; have := hdr_ge (bodyB id st ix l wd).length wd; omega
  rw [← hL] at hn
  have hGP : ∀ W, Kp [pk] w W → G W := fun W hW => hG W (hW.mono (fun q _ hq => by rw [List.mem_singleton.1 hq]; exact hX))
  have HGP := Lib.hid hGP
  have HG := Lib.hid hG
  have HGG := Lib.hid hgG
  have HP0 := Lib.hid hpk
  have HK0 := Lib.hid (Kp.refl [pk] w)
  have HX := Lib.hid hX
  have hk0n : k0 < n := by omega
  have hck : c ≠ k0 := by omega
  have c0 : w.cell? ⟨b, o + k0, none⟩ = some (.int .u8 165) := (hatG w (hGP w (Kp.refl _ _))).head
  have HC : Hid (∀ W a m cc, Kp [pk] w W → W.heap[pk]? = some (.cells #[q0, q1, (.int .u8 165), q3, q4, q5, q6, q7, q8, q9, vp0, q11, q12, q13, q14, q15, q16, q17] 52 (0, 0)) → a = o + k0 → m = L → m ≤ cc → cc ≤ 9223372036854775807 ∧ m ≤ 1000000 → Calls Tryz.prog 62 #[.pointer (some ⟨g, 0, none⟩), .slice (some ⟨b, a, none⟩) m cc, .pointer (some ⟨pk, 0, none⟩)] W (RetVbl G X base W (fun v => #[q0, q1, (.int .u8 165), q3, (.int .u32 id), q5, q6, q7, (.int .u8 st), (.int .u32 ix), v, q11, q12, q13, q14, q15, q16, q17]) pk l)) := by
    intro W a m cc hK hP ha hm hmc hcc
    have hKX : Kp X w W := hK.mono (fun q _ hq => by rw [List.mem_singleton.1 hq]; exact hX)
    exact response_bulk G X base vp0 q0 q1 q3 q4 q5 q6 q7 q8 q9 q11 q12 q13 q14 q15 q16 q17 W b a m cc g pk wd id st ix l z hid hst hix hl hok hwd (by rw [hm, hL]; try rfl) hmc hcc hX hpb (Nat.le_trans hbw hK.size) (hO0.kept (fun q hq => hK.block q (hO0.lt hq).2 (by have := (hO0.lt hq).1; simp; omega))) hinv0 (fun W2 h2 => hG W2 (hKX.trans h2)) hzG htG haG hgG (fun W2 h2 => by rw [ha]; exact hatG W2 h2) hP
  clear hGP hG hgG hpk hX hatG hL hl hok hzG htG haG hO0 hinv0
  go_enter Tryz.func41, Tryz.ntmps41
  have hpW0 := run_part w g (HGG.out w (HGP.out _ HK0.out))
  go_wp2_with (go_at_call 61; refine (printf _ _ _).mono ?_; rintro e V0 ⟨rfl, hb0⟩; refine Hid.out ?_)
  refine Lib.hid ?_
  have hB0 : Below (w).heap.size w V0 := thenB ((Below.refl _ _).alloc (Nat.le_refl _) _) hb0
  have HKV0 : Hid (Kp [pk] w V0) := HK0.out.add hB0
  have HPV0 : Hid (V0.heap[pk]? = some (.cells #[q0, q1, q2, q3, q4, q5, q6, q7, q8, q9, vp0, q11, q12, q13, q14, q15, q16, q17] 52 (0, 0))) := (hB0.block pk (Lib.lt_of_heap HP0.out)).trans HP0.out
  have ck0 : V0.cell? ⟨b, o + k0, none⟩ = some (.int .u8 165) := cellB hB0 c0
  clear hb0 hB0 hpW0
  have e1 : V0.cell? ⟨pk, 2, none⟩ = some q2 := by rw [Lib.cell_of_heap HPV0.out]; rfl
  have f1 : V0.frozen? ⟨pk, 2, none⟩ = false := Lib.frozen_of_heap HPV0.out 2
  have HKV1 : Hid (Kp [pk] w (V0.setCell ⟨pk, 2, none⟩ (.int .u8 165))) := HKV0.out.setCell (.inl (by simp)) _
  have HPV1 : Hid ((V0.setCell ⟨pk, 2, none⟩ (.int .u8 165)).heap[pk]? = some (.cells #[q0, q1, (.int .u8 165), q3, q4, q5, q6, q7, q8, q9, vp0, q11, q12, q13, q14, q15, q16, q17] 52 (0, 0))) := Lib.heap_setCell_same (i := 2) HPV0.out _
  have HCW := Lib.hid (HC.out (V0.setCell ⟨pk, 2, none⟩ (.int .u8 165)))
  go_wp2_with (go_at_call 62; refine (HCW.out _ _ _ HKV1.out HPV1.out (by omega) (by omega) (by omega) (by omega)).mono ?_; rintro e WZ ⟨rfl, vs', vp', z1, z2, z3, z4⟩; refine Hid.out ?_)
  refine Lib.hid ?_
  have hKX : Kp X w (V0.setCell ⟨pk, 2, none⟩ (.int .u8 165)) := HKV1.out.mono (fun q _ hq => by rw [List.mem_singleton.1 hq]; exact HX.out)
  have f12 : WZ.frozen? ⟨pk, 12, none⟩ = false := Lib.frozen_of_heap z1 12
  have e12 : WZ.cell? ⟨pk, 12, none⟩ = some q12 := by rw [Lib.cell_of_heap z1]; rfl
  have HR : Hid (RetVbl G X base w (fun v => #[q0, q1, (.int .u8 165), q3, (.int .u32 id), q5, q6, q7, (.int .u8 st), (.int .u32 ix), v, q11, (.bool false), q13, q14, q15, q16, q17]) pk l (.returned .nilIface) (WZ.setCell ⟨pk, 12, none⟩ (.bool false))) := by
    refine ⟨rfl, vs', vp', ?_, z2.setCell hpb _, z3, (hKX.trans z4).setCell (.inl HX.out) _⟩
    exact Lib.heap_setCell_same (i := 12) z1 _
  clear z1 z2 z3 z4 hKX
  go_wp2
  go_ret
  exact HR.out
end Go.Proofs.YtpfmcdhmboclhaaGreatDoor
namespace Go.Proofs.YtpfmcdhmboclhaaGreatDoor
open Go.RowKit
theorem packet_160 (w : World) (b o n c g wd ver : Nat) (com : ByteArray) (id st ix : Nat) (l : List AV) (z : Addr) (hver : ver ≤ 1) (hcom : com.size ≤ 127) (hid : id < 2147483648) (hst : st ≤ 127) (hix : ix ≤ 127) (hl : l.length ≤ 20) (hok : ∀ x ∈ l, x.Ok) (hwd : wd ≤ 2) (hn : (msgB ver com (sealB 160 (bodyB id st ix l wd) wd) wd).length = n) (hn16 : n ≤ 60000) (hnc : n ≤ c) (hc : c ≤ 9223372036854775807 ∧ n ≤ 1000000)
    (hz : NetLaid w z) (ht : Tab w) (ha : AsnLaid w) (hg : w.heap[g]? = some (.cells #[] 68 (0, 0))) (hat : At w b o (msgB ver com (sealB 160 (bodyB id st ix l wd) wd) wd)) :
    Calls Tryz.prog 20 #[.pointer (some ⟨g, 0, none⟩), .slice (some ⟨b, o, none⟩) n c] w (RetPkt w (fun v => #[.int .u8 ver, .string com, .int .u8 160, .int .u32 0, .int .u32 id, .int .u32 0, .int .u8 st, .int .u8 ix, .int .u8 0, .int .u32 0, v, .slice none 0 0, .bool false, .string ⟨#[]⟩, .string ⟨#[]⟩, .int .i64 0, .int .i64 0, .int .u64 0]) l) := by
  have hlen : (sealB 160 (bodyB id st ix l wd) wd).length ≤ n := by
    rw [← hn]; exact msgB_len _ _ _ _
  refine packet w b o n c g wd ver com (sealB 160 (bodyB id st ix l wd) wd) (fun v => #[.int .u8 ver, .string com, .int .u8 160, .int .u32 0, .int .u32 id, .int .u32 0, .int .u8 st, .int .u8 ix, .int .u8 0, .int .u32 0, v, .slice none 0 0, .bool false, .string ⟨#[]⟩, .string ⟨#[]⟩, .int .i64 0, .int .i64 0, .int .u64 0]) l z hver hcom (by rw [sealB_len]; have := hdr_ge (bodyB id st ix l wd).length wd; omega) (by omega) hwd hn hnc hc hg hat ?_
  intro X base vp0 W k0 hk0 hX hpb hbw hO0 hinv hG hatG hpk
  exact payload_160 (fun W => Below w.heap.size w W) X base vp0 (.int .u8 ver) (.string com) (.int .u8 0) (.int .u32 0) (.int .u32 0) (.int .u32 0) (.int .u8 0) (.int .u8 0) (.int .u8 0) (.int .u32 0) (.slice none 0 0) (.bool false) (.string ⟨#[]⟩) (.string ⟨#[]⟩) (.int .i64 0) (.int .i64 0) (.int .u64 0) W b o n c g w.heap.size wd k0 id st ix l z hid hst hix hl hok hwd hk0 hnc hc hX hpb hbw hO0 hinv hG (fun W h => hz.below h) (fun W h => ht.below h) (fun W h => ha.below h) (fun W h => (h.block g (Lib.lt_of_heap hg)).trans hg) hatG hpk
theorem packet_161 (w : World) (b o n c g wd ver : Nat) (com : ByteArray) (id st ix : Nat) (l : List AV) (z : Addr) (hver : ver ≤ 1) (hcom : com.size ≤ 127) (hid : id < 2147483648) (hst : st ≤ 127) (hix : ix ≤ 127) (hl : l.length ≤ 20) (hok : ∀ x ∈ l, x.Ok) (hwd : wd ≤ 2) (hn : (msgB ver com (sealB 161 (bodyB id st ix l wd) wd) wd).length = n) (hn16 : n ≤ 60000) (hnc : n ≤ c) (hc : c ≤ 9223372036854775807 ∧ n ≤ 1000000)
    (hz : NetLaid w z) (ht : Tab w) (ha : AsnLaid w) (hg : w.heap[g]? = some (.cells #[] 68 (0, 0))) (hat : At w b o (msgB ver com (sealB 161 (bodyB id st ix l wd) wd) wd)) :
    Calls Tryz.prog 20 #[.pointer (some ⟨g, 0, none⟩), .slice (some ⟨b, o, none⟩) n c] w (RetPkt w (fun v => #[.int .u8 ver, .string com, .int .u8 161, .int .u32 0, .int .u32 id, .int .u32 0, .int .u8 st, .int .u8 ix, .int .u8 0, .int .u32 0, v, .slice none 0 0, .bool false, .string ⟨#[]⟩, .string ⟨#[]⟩, .int .i64 0, .int .i64 0, .int .u64 0]) l) := by
  have hlen : (sealB 161 (bodyB id st ix l wd) wd).length ≤ n := by
    rw [← hn]; exact msgB_len _ _ _ _
  refine packet w b o n c g wd ver com (sealB 161 (bodyB id st ix l wd) wd) (fun v => #[.int .u8 ver, .string com, .int .u8 161, .int .u32 0, .int .u32 id, .int .u32 0, .int .u8 st, .int .u8 ix, .int .u8 0, .int .u32 0, v, .slice none 0 0, .bool false, .string ⟨#[]⟩, .string ⟨#[]⟩, .int .i64 0, .int .i64 0, .int .u64 0]) l z hver hcom (by rw [sealB_len]; have := hdr_ge (bodyB id st ix l wd).length wd; omega) (by omega) hwd hn hnc hc hg hat ?_
  intro X base vp0 W k0 hk0 hX hpb hbw hO0 hinv hG hatG hpk
  exact payload_161 (fun W => Below w.heap.size w W) X base vp0 (.int .u8 ver) (.string com) (.int .u8 0) (.int .u32 0) (.int .u32 0) (.int .u32 0) (.int .u8 0) (.int .u8 0) (.int .u8 0) (.int .u32 0) (.slice none 0 0) (.bool false) (.string ⟨#[]⟩) (.string ⟨#[]⟩) (.int .i64 0) (.int .i64 0) (.int .u64 0) W b o n c g w.heap.size wd k0 id st ix l z hid hst hix hl hok hwd hk0 hnc hc hX hpb hbw hO0 hinv hG (fun W h => hz.below h) (fun W h => ht.below h) (fun W h => ha.below h) (fun W h => (h.block g (Lib.lt_of_heap hg)).trans hg) hatG hpk
theorem packet_162 (w : World) (b o n c g wd ver : Nat) (com : ByteArray) (id st ix : Nat) (l : List AV) (z : Addr) (hver : ver ≤ 1) (hcom : com.size ≤ 127) (hid : id < 2147483648) (hst : st ≤ 127) (hix : ix ≤ 127) (hl : l.length ≤ 20) (hok : ∀ x ∈ l, x.Ok) (hwd : wd ≤ 2) (hn : (msgB ver com (sealB 162 (bodyB id st ix l wd) wd) wd).length = n) (hn16 : n ≤ 60000) (hnc : n ≤ c) (hc : c ≤ 9223372036854775807 ∧ n ≤ 1000000)
    (hz : NetLaid w z) (ht : Tab w) (ha : AsnLaid w) (hg : w.heap[g]? = some (.cells #[] 68 (0, 0))) (hat : At w b o (msgB ver com (sealB 162 (bodyB id st ix l wd) wd) wd)) :
    Calls Tryz.prog 20 #[.pointer (some ⟨g, 0, none⟩), .slice (some ⟨b, o, none⟩) n c] w (RetPkt w (fun v => #[.int .u8 ver, .string com, .int .u8 162, .int .u32 0, .int .u32 id, .int .u32 0, .int .u8 st, .int .u8 ix, .int .u8 0, .int .u32 0, v, .slice none 0 0, .bool false, .string ⟨#[]⟩, .string ⟨#[]⟩, .int .i64 0, .int .i64 0, .int .u64 0]) l) := by
  have hlen : (sealB 162 (bodyB id st ix l wd) wd).length ≤ n := by
    rw [← hn]; exact msgB_len _ _ _ _
  refine packet w b o n c g wd ver com (sealB 162 (bodyB id st ix l wd) wd) (fun v => #[.int .u8 ver, .string com, .int .u8 162, .int .u32 0, .int .u32 id, .int .u32 0, .int .u8 st, .int .u8 ix, .int .u8 0, .int .u32 0, v, .slice none 0 0, .bool false, .string ⟨#[]⟩, .string ⟨#[]⟩, .int .i64 0, .int .i64 0, .int .u64 0]) l z hver hcom (by rw [sealB_len]; have := hdr_ge (bodyB id st ix l wd).length wd; omega) (by omega) hwd hn hnc hc hg hat ?_
  intro X base vp0 W k0 hk0 hX hpb hbw hO0 hinv hG hatG hpk
  exact payload_162 (fun W => Below w.heap.size w W) X base vp0 (.int .u8 ver) (.string com) (.int .u8 0) (.int .u32 0) (.int .u32 0) (.int .u32 0) (.int .u8 0) (.int .u8 0) (.int .u8 0) (.int .u32 0) (.slice none 0 0) (.bool false) (.string ⟨#[]⟩) (.string ⟨#[]⟩) (.int .i64 0) (.int .i64 0) (.int .u64 0) W b o n c g w.heap.size wd k0 id st ix l z hid hst hix hl hok hwd hk0 hnc hc hX hpb hbw hO0 hinv hG (fun W h => hz.below h) (fun W h => ht.below h) (fun W h => ha.below h) (fun W h => (h.block g (Lib.lt_of_heap hg)).trans hg) hatG hpk
theorem packet_163 (w : World) (b o n c g wd ver : Nat) (com : ByteArray) (id st ix : Nat) (l : List AV) (z : Addr) (hver : ver ≤ 1) (hcom : com.size ≤ 127) (hid : id < 2147483648) (hst : st ≤ 127) (hix : ix ≤ 127) (hl : l.length ≤ 20) (hok : ∀ x ∈ l, x.Ok) (hwd : wd ≤ 2) (hn : (msgB ver com (sealB 163 (bodyB id st ix l wd) wd) wd).length = n) (hn16 : n ≤ 60000) (hnc : n ≤ c) (hc : c ≤ 9223372036854775807 ∧ n ≤ 1000000)
    (hz : NetLaid w z) (ht : Tab w) (ha : AsnLaid w) (hg : w.heap[g]? = some (.cells #[] 68 (0, 0))) (hat : At w b o (msgB ver com (sealB 163 (bodyB id st ix l wd) wd) wd)) :
    Calls Tryz.prog 20 #[.pointer (some ⟨g, 0, none⟩), .slice (some ⟨b, o, none⟩) n c] w (RetPkt w (fun v => #[.int .u8 ver, .string com, .int .u8 163, .int .u32 0, .int .u32 id, .int .u32 0, .int .u8 st, .int .u8 ix, .int .u8 0, .int .u32 0, v, .slice none 0 0, .bool false, .string ⟨#[]⟩, .string ⟨#[]⟩, .int .i64 0, .int .i64 0, .int .u64 0]) l) := by
  have hlen : (sealB 163 (bodyB id st ix l wd) wd).length ≤ n := by
    rw [← hn]; exact msgB_len _ _ _ _
  refine packet w b o n c g wd ver com (sealB 163 (bodyB id st ix l wd) wd) (fun v => #[.int .u8 ver, .string com, .int .u8 163, .int .u32 0, .int .u32 id, .int .u32 0, .int .u8 st, .int .u8 ix, .int .u8 0, .int .u32 0, v, .slice none 0 0, .bool false, .string ⟨#[]⟩, .string ⟨#[]⟩, .int .i64 0, .int .i64 0, .int .u64 0]) l z hver hcom (by rw [sealB_len]; have := hdr_ge (bodyB id st ix l wd).length wd; omega) (by omega) hwd hn hnc hc hg hat ?_
  intro X base vp0 W k0 hk0 hX hpb hbw hO0 hinv hG hatG hpk
  exact payload_163 (fun W => Below w.heap.size w W) X base vp0 (.int .u8 ver) (.string com) (.int .u8 0) (.int .u32 0) (.int .u32 0) (.int .u32 0) (.int .u8 0) (.int .u8 0) (.int .u8 0) (.int .u32 0) (.slice none 0 0) (.bool false) (.string ⟨#[]⟩) (.string ⟨#[]⟩) (.int .i64 0) (.int .i64 0) (.int .u64 0) W b o n c g w.heap.size wd k0 id st ix l z hid hst hix hl hok hwd hk0 hnc hc hX hpb hbw hO0 hinv hG (fun W h => hz.below h) (fun W h => ht.below h) (fun W h => ha.below h) (fun W h => (h.block g (Lib.lt_of_heap hg)).trans hg) hatG hpk
end Go.Proofs.YtpfmcdhmboclhaaGreatDoor
