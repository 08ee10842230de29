/- gosnmp: a value is read: texts. gosnmp: a value is read: an INTEGER. gosnmp: a value is read: names. gosnmp: a value is read: addresses. gosnmp: a value is read. -/
import Derived.Test.YtpfmcdhmboclhaaGreatDoorG14
set_option linter.unusedVariables false
set_option linter.unusedSimpArgs false
namespace Go.Proofs.YtpfmcdhmboclhaaGreatDoor
open Go.RowKit

set_option maxHeartbeats 32000000 in
set_option maxRecDepth 100000 in
theorem dec_4 (G : World → Prop) (w : World) (b o n c g r wd : Nat) (s : ByteArray) (z : Addr) (hs : s.size ≤ 500) (hwd : wd ≤ 2) (hn : (sealB 4 (bytesOf s) wd).length = n) (hnc : n ≤ c) (hc : c ≤ 9223372036854775807 ∧ n ≤ 1000000) (hgr : g ≠ r) (hG : ∀ W, Kp [r] w W → G W) (hzG : ∀ W, G W → NetLaid W z) (htab : Tab w) (has : AsnLaid w)
    (hatG : ∀ W, G W → At W b o (sealB 4 (bytesOf s) wd)) (hr : w.heap[r]? = some (.cells #[.nilIface, .int .u8 0] 188 (0, 0))) (hg : w.heap[g]? = some (.cells #[] 68 (0, 0))) :
    Calls Tryz.prog 103 #[.pointer (some ⟨g, 0, none⟩), .slice (some ⟨b, o, none⟩) n c, .pointer (some ⟨r, 0, none⟩)] w (RetV G w r (.str s)) := by
  have hatK : ∀ W, Kp [r] w W → At W b o (sealB 4 (bytesOf s) wd) := fun W h => hatG W (hG W h)
  have hzK : ∀ W, Kp [r] w W → NetLaid W z := fun W h => hzG W (hG W h)
  have hat := hatK w (Kp.refl _ _)
  obtain ⟨k, hk⟩ : ∃ k, k = (bytesOf s).length := ⟨_, rfl⟩
  obtain ⟨h, hh⟩ : ∃ h, h = hdr k wd := ⟨_, rfl⟩
  have hN : n = k + h := by rw [← hn, hh, hk]; exact sealB_len _ _ _
  have hk5 : k ≤ 500 := by rw [hk, bytesOf_length]; exact hs
  have hat1 : At w b o (4 :: (lenB k wd ++ (bytesOf s))) := by rw [hk]; exact hat
  have hat2 : At w b (o + h) (bytesOf s) := by
    have : At w b o (4 :: (lenB (bytesOf s).length wd ++ ((bytesOf s) ++ []))) := by rw [List.append_nil, ← hk]; exact hat1
    rw [hh, hk]; exact this.con
  have hh2 : 2 ≤ h := by rw [hh]; exact hdr_ge k wd
  have c0 : w.cell? ⟨b, o, none⟩ = some (.int .u8 4) := hat1.head
  have hlt := Lib.lt_of_heap hr
  have HR := Lib.hid hr
  have HG := Lib.hid hg
  have HA1 := Lib.hid hat1
  have HA2 := Lib.hid hat2
  have HK := Lib.hid hk
  have HH := Lib.hid hh
  have HNN := Lib.hid hN
  have HZ := Lib.hid hzK
  have HTAB := Lib.hid htab
  have HAS := Lib.hid has
  have hp0 := run_part w g hg
  have hhn : h ≤ n := by omega
  have hn1 : 1 ≤ n := by omega
  have HLK : Hid (∀ W, Kp [r] w W → Calls Tryz.prog 76 #[.slice (some ⟨b, o, none⟩) n c] W (RetL W n h)) := by
    intro W hW
    have h1 := hatK W hW
    rw [sealB, ← hk] at h1
    have := parseLength W b o n c k wd 4 (bytesOf s) (by omega) hwd h1 (by rw [← hh]; exact hhn) hnc hc
    rw [← hh, ← hN] at this
    exact this
  have HA2K : Hid (∀ W, Kp [r] w W → At W b (o + h) (bytesOf s)) := by
    intro W hW
    have h1 := hatK W hW
    have : At W b o (4 :: (lenB (bytesOf s).length wd ++ ((bytesOf s) ++ []))) := by rw [List.append_nil]; exact h1
    rw [hh, hk]; exact this.con
  have HA2G : Hid (∀ W, G W → At W b (o + h) (bytesOf s)) := by
    intro W hW
    have h1 := hatG W hW
    have : At W b o (4 :: (lenB (bytesOf s).length wd ++ ((bytesOf s) ++ []))) := by rw [List.append_nil]; exact h1
    rw [hh, hk]; exact this.con
  clear hr hg hat hatG hzG hG hatK hat1 hat2 hk hh hN hzK htab has hn
  go_enter Tryz.func103, Tryz.ntmps103
  go_wp2_with (go_at_call 119; refine (print _ _).mono ?_; rintro e W1 ⟨rfl, hb⟩; refine Hid.out ?_)
  refine Lib.hid ?_
  have hB : Below w.heap.size w W1 := ((Below.refl _ w).alloc (Nat.le_refl _) _).trans (hb.mono (by simp))
  have HL1 := Lib.hid (HLK.out W1 (Kp.of_below hB [r]))
  have hr1 : W1.heap[r]? = some (.cells #[.nilIface, .int .u8 0] 188 (0, 0)) := (hB.block r hlt).trans HR.out
  have e0 : W1.cell? ⟨r, 0, none⟩ = some .nilIface := by rw [Lib.cell_of_heap hr1]; rfl
  have e1 : W1.cell? ⟨r, 1, none⟩ = some (.int .u8 0) := by rw [Lib.cell_of_heap hr1]; rfl
  have fr : ∀ i, W1.frozen? ⟨r, i, none⟩ = false := fun i => Lib.frozen_of_heap hr1 i
  have HB := Lib.hid hB
  have HR1 := Lib.hid hr1
  clear hb hB hr1 hp0
  go_wp2_with (go_at_call 76; refine (HL1.out).mono ?_; rintro e W2 ⟨rfl, rfl⟩; refine Hid.out ?_)
  refine Lib.hid ?_
  clear HL1
  by_cases hk0 : k = 0
  · have hNh : n = h := by have := HNN.out; omega
    have hl0 : bytesOf s = [] := List.eq_nil_of_length_eq_zero (by rw [← HK.out]; exact hk0)
    have HRD : Hid (∀ A C, C ≤ 9223372036854775807 → ∀ W, G W → DecV W (.str s) (.iface 30 (.slice A 0 C))) := fun A C hC W hW => ⟨_, rfl, by rw [hl0]; exact ⟨A, C, rfl, Nat.zero_le _, by unfold maxLen; omega, fun h => absurd h (by simp)⟩⟩
    clear hl0 HLK HA2K
    subst hNh
    by_cases hcc : c = n
    · subst hcc
      have hcc0 : c - c = 0 := Nat.sub_self c
      go_wp2
      obtain ⟨WS, hWS⟩ : ∃ WS, WS = (W2.setCell ⟨r, 1, none⟩ (.int .u8 4)).setCell ⟨r, 0, none⟩ (.iface 30 (.slice (some ⟨b, o, none⟩) 0 0)) := ⟨_, rfl⟩
      have hrS : WS.heap[r]? = some (.cells #[.iface 30 (.slice (some ⟨b, o, none⟩) 0 0), .int .u8 4] 188 (0, 0)) := by
        rw [hWS]; exact Lib.heap_setCell_same (i := 0) (Lib.heap_setCell_same (i := 1) HR1.out _) _
      have hkS : Kp [r] w WS := by
        rw [hWS]
        exact ((Kp.of_below HB.out [r]).setCell (.inl (by simp)) _).setCell (.inl (by simp)) _
      rw [← hWS]
      have hS := startS (hkS.heap HG.out (by simpa using hgr)) hrS
      have HKS := Lib.hid hkS
      clear hWS hrS hkS
      go_region_held3 (fun W => (partAt ⟨g, 0, none⟩ 0 0).run Tryz.prog W = .ok ⟨g, 0, none⟩ W ∧ W.cell? ⟨r, 0, none⟩ = some (.iface 30 (.slice (some ⟨b, o, none⟩) 0 0)) ∧ W.heap[g]? = some (.cells #[] 68 (0, 0)) ∧ W.heap[r]? = some (.cells #[.iface 30 (.slice (some ⟨b, o, none⟩) 0 0), .int .u8 4] 188 (0, 0))) (first | exact hS | exact keepS (by assumption) ((Below.refl _ _).alloc (Nat.le_refl _) _) | exact keepS (by assumption) hbT) (first | (go_at_call 61; refine (printf _ _ _).mono ?_; rintro e WT ⟨rfl, hbT⟩))
      rename_i hHeld
      go_wp2
      go_ret
      exact ⟨rfl, _, HRD.out _ _ (by omega), rfl, hHeld.2.2.2, ((HKS.out.alloc _).drew).add hbT⟩
    · have hch : c ≠ n := hcc
      go_wp2
      obtain ⟨WS, hWS⟩ : ∃ WS, WS = (W2.setCell ⟨r, 1, none⟩ (.int .u8 4)).setCell ⟨r, 0, none⟩ (.iface 30 (.slice (some ⟨b, o + n, none⟩) 0 (c - n))) := ⟨_, rfl⟩
      have hrS : WS.heap[r]? = some (.cells #[.iface 30 (.slice (some ⟨b, o + n, none⟩) 0 (c - n)), .int .u8 4] 188 (0, 0)) := by
        rw [hWS]; exact Lib.heap_setCell_same (i := 0) (Lib.heap_setCell_same (i := 1) HR1.out _) _
      have hkS : Kp [r] w WS := by
        rw [hWS]
        exact ((Kp.of_below HB.out [r]).setCell (.inl (by simp)) _).setCell (.inl (by simp)) _
      rw [← hWS]
      have hS := startS (hkS.heap HG.out (by simpa using hgr)) hrS
      have HKS := Lib.hid hkS
      clear hWS hrS hkS
      go_region_held3 (fun W => (partAt ⟨g, 0, none⟩ 0 0).run Tryz.prog W = .ok ⟨g, 0, none⟩ W ∧ W.cell? ⟨r, 0, none⟩ = some (.iface 30 (.slice (some ⟨b, o + n, none⟩) 0 (c - n))) ∧ W.heap[g]? = some (.cells #[] 68 (0, 0)) ∧ W.heap[r]? = some (.cells #[.iface 30 (.slice (some ⟨b, o + n, none⟩) 0 (c - n)), .int .u8 4] 188 (0, 0))) (first | exact hS | exact keepS (by assumption) ((Below.refl _ _).alloc (Nat.le_refl _) _) | exact keepS (by assumption) hbT) (first | (go_at_call 61; refine (printf _ _ _).mono ?_; rintro e WT ⟨rfl, hbT⟩))
      rename_i hHeld
      go_wp2
      go_ret
      exact ⟨rfl, _, HRD.out _ _ (by omega), rfl, hHeld.2.2.2, ((HKS.out.alloc _).drew).add hbT⟩
  · have hch : c ≠ h := by have := HNN.out; omega
    have HRD : Hid (∀ W, G W → DecV W (.str s) (.iface 30 (.slice (some ⟨b, o + h, none⟩) (n - h) (c - h)))) := by
      intro W hW
      refine ⟨_, rfl, ?_⟩
      have e : n - h = (bytesOf s).length := by have := HNN.out; rw [← HK.out]; omega
      rw [e]
      exact (HA2G.out W hW).rd (by rw [← HK.out]; have := HNN.out; omega) (by unfold maxLen; omega)
    clear HLK HA2K
    go_wp2
    obtain ⟨WS, hWS⟩ : ∃ WS, WS = (W2.setCell ⟨r, 1, none⟩ (.int .u8 4)).setCell ⟨r, 0, none⟩ (.iface 30 (.slice (some ⟨b, o + h, none⟩) (n - h) (c - h))) := ⟨_, rfl⟩
    have hrS : WS.heap[r]? = some (.cells #[.iface 30 (.slice (some ⟨b, o + h, none⟩) (n - h) (c - h)), .int .u8 4] 188 (0, 0)) := by
      rw [hWS]; exact Lib.heap_setCell_same (i := 0) (Lib.heap_setCell_same (i := 1) HR1.out _) _
    have hkS : Kp [r] w WS := by
      rw [hWS]
      exact ((Kp.of_below HB.out [r]).setCell (.inl (by simp)) _).setCell (.inl (by simp)) _
    rw [← hWS]
    have hS := startS (hkS.heap HG.out (by simpa using hgr)) hrS
    have HKS := Lib.hid hkS
    clear hWS hrS hkS
    go_region_held3 (fun W => (partAt ⟨g, 0, none⟩ 0 0).run Tryz.prog W = .ok ⟨g, 0, none⟩ W ∧ W.cell? ⟨r, 0, none⟩ = some (.iface 30 (.slice (some ⟨b, o + h, none⟩) (n - h) (c - h))) ∧ W.heap[g]? = some (.cells #[] 68 (0, 0)) ∧ W.heap[r]? = some (.cells #[.iface 30 (.slice (some ⟨b, o + h, none⟩) (n - h) (c - h)), .int .u8 4] 188 (0, 0))) (first | exact hS | exact keepS (by assumption) ((Below.refl _ _).alloc (Nat.le_refl _) _) | exact keepS (by assumption) hbT) (first | (go_at_call 61; refine (printf _ _ _).mono ?_; rintro e WT ⟨rfl, hbT⟩))
    rename_i hHeld
    go_wp2
    go_ret
    exact ⟨rfl, _, HRD.out, rfl, hHeld.2.2.2, ((HKS.out.alloc _).drew).add hbT⟩
end Go.Proofs.YtpfmcdhmboclhaaGreatDoor
namespace Go.Proofs.YtpfmcdhmboclhaaGreatDoor
open Go.RowKit
theorem thenB {w b c : World} (h : Below w.heap.size w b) (k : Below b.heap.size b c) : Below w.heap.size w c := bthen h k h.size
theorem intAsn {w W : World} {A B : Prop} (ha : AsnLaid w) (h : A ∧ B ∧ Below w.heap.size w W) : AsnLaid W := ha.below h.2.2
set_option maxHeartbeats 32000000 in
set_option maxRecDepth 100000 in
theorem dec_2 (G : World → Prop) (w : World) (b o n c g r wd : Nat) (x : Int) (z : Addr) (hx : -2147483648 ≤ x ∧ x ≤ 2147483647) (hwd : wd ≤ 2) (hn : (sealB 2 (intB x) wd).length = n) (hnc : n ≤ c) (hc : c ≤ 9223372036854775807 ∧ n ≤ 1000000) (hgr : g ≠ r) (hG : ∀ W, Kp [r] w W → G W) (hzG : ∀ W, G W → NetLaid W z) (htab : Tab w) (has : AsnLaid w)
    (hatG : ∀ W, G W → At W b o (sealB 2 (intB x) wd)) (hr : w.heap[r]? = some (.cells #[.nilIface, .int .u8 0] 188 (0, 0))) (hg : w.heap[g]? = some (.cells #[] 68 (0, 0))) :
    Calls Tryz.prog 103 #[.pointer (some ⟨g, 0, none⟩), .slice (some ⟨b, o, none⟩) n c, .pointer (some ⟨r, 0, none⟩)] w (RetV G w r (.int x)) := by
  have hatK : ∀ W, Kp [r] w W → At W b o (sealB 2 (intB x) wd) := fun W h => hatG W (hG W h)
  have hzK : ∀ W, Kp [r] w W → NetLaid W z := fun W h => hzG W (hG W h)
  have hat := hatK w (Kp.refl _ _)
  obtain ⟨k, hk⟩ : ∃ k, k = (intB x).length := ⟨_, rfl⟩
  obtain ⟨h, hh⟩ : ∃ h, h = hdr k wd := ⟨_, rfl⟩
  have hN : n = k + h := by rw [← hn, hh, hk]; exact sealB_len _ _ _
  have hk1 : 1 ≤ k := by rw [hk]; exact (sval_intB x hx).2.2.1
  have hk5 : k ≤ 4 := by rw [hk]; exact intB_le x hx
  have hch : c ≠ h := by omega
  have hmh : k = n - h := by omega
  have HCB0 : ∀ W, Kp [r] w W → W.cell? ⟨b, o, none⟩ = some (.int .u8 2) := fun W hW => (hatK W hW).head
  have hat1 : At w b o (2 :: (lenB k wd ++ (intB x))) := by rw [hk]; exact hat
  have hat2 : At w b (o + h) (intB x) := by
    have : At w b o (2 :: (lenB (intB x).length wd ++ ((intB x) ++ []))) := by rw [List.append_nil, ← hk]; exact hat1
    rw [hh, hk]; exact this.con
  have hh2 : 2 ≤ h := by rw [hh]; exact hdr_ge k wd
  have c0 : w.cell? ⟨b, o, none⟩ = some (.int .u8 2) := hat1.head
  have hlt := Lib.lt_of_heap hr
  have HR := Lib.hid hr
  have HG := Lib.hid hg
  have HA1 := Lib.hid hat1
  have HA2 := Lib.hid hat2
  have HK := Lib.hid hk
  have HH := Lib.hid hh
  have HNN := Lib.hid hN
  have HZ := Lib.hid hzK
  have HTAB := Lib.hid htab
  have HAS := Lib.hid has
  have hp0 := run_part w g hg
  have hhn : h ≤ n := by omega
  have hn1 : 1 ≤ n := by omega
  have HLK : Hid (∀ W, Kp [r] w W → Calls Tryz.prog 76 #[.slice (some ⟨b, o, none⟩) n c] W (RetL W n h)) := by
    intro W hW
    have h1 := hatK W hW
    rw [sealB, ← hk] at h1
    have := parseLength W b o n c k wd 2 (intB x) (by omega) hwd h1 (by rw [← hh]; exact hhn) hnc hc
    rw [← hh, ← hN] at this
    exact this
  have HA2K : Hid (∀ W, Kp [r] w W → At W b (o + h) (intB x)) := by
    intro W hW
    have h1 := hatK W hW
    have : At W b o (2 :: (lenB (intB x).length wd ++ ((intB x) ++ []))) := by rw [List.append_nil]; exact h1
    rw [hh, hk]; exact this.con
  have HA2G : Hid (∀ W, G W → At W b (o + h) (intB x)) := by
    intro W hW
    have h1 := hatG W hW
    have : At W b o (2 :: (lenB (intB x).length wd ++ ((intB x) ++ []))) := by rw [List.append_nil]; exact h1
    rw [hh, hk]; exact this.con
  clear hr hg hat hatG hzG hG hatK hat1 hat2 hk hh hN hzK htab has hn
  go_enter Tryz.func103, Tryz.ntmps103
  have HCB : Hid (∀ W, Kp [r] w W → W.cell? ⟨b, o, none⟩ = some (.int .u8 2)) := HCB0
  clear HCB0
  have HX := Lib.hid hx
  have C0 := Lib.hid c0
  have hkeep : ∀ W, Below w.heap.size w W → ((partAt ⟨g, 0, none⟩ 0 0).run Tryz.prog W = .ok ⟨g, 0, none⟩ W ∧ W.cell? ⟨b, o, none⟩ = some (.int .u8 2) ∧ Below w.heap.size w W) := fun W hW => ⟨run_part W g ((hW.block g (Lib.lt_of_heap HG.out)).trans HG.out), cellB hW C0.out, hW⟩
  have HKEEP := Lib.hid hkeep
  have hpos : (0 : Int) < (n : Int) := by omega
  have hpos2 : 0 < n := by omega
  clear hkeep hx hp0
  go_upto_region 9 with fail
  go_region_held3 (fun W => (partAt ⟨g, 0, none⟩ 0 0).run Tryz.prog W = .ok ⟨g, 0, none⟩ W ∧ W.cell? ⟨b, o, none⟩ = some (.int .u8 2) ∧ Below w.heap.size w W) (first | exact HKEEP.out _ (Below.refl _ _).drew | exact HKEEP.out _ (drewN_below _ _) | exact HKEEP.out _ ((drewN_below _ _).alloc (Nat.le_refl _) _) | exact HKEEP.out _ (thenB ((drewN_below _ _).alloc (Nat.le_refl _) _) hbT) | exact HKEEP.out _ (drewN_below _ _).drew | exact HKEEP.out _ ((drewN_below _ _).alloc (Nat.le_refl _) _).drew | exact HKEEP.out _ (thenB ((drewN_below _ _).alloc (Nat.le_refl _) _).drew hbT) | exact HKEEP.out _ (thenB ((Below.refl _ _).alloc (Nat.le_refl _) _).drew hbT)) (first | (go_at_call 118; refine (asnString _ (intAsn HAS.out (by assumption))).mono ?_; rintro e WT ⟨⟨s, rfl⟩, kk, rfl⟩) | (go_at_call 61; refine (printf _ _ _).mono ?_; rintro e WT ⟨rfl, hbT⟩))
  rename_i hHeld
  have hB := hHeld.2.2
  obtain ⟨W1, rfl⟩ : ∃ W1 : World, W1 = WT := ⟨_, rfl⟩
  have HL1 := Lib.hid (HLK.out W1 (Kp.of_below hB [r]))
  have hr1 : W1.heap[r]? = some (.cells #[.nilIface, .int .u8 0] 188 (0, 0)) := (hB.block r hlt).trans HR.out
  have e0 : W1.cell? ⟨r, 0, none⟩ = some .nilIface := by rw [Lib.cell_of_heap hr1]; rfl
  have e1 : W1.cell? ⟨r, 1, none⟩ = some (.int .u8 0) := by rw [Lib.cell_of_heap hr1]; rfl
  have fr : ∀ i, W1.frozen? ⟨r, i, none⟩ = false := fun i => Lib.frozen_of_heap hr1 i
  have cb : W1.cell? ⟨b, o, none⟩ = some (.int .u8 2) := cellB hB C0.out
  have cb2 : ∀ x, (W1.setCell ⟨r, 1, none⟩ x).cell? ⟨b, o, none⟩ = some (.int .u8 2) := fun x => HCB.out _ ((Kp.of_below hB [r]).setCell (.inl (by simp)) _)
  have HB := Lib.hid hB
  have HR1 := Lib.hid hr1
  clear hHeld hbT hB hr1 HKEEP
  go_wp2_with (go_at_call 76; refine (HL1.out).mono ?_; rintro e W2 ⟨rfl, rfl⟩; refine Hid.out ?_)
  refine Lib.hid ?_
  clear HL1
  have HPU := Lib.hid (parseInt W2 b (o + h) (n - h) (c - h) x HX.out (by rw [← hmh]; exact HK.out.symm) (by omega) (by omega) ((At.below HA2.out HB.out)))
  go_wp2_with (go_at_call 77; refine (HPU.out).mono ?_; rintro e W3 ⟨rfl, rfl⟩; refine Hid.out ?_)
  refine Lib.hid ?_
  clear HPU HLK HA2K
  go_wp2
  obtain ⟨WS, hWS⟩ : ∃ WS, WS = (W3.setCell ⟨r, 1, none⟩ (.int .u8 2)).setCell ⟨r, 0, none⟩ (.iface 3 (.int .i64 x)) := ⟨_, rfl⟩
  have hrS : WS.heap[r]? = some (.cells #[.iface 3 (.int .i64 x), .int .u8 2] 188 (0, 0)) := by
    rw [hWS]; exact Lib.heap_setCell_same (i := 0) (Lib.heap_setCell_same (i := 1) HR1.out _) _
  have hkS : Kp [r] w WS := by
    rw [hWS]
    exact ((Kp.of_below HB.out [r]).setCell (.inl (by simp)) _).setCell (.inl (by simp)) _
  rw [← hWS]
  have hS := startS (hkS.heap HG.out (by simpa using hgr)) hrS
  have HKS := Lib.hid hkS
  clear hWS hrS hkS
  go_region_held3 (fun W => (partAt ⟨g, 0, none⟩ 0 0).run Tryz.prog W = .ok ⟨g, 0, none⟩ W ∧ W.cell? ⟨r, 0, none⟩ = some (.iface 3 (.int .i64 x)) ∧ W.heap[g]? = some (.cells #[] 68 (0, 0)) ∧ W.heap[r]? = some (.cells #[.iface 3 (.int .i64 x), .int .u8 2] 188 (0, 0))) (first | exact hS | exact keepS (by assumption) ((Below.refl _ _).alloc (Nat.le_refl _) _) | exact keepS (by assumption) hbT) (first | (go_at_call 61; refine (printf _ _ _).mono ?_; rintro e WT ⟨rfl, hbT⟩))
  rename_i hHeld
  go_wp2
  go_ret
  exact ⟨rfl, _, fun _ _ => rfl, rfl, hHeld.2.2.2, ((HKS.out.alloc _).drew).add hbT⟩
end Go.Proofs.YtpfmcdhmboclhaaGreatDoor
namespace Go.Proofs.YtpfmcdhmboclhaaGreatDoor
open Go.RowKit

set_option maxHeartbeats 32000000 in
set_option maxRecDepth 100000 in
theorem dec_6 (G : World → Prop) (w : World) (b o n c g r wd : Nat) (s : ByteArray) (arcs : List Nat) (z : Addr) (hgd : GoodArcs arcs) (hwd : wd ≤ 2) (hn : (sealB 6 (nameB arcs) wd).length = n) (hnc : n ≤ c) (hc : c ≤ 9223372036854775807 ∧ n ≤ 1000000) (hgr : g ≠ r) (hG : ∀ W, Kp [r] w W → G W) (hzG : ∀ W, G W → NetLaid W z) (htab : Tab w) (has : AsnLaid w)
    (hatG : ∀ W, G W → At W b o (sealB 6 (nameB arcs) wd)) (hr : w.heap[r]? = some (.cells #[.nilIface, .int .u8 0] 188 (0, 0))) (hg : w.heap[g]? = some (.cells #[] 68 (0, 0))) :
    Calls Tryz.prog 103 #[.pointer (some ⟨g, 0, none⟩), .slice (some ⟨b, o, none⟩) n c, .pointer (some ⟨r, 0, none⟩)] w (RetV G w r (.oid s arcs)) := by
  have hatK : ∀ W, Kp [r] w W → At W b o (sealB 6 (nameB arcs) wd) := fun W h => hatG W (hG W h)
  have hzK : ∀ W, Kp [r] w W → NetLaid W z := fun W h => hzG W (hG W h)
  have hat := hatK w (Kp.refl _ _)
  obtain ⟨k, hk⟩ : ∃ k, k = (nameB arcs).length := ⟨_, rfl⟩
  obtain ⟨h, hh⟩ : ∃ h, h = hdr k wd := ⟨_, rfl⟩
  have hN : n = k + h := by rw [← hn, hh, hk]; exact sealB_len _ _ _
  have hk5 : k ≤ 500 := by rw [hk]; have := hgd.bytes; omega
  have hat1 : At w b o (6 :: (lenB k wd ++ (nameB arcs))) := by rw [hk]; exact hat
  have hat2 : At w b (o + h) (nameB arcs) := by
    have : At w b o (6 :: (lenB (nameB arcs).length wd ++ ((nameB arcs) ++ []))) := by rw [List.append_nil, ← hk]; exact hat1
    rw [hh, hk]; exact this.con
  have hh2 : 2 ≤ h := by rw [hh]; exact hdr_ge k wd
  have c0 : w.cell? ⟨b, o, none⟩ = some (.int .u8 6) := hat1.head
  have hlt := Lib.lt_of_heap hr
  have HR := Lib.hid hr
  have HG := Lib.hid hg
  have HA1 := Lib.hid hat1
  have HA2 := Lib.hid hat2
  have HK := Lib.hid hk
  have HH := Lib.hid hh
  have HNN := Lib.hid hN
  have HZ := Lib.hid hzK
  have HTAB := Lib.hid htab
  have HAS := Lib.hid has
  have hp0 := run_part w g hg
  have hhn : h ≤ n := by omega
  have hn1 : 1 ≤ n := by omega
  have HLK : Hid (∀ W, Kp [r] w W → Calls Tryz.prog 76 #[.slice (some ⟨b, o, none⟩) n c] W (RetL W n h)) := by
    intro W hW
    have h1 := hatK W hW
    rw [sealB, ← hk] at h1
    have := parseLength W b o n c k wd 6 (nameB arcs) (by omega) hwd h1 (by rw [← hh]; exact hhn) hnc hc
    rw [← hh, ← hN] at this
    exact this
  have HA2K : Hid (∀ W, Kp [r] w W → At W b (o + h) (nameB arcs)) := by
    intro W hW
    have h1 := hatK W hW
    have : At W b o (6 :: (lenB (nameB arcs).length wd ++ ((nameB arcs) ++ []))) := by rw [List.append_nil]; exact h1
    rw [hh, hk]; exact this.con
  have HA2G : Hid (∀ W, G W → At W b (o + h) (nameB arcs)) := by
    intro W hW
    have h1 := hatG W hW
    have : At W b o (6 :: (lenB (nameB arcs).length wd ++ ((nameB arcs) ++ []))) := by rw [List.append_nil]; exact h1
    rw [hh, hk]; exact this.con
  clear hr hg hat hatG hzG hG hatK hat1 hat2 hk hh hN hzK htab has hn
  go_enter Tryz.func103, Tryz.ntmps103
  have hp2 : ∀ W, Below w.heap.size w W → Hid (∀ msg, Calls Tryz.prog 60 #[.agg #[], .slice (some ⟨b, o, none⟩) n c, .string msg] W (RetF W (.iface 9 (.string (dot arcs))) n)) := by
    intro W hW msg
    have hat : At w b o (sealB 6 (nameB arcs) wd ++ []) := by rw [List.append_nil]; have := HA1.out; rw [HK.out] at this; exact this
    have hln : (sealB 6 (nameB arcs) wd).length = n := by rw [sealB_len, HNN.out, HH.out, HK.out]
    have := field_6 W b o n c wd msg arcs [] hgd (HTAB.out.below hW) hwd (hat.below hW) (by rw [hln]; exact Nat.le_refl _) hnc hc
    rw [hln] at this
    exact this
  have HGD := Lib.hid hgd
  clear hgd
  go_wp2_with (go_at_call 119; refine (print _ _).mono ?_; rintro e W1 ⟨rfl, hb⟩; refine Hid.out ?_)
  refine Lib.hid ?_
  have hB : Below w.heap.size w W1 := ((Below.refl _ w).alloc (Nat.le_refl _) _).trans (hb.mono (by simp))
  have HF := hp2 W1 hB
  have hp1 := run_part W1 g ((hB.block g (Lib.lt_of_heap HG.out)).trans HG.out)
  have hr1 : W1.heap[r]? = some (.cells #[.nilIface, .int .u8 0] 188 (0, 0)) := (hB.block r hlt).trans HR.out
  have e0 : W1.cell? ⟨r, 0, none⟩ = some .nilIface := by rw [Lib.cell_of_heap hr1]; rfl
  have e1 : W1.cell? ⟨r, 1, none⟩ = some (.int .u8 0) := by rw [Lib.cell_of_heap hr1]; rfl
  have fr : ∀ i, W1.frozen? ⟨r, i, none⟩ = false := fun i => Lib.frozen_of_heap hr1 i
  have HB := Lib.hid hB
  have HR1 := Lib.hid hr1
  clear hb hB hr1 hp0 hp2 e0 e1 fr
  go_wp2_with (go_at_call 60; refine (HF.out _).mono ?_; rintro e W2 ⟨rfl, hb2⟩; refine Hid.out ?_)
  refine Lib.hid ?_
  have HB2 := Lib.hid (HB.out.trans (hb2.mono HB.out.size))
  have HR2 := Lib.hid ((hb2.block r (Lib.lt_of_heap HR1.out)).trans HR1.out)
  have e0 : W2.cell? ⟨r, 0, none⟩ = some .nilIface := by rw [Lib.cell_of_heap HR2.out]; rfl
  have e1 : W2.cell? ⟨r, 1, none⟩ = some (.int .u8 0) := by rw [Lib.cell_of_heap HR2.out]; rfl
  have fr : ∀ i, W2.frozen? ⟨r, i, none⟩ = false := fun i => Lib.frozen_of_heap HR2.out i
  have hta := ta_9_9 (.string (dot arcs))
  clear hb2 HF hp1 HLK HA2K
  go_wp2
  obtain ⟨WS, hWS⟩ : ∃ WS, WS = (W2.setCell ⟨r, 1, none⟩ (.int .u8 6)).setCell ⟨r, 0, none⟩ (.iface 9 (.string (dot arcs))) := ⟨_, rfl⟩
  have hrS : WS.heap[r]? = some (.cells #[.iface 9 (.string (dot arcs)), .int .u8 6] 188 (0, 0)) := by
    rw [hWS]; exact Lib.heap_setCell_same (i := 0) (Lib.heap_setCell_same (i := 1) HR2.out _) _
  have hkS : Kp [r] w WS := by
    rw [hWS]
    exact ((Kp.of_below HB2.out [r]).setCell (.inl (by simp)) _).setCell (.inl (by simp)) _
  rw [← hWS]
  have hS := startS (hkS.heap HG.out (by simpa using hgr)) hrS
  have HKS := Lib.hid hkS
  clear hWS hrS hkS
  go_region_held3 (fun W => (partAt ⟨g, 0, none⟩ 0 0).run Tryz.prog W = .ok ⟨g, 0, none⟩ W ∧ W.cell? ⟨r, 0, none⟩ = some (.iface 9 (.string (dot arcs))) ∧ W.heap[g]? = some (.cells #[] 68 (0, 0)) ∧ W.heap[r]? = some (.cells #[.iface 9 (.string (dot arcs)), .int .u8 6] 188 (0, 0))) (first | exact hS | exact keepS (by assumption) ((Below.refl _ _).alloc (Nat.le_refl _) _) | exact keepS (by assumption) hbT) (first | (go_at_call 61; refine (printf _ _ _).mono ?_; rintro e WT ⟨rfl, hbT⟩))
  rename_i hHeld
  go_wp2
  go_ret
  exact ⟨rfl, _, fun _ _ => rfl, rfl, hHeld.2.2.2, ((HKS.out.alloc _).drew).add hbT⟩
end Go.Proofs.YtpfmcdhmboclhaaGreatDoor
namespace Go.Proofs.YtpfmcdhmboclhaaGreatDoor
open Go.RowKit

set_option maxHeartbeats 32000000 in
set_option maxRecDepth 100000 in
theorem dec_64 (G : World → Prop) (w : World) (b o n c g r wd : Nat) (s : ByteArray) (a1 a2 a3 a4 : Nat) (z : Addr) (hip : a1 < 256 ∧ a2 < 256 ∧ a3 < 256 ∧ a4 < 256) (hwd : wd ≤ 2) (hn : (sealB 64 ([(a1 : Int), (a2 : Int), (a3 : Int), (a4 : Int)]) wd).length = n) (hnc : n ≤ c) (hc : c ≤ 9223372036854775807 ∧ n ≤ 1000000) (hgr : g ≠ r) (hG : ∀ W, Kp [r] w W → G W) (hzG : ∀ W, G W → NetLaid W z) (htab : Tab w) (has : AsnLaid w)
    (hatG : ∀ W, G W → At W b o (sealB 64 ([(a1 : Int), (a2 : Int), (a3 : Int), (a4 : Int)]) wd)) (hr : w.heap[r]? = some (.cells #[.nilIface, .int .u8 0] 188 (0, 0))) (hg : w.heap[g]? = some (.cells #[] 68 (0, 0))) :
    Calls Tryz.prog 103 #[.pointer (some ⟨g, 0, none⟩), .slice (some ⟨b, o, none⟩) n c, .pointer (some ⟨r, 0, none⟩)] w (RetV G w r (.ip s a1 a2 a3 a4)) := by
  have hatK : ∀ W, Kp [r] w W → At W b o (sealB 64 ([(a1 : Int), (a2 : Int), (a3 : Int), (a4 : Int)]) wd) := fun W h => hatG W (hG W h)
  have hzK : ∀ W, Kp [r] w W → NetLaid W z := fun W h => hzG W (hG W h)
  have hat := hatK w (Kp.refl _ _)
  obtain ⟨k, hk⟩ : ∃ k, k = ([(a1 : Int), (a2 : Int), (a3 : Int), (a4 : Int)]).length := ⟨_, rfl⟩
  obtain ⟨h, hh⟩ : ∃ h, h = hdr k wd := ⟨_, rfl⟩
  have hN : n = k + h := by rw [← hn, hh, hk]; exact sealB_len _ _ _
  have hk44 : k = 4 := hk
  have hnh : n = h + 4 := by omega
  have hch : c ≠ h := by omega
  have hat1 : At w b o (64 :: (lenB k wd ++ ([(a1 : Int), (a2 : Int), (a3 : Int), (a4 : Int)]))) := by rw [hk]; exact hat
  have hat2 : At w b (o + h) ([(a1 : Int), (a2 : Int), (a3 : Int), (a4 : Int)]) := by
    have : At w b o (64 :: (lenB ([(a1 : Int), (a2 : Int), (a3 : Int), (a4 : Int)]).length wd ++ (([(a1 : Int), (a2 : Int), (a3 : Int), (a4 : Int)]) ++ []))) := by rw [List.append_nil, ← hk]; exact hat1
    rw [hh, hk]; exact this.con
  have hh2 : 2 ≤ h := by rw [hh]; exact hdr_ge k wd
  have c0 : w.cell? ⟨b, o, none⟩ = some (.int .u8 64) := hat1.head
  have hlt := Lib.lt_of_heap hr
  have HR := Lib.hid hr
  have HG := Lib.hid hg
  have HA1 := Lib.hid hat1
  have HA2 := Lib.hid hat2
  have HK := Lib.hid hk
  have HH := Lib.hid hh
  have HNN := Lib.hid hN
  have HZ := Lib.hid hzK
  have HTAB := Lib.hid htab
  have HAS := Lib.hid has
  have hp0 := run_part w g hg
  have hhn : h ≤ n := by omega
  have hn1 : 1 ≤ n := by omega
  have HLK : Hid (∀ W, Kp [r] w W → Calls Tryz.prog 76 #[.slice (some ⟨b, o, none⟩) n c] W (RetL W n h)) := by
    intro W hW
    have h1 := hatK W hW
    rw [sealB, ← hk] at h1
    have := parseLength W b o n c k wd 64 ([(a1 : Int), (a2 : Int), (a3 : Int), (a4 : Int)]) (by omega) hwd h1 (by rw [← hh]; exact hhn) hnc hc
    rw [← hh, ← hN] at this
    exact this
  have HA2K : Hid (∀ W, Kp [r] w W → At W b (o + h) ([(a1 : Int), (a2 : Int), (a3 : Int), (a4 : Int)])) := by
    intro W hW
    have h1 := hatK W hW
    have : At W b o (64 :: (lenB ([(a1 : Int), (a2 : Int), (a3 : Int), (a4 : Int)]).length wd ++ (([(a1 : Int), (a2 : Int), (a3 : Int), (a4 : Int)]) ++ []))) := by rw [List.append_nil]; exact h1
    rw [hh, hk]; exact this.con
  have HA2G : Hid (∀ W, G W → At W b (o + h) ([(a1 : Int), (a2 : Int), (a3 : Int), (a4 : Int)])) := by
    intro W hW
    have h1 := hatG W hW
    have : At W b o (64 :: (lenB ([(a1 : Int), (a2 : Int), (a3 : Int), (a4 : Int)]).length wd ++ (([(a1 : Int), (a2 : Int), (a3 : Int), (a4 : Int)]) ++ []))) := by rw [List.append_nil]; exact h1
    rw [hh, hk]; exact this.con
  clear hr hg hat hatG hzG hG hatK hat1 hat2 hk hh hN hzK htab has hn
  go_enter Tryz.func103, Tryz.ntmps103
  have HIP := Lib.hid hip
  have HNH := Lib.hid hnh
  have hc4 : 4 ≤ c - h := by omega
  have hc5 : c - h ≤ 9223372036854775807 := by omega
  have hN4i : (n : Int) - (h : Int) = 4 := by omega
  have hN5 : h + 4 - h = 4 := by omega
  have hhn4 : h + 4 ≤ n := by omega
  clear hip hnh hk44
  go_wp2_with (go_at_call 119; refine (print _ _).mono ?_; rintro e W1 ⟨rfl, hb⟩; refine Hid.out ?_)
  refine Lib.hid ?_
  have hB : Below w.heap.size w W1 := ((Below.refl _ w).alloc (Nat.le_refl _) _).trans (hb.mono (by simp))
  have hr1 : W1.heap[r]? = some (.cells #[.nilIface, .int .u8 0] 188 (0, 0)) := (hB.block r hlt).trans HR.out
  have e0 : W1.cell? ⟨r, 0, none⟩ = some .nilIface := by rw [Lib.cell_of_heap hr1]; rfl
  have e1 : W1.cell? ⟨r, 1, none⟩ = some (.int .u8 0) := by rw [Lib.cell_of_heap hr1]; rfl
  have fr : ∀ i, W1.frozen? ⟨r, i, none⟩ = false := fun i => Lib.frozen_of_heap hr1 i
  have HB := Lib.hid hB
  have HR1 := Lib.hid hr1
  clear hb hB hr1 hp0
  have hK2 : Kp [r] w (W1.setCell ⟨r, 1, none⟩ (.int .u8 64)) := (Kp.of_below HB.out [r]).setCell (.inl (by simp)) _
  have hr2 : (W1.setCell ⟨r, 1, none⟩ (.int .u8 64)).heap[r]? = some (.cells #[.nilIface, .int .u8 64] 188 (0, 0)) := Lib.heap_setCell_same (i := 1) HR1.out _
  have HLS := Lib.hid (HLK.out (W1.setCell ⟨r, 1, none⟩ (.int .u8 64)) hK2)
  have HPA := Lib.hid (zzAddress b (o + h) (c - h) a1 a2 a3 a4 z (W1.setCell ⟨r, 1, none⟩ (.int .u8 64)) HIP.out.1 HIP.out.2.1 HIP.out.2.2.1 HIP.out.2.2.2 (HZ.out (W1.setCell ⟨r, 1, none⟩ (.int .u8 64)) hK2) (by omega) (by omega) (HA2K.out (W1.setCell ⟨r, 1, none⟩ (.int .u8 64)) hK2))
  have HK2 := Lib.hid hK2
  have HR2 := Lib.hid hr2
  clear hK2 hr2 HLK HA2K
  go_wp2_with (go_at_call 76; refine (HLS.out).mono ?_; rintro e W3 ⟨rfl, hw3⟩; refine Hid.out ?_)
  refine Lib.hid ?_
  subst hw3
  clear HLS e0 e1 fr
  go_wp2_with (go_at_call 79; refine (HPA.out).mono ?_; rintro e W4 ⟨rfl, hb4⟩; refine Hid.out ?_)
  refine Lib.hid ?_
  have HK4 := Lib.hid (HK2.out.add hb4)
  have HR4 := Lib.hid ((hb4.block r (Lib.lt_of_heap HR2.out)).trans HR2.out)
  have e0 : W4.cell? ⟨r, 0, none⟩ = some .nilIface := by rw [Lib.cell_of_heap HR4.out]; rfl
  have fr : ∀ i, W4.frozen? ⟨r, i, none⟩ = false := fun i => Lib.frozen_of_heap HR4.out i
  clear hb4 HPA
  go_wp2
  obtain ⟨WS, hWS⟩ : ∃ WS, WS = W4.setCell ⟨r, 0, none⟩ (.iface 9 (.string (txt (ipT a1 a2 a3 a4)))) := ⟨_, rfl⟩
  have hrS : WS.heap[r]? = some (.cells #[.iface 9 (.string (txt (ipT a1 a2 a3 a4))), .int .u8 64] 188 (0, 0)) := by
    rw [hWS]; exact Lib.heap_setCell_same (i := 0) HR4.out _
  have hkS : Kp [r] w WS := by
    rw [hWS]
    exact HK4.out.setCell (.inl (by simp)) _
  rw [← hWS]
  have hS := startS (hkS.heap HG.out (by simpa using hgr)) hrS
  have HKS := Lib.hid hkS
  clear hWS hrS hkS
  go_region_held3 (fun W => (partAt ⟨g, 0, none⟩ 0 0).run Tryz.prog W = .ok ⟨g, 0, none⟩ W ∧ W.cell? ⟨r, 0, none⟩ = some (.iface 9 (.string (txt (ipT a1 a2 a3 a4)))) ∧ W.heap[g]? = some (.cells #[] 68 (0, 0)) ∧ W.heap[r]? = some (.cells #[.iface 9 (.string (txt (ipT a1 a2 a3 a4))), .int .u8 64] 188 (0, 0))) (first | exact hS | exact keepS (by assumption) ((Below.refl _ _).alloc (Nat.le_refl _) _) | exact keepS (by assumption) hbT) (first | (go_at_call 61; refine (printf _ _ _).mono ?_; rintro e WT ⟨rfl, hbT⟩))
  rename_i hHeld
  go_wp2
  go_ret
  exact ⟨rfl, _, fun _ _ => rfl, rfl, hHeld.2.2.2, ((HKS.out.alloc _).drew).add hbT⟩
end Go.Proofs.YtpfmcdhmboclhaaGreatDoor
namespace Go.Proofs.YtpfmcdhmboclhaaGreatDoor
open Go.RowKit

theorem decodeValue (G : World → Prop) (w : World) (b o n c g r wd : Nat) (p : Pay) (z : Addr) (hp : p.Ok) (hwd : wd ≤ 2) (hn : (sealB p.typ p.con wd).length = n) (hnc : n ≤ c) (hc : c ≤ 9223372036854775807 ∧ n ≤ 1000000) (hgr : g ≠ r) (hG : ∀ W, Kp [r] w W → G W) (hzG : ∀ W, G W → NetLaid W z) (htab : Tab w) (has : AsnLaid w)
    (hatG : ∀ W, G W → At W b o (sealB p.typ p.con wd)) (hr : w.heap[r]? = some (.cells #[.nilIface, .int .u8 0] 188 (0, 0))) (hg : w.heap[g]? = some (.cells #[] 68 (0, 0))) :
    Calls Tryz.prog 103 #[.pointer (some ⟨g, 0, none⟩), .slice (some ⟨b, o, none⟩) n c, .pointer (some ⟨r, 0, none⟩)] w (RetV G w r p) := by
  cases p with
  | nul t =>
    rcases hp with rfl | rfl | rfl | rfl
    · exact dec_5 G w b o n c g r wd z hwd hn hnc hc hgr hG hzG htab has hatG hr hg
    · exact dec_128 G w b o n c g r wd z hwd hn hnc hc hgr hG hzG htab has hatG hr hg
    · exact dec_129 G w b o n c g r wd z hwd hn hnc hc hgr hG hzG htab has hatG hr hg
    · exact dec_130 G w b o n c g r wd z hwd hn hnc hc hgr hG hzG htab has hatG hr hg
  | int x => exact dec_2 G w b o n c g r wd x z hp hwd hn hnc hc hgr hG hzG htab has hatG hr hg
  | str s => exact dec_4 G w b o n c g r wd s z hp hwd hn hnc hc hgr hG hzG htab has hatG hr hg
  | oid s arcs => exact dec_6 G w b o n c g r wd s arcs z (Nm.good hp) hwd hn hnc hc hgr hG hzG htab has hatG hr hg
  | ip s a1 a2 a3 a4 =>
    refine dec_64 G w b o n c g r wd s a1 a2 a3 a4 z ?_ hwd hn hnc hc hgr hG hzG htab has hatG hr hg
    obtain ⟨x1, x2, x3, x4, h1, -, h2⟩ := ipOf_text hp.1
    simp at h1
    omega
  | u32 t x =>
    rcases hp with ⟨rfl | rfl | rfl, hx⟩
    · exact dec_65 G w b o n c g r wd x z hx hwd hn hnc hc hgr hG hzG htab has hatG hr hg
    · exact dec_66 G w b o n c g r wd x z hx hwd hn hnc hc hgr hG hzG htab has hatG hr hg
    · exact dec_67 G w b o n c g r wd x z hx hwd hn hnc hc hgr hG hzG htab has hatG hr hg
  | u64 x => exact dec_70 G w b o n c g r wd x z hp hwd hn hnc hc hgr hG hzG htab has hatG hr hg
end Go.Proofs.YtpfmcdhmboclhaaGreatDoor
