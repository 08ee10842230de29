/- gosnmp: a value is read: nothing. gosnmp: a value is read: numbers without a sign. -/
import Derived.Test.YtpfmcdhmboclhaaGreatDoorG13
set_option linter.unusedVariables false
set_option linter.unusedSimpArgs false
namespace Go.Proofs.YtpfmcdhmboclhaaGreatDoor
open Go.RowKit
set_option maxHeartbeats 32000000 in
set_option maxRecDepth 100000 in
theorem dec_128 (G : World → Prop) (w : World) (b o n c g r wd : Nat) (z : Addr) (hwd : wd ≤ 2) (hn : (sealB 128 (([] : List Int)) wd).length = n) (hnc : n ≤ c) (hc : c ≤ 9223372036854775807 ∧ n ≤ 1000000) (hgr : g ≠ r) (hG : ∀ W, Kp [r] w W → G W) (hzG : ∀ W, G W → NetLaid W z) (htab : Tab w) (has : AsnLaid w)
    (hatG : ∀ W, G W → At W b o (sealB 128 (([] : List Int)) wd)) (hr : w.heap[r]? = some (.cells #[.nilIface, .int .u8 0] 188 (0, 0))) (hg : w.heap[g]? = some (.cells #[] 68 (0, 0))) :
    Calls Tryz.prog 103 #[.pointer (some ⟨g, 0, none⟩), .slice (some ⟨b, o, none⟩) n c, .pointer (some ⟨r, 0, none⟩)] w (RetV G w r (.nul 128)) := by
  have hatK : ∀ W, Kp [r] w W → At W b o (sealB 128 (([] : List Int)) wd) := fun W h => hatG W (hG W h)
  have hzK : ∀ W, Kp [r] w W → NetLaid W z := fun W h => hzG W (hG W h)
  have hat := hatK w (Kp.refl _ _)
  obtain ⟨k, hk⟩ : ∃ k, k = (([] : List Int)).length := ⟨_, rfl⟩
  obtain ⟨h, hh⟩ : ∃ h, h = hdr k wd := ⟨_, rfl⟩
  have hN : n = k + h := by rw [← hn, hh, hk]; exact sealB_len _ _ _
  have hk0 : k = 0 := hk
  have hat1 : At w b o (128 :: (lenB k wd ++ (([] : List Int)))) := by rw [hk]; exact hat
  have hat2 : At w b (o + h) (([] : List Int)) := by
    have : At w b o (128 :: (lenB (([] : List Int)).length wd ++ ((([] : List Int)) ++ []))) := by rw [List.append_nil, ← hk]; exact hat1
    rw [hh, hk]; exact this.con
  have hh2 : 2 ≤ h := by rw [hh]; exact hdr_ge k wd
  have c0 : w.cell? ⟨b, o, none⟩ = some (.int .u8 128) := hat1.head
  have hlt := Lib.lt_of_heap hr
  have HR := Lib.hid hr
  have HG := Lib.hid hg
  have HA1 := Lib.hid hat1
  have HA2 := Lib.hid hat2
  have HK := Lib.hid hk
  have HH := Lib.hid hh
  have HNN := Lib.hid hN
  have HZ := Lib.hid hzK
  have HTAB := Lib.hid htab
  have HAS := Lib.hid has
  have hp0 := run_part w g hg
  have hhn : h ≤ n := by omega
  have hn1 : 1 ≤ n := by omega
  have HLK : Hid (∀ W, Kp [r] w W → Calls Tryz.prog 76 #[.slice (some ⟨b, o, none⟩) n c] W (RetL W n h)) := by
    intro W hW
    have h1 := hatK W hW
    rw [sealB, ← hk] at h1
    have := parseLength W b o n c k wd 128 (([] : List Int)) (by omega) hwd h1 (by rw [← hh]; exact hhn) hnc hc
    rw [← hh, ← hN] at this
    exact this
  have HA2K : Hid (∀ W, Kp [r] w W → At W b (o + h) (([] : List Int))) := by
    intro W hW
    have h1 := hatK W hW
    have : At W b o (128 :: (lenB (([] : List Int)).length wd ++ ((([] : List Int)) ++ []))) := by rw [List.append_nil]; exact h1
    rw [hh, hk]; exact this.con
  have HA2G : Hid (∀ W, G W → At W b (o + h) (([] : List Int))) := by
    intro W hW
    have h1 := hatG W hW
    have : At W b o (128 :: (lenB (([] : List Int)).length wd ++ ((([] : List Int)) ++ []))) := by rw [List.append_nil]; exact h1
    rw [hh, hk]; exact this.con
  clear hr hg hat hatG hzG hG hatK hat1 hat2 hk hh hN hzK htab has hn
  go_enter Tryz.func103, Tryz.ntmps103
  go_wp2_with (go_at_call 119; refine (print _ _).mono ?_; rintro e W1 ⟨rfl, hb⟩; refine Hid.out ?_)
  refine Lib.hid ?_
  have hB : Below w.heap.size w W1 := ((Below.refl _ w).alloc (Nat.le_refl _) _).trans (hb.mono (by simp))
  have HL1 := Lib.hid (HLK.out W1 (Kp.of_below hB [r]))
  have hr1 : W1.heap[r]? = some (.cells #[.nilIface, .int .u8 0] 188 (0, 0)) := (hB.block r hlt).trans HR.out
  have e0 : W1.cell? ⟨r, 0, none⟩ = some .nilIface := by rw [Lib.cell_of_heap hr1]; rfl
  have e1 : W1.cell? ⟨r, 1, none⟩ = some (.int .u8 0) := by rw [Lib.cell_of_heap hr1]; rfl
  have fr : ∀ i, W1.frozen? ⟨r, i, none⟩ = false := fun i => Lib.frozen_of_heap hr1 i
  have HB := Lib.hid hB
  have HR1 := Lib.hid hr1
  clear hb hB hr1 hp0
  clear HL1 HLK HA2K
  go_wp2
  obtain ⟨WS, hWS⟩ : ∃ WS, WS = (W1.setCell ⟨r, 1, none⟩ (.int .u8 128)).setCell ⟨r, 0, none⟩ (.nilIface) := ⟨_, rfl⟩
  have hrS : WS.heap[r]? = some (.cells #[.nilIface, .int .u8 128] 188 (0, 0)) := by
    rw [hWS]; exact Lib.heap_setCell_same (i := 0) (Lib.heap_setCell_same (i := 1) HR1.out _) _
  have hkS : Kp [r] w WS := by
    rw [hWS]
    exact ((Kp.of_below HB.out [r]).setCell (.inl (by simp)) _).setCell (.inl (by simp)) _
  rw [← hWS]
  have hS := startS (hkS.heap HG.out (by simpa using hgr)) hrS
  have HKS := Lib.hid hkS
  clear hWS hrS hkS
  go_region_held3 (fun W => (partAt ⟨g, 0, none⟩ 0 0).run Tryz.prog W = .ok ⟨g, 0, none⟩ W ∧ W.cell? ⟨r, 0, none⟩ = some (.nilIface) ∧ W.heap[g]? = some (.cells #[] 68 (0, 0)) ∧ W.heap[r]? = some (.cells #[.nilIface, .int .u8 128] 188 (0, 0))) (first | exact hS | exact keepS (by assumption) ((Below.refl _ _).alloc (Nat.le_refl _) _) | exact keepS (by assumption) hbT) (first | (go_at_call 61; refine (printf _ _ _).mono ?_; rintro e WT ⟨rfl, hbT⟩))
  rename_i hHeld
  go_wp2
  go_ret
  exact ⟨rfl, _, fun _ _ => rfl, rfl, hHeld.2.2.2, ((HKS.out.alloc _).drew).add hbT⟩
set_option maxHeartbeats 32000000 in
set_option maxRecDepth 100000 in
theorem dec_129 (G : World → Prop) (w : World) (b o n c g r wd : Nat) (z : Addr) (hwd : wd ≤ 2) (hn : (sealB 129 (([] : List Int)) wd).length = n) (hnc : n ≤ c) (hc : c ≤ 9223372036854775807 ∧ n ≤ 1000000) (hgr : g ≠ r) (hG : ∀ W, Kp [r] w W → G W) (hzG : ∀ W, G W → NetLaid W z) (htab : Tab w) (has : AsnLaid w)
    (hatG : ∀ W, G W → At W b o (sealB 129 (([] : List Int)) wd)) (hr : w.heap[r]? = some (.cells #[.nilIface, .int .u8 0] 188 (0, 0))) (hg : w.heap[g]? = some (.cells #[] 68 (0, 0))) :
    Calls Tryz.prog 103 #[.pointer (some ⟨g, 0, none⟩), .slice (some ⟨b, o, none⟩) n c, .pointer (some ⟨r, 0, none⟩)] w (RetV G w r (.nul 129)) := by
  have hatK : ∀ W, Kp [r] w W → At W b o (sealB 129 (([] : List Int)) wd) := fun W h => hatG W (hG W h)
  have hzK : ∀ W, Kp [r] w W → NetLaid W z := fun W h => hzG W (hG W h)
  have hat := hatK w (Kp.refl _ _)
  obtain ⟨k, hk⟩ : ∃ k, k = (([] : List Int)).length := ⟨_, rfl⟩
  obtain ⟨h, hh⟩ : ∃ h, h = hdr k wd := ⟨_, rfl⟩
  have hN : n = k + h := by rw [← hn, hh, hk]; exact sealB_len _ _ _
  have hk0 : k = 0 := hk
  have hat1 : At w b o (129 :: (lenB k wd ++ (([] : List Int)))) := by rw [hk]; exact hat
  have hat2 : At w b (o + h) (([] : List Int)) := by
    have : At w b o (129 :: (lenB (([] : List Int)).length wd ++ ((([] : List Int)) ++ []))) := by rw [List.append_nil, ← hk]; exact hat1
    rw [hh, hk]; exact this.con
  have hh2 : 2 ≤ h := by rw [hh]; exact hdr_ge k wd
  have c0 : w.cell? ⟨b, o, none⟩ = some (.int .u8 129) := hat1.head
  have hlt := Lib.lt_of_heap hr
  have HR := Lib.hid hr
  have HG := Lib.hid hg
  have HA1 := Lib.hid hat1
  have HA2 := Lib.hid hat2
  have HK := Lib.hid hk
  have HH := Lib.hid hh
  have HNN := Lib.hid hN
  have HZ := Lib.hid hzK
  have HTAB := Lib.hid htab
  have HAS := Lib.hid has
  have hp0 := run_part w g hg
  have hhn : h ≤ n := by omega
  have hn1 : 1 ≤ n := by omega
  have HLK : Hid (∀ W, Kp [r] w W → Calls Tryz.prog 76 #[.slice (some ⟨b, o, none⟩) n c] W (RetL W n h)) := by
    intro W hW
    have h1 := hatK W hW
    rw [sealB, ← hk] at h1
    have := parseLength W b o n c k wd 129 (([] : List Int)) (by omega) hwd h1 (by rw [← hh]; exact hhn) hnc hc
    rw [← hh, ← hN] at this
    exact this
  have HA2K : Hid (∀ W, Kp [r] w W → At W b (o + h) (([] : List Int))) := by
    intro W hW
    have h1 := hatK W hW
    have : At W b o (129 :: (lenB (([] : List Int)).length wd ++ ((([] : List Int)) ++ []))) := by rw [List.append_nil]; exact h1
    rw [hh, hk]; exact this.con
  have HA2G : Hid (∀ W, G W → At W b (o + h) (([] : List Int))) := by
    intro W hW
    have h1 := hatG W hW
    have : At W b o (129 :: (lenB (([] : List Int)).length wd ++ ((([] : List Int)) ++ []))) := by rw [List.append_nil]; exact h1
    rw [hh, hk]; exact this.con
  clear hr hg hat hatG hzG hG hatK hat1 hat2 hk hh hN hzK htab has hn
  go_enter Tryz.func103, Tryz.ntmps103
  go_wp2_with (go_at_call 119; refine (print _ _).mono ?_; rintro e W1 ⟨rfl, hb⟩; refine Hid.out ?_)
  refine Lib.hid ?_
  have hB : Below w.heap.size w W1 := ((Below.refl _ w).alloc (Nat.le_refl _) _).trans (hb.mono (by simp))
  have HL1 := Lib.hid (HLK.out W1 (Kp.of_below hB [r]))
  have hr1 : W1.heap[r]? = some (.cells #[.nilIface, .int .u8 0] 188 (0, 0)) := (hB.block r hlt).trans HR.out
  have e0 : W1.cell? ⟨r, 0, none⟩ = some .nilIface := by rw [Lib.cell_of_heap hr1]; rfl
  have e1 : W1.cell? ⟨r, 1, none⟩ = some (.int .u8 0) := by rw [Lib.cell_of_heap hr1]; rfl
  have fr : ∀ i, W1.frozen? ⟨r, i, none⟩ = false := fun i => Lib.frozen_of_heap hr1 i
  have HB := Lib.hid hB
  have HR1 := Lib.hid hr1
  clear hb hB hr1 hp0
  clear HL1 HLK HA2K
  go_wp2
  obtain ⟨WS, hWS⟩ : ∃ WS, WS = (W1.setCell ⟨r, 1, none⟩ (.int .u8 129)).setCell ⟨r, 0, none⟩ (.nilIface) := ⟨_, rfl⟩
  have hrS : WS.heap[r]? = some (.cells #[.nilIface, .int .u8 129] 188 (0, 0)) := by
    rw [hWS]; exact Lib.heap_setCell_same (i := 0) (Lib.heap_setCell_same (i := 1) HR1.out _) _
  have hkS : Kp [r] w WS := by
    rw [hWS]
    exact ((Kp.of_below HB.out [r]).setCell (.inl (by simp)) _).setCell (.inl (by simp)) _
  rw [← hWS]
  have hS := startS (hkS.heap HG.out (by simpa using hgr)) hrS
  have HKS := Lib.hid hkS
  clear hWS hrS hkS
  go_region_held3 (fun W => (partAt ⟨g, 0, none⟩ 0 0).run Tryz.prog W = .ok ⟨g, 0, none⟩ W ∧ W.cell? ⟨r, 0, none⟩ = some (.nilIface) ∧ W.heap[g]? = some (.cells #[] 68 (0, 0)) ∧ W.heap[r]? = some (.cells #[.nilIface, .int .u8 129] 188 (0, 0))) (first | exact hS | exact keepS (by assumption) ((Below.refl _ _).alloc (Nat.le_refl _) _) | exact keepS (by assumption) hbT) (first | (go_at_call 61; refine (printf _ _ _).mono ?_; rintro e WT ⟨rfl, hbT⟩))
  rename_i hHeld
  go_wp2
  go_ret
  exact ⟨rfl, _, fun _ _ => rfl, rfl, hHeld.2.2.2, ((HKS.out.alloc _).drew).add hbT⟩
set_option maxHeartbeats 32000000 in
set_option maxRecDepth 100000 in
theorem dec_130 (G : World → Prop) (w : World) (b o n c g r wd : Nat) (z : Addr) (hwd : wd ≤ 2) (hn : (sealB 130 (([] : List Int)) wd).length = n) (hnc : n ≤ c) (hc : c ≤ 9223372036854775807 ∧ n ≤ 1000000) (hgr : g ≠ r) (hG : ∀ W, Kp [r] w W → G W) (hzG : ∀ W, G W → NetLaid W z) (htab : Tab w) (has : AsnLaid w)
    (hatG : ∀ W, G W → At W b o (sealB 130 (([] : List Int)) wd)) (hr : w.heap[r]? = some (.cells #[.nilIface, .int .u8 0] 188 (0, 0))) (hg : w.heap[g]? = some (.cells #[] 68 (0, 0))) :
    Calls Tryz.prog 103 #[.pointer (some ⟨g, 0, none⟩), .slice (some ⟨b, o, none⟩) n c, .pointer (some ⟨r, 0, none⟩)] w (RetV G w r (.nul 130)) := by
  have hatK : ∀ W, Kp [r] w W → At W b o (sealB 130 (([] : List Int)) wd) := fun W h => hatG W (hG W h)
  have hzK : ∀ W, Kp [r] w W → NetLaid W z := fun W h => hzG W (hG W h)
  have hat := hatK w (Kp.refl _ _)
  obtain ⟨k, hk⟩ : ∃ k, k = (([] : List Int)).length := ⟨_, rfl⟩
  obtain ⟨h, hh⟩ : ∃ h, h = hdr k wd := ⟨_, rfl⟩
  have hN : n = k + h := by rw [← hn, hh, hk]; exact sealB_len _ _ _
  have hk0 : k = 0 := hk
  have hat1 : At w b o (130 :: (lenB k wd ++ (([] : List Int)))) := by rw [hk]; exact hat
  have hat2 : At w b (o + h) (([] : List Int)) := by
    have : At w b o (130 :: (lenB (([] : List Int)).length wd ++ ((([] : List Int)) ++ []))) := by rw [List.append_nil, ← hk]; exact hat1
    rw [hh, hk]; exact this.con
  have hh2 : 2 ≤ h := by rw [hh]; exact hdr_ge k wd
  have c0 : w.cell? ⟨b, o, none⟩ = some (.int .u8 130) := hat1.head
  have hlt := Lib.lt_of_heap hr
  have HR := Lib.hid hr
  have HG := Lib.hid hg
  have HA1 := Lib.hid hat1
  have HA2 := Lib.hid hat2
  have HK := Lib.hid hk
  have HH := Lib.hid hh
  have HNN := Lib.hid hN
  have HZ := Lib.hid hzK
  have HTAB := Lib.hid htab
  have HAS := Lib.hid has
  have hp0 := run_part w g hg
  have hhn : h ≤ n := by omega
  have hn1 : 1 ≤ n := by omega
  have HLK : Hid (∀ W, Kp [r] w W → Calls Tryz.prog 76 #[.slice (some ⟨b, o, none⟩) n c] W (RetL W n h)) := by
    intro W hW
    have h1 := hatK W hW
    rw [sealB, ← hk] at h1
    have := parseLength W b o n c k wd 130 (([] : List Int)) (by omega) hwd h1 (by rw [← hh]; exact hhn) hnc hc
    rw [← hh, ← hN] at this
    exact this
  have HA2K : Hid (∀ W, Kp [r] w W → At W b (o + h) (([] : List Int))) := by
    intro W hW
    have h1 := hatK W hW
    have : At W b o (130 :: (lenB (([] : List Int)).length wd ++ ((([] : List Int)) ++ []))) := by rw [List.append_nil]; exact h1
    rw [hh, hk]; exact this.con
  have HA2G : Hid (∀ W, G W → At W b (o + h) (([] : List Int))) := by
    intro W hW
    have h1 := hatG W hW
    have : At W b o (130 :: (lenB (([] : List Int)).length wd ++ ((([] : List Int)) ++ []))) := by rw [List.append_nil]; exact h1
    rw [hh, hk]; exact this.con
  clear hr hg hat hatG hzG hG hatK hat1 hat2 hk hh hN hzK htab has hn
  go_enter Tryz.func103, Tryz.ntmps103
  go_wp2_with (go_at_call 119; refine (print _ _).mono ?_; rintro e W1 ⟨rfl, hb⟩; refine Hid.out ?_)
  refine Lib.hid ?_
  have hB : Below w.heap.size w W1 := ((Below.refl _ w).alloc (Nat.le_refl _) _).trans (hb.mono (by simp))
  have HL1 := Lib.hid (HLK.out W1 (Kp.of_below hB [r]))
  have hr1 : W1.heap[r]? = some (.cells #[.nilIface, .int .u8 0] 188 (0, 0)) := (hB.block r hlt).trans HR.out
  have e0 : W1.cell? ⟨r, 0, none⟩ = some .nilIface := by rw [Lib.cell_of_heap hr1]; rfl
  have e1 : W1.cell? ⟨r, 1, none⟩ = some (.int .u8 0) := by rw [Lib.cell_of_heap hr1]; rfl
  have fr : ∀ i, W1.frozen? ⟨r, i, none⟩ = false := fun i => Lib.frozen_of_heap hr1 i
  have HB := Lib.hid hB
  have HR1 := Lib.hid hr1
  clear hb hB hr1 hp0
  clear HL1 HLK HA2K
  go_wp2
  obtain ⟨WS, hWS⟩ : ∃ WS, WS = (W1.setCell ⟨r, 1, none⟩ (.int .u8 130)).setCell ⟨r, 0, none⟩ (.nilIface) := ⟨_, rfl⟩
  have hrS : WS.heap[r]? = some (.cells #[.nilIface, .int .u8 130] 188 (0, 0)) := by
    rw [hWS]; exact Lib.heap_setCell_same (i := 0) (Lib.heap_setCell_same (i := 1) HR1.out _) _
  have hkS : Kp [r] w WS := by
    rw [hWS]
    exact ((Kp.of_below HB.out [r]).setCell (.inl (by simp)) _).setCell (.inl (by simp)) _
  rw [← hWS]
  have hS := startS (hkS.heap HG.out (by simpa using hgr)) hrS
  have HKS := Lib.hid hkS
  clear hWS hrS hkS
  go_region_held3 (fun W => (partAt ⟨g, 0, none⟩ 0 0).run Tryz.prog W = .ok ⟨g, 0, none⟩ W ∧ W.cell? ⟨r, 0, none⟩ = some (.nilIface) ∧ W.heap[g]? = some (.cells #[] 68 (0, 0)) ∧ W.heap[r]? = some (.cells #[.nilIface, .int .u8 130] 188 (0, 0))) (first | exact hS | exact keepS (by assumption) ((Below.refl _ _).alloc (Nat.le_refl _) _) | exact keepS (by assumption) hbT) (first | (go_at_call 61; refine (printf _ _ _).mono ?_; rintro e WT ⟨rfl, hbT⟩))
  rename_i hHeld
  go_wp2
  go_ret
  exact ⟨rfl, _, fun _ _ => rfl, rfl, hHeld.2.2.2, ((HKS.out.alloc _).drew).add hbT⟩
end Go.Proofs.YtpfmcdhmboclhaaGreatDoor
namespace Go.Proofs.YtpfmcdhmboclhaaGreatDoor
open Go.RowKit

set_option maxHeartbeats 32000000 in
set_option maxRecDepth 100000 in
theorem dec_65 (G : World → Prop) (w : World) (b o n c g r wd : Nat) (x : Nat) (z : Addr) (hx : x < 4294967296) (hwd : wd ≤ 2) (hn : (sealB 65 (uintB x) wd).length = n) (hnc : n ≤ c) (hc : c ≤ 9223372036854775807 ∧ n ≤ 1000000) (hgr : g ≠ r) (hG : ∀ W, Kp [r] w W → G W) (hzG : ∀ W, G W → NetLaid W z) (htab : Tab w) (has : AsnLaid w)
    (hatG : ∀ W, G W → At W b o (sealB 65 (uintB x) wd)) (hr : w.heap[r]? = some (.cells #[.nilIface, .int .u8 0] 188 (0, 0))) (hg : w.heap[g]? = some (.cells #[] 68 (0, 0))) :
    Calls Tryz.prog 103 #[.pointer (some ⟨g, 0, none⟩), .slice (some ⟨b, o, none⟩) n c, .pointer (some ⟨r, 0, none⟩)] w (RetV G w r (.u32 65 x)) := by
  have hatK : ∀ W, Kp [r] w W → At W b o (sealB 65 (uintB x) wd) := fun W h => hatG W (hG W h)
  have hzK : ∀ W, Kp [r] w W → NetLaid W z := fun W h => hzG W (hG W h)
  have hat := hatK w (Kp.refl _ _)
  obtain ⟨k, hk⟩ : ∃ k, k = (uintB x).length := ⟨_, rfl⟩
  obtain ⟨h, hh⟩ : ∃ h, h = hdr k wd := ⟨_, rfl⟩
  have hN : n = k + h := by rw [← hn, hh, hk]; exact sealB_len _ _ _
  have hk1 : 1 ≤ k := by rw [hk]; exact uintB_pos x
  have hk5 : k ≤ 9 := by rw [hk]; have := uintB_short x (by omega); omega
  have hch : c ≠ h := by omega
  have hmh : k = n - h := by omega
  have hat1 : At w b o (65 :: (lenB k wd ++ (uintB x))) := by rw [hk]; exact hat
  have hat2 : At w b (o + h) (uintB x) := by
    have : At w b o (65 :: (lenB (uintB x).length wd ++ ((uintB x) ++ []))) := by rw [List.append_nil, ← hk]; exact hat1
    rw [hh, hk]; exact this.con
  have hh2 : 2 ≤ h := by rw [hh]; exact hdr_ge k wd
  have c0 : w.cell? ⟨b, o, none⟩ = some (.int .u8 65) := hat1.head
  have hlt := Lib.lt_of_heap hr
  have HR := Lib.hid hr
  have HG := Lib.hid hg
  have HA1 := Lib.hid hat1
  have HA2 := Lib.hid hat2
  have HK := Lib.hid hk
  have HH := Lib.hid hh
  have HNN := Lib.hid hN
  have HZ := Lib.hid hzK
  have HTAB := Lib.hid htab
  have HAS := Lib.hid has
  have hp0 := run_part w g hg
  have hhn : h ≤ n := by omega
  have hn1 : 1 ≤ n := by omega
  have HLK : Hid (∀ W, Kp [r] w W → Calls Tryz.prog 76 #[.slice (some ⟨b, o, none⟩) n c] W (RetL W n h)) := by
    intro W hW
    have h1 := hatK W hW
    rw [sealB, ← hk] at h1
    have := parseLength W b o n c k wd 65 (uintB x) (by omega) hwd h1 (by rw [← hh]; exact hhn) hnc hc
    rw [← hh, ← hN] at this
    exact this
  have HA2K : Hid (∀ W, Kp [r] w W → At W b (o + h) (uintB x)) := by
    intro W hW
    have h1 := hatK W hW
    have : At W b o (65 :: (lenB (uintB x).length wd ++ ((uintB x) ++ []))) := by rw [List.append_nil]; exact h1
    rw [hh, hk]; exact this.con
  have HA2G : Hid (∀ W, G W → At W b (o + h) (uintB x)) := by
    intro W hW
    have h1 := hatG W hW
    have : At W b o (65 :: (lenB (uintB x).length wd ++ ((uintB x) ++ []))) := by rw [List.append_nil]; exact h1
    rw [hh, hk]; exact this.con
  clear hr hg hat hatG hzG hG hatK hat1 hat2 hk hh hN hzK htab has hn
  go_enter Tryz.func103, Tryz.ntmps103
  go_wp2_with (go_at_call 119; refine (print _ _).mono ?_; rintro e W1 ⟨rfl, hb⟩; refine Hid.out ?_)
  refine Lib.hid ?_
  have hB : Below w.heap.size w W1 := ((Below.refl _ w).alloc (Nat.le_refl _) _).trans (hb.mono (by simp))
  have HL1 := Lib.hid (HLK.out W1 (Kp.of_below hB [r]))
  have hr1 : W1.heap[r]? = some (.cells #[.nilIface, .int .u8 0] 188 (0, 0)) := (hB.block r hlt).trans HR.out
  have e0 : W1.cell? ⟨r, 0, none⟩ = some .nilIface := by rw [Lib.cell_of_heap hr1]; rfl
  have e1 : W1.cell? ⟨r, 1, none⟩ = some (.int .u8 0) := by rw [Lib.cell_of_heap hr1]; rfl
  have fr : ∀ i, W1.frozen? ⟨r, i, none⟩ = false := fun i => Lib.frozen_of_heap hr1 i
  have HB := Lib.hid hB
  have HR1 := Lib.hid hr1
  clear hb hB hr1 hp0
  go_wp2_with (go_at_call 76; refine (HL1.out).mono ?_; rintro e W2 ⟨rfl, rfl⟩; refine Hid.out ?_)
  refine Lib.hid ?_
  clear HL1
  have HPU := Lib.hid (parseUint W2 b (o + h) (n - h) (c - h) x (by omega) (by rw [← hmh]; exact HK.out.symm) (by omega) (by omega) ((At.below HA2.out HB.out)))
  go_wp2_with (go_at_call 80; refine (HPU.out).mono ?_; rintro e W3 ⟨rfl, rfl⟩; refine Hid.out ?_)
  refine Lib.hid ?_
  clear HPU HLK HA2K
  go_wp2
  obtain ⟨WS, hWS⟩ : ∃ WS, WS = (W3.setCell ⟨r, 1, none⟩ (.int .u8 65)).setCell ⟨r, 0, none⟩ (.iface 24 (.int .u64 x)) := ⟨_, rfl⟩
  have hrS : WS.heap[r]? = some (.cells #[.iface 24 (.int .u64 x), .int .u8 65] 188 (0, 0)) := by
    rw [hWS]; exact Lib.heap_setCell_same (i := 0) (Lib.heap_setCell_same (i := 1) HR1.out _) _
  have hkS : Kp [r] w WS := by
    rw [hWS]
    exact ((Kp.of_below HB.out [r]).setCell (.inl (by simp)) _).setCell (.inl (by simp)) _
  rw [← hWS]
  have hS := startS (hkS.heap HG.out (by simpa using hgr)) hrS
  have HKS := Lib.hid hkS
  clear hWS hrS hkS
  go_region_held3 (fun W => (partAt ⟨g, 0, none⟩ 0 0).run Tryz.prog W = .ok ⟨g, 0, none⟩ W ∧ W.cell? ⟨r, 0, none⟩ = some (.iface 24 (.int .u64 x)) ∧ W.heap[g]? = some (.cells #[] 68 (0, 0)) ∧ W.heap[r]? = some (.cells #[.iface 24 (.int .u64 x), .int .u8 65] 188 (0, 0))) (first | exact hS | exact keepS (by assumption) ((Below.refl _ _).alloc (Nat.le_refl _) _) | exact keepS (by assumption) hbT) (first | (go_at_call 61; refine (printf _ _ _).mono ?_; rintro e WT ⟨rfl, hbT⟩))
  rename_i hHeld
  go_wp2
  go_ret
  exact ⟨rfl, _, fun _ _ => rfl, rfl, hHeld.2.2.2, ((HKS.out.alloc _).drew).add hbT⟩
set_option maxHeartbeats 32000000 in
set_option maxRecDepth 100000 in
theorem dec_66 (G : World → Prop) (w : World) (b o n c g r wd : Nat) (x : Nat) (z : Addr) (hx : x < 4294967296) (hwd : wd ≤ 2) (hn : (sealB 66 (uintB x) wd).length = n) (hnc : n ≤ c) (hc : c ≤ 9223372036854775807 ∧ n ≤ 1000000) (hgr : g ≠ r) (hG : ∀ W, Kp [r] w W → G W) (hzG : ∀ W, G W → NetLaid W z) (htab : Tab w) (has : AsnLaid w)
    (hatG : ∀ W, G W → At W b o (sealB 66 (uintB x) wd)) (hr : w.heap[r]? = some (.cells #[.nilIface, .int .u8 0] 188 (0, 0))) (hg : w.heap[g]? = some (.cells #[] 68 (0, 0))) :
    Calls Tryz.prog 103 #[.pointer (some ⟨g, 0, none⟩), .slice (some ⟨b, o, none⟩) n c, .pointer (some ⟨r, 0, none⟩)] w (RetV G w r (.u32 66 x)) := by
  have hatK : ∀ W, Kp [r] w W → At W b o (sealB 66 (uintB x) wd) := fun W h => hatG W (hG W h)
  have hzK : ∀ W, Kp [r] w W → NetLaid W z := fun W h => hzG W (hG W h)
  have hat := hatK w (Kp.refl _ _)
  obtain ⟨k, hk⟩ : ∃ k, k = (uintB x).length := ⟨_, rfl⟩
  obtain ⟨h, hh⟩ : ∃ h, h = hdr k wd := ⟨_, rfl⟩
  have hN : n = k + h := by rw [← hn, hh, hk]; exact sealB_len _ _ _
  have hk1 : 1 ≤ k := by rw [hk]; exact uintB_pos x
  have hk5 : k ≤ 9 := by rw [hk]; have := uintB_short x (by omega); omega
  have hch : c ≠ h := by omega
  have hmh : k = n - h := by omega
  have hat1 : At w b o (66 :: (lenB k wd ++ (uintB x))) := by rw [hk]; exact hat
  have hat2 : At w b (o + h) (uintB x) := by
    have : At w b o (66 :: (lenB (uintB x).length wd ++ ((uintB x) ++ []))) := by rw [List.append_nil, ← hk]; exact hat1
    rw [hh, hk]; exact this.con
  have hh2 : 2 ≤ h := by rw [hh]; exact hdr_ge k wd
  have c0 : w.cell? ⟨b, o, none⟩ = some (.int .u8 66) := hat1.head
  have hlt := Lib.lt_of_heap hr
  have HR := Lib.hid hr
  have HG := Lib.hid hg
  have HA1 := Lib.hid hat1
  have HA2 := Lib.hid hat2
  have HK := Lib.hid hk
  have HH := Lib.hid hh
  have HNN := Lib.hid hN
  have HZ := Lib.hid hzK
  have HTAB := Lib.hid htab
  have HAS := Lib.hid has
  have hp0 := run_part w g hg
  have hhn : h ≤ n := by omega
  have hn1 : 1 ≤ n := by omega
  have HLK : Hid (∀ W, Kp [r] w W → Calls Tryz.prog 76 #[.slice (some ⟨b, o, none⟩) n c] W (RetL W n h)) := by
    intro W hW
    have h1 := hatK W hW
    rw [sealB, ← hk] at h1
    have := parseLength W b o n c k wd 66 (uintB x) (by omega) hwd h1 (by rw [← hh]; exact hhn) hnc hc
    rw [← hh, ← hN] at this
    exact this
  have HA2K : Hid (∀ W, Kp [r] w W → At W b (o + h) (uintB x)) := by
    intro W hW
    have h1 := hatK W hW
    have : At W b o (66 :: (lenB (uintB x).length wd ++ ((uintB x) ++ []))) := by rw [List.append_nil]; exact h1
    rw [hh, hk]; exact this.con
  have HA2G : Hid (∀ W, G W → At W b (o + h) (uintB x)) := by
    intro W hW
    have h1 := hatG W hW
    have : At W b o (66 :: (lenB (uintB x).length wd ++ ((uintB x) ++ []))) := by rw [List.append_nil]; exact h1
    rw [hh, hk]; exact this.con
  clear hr hg hat hatG hzG hG hatK hat1 hat2 hk hh hN hzK htab has hn
  go_enter Tryz.func103, Tryz.ntmps103
  go_wp2_with (go_at_call 119; refine (print _ _).mono ?_; rintro e W1 ⟨rfl, hb⟩; refine Hid.out ?_)
  refine Lib.hid ?_
  have hB : Below w.heap.size w W1 := ((Below.refl _ w).alloc (Nat.le_refl _) _).trans (hb.mono (by simp))
  have HL1 := Lib.hid (HLK.out W1 (Kp.of_below hB [r]))
  have hr1 : W1.heap[r]? = some (.cells #[.nilIface, .int .u8 0] 188 (0, 0)) := (hB.block r hlt).trans HR.out
  have e0 : W1.cell? ⟨r, 0, none⟩ = some .nilIface := by rw [Lib.cell_of_heap hr1]; rfl
  have e1 : W1.cell? ⟨r, 1, none⟩ = some (.int .u8 0) := by rw [Lib.cell_of_heap hr1]; rfl
  have fr : ∀ i, W1.frozen? ⟨r, i, none⟩ = false := fun i => Lib.frozen_of_heap hr1 i
  have HB := Lib.hid hB
  have HR1 := Lib.hid hr1
  clear hb hB hr1 hp0
  go_wp2_with (go_at_call 76; refine (HL1.out).mono ?_; rintro e W2 ⟨rfl, rfl⟩; refine Hid.out ?_)
  refine Lib.hid ?_
  clear HL1
  have HPU := Lib.hid (parseUint W2 b (o + h) (n - h) (c - h) x (by omega) (by rw [← hmh]; exact HK.out.symm) (by omega) (by omega) ((At.below HA2.out HB.out)))
  go_wp2_with (go_at_call 80; refine (HPU.out).mono ?_; rintro e W3 ⟨rfl, rfl⟩; refine Hid.out ?_)
  refine Lib.hid ?_
  clear HPU HLK HA2K
  go_wp2
  obtain ⟨WS, hWS⟩ : ∃ WS, WS = (W3.setCell ⟨r, 1, none⟩ (.int .u8 66)).setCell ⟨r, 0, none⟩ (.iface 24 (.int .u64 x)) := ⟨_, rfl⟩
  have hrS : WS.heap[r]? = some (.cells #[.iface 24 (.int .u64 x), .int .u8 66] 188 (0, 0)) := by
    rw [hWS]; exact Lib.heap_setCell_same (i := 0) (Lib.heap_setCell_same (i := 1) HR1.out _) _
  have hkS : Kp [r] w WS := by
    rw [hWS]
    exact ((Kp.of_below HB.out [r]).setCell (.inl (by simp)) _).setCell (.inl (by simp)) _
  rw [← hWS]
  have hS := startS (hkS.heap HG.out (by simpa using hgr)) hrS
  have HKS := Lib.hid hkS
  clear hWS hrS hkS
  go_region_held3 (fun W => (partAt ⟨g, 0, none⟩ 0 0).run Tryz.prog W = .ok ⟨g, 0, none⟩ W ∧ W.cell? ⟨r, 0, none⟩ = some (.iface 24 (.int .u64 x)) ∧ W.heap[g]? = some (.cells #[] 68 (0, 0)) ∧ W.heap[r]? = some (.cells #[.iface 24 (.int .u64 x), .int .u8 66] 188 (0, 0))) (first | exact hS | exact keepS (by assumption) ((Below.refl _ _).alloc (Nat.le_refl _) _) | exact keepS (by assumption) hbT) (first | (go_at_call 61; refine (printf _ _ _).mono ?_; rintro e WT ⟨rfl, hbT⟩))
  rename_i hHeld
  go_wp2
  go_ret
  exact ⟨rfl, _, fun _ _ => rfl, rfl, hHeld.2.2.2, ((HKS.out.alloc _).drew).add hbT⟩
set_option maxHeartbeats 32000000 in
set_option maxRecDepth 100000 in
theorem dec_67 (G : World → Prop) (w : World) (b o n c g r wd : Nat) (x : Nat) (z : Addr) (hx : x < 4294967296) (hwd : wd ≤ 2) (hn : (sealB 67 (uintB x) wd).length = n) (hnc : n ≤ c) (hc : c ≤ 9223372036854775807 ∧ n ≤ 1000000) (hgr : g ≠ r) (hG : ∀ W, Kp [r] w W → G W) (hzG : ∀ W, G W → NetLaid W z) (htab : Tab w) (has : AsnLaid w)
    (hatG : ∀ W, G W → At W b o (sealB 67 (uintB x) wd)) (hr : w.heap[r]? = some (.cells #[.nilIface, .int .u8 0] 188 (0, 0))) (hg : w.heap[g]? = some (.cells #[] 68 (0, 0))) :
    Calls Tryz.prog 103 #[.pointer (some ⟨g, 0, none⟩), .slice (some ⟨b, o, none⟩) n c, .pointer (some ⟨r, 0, none⟩)] w (RetV G w r (.u32 67 x)) := by
  have hatK : ∀ W, Kp [r] w W → At W b o (sealB 67 (uintB x) wd) := fun W h => hatG W (hG W h)
  have hzK : ∀ W, Kp [r] w W → NetLaid W z := fun W h => hzG W (hG W h)
  have hat := hatK w (Kp.refl _ _)
  obtain ⟨k, hk⟩ : ∃ k, k = (uintB x).length := ⟨_, rfl⟩
  obtain ⟨h, hh⟩ : ∃ h, h = hdr k wd := ⟨_, rfl⟩
  have hN : n = k + h := by rw [← hn, hh, hk]; exact sealB_len _ _ _
  have hk1 : 1 ≤ k := by rw [hk]; exact uintB_pos x
  have hk5 : k ≤ 9 := by rw [hk]; have := uintB_short x (by omega); omega
  have hch : c ≠ h := by omega
  have hmh : k = n - h := by omega
  have hat1 : At w b o (67 :: (lenB k wd ++ (uintB x))) := by rw [hk]; exact hat
  have hat2 : At w b (o + h) (uintB x) := by
    have : At w b o (67 :: (lenB (uintB x).length wd ++ ((uintB x) ++ []))) := by rw [List.append_nil, ← hk]; exact hat1
    rw [hh, hk]; exact this.con
  have hh2 : 2 ≤ h := by rw [hh]; exact hdr_ge k wd
  have c0 : w.cell? ⟨b, o, none⟩ = some (.int .u8 67) := hat1.head
  have hlt := Lib.lt_of_heap hr
  have HR := Lib.hid hr
  have HG := Lib.hid hg
  have HA1 := Lib.hid hat1
  have HA2 := Lib.hid hat2
  have HK := Lib.hid hk
  have HH := Lib.hid hh
  have HNN := Lib.hid hN
  have HZ := Lib.hid hzK
  have HTAB := Lib.hid htab
  have HAS := Lib.hid has
  have hp0 := run_part w g hg
  have hhn : h ≤ n := by omega
  have hn1 : 1 ≤ n := by omega
  have HLK : Hid (∀ W, Kp [r] w W → Calls Tryz.prog 76 #[.slice (some ⟨b, o, none⟩) n c] W (RetL W n h)) := by
    intro W hW
    have h1 := hatK W hW
    rw [sealB, ← hk] at h1
    have := parseLength W b o n c k wd 67 (uintB x) (by omega) hwd h1 (by rw [← hh]; exact hhn) hnc hc
    rw [← hh, ← hN] at this
    exact this
  have HA2K : Hid (∀ W, Kp [r] w W → At W b (o + h) (uintB x)) := by
    intro W hW
    have h1 := hatK W hW
    have : At W b o (67 :: (lenB (uintB x).length wd ++ ((uintB x) ++ []))) := by rw [List.append_nil]; exact h1
    rw [hh, hk]; exact this.con
  have HA2G : Hid (∀ W, G W → At W b (o + h) (uintB x)) := by
    intro W hW
    have h1 := hatG W hW
    have : At W b o (67 :: (lenB (uintB x).length wd ++ ((uintB x) ++ []))) := by rw [List.append_nil]; exact h1
    rw [hh, hk]; exact this.con
  clear hr hg hat hatG hzG hG hatK hat1 hat2 hk hh hN hzK htab has hn
  go_enter Tryz.func103, Tryz.ntmps103
  go_wp2_with (go_at_call 119; refine (print _ _).mono ?_; rintro e W1 ⟨rfl, hb⟩; refine Hid.out ?_)
  refine Lib.hid ?_
  have hB : Below w.heap.size w W1 := ((Below.refl _ w).alloc (Nat.le_refl _) _).trans (hb.mono (by simp))
  have HL1 := Lib.hid (HLK.out W1 (Kp.of_below hB [r]))
  have hr1 : W1.heap[r]? = some (.cells #[.nilIface, .int .u8 0] 188 (0, 0)) := (hB.block r hlt).trans HR.out
  have e0 : W1.cell? ⟨r, 0, none⟩ = some .nilIface := by rw [Lib.cell_of_heap hr1]; rfl
  have e1 : W1.cell? ⟨r, 1, none⟩ = some (.int .u8 0) := by rw [Lib.cell_of_heap hr1]; rfl
  have fr : ∀ i, W1.frozen? ⟨r, i, none⟩ = false := fun i => Lib.frozen_of_heap hr1 i
  have HB := Lib.hid hB
  have HR1 := Lib.hid hr1
  clear hb hB hr1 hp0
  go_wp2_with (go_at_call 76; refine (HL1.out).mono ?_; rintro e W2 ⟨rfl, rfl⟩; refine Hid.out ?_)
  refine Lib.hid ?_
  clear HL1
  have HPU := Lib.hid (parseUint32 W2 b (o + h) (n - h) (c - h) x hx (by rw [← hmh]; exact HK.out.symm) (by omega) (by omega) ((At.below HA2.out HB.out)))
  go_wp2_with (go_at_call 120; refine (HPU.out).mono ?_; rintro e W3 ⟨rfl, rfl⟩; refine Hid.out ?_)
  refine Lib.hid ?_
  clear HPU HLK HA2K
  go_wp2
  obtain ⟨WS, hWS⟩ : ∃ WS, WS = (W3.setCell ⟨r, 1, none⟩ (.int .u8 67)).setCell ⟨r, 0, none⟩ (.iface 22 (.int .u32 x)) := ⟨_, rfl⟩
  have hrS : WS.heap[r]? = some (.cells #[.iface 22 (.int .u32 x), .int .u8 67] 188 (0, 0)) := by
    rw [hWS]; exact Lib.heap_setCell_same (i := 0) (Lib.heap_setCell_same (i := 1) HR1.out _) _
  have hkS : Kp [r] w WS := by
    rw [hWS]
    exact ((Kp.of_below HB.out [r]).setCell (.inl (by simp)) _).setCell (.inl (by simp)) _
  rw [← hWS]
  have hS := startS (hkS.heap HG.out (by simpa using hgr)) hrS
  have HKS := Lib.hid hkS
  clear hWS hrS hkS
  go_region_held3 (fun W => (partAt ⟨g, 0, none⟩ 0 0).run Tryz.prog W = .ok ⟨g, 0, none⟩ W ∧ W.cell? ⟨r, 0, none⟩ = some (.iface 22 (.int .u32 x)) ∧ W.heap[g]? = some (.cells #[] 68 (0, 0)) ∧ W.heap[r]? = some (.cells #[.iface 22 (.int .u32 x), .int .u8 67] 188 (0, 0))) (first | exact hS | exact keepS (by assumption) ((Below.refl _ _).alloc (Nat.le_refl _) _) | exact keepS (by assumption) hbT) (first | (go_at_call 61; refine (printf _ _ _).mono ?_; rintro e WT ⟨rfl, hbT⟩))
  rename_i hHeld
  go_wp2
  go_ret
  exact ⟨rfl, _, fun _ _ => rfl, rfl, hHeld.2.2.2, ((HKS.out.alloc _).drew).add hbT⟩
set_option maxHeartbeats 32000000 in
set_option maxRecDepth 100000 in
theorem dec_70 (G : World → Prop) (w : World) (b o n c g r wd : Nat) (x : Nat) (z : Addr) (hx : x < 18446744073709551616) (hwd : wd ≤ 2) (hn : (sealB 70 (uintB x) wd).length = n) (hnc : n ≤ c) (hc : c ≤ 9223372036854775807 ∧ n ≤ 1000000) (hgr : g ≠ r) (hG : ∀ W, Kp [r] w W → G W) (hzG : ∀ W, G W → NetLaid W z) (htab : Tab w) (has : AsnLaid w)
    (hatG : ∀ W, G W → At W b o (sealB 70 (uintB x) wd)) (hr : w.heap[r]? = some (.cells #[.nilIface, .int .u8 0] 188 (0, 0))) (hg : w.heap[g]? = some (.cells #[] 68 (0, 0))) :
    Calls Tryz.prog 103 #[.pointer (some ⟨g, 0, none⟩), .slice (some ⟨b, o, none⟩) n c, .pointer (some ⟨r, 0, none⟩)] w (RetV G w r (.u64 x)) := by
  have hatK : ∀ W, Kp [r] w W → At W b o (sealB 70 (uintB x) wd) := fun W h => hatG W (hG W h)
  have hzK : ∀ W, Kp [r] w W → NetLaid W z := fun W h => hzG W (hG W h)
  have hat := hatK w (Kp.refl _ _)
  obtain ⟨k, hk⟩ : ∃ k, k = (uintB x).length := ⟨_, rfl⟩
  obtain ⟨h, hh⟩ : ∃ h, h = hdr k wd := ⟨_, rfl⟩
  have hN : n = k + h := by rw [← hn, hh, hk]; exact sealB_len _ _ _
  have hk1 : 1 ≤ k := by rw [hk]; exact uintB_pos x
  have hk5 : k ≤ 9 := by rw [hk]; have := uintB_short x (by omega); omega
  have hch : c ≠ h := by omega
  have hmh : k = n - h := by omega
  have hat1 : At w b o (70 :: (lenB k wd ++ (uintB x))) := by rw [hk]; exact hat
  have hat2 : At w b (o + h) (uintB x) := by
    have : At w b o (70 :: (lenB (uintB x).length wd ++ ((uintB x) ++ []))) := by rw [List.append_nil, ← hk]; exact hat1
    rw [hh, hk]; exact this.con
  have hh2 : 2 ≤ h := by rw [hh]; exact hdr_ge k wd
  have c0 : w.cell? ⟨b, o, none⟩ = some (.int .u8 70) := hat1.head
  have hlt := Lib.lt_of_heap hr
  have HR := Lib.hid hr
  have HG := Lib.hid hg
  have HA1 := Lib.hid hat1
  have HA2 := Lib.hid hat2
  have HK := Lib.hid hk
  have HH := Lib.hid hh
  have HNN := Lib.hid hN
  have HZ := Lib.hid hzK
  have HTAB := Lib.hid htab
  have HAS := Lib.hid has
  have hp0 := run_part w g hg
  have hhn : h ≤ n := by omega
  have hn1 : 1 ≤ n := by omega
  have HLK : Hid (∀ W, Kp [r] w W → Calls Tryz.prog 76 #[.slice (some ⟨b, o, none⟩) n c] W (RetL W n h)) := by
    intro W hW
    have h1 := hatK W hW
    rw [sealB, ← hk] at h1
    have := parseLength W b o n c k wd 70 (uintB x) (by omega) hwd h1 (by rw [← hh]; exact hhn) hnc hc
    rw [← hh, ← hN] at this
    exact this
  have HA2K : Hid (∀ W, Kp [r] w W → At W b (o + h) (uintB x)) := by
    intro W hW
    have h1 := hatK W hW
    have : At W b o (70 :: (lenB (uintB x).length wd ++ ((uintB x) ++ []))) := by rw [List.append_nil]; exact h1
    rw [hh, hk]; exact this.con
  have HA2G : Hid (∀ W, G W → At W b (o + h) (uintB x)) := by
    intro W hW
    have h1 := hatG W hW
    have : At W b o (70 :: (lenB (uintB x).length wd ++ ((uintB x) ++ []))) := by rw [List.append_nil]; exact h1
    rw [hh, hk]; exact this.con
  clear hr hg hat hatG hzG hG hatK hat1 hat2 hk hh hN hzK htab has hn
  go_enter Tryz.func103, Tryz.ntmps103
  go_wp2_with (go_at_call 119; refine (print _ _).mono ?_; rintro e W1 ⟨rfl, hb⟩; refine Hid.out ?_)
  refine Lib.hid ?_
  have hB : Below w.heap.size w W1 := ((Below.refl _ w).alloc (Nat.le_refl _) _).trans (hb.mono (by simp))
  have HL1 := Lib.hid (HLK.out W1 (Kp.of_below hB [r]))
  have hr1 : W1.heap[r]? = some (.cells #[.nilIface, .int .u8 0] 188 (0, 0)) := (hB.block r hlt).trans HR.out
  have e0 : W1.cell? ⟨r, 0, none⟩ = some .nilIface := by rw [Lib.cell_of_heap hr1]; rfl
  have e1 : W1.cell? ⟨r, 1, none⟩ = some (.int .u8 0) := by rw [Lib.cell_of_heap hr1]; rfl
  have fr : ∀ i, W1.frozen? ⟨r, i, none⟩ = false := fun i => Lib.frozen_of_heap hr1 i
  have HB := Lib.hid hB
  have HR1 := Lib.hid hr1
  clear hb hB hr1 hp0
  go_wp2_with (go_at_call 76; refine (HL1.out).mono ?_; rintro e W2 ⟨rfl, rfl⟩; refine Hid.out ?_)
  refine Lib.hid ?_
  clear HL1
  have HPU := Lib.hid (parseUint64B W2 b (o + h) (n - h) (c - h) x hx (by rw [← hmh]; exact HK.out.symm) (by omega) (by omega) ((At.below HA2.out HB.out)))
  go_wp2_with (go_at_call 102; refine (HPU.out).mono ?_; rintro e W3 ⟨rfl, rfl⟩; refine Hid.out ?_)
  refine Lib.hid ?_
  clear HPU HLK HA2K
  go_wp2
  obtain ⟨WS, hWS⟩ : ∃ WS, WS = (W3.setCell ⟨r, 1, none⟩ (.int .u8 70)).setCell ⟨r, 0, none⟩ (.iface 38 (.int .u64 x)) := ⟨_, rfl⟩
  have hrS : WS.heap[r]? = some (.cells #[.iface 38 (.int .u64 x), .int .u8 70] 188 (0, 0)) := by
    rw [hWS]; exact Lib.heap_setCell_same (i := 0) (Lib.heap_setCell_same (i := 1) HR1.out _) _
  have hkS : Kp [r] w WS := by
    rw [hWS]
    exact ((Kp.of_below HB.out [r]).setCell (.inl (by simp)) _).setCell (.inl (by simp)) _
  rw [← hWS]
  have hS := startS (hkS.heap HG.out (by simpa using hgr)) hrS
  have HKS := Lib.hid hkS
  clear hWS hrS hkS
  go_region_held3 (fun W => (partAt ⟨g, 0, none⟩ 0 0).run Tryz.prog W = .ok ⟨g, 0, none⟩ W ∧ W.cell? ⟨r, 0, none⟩ = some (.iface 38 (.int .u64 x)) ∧ W.heap[g]? = some (.cells #[] 68 (0, 0)) ∧ W.heap[r]? = some (.cells #[.iface 38 (.int .u64 x), .int .u8 70] 188 (0, 0))) (first | exact hS | exact keepS (by assumption) ((Below.refl _ _).alloc (Nat.le_refl _) _) | exact keepS (by assumption) hbT) (first | (go_at_call 61; refine (printf _ _ _).mono ?_; rintro e WT ⟨rfl, hbT⟩))
  rename_i hHeld
  go_wp2
  go_ret
  exact ⟨rfl, _, fun _ _ => rfl, rfl, hHeld.2.2.2, ((HKS.out.alloc _).drew).add hbT⟩
end Go.Proofs.YtpfmcdhmboclhaaGreatDoor
