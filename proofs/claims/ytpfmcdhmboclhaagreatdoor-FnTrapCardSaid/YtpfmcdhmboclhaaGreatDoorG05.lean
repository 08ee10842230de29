/- gosnmp: the content of a name, out of dotted figures. -/
import Derived.Test.YtpfmcdhmboclhaaGreatDoorG04
set_option linter.unusedVariables false
set_option linter.unusedSimpArgs false
namespace Go.Proofs.YtpfmcdhmboclhaaGreatDoor
open Go.RowKit
set_option maxHeartbeats 4000000 in
set_option maxRecDepth 100000 in
theorem marshalOID (s : ByteArray) (arcs : List Nat) (w : World) (hg : GoodArcs arcs) (hs : bytesOf s = text arcs ∨ bytesOf s = (text arcs).tail) (hsz : s.size ≤ 2147483647) : Calls Tryz.prog 91 #[.string s] w (RetB w (nameB arcs)) := by
  obtain ⟨hg1, hg2, hg3, hg4, hg5, hg6⟩ := hg
  obtain ⟨cells, hmk, hcells⟩ := run_make_room (s.size / 2) (by omega) w
  have hst : OidAt s arcs w (.slice (some ⟨w.heap.size, 0, none⟩) 0 (s.size / 2)) (.int .i64 0) (.int .i64 0) (.int .i64 0) (w.alloc (.cells cells 5)) 0 := by
    refine ⟨[], arcs, rfl, rfl, rfl, ?_, Nat.zero_le _, rfl, ?_, (Below.refl _ _).alloc (Nat.le_refl _) _⟩
    · rcases hs with hs | hs
      · exact .inl hs
      · exact .inr ⟨by intro e; subst e; simp at hg1, hs⟩
    · exact Own.mk (l := []) (Nat.le_refl _) (heap_alloc_new w _) (Nat.zero_le _) (by unfold maxLen; omega) hcells rfl
  rw [show ((s.size / 2 : Nat) : Int) = (s.size : Int) / 2 by omega] at hmk
  have HST := Lib.hid hst
  have HG1 := Lib.hid hg1
  have HG3 := Lib.hid hg3
  have HG4 := Lib.hid hg4
  have HG5 := Lib.hid hg5
  have HG6 := Lib.hid hg6
  clear hst hcells hg1 hg3 hg4 hg5 hg6 hs
  go_enter Tryz.func91, Tryz.ntmps91
  go_wp2
  go_loopw [5, 6, 7, 8] (fun out fa i j wr => ∃ k, OidAt s arcs w out fa i j wr k) (fun _ _ _ j _ => s.size - (intOf j).toNat)
  case atStart => exact ⟨0, HST.out⟩
  case round =>
    obtain ⟨k, done, rest, harcs, rfl, rfl, hdrop, hk, rfl, hO, hb⟩ := hrel
    obtain ⟨wo, rfl⟩ : ∃ wo : World, wo = wr := ⟨_, rfl⟩
    have HO := Lib.hid hO
    have HB := Lib.hid hb
    have HA := Lib.hid harcs
    clear hO hb harcs
    rcases rest with _ | ⟨a, r⟩
    · have hend : (bytesOf s).drop k = [] := by
        rcases hdrop with h | h
        · exact h
        · exact absurd rfl h.1
      obtain rfl := at_end s k hk hend
      have hl : 2 ≤ done.length := by have := HG1.out; rw [HA.out] at this; simpa using this
      have hl2 : done.length ≤ 60 := by have := hg2; rw [HA.out] at this; simpa using this
      have HR : Hid (RetB w (nameB arcs) (.returned (.tuple #[u5, .nilIface])) wo) := by
        have := HO.out
        rw [show done = arcs by rw [HA.out]; simp] at this
        exact retB_own this HB.out
      clear hdrop hend hg2
      go_wp2
      go_ret2
      exact HR.out
    · have hl2 : done.length + r.length < 60 := by have := hg2; rw [HA.out] at this; simp at this; omega
      clear hg2
      rcases hdrop with hdrop | ⟨-, hdrop⟩
      · rw [text_cons] at hdrop
        obtain ⟨hlt, hidx, hd1⟩ := at_char s k 46 _ hdrop
        have HR : Hid (OidAt s arcs w u5 (.int .i64 (done.getD 0 0)) (.int .i64 done.length) (.int .i64 (k + 1 : Nat)) wo (k + 1)) :=
          ⟨done, a :: r, HA.out, rfl, rfl, .inr ⟨by simp, by rw [hd1, text_cons]; rfl⟩, by omega, rfl, HO.out, HB.out⟩
        clear hdrop hd1
        go_wp2
        go_roundw
        case rel => exact ⟨k + 1, HR.out⟩
        case measure => simp [intOf]; omega
      · rw [text_cons, List.tail_cons] at hdrop
        obtain ⟨c, fr, hc⟩ := List.exists_cons_of_ne_nil (figs_ne a)
        have hcr := figs_range a c (by rw [hc]; exact List.mem_cons_self)
        obtain ⟨hlt, hidx, -⟩ := at_char s k c (fr ++ text r) (by rw [hdrop, hc]; rfl)
        have hne : (c == 46) = false := by simp; omega
        have HF : Hid (FigAt s a r k (.int .i64 k) (.int .i64 0)) := ⟨[], figs a, k, 0, rfl, hdrop, rfl, rfl, hk, rfl, rfl⟩
        have ha : a < 4294967296 := by have := HG5.out a (by rw [HA.out]; simp); exact this
        have HH := Lib.hid ha
        have HC := Lib.hid hcr
        clear hdrop hc hcr ha
        go_wp2
        go_loop [8, 9] (fun j v => FigAt s a r k j v) (fun j _ => s.size - (intOf j).toNat)
        case atStart => exact HF.out
        case round =>
          obtain ⟨p, q, kk, m, hpq, hd, rfl, rfl, hks, hm, hkk⟩ := hrel
          clear hidx hne
          rcases q with _ | ⟨c, q⟩
          · obtain rfl : m = a := by rw [hm, ← numOf_figs a, hpq, List.append_nil]
            have hmb : (m : Int) < 4294967296 := by have := HH.out; omega
            have hkp : k < kk := by rw [hkk]; have := List.length_pos_iff.2 (figs_ne m); rw [hpq, List.append_nil] at this; omega
            have hd' : (bytesOf s).drop kk = text r := by simpa using hd
            clear hpq hd hm hkk
            have hstop : (kk = s.size) ∨ (kk < s.size ∧ ∀ W, (Instr.index 9 (.string s) (.int .i64 kk)).run Tryz.prog W = .ok (.int .u8 46) W) := by
              rcases r with _ | ⟨b, r⟩
              · exact .inl (at_end s kk hks hd')
              · rw [text_cons] at hd'
                obtain ⟨h1, h2, -⟩ := at_char s kk 46 _ hd'
                exact .inr ⟨h1, h2⟩
            have HD := Lib.hid hd'
            clear hd'
            have HLE := Lib.hid hks
            rcases done with _ | ⟨x, _ | ⟨y, d⟩⟩
            · have hm2 : (m : Int) ≤ 2 := by have := HG3.out; rw [HA.out] at this; simp at this; omega
              have HR : Hid (OidAt s arcs w u5 (.int .i64 m) (.int .i64 1) (.int .i64 kk) wo kk) := oid_next HA.out HD.out HLE.out rfl HO.out HB.out
              rcases hstop with rfl | ⟨hlt2, hidx⟩
              all_goals
                clear hmb hks hsz
                go_wp2
                go_roundw
                case rel => exact ⟨_, HR.out⟩
                case measure => simp [intOf]; omega
            · have hm40 : (m : Int) < 40 := by have := HG4.out; rw [HA.out] at this; simp at this; omega
              have hx2 : (x : Int) ≤ 2 := by have := HG3.out; rw [HA.out] at this; simp at this; omega
              clear hmb hks hsz
              rcases hstop with rfl | ⟨hlt2, hidx⟩ <;> by_cases hx1 : (x : Int) < 2
              all_goals
                go_wp2_with (go_at_call 108; refine (appendB128' (x * 40 + m) _ (by simp) _ w.heap.size u5 [] (by exact HO.out) HB.out.size (by simp) (by omega)).mono ?_; rintro e w1 ⟨v1, rfl, hO1, hb1⟩; refine Hid.out ?_)
                refine Lib.hid ?_
                have HR := Lib.hid <| oid_next (fa := x) HA.out HD.out HLE.out rfl (by rw [show [x] ++ [m] = [x, m] from rfl, nameB_two x m (by omega)]; exact hO1) (HB.out.trans hb1)
                clear hO1 hb1
                go_wp2
                go_roundw
                case rel => exact ⟨_, HR.out⟩
                case measure => simp [intOf]; omega
            · have hnb : (nameB (x :: y :: d)).length ≤ 100 := by
                have := nameB_prefix (x :: y :: d) (m :: r)
                rw [← HA.out] at this
                exact Nat.le_trans this HG6.out
              obtain ⟨L, hL⟩ : ∃ L, L = (x :: y :: d).length := ⟨_, rfl⟩
              rw [← hL]
              have hL2 : 2 ≤ L := by rw [hL]; simp
              have hL60 : L + r.length < 60 := by rw [hL]; exact hl2
              have HL := Lib.hid hL
              have HNB := Lib.hid hnb
              clear hL hl2 hnb
              rcases hstop with rfl | ⟨hlt2, hidx⟩
              all_goals
                clear hmb hks hsz
                go_wp2_with (go_at_call 108; refine (appendB128 m _ w.heap.size u5 (nameB (x :: y :: d)) (by exact HO.out) HB.out.size (by have := HNB.out; omega) HH.out).mono ?_; rintro e w1 ⟨v1, rfl, hO1, hb1⟩; refine Hid.out ?_)
                refine Lib.hid ?_
                have hr := oid_next (fa := x) HA.out HD.out HLE.out rfl (by rw [nameB_snoc _ _ (by simp)]; exact hO1) (HB.out.trans hb1)
                rw [← HL.out] at hr
                have HR := Lib.hid hr
                clear hO1 hb1 hr
                go_wp2
                go_roundw
                case rel => exact ⟨_, HR.out⟩
                case measure => simp [intOf]; omega
          · obtain ⟨hlt2, hidx, hd1⟩ := at_char s kk c (q ++ text r) hd
            have hcr := figs_range a c (by rw [hpq]; simp)
            have hne : (c != 46) = true := by simp; omega
            have hnum : numOf (p ++ [c]) ≤ a := by
              have := numOf_mono q (p ++ [c])
              rw [List.append_assoc, show p ++ ([c] ++ q) = p ++ c :: q from rfl, ← hpq, numOf_figs] at this
              exact this
            rw [numOf_snoc, ← hm] at hnum
            have hbig : (m : Int) * 10 + (c - 48) < 4294967296 := by have := HH.out; omega
            have HR : Hid (FigAt s a r k (.int .i64 (kk + 1 : Nat)) (.int .i64 ((m : Int) * 10 + (c - 48)))) := by
              refine ⟨p ++ [c], q, kk + 1, m * 10 + (c - 48).toNat, by rw [hpq]; simp, hd1, rfl, by congr 1; omega, by omega, ?_, by rw [List.length_append, hkk]; rfl⟩
              rw [numOf_snoc, ← hm, Nat.mul_comm]
            have hc0 := hcr.1
            have hc1 := hcr.2
            clear hpq hd hd1 hnum hm hcr hkk
            go_wp2
            go_round
            case rel => exact HR.out
            case measure => simp [intOf]; omega
end Go.Proofs.YtpfmcdhmboclhaaGreatDoor
