/- spec: the numbers of a name out of its text. -/
import Derived.Test.YtpfmcdhmboclhaaGreatDoorG21
set_option linter.unusedVariables false
set_option linter.unusedSimpArgs false
namespace Go.Proofs.YtpfmcdhmboclhaaGreatDoor
open Go.RowKit
set_option maxHeartbeats 4000000 in
set_option maxRecDepth 100000 in
/-- Without a point. -/
theorem arcs_plain (s t : ByteArray) (w : World) (hst : t = s) (hsz : t.size ≤ 2147483647) (c : Int) (r : List Int) (hd : bytesOf t = c :: r) (hc : c ≠ 46) : Calls Tryz.prog 22 #[.string t] w (ArcRet s w) := by
  have HT : Hid (bytesOf t = bare (bytesOf s)) := by
    unfold Hid
    rw [← hst, hd, bare_cons hc]
  obtain ⟨hlt0, hidx0, -⟩ := at_char t 0 c r (by simpa using hd)
  have hidx : ∀ W, (Instr.index 9 (.string t) (.int .i64 0)).run Tryz.prog W = .ok (.int .u8 c) W := hidx0
  have hne : (c == 46) = false := by simpa using hc
  clear hst hd hc hidx0
  go_enter Tryz.func22, Tryz.ntmps22
  go_wp2
  clear hidx hne hlt0
  go_loopw [4, 5, 6, 7] (fun out n sm i wr => ArcAt t w out n sm i wr ∨ ∃ o, i = .int .i64 (t.size + 1 : Nat) ∧ OwnC 38 1 wr w.heap.size out o.length (by64 o) ∧ arcsGo (bytesOf t) [] 0 false = some o ∧ o.length ≤ t.size + 1 ∧ Below w.heap.size w wr) (fun _ _ _ i _ => t.size + 2 - (intOf i).toNat)
  case atStart =>
    refine .inl ⟨0, 0, false, [], rfl, rfl, rfl, Nat.zero_le _, by omega, rfl, ?_, by simp, (Below.refl _ _).alloc (Nat.le_refl _) _⟩
    exact own0 w
  case round =>
    rcases hrel with hrel | ⟨o, rfl, hO, hip, hol, hb⟩
    · obtain ⟨k, m, b, o, rfl, rfl, rfl, hk, hm, hip, hO, hol, hb⟩ := hrel
      obtain ⟨wo, rfl⟩ : ∃ wo : World, wo = wr := ⟨_, rfl⟩
      have HO := Lib.hid hO
      have HB := Lib.hid hb
      have HI := Lib.hid hip
      have HM := Lib.hid hm
      have HL := Lib.hid hol
      have HS := Lib.hid hsz
      clear hO hb hip hsz hm hol
      rcases hd : (bytesOf t).drop k with _ | ⟨c, r⟩
      · rw [hd] at HI
        obtain rfl := at_end t k hk hd
        have HI := Lib.hid (HI.out.trans (arcsGo_nil o m b))
        clear hd hk
        cases b with
        | false =>
          have HR := Lib.hid (arcRet_no (v := .slice none 0 0) (arcs_none HT.out (by rw [HI.out]; rfl)) HB.out)
          go_wp2
          go_ret2
          exact HR.out
        | true =>
          have hm32 := HM.out
          go_wp2_with (at_builtin; refine wpList_append64 elem71 _ rfl _ _ rfl w.heap.size _ o.length (by64 o) [.int .u64 m] wo.heap.size 1 rfl rfl (by exact HO.out.alloc _) rfl (by exact one64 wo m) (by simp [Value.oneCell']) (by have := HB.out.size; simp; omega) (by have := HL.out; have := HS.out; omega) ?_)
          intro v1 w1 hO1 hg _
          have HB1 : Hid (Below w.heap.size w w1) := (HB.out.alloc HB.out.size _).grown hg (by have := HB.out.size; simp; omega) (fun k e => (HO.out.lt e).1)
          have HO1 : Hid (OwnC 38 1 w1 w.heap.size v1 (o ++ [m]).length (by64 (o ++ [m]))) := by rw [by64_append, List.length_append]; exact hO1
          have hsz := HS.out
          clear hO1 hg
          go_wp2
          go_roundw
          case rel => exact .inr ⟨o ++ [m], by go_num, HO1.out, by rw [HI.out]; rfl, by have := HL.out; simp; omega, HB1.out⟩
          case measure => simp [intOf]
      · have hcr := drop_range t hd
        obtain ⟨hlt, hidx, hd1⟩ := at_char t k c r hd
        rw [hd] at HI
        have HI := Lib.hid (HI.out.trans (arcsGo_cons c r o m b))
        have HD := Lib.hid hd1
        clear hd hk hd1
        by_cases hc : c = 46
        · subst hc
          clear hcr
          cases b with
          | false =>
            have HR := Lib.hid (arcRet_no (v := .slice none 0 0) (arcs_none HT.out (by rw [HI.out]; rfl)) HB.out)
            go_wp2
            go_ret2
            exact HR.out
          | true =>
            have hm32 := HM.out
            go_wp2_with (at_builtin; refine wpList_append64 elem71 _ rfl _ _ rfl w.heap.size _ o.length (by64 o) [.int .u64 m] wo.heap.size 1 rfl rfl (by exact HO.out.alloc _) rfl (by exact one64 wo m) (by simp [Value.oneCell']) (by have := HB.out.size; simp; omega) (by have := HL.out; have := HS.out; omega) ?_)
            intro v1 w1 hO1 hg _
            have HB1 : Hid (Below w.heap.size w w1) := (HB.out.alloc HB.out.size _).grown hg (by have := HB.out.size; simp; omega) (fun k e => (HO.out.lt e).1)
            have HO1 : Hid (OwnC 38 1 w1 w.heap.size v1 (o ++ [m]).length (by64 (o ++ [m]))) := by rw [by64_append, List.length_append]; exact hO1
            have hsz := HS.out
            clear hO1 hg
            go_wp2
            go_roundw
            case rel =>
              refine .inl ⟨k + 1, 0, false, o ++ [m], by go_num, rfl, rfl, hlt, by omega, ?_, HO1.out, by have := HL.out; simp; omega, HB1.out⟩
              rw [HI.out, HD.out]
              simp
            case measure => simp [intOf]; omega
        · have hne : (c == 46) = false := by simpa using hc
          have HC := Lib.hid hc
          clear hc
          by_cases hbad : c < 48 ∨ 57 < c ∨ (b = true ∧ m = 0)
          · have HR := Lib.hid (arcRet_no (v := .slice none 0 0) (arcs_none HT.out (by rw [HI.out, if_neg HC.out, if_pos hbad])) HB.out)
            by_cases hb1 : c < 48
            · clear hbad
              go_wp2
              go_ret2
              exact HR.out
            by_cases hb2 : 57 < c
            · clear hbad
              go_wp2
              go_ret2
              exact HR.out
            obtain ⟨rfl, rfl⟩ : b = true ∧ m = 0 := by rcases hbad with h | h | h <;> first | omega | exact h
            clear hbad
            go_wp2
            go_ret2
            exact HR.out
          · have h48 : 48 ≤ c := by omega
            have h57 : c ≤ 57 := by omega
            have hbm : b = true → ¬ m = 0 := fun e1 e2 => hbad (.inr (.inr ⟨e1, e2⟩))
            have HJ := Lib.hid (HI.out.trans ((if_neg HC.out).trans (if_neg hbad)))
            obtain ⟨m2, hm2⟩ : ∃ m2 : Nat, m2 = 10 * m + (c - 48).toNat := ⟨_, rfl⟩
            have hmi : (m2 : Int) = 10 * m + (c - 48) := by omega
            have hwr : IntKind.u8.wrap (c - 48) = c - 48 := by rw [IntKind.wrap_u8]; omega
            rw [← hm2] at HJ
            have HM2 := Lib.hid hm2
            have HMI := Lib.hid hmi
            have HBM := Lib.hid hbm
            have hm32 := HM.out
            clear hbad hcr hm2 hmi hbm
            cases b with
            | false =>
              by_cases hbig : 4294967296 ≤ m2
              · have HR := Lib.hid (arcRet_no (v := .slice none 0 0) (arcs_none HT.out (by rw [HJ.out, if_pos hbig])) HB.out)
                have hgt : 4294967296 ≤ (10 * (m : Int) + (c - 48)) := by rw [← HMI.out]; omega
                clear hbig
                go_wp2
                go_ret2
                exact HR.out
              · have HK := Lib.hid (HJ.out.trans (if_neg hbig))
                have hle : (10 * (m : Int) + (c - 48)) < 4294967296 := by rw [← HMI.out]; omega
                have hsz := HS.out
                clear hbig
                go_wp2
                go_roundw
                case rel =>
                  exact .inl ⟨k + 1, m2, true, o, by go_num, by rw [HMI.out], rfl, hlt, by have := HMI.out; omega, by rw [HK.out, HD.out], HO.out, by have := HL.out; omega, HB.out⟩
                case measure => simp [intOf]; omega
            | true =>
              have hz : ((m : Int) == 0) = false := by have := HBM.out rfl; simp; omega
              by_cases hbig : 4294967296 ≤ m2
              · have HR := Lib.hid (arcRet_no (v := .slice none 0 0) (arcs_none HT.out (by rw [HJ.out, if_pos hbig])) HB.out)
                have hgt : 4294967296 ≤ (10 * (m : Int) + (c - 48)) := by rw [← HMI.out]; omega
                clear hbig
                go_wp2
                go_ret2
                exact HR.out
              · have HK := Lib.hid (HJ.out.trans (if_neg hbig))
                have hle : (10 * (m : Int) + (c - 48)) < 4294967296 := by rw [← HMI.out]; omega
                have hsz := HS.out
                clear hbig
                go_wp2
                go_roundw
                case rel =>
                  exact .inl ⟨k + 1, m2, true, o, by go_num, by rw [HMI.out], rfl, hlt, by have := HMI.out; omega, by rw [HK.out, HD.out], HO.out, by have := HL.out; omega, HB.out⟩
                case measure => simp [intOf]; omega
    · have hlen := hO.len71
      have hsmall := arcsGo_small hip
      by_cases h2 : o.length < 2
      · have HR := Lib.hid (arcRet_no (v := u4) (arcs_bad HT.out hip (fun h => by have := h.two; omega)) hb)
        clear hip hO hb hsmall
        go_wp2
        go_ret2
        exact HR.out
      obtain ⟨g, cap, rfl, hg1, hg2, hg3, hg4, hcell⟩ := hO.cell64 (by omega)
      obtain ⟨L, hL⟩ : ∃ L, L = o.length := ⟨_, rfl⟩
      rw [← hL] at h2 hol hg3 hO ⊢
      have HLL := Lib.hid hL
      by_cases h60 : 60 < L
      · have HR := Lib.hid (arcRet_no (v := .slice (some ⟨g, 0, none⟩) L cap) (arcs_bad HT.out hip (fun h => by have := h.sixty; omega)) hb)
        clear hip hO hb hsmall hcell hL hlen
        go_wp2
        go_ret2
        exact HR.out
      have c0 := hcell 0 (o.getD 0 0) (by rw [List.getElem?_eq_getElem (by omega)]; simp [List.getD, List.getElem?_eq_getElem (show 0 < o.length by omega)])
      have c1 := hcell 1 (o.getD 1 0) (by rw [List.getElem?_eq_getElem (by omega)]; simp [List.getD, List.getElem?_eq_getElem (show 1 < o.length by omega)])
      obtain ⟨a0, ha0⟩ : ∃ a0, a0 = o.getD 0 0 := ⟨_, rfl⟩
      obtain ⟨a1, ha1⟩ : ∃ a1, a1 = o.getD 1 0 := ⟨_, rfl⟩
      rw [← ha0] at c0
      rw [← ha1] at c1
      have HA0 := Lib.hid ha0
      have HA1 := Lib.hid ha1
      clear ha0 ha1
      by_cases hf : 2 < a0
      · have HR := Lib.hid (arcRet_no (v := .slice (some ⟨g, 0, none⟩) L cap) (arcs_bad HT.out hip (fun h => by have := h.first; rw [← HA0.out] at this; omega)) hb)
        clear hip hO hb hsmall hcell hL hlen
        go_wp2
        go_ret2
        exact HR.out
      by_cases hf2 : 40 ≤ a1
      · have HR := Lib.hid (arcRet_no (v := .slice (some ⟨g, 0, none⟩) L cap) (arcs_bad HT.out hip (fun h => by have := h.second; rw [← HA1.out] at this; omega)) hb)
        clear hip hO hb hsmall hcell hL hlen
        go_wp2
        go_ret2
        exact HR.out
      obtain ⟨wo, rfl⟩ : ∃ wo : World, wo = wr := ⟨_, rfl⟩
      have HN := Lib.hid (specName g L cap o wo hL (by omega) (by omega) hg3 hg4 hcell hsmall (by rw [← HA0.out]; omega) (by rw [← HA1.out]; omega))
      have HSM := Lib.hid hsmall
      have HIP := Lib.hid hip
      have HO := Lib.hid hO
      have HB := Lib.hid hb
      obtain ⟨M, hM⟩ : ∃ M, M = (nameB o).length := ⟨_, rfl⟩
      have hM3 : M ≤ 300 := by rw [hM]; exact nameB_len o hsmall (by omega)
      have HMM := Lib.hid hM
      clear hip hO hb hsmall hcell hL hM
      by_cases h100 : M ≤ 100
      · go_wp2_with (go_at_call 32; refine (HN.out).mono ?_; rintro e W2 ⟨v2, rfl, hO2, hb2⟩; have hlen2 := hO2.len M HMM.out.symm; refine Hid.out ?_)
        refine Lib.hid ?_
        have HR : Hid (ArcRet s w (.returned (.tuple #[.slice (some ⟨g, 0, none⟩) L cap, .bool true])) W2) := arcRet_yes (arcs_good HT.out HIP.out ⟨by have := HLL.out; omega, by have := HLL.out; omega, by rw [← HA0.out]; omega, by rw [← HA1.out]; omega, HSM.out, by rw [← HMM.out]; exact h100⟩) (by rw [← HLL.out]; exact HO.out.below hb2) (HB.out.trans (hb2.mono HB.out.size))
        have HE : Hid (decide ((M : Int) ≤ 100) = true) := decide_eq_true (by omega)
        clear hO2 hb2
        go_wp2
        go_ret2
        show ArcRet s w (.returned (.tuple #[.slice (some ⟨g, 0, none⟩) L cap, .bool (decide ((M : Int) ≤ 100))])) W2
        rw [HE.out]
        exact HR.out
      · go_wp2_with (go_at_call 32; refine (HN.out).mono ?_; rintro e W2 ⟨v2, rfl, hO2, hb2⟩; have hlen2 := hO2.len M HMM.out.symm; refine Hid.out ?_)
        refine Lib.hid ?_
        have HR : Hid (ArcRet s w (.returned (.tuple #[.slice (some ⟨g, 0, none⟩) L cap, .bool false])) W2) := arcRet_no (arcs_bad HT.out HIP.out (fun h => by have := h.bytes; rw [← HMM.out] at this; omega)) (HB.out.trans (hb2.mono HB.out.size))
        have HE : Hid (decide ((M : Int) ≤ 100) = false) := decide_eq_false (by omega)
        clear hO2 hb2
        go_wp2
        go_ret2
        show ArcRet s w (.returned (.tuple #[.slice (some ⟨g, 0, none⟩) L cap, .bool (decide ((M : Int) ≤ 100))])) W2
        rw [HE.out]
        exact HR.out
set_option maxHeartbeats 4000000 in
set_option maxRecDepth 100000 in
/-- Of nothing. -/
theorem arcs_empty (s t : ByteArray) (w : World) (hst : t = s) (hd : bytesOf t = []) : Calls Tryz.prog 22 #[.string t] w (ArcRet s w) := by
  have h0 : t.size = 0 := by have := congrArg List.length hd; rw [bytesOf_length] at this; simpa using this
  have hn : arcsOf (bytesOf s) = none := by rw [← hst, hd]; rfl
  have HN := Lib.hid hn
  clear hst hd hn
  go_enter Tryz.func22, Tryz.ntmps22
  go_wp2
  go_loopw [4, 5, 6, 7] (fun out n sm i wr => i = .int .i64 0 ∧ sm = .bool false ∧ Below w.heap.size w wr) (fun _ _ _ i _ => 0)
  case atStart => exact ⟨rfl, rfl, (Below.refl _ _).alloc (Nat.le_refl _) _⟩
  case round =>
    obtain ⟨rfl, rfl, hb⟩ := hrel
    have HB := Lib.hid hb
    clear hb
    go_wp2
    go_ret2
    exact arcRet_no HN.out HB.out
/-- spec.Arcs. -/
theorem specArcs (s : ByteArray) (w : World) (hsz : s.size ≤ 2147483647) : Calls Tryz.prog 22 #[.string s] w (ArcRet s w) := by
  cases hd : bytesOf s with
  | nil => exact arcs_empty s s w rfl hd
  | cons c r =>
    by_cases hc : c = 46
    · subst hc; exact arcs_bare s w hsz ⟨r, hd⟩
    · exact arcs_plain s s w rfl hsz c r hd hc
end Go.Proofs.YtpfmcdhmboclhaaGreatDoor
