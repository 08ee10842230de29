/- spec: a trap's bytes. -/
import Derived.Test.YtpfmcdhmboclhaaGreatDoorR2
import Derived.Test.YtpfmcdhmboclhaaGreatDoorT00
import Derived.Deep.RegionHeldLaw
set_option linter.unusedVariables false
set_option linter.unusedSimpArgs false
namespace Go.Proofs.YtpfmcdhmboclhaaGreatDoor
open Go.RowKit

theorem litRd (W : World) : Rd (W.alloc (.cells #[.int .u8 0] 5)) (.slice (some ⟨W.heap.size, 0, none⟩) 1 1) [0] := (Own.lit W W.heap.size [0] (Nat.le_refl _) (by simp [maxLen])).reads
theorem litRdD (W : World) : Rd (W.alloc (.cells #[.int .u8 0] 5)).drew (.slice (some ⟨W.heap.size, 0, none⟩) 1 1) [0] := litRd W
theorem litB (W : World) : Below W.heap.size W (W.alloc (.cells #[.int .u8 0] 5)) := (Below.refl _ _).alloc (Nat.le_refl _) _
theorem bwB {w W : World} (h : Below w.heap.size w W) (s : ByteArray) : Below w.heap.size w (Lib.bytesWorld W 5 s) := h.trans ((bytesWorld_below W s).mono h.size)

set_option maxHeartbeats 32000000 in
set_option maxRecDepth 100000 in
theorem trapBytes (w : World) (wd : Nat) (ver : Int) (com : ByteArray) (kind id st ix : Int) (ent agent : ByteArray) (gen spec : Int) (time : Nat) (A : Option Addr) (n c : Nat) (rs : List Raw) (l : List AV) (arcs : List Nat) (a b c' d : Nat) (hwd : wd ≤ 2) (hn : rs.length = n) (hn20 : n ≤ 20) (hrow : RawRow w A rs) (hwf : ∀ x ∈ rs, WfV x) (hfit : ∀ x ∈ rs, FitsV x) (havs : AVs rs l) (hok : ∀ x ∈ l, x.Ok) (hent : ent.size ≤ 2147483647) (hag : agent.size ≤ 2147483647) (hcom : com.size ≤ 127) (ha : arcsOf (bytesOf ent) = some arcs) (hip : ipOf (bytesOf agent) = some [a, b, c', d]) (hgen : -2147483648 ≤ gen ∧ gen ≤ 2147483647) (hspec : -2147483648 ≤ spec ∧ spec ≤ 2147483647) (htime : time < 4294967296) :
    Calls Tryz.prog 13 #[msgV ver com kind id st ix (.slice A n c) ent agent gen spec time, .int .i64 wd] w (fun e w' => ∃ v, e = .returned v ∧ Rd w' v (msgB 0 com (sealB 164 (trapHead arcs a b c' d gen spec time wd ++ sealB 48 (varsB l wd) wd) wd) wd) ∧ Below w.heap.size w w') := by
  have HG := Lib.hid (arcsOf_good ha)
  have hlen : l.length = n := by rw [havs.len, hn]
  obtain ⟨S6, hS6⟩ : ∃ S, S = sealB 6 (nameB arcs) wd := ⟨_, rfl⟩
  obtain ⟨S64, hS64⟩ : ∃ S, S = sealB 64 [(a : Int), (b : Int), (c' : Int), (d : Int)] wd := ⟨_, rfl⟩
  obtain ⟨S2g, hS2g⟩ : ∃ S, S = sealB 2 (intB gen) wd := ⟨_, rfl⟩
  obtain ⟨S2s, hS2s⟩ : ∃ S, S = sealB 2 (intB spec) wd := ⟨_, rfl⟩
  obtain ⟨S67, hS67⟩ : ∃ S, S = sealB 67 (uintB time) wd := ⟨_, rfl⟩
  obtain ⟨S48, hS48⟩ : ∃ S, S = sealB 48 (varsB l wd) wd := ⟨_, rfl⟩
  obtain ⟨P2, hP2⟩ : ∃ S, S = S6 ++ S64 := ⟨_, rfl⟩
  obtain ⟨P3, hP3⟩ : ∃ S, S = P2 ++ S2g := ⟨_, rfl⟩
  obtain ⟨P4, hP4⟩ : ∃ S, S = P3 ++ S2s := ⟨_, rfl⟩
  obtain ⟨P5, hP5⟩ : ∃ S, S = P4 ++ S67 := ⟨_, rfl⟩
  obtain ⟨BD, hBD⟩ : ∃ BD, BD = P5 ++ S48 := ⟨_, rfl⟩
  obtain ⟨S2v, hS2v⟩ : ∃ S, S = sealB 2 [0] wd := ⟨_, rfl⟩
  obtain ⟨S4, hS4⟩ : ∃ S, S = sealB 4 (bytesOf com) wd := ⟨_, rfl⟩
  obtain ⟨S164, hS164⟩ : ∃ S, S = sealB 164 BD wd := ⟨_, rfl⟩
  obtain ⟨Q1, hQ1⟩ : ∃ S, S = S2v ++ S4 := ⟨_, rfl⟩
  obtain ⟨ALL, hALL⟩ : ∃ S, S = Q1 ++ S164 := ⟨_, rfl⟩
  have hall : msgB 0 com (sealB 164 (trapHead arcs a b c' d gen spec time wd ++ sealB 48 (varsB l wd) wd) wd) wd = sealB 48 ALL wd := by
    rw [hALL, hQ1, hS164, hBD, hP5, hP4, hP3, hP2, hS6, hS64, hS2g, hS2s, hS67, hS48, hS2v, hS4]
    have hi0 : intB 0 = [0] := by rw [intB, dif_pos (by omega)]; rfl
    simp only [msgB, trapHead, hi0]
  rw [hall]
  have b0 := varsB_length l wd hwd hok
  have b48 := sealB_length 48 (varsB l wd) wd (by omega)
  have b67' := uintB_len8 time (by omega)
  have b67 := sealB_length 67 (uintB time) wd (by omega)
  have b2s' := intB_le spec hspec
  have b2s := sealB_length 2 (intB spec) wd (by omega)
  have b2g' := intB_le gen hgen
  have b2g := sealB_length 2 (intB gen) wd (by omega)
  have b64 := sealB_length 64 [(a : Int), (b : Int), (c' : Int), (d : Int)] wd (by simp)
  have b64' : [(a : Int), (b : Int), (c' : Int), (d : Int)].length = 4 := rfl
  have b6' := HG.out.bytes
  have b6 := sealB_length 6 (nameB arcs) wd (by omega)
  have b4' : (bytesOf com).length ≤ 127 := by rw [bytesOf_length]; exact hcom
  have b4 := sealB_length 4 (bytesOf com) wd (by omega)
  have b2v' : ([0] : List Int).length = 1 := rfl
  have b2v := sealB_length 2 [0] wd (by simp)
  rw [← hS48] at b48
  rw [← hS67] at b67
  rw [← hS2s] at b2s
  rw [← hS2g] at b2g
  rw [← hS64] at b64
  rw [← hS6] at b6
  rw [← hS4] at b4
  rw [← hS2v] at b2v
  have bBD : BD.length ≤ 12700 := by rw [hBD, hP5, hP4, hP3, hP2]; simp only [List.length_append]; omega
  have b164 := sealB_length 164 BD wd (by omega)
  rw [← hS164] at b164
  have bALL : ALL.length ≤ 13000 := by rw [hALL, hQ1]; simp only [List.length_append]; omega
  have C6 : Hid (∀ W v, Rd W v (nameB arcs) → Calls Tryz.prog 31 #[.int .i64 6, v, .int .i64 wd] W (RetO W S6)) := fun W v h => by rw [hS6]; exact specSealed 6 wd v _ W (by omega) h (by omega) hwd
  have C64 : Hid (∀ W v, Rd W v [(a : Int), (b : Int), (c' : Int), (d : Int)] → Calls Tryz.prog 31 #[.int .i64 64, v, .int .i64 wd] W (RetO W S64)) := fun W v h => by rw [hS64]; exact specSealed 64 wd v _ W (by omega) h (by omega) hwd
  have C2g : Hid (∀ W v, Rd W v (intB gen) → Calls Tryz.prog 31 #[.int .i64 2, v, .int .i64 wd] W (RetO W S2g)) := fun W v h => by rw [hS2g]; exact specSealed 2 wd v _ W (by omega) h (by omega) hwd
  have C2s : Hid (∀ W v, Rd W v (intB spec) → Calls Tryz.prog 31 #[.int .i64 2, v, .int .i64 wd] W (RetO W S2s)) := fun W v h => by rw [hS2s]; exact specSealed 2 wd v _ W (by omega) h (by omega) hwd
  have C67 : Hid (∀ W v, Rd W v (uintB time) → Calls Tryz.prog 31 #[.int .i64 67, v, .int .i64 wd] W (RetO W S67)) := fun W v h => by rw [hS67]; exact specSealed 67 wd v _ W (by omega) h (by omega) hwd
  have C48 : Hid (∀ W v, Rd W v (varsB l wd) → Calls Tryz.prog 31 #[.int .i64 48, v, .int .i64 wd] W (RetO W S48)) := fun W v h => by rw [hS48]; exact specSealed 48 wd v _ W (by omega) h (by omega) hwd
  have C2v : Hid (∀ W v, Rd W v [0] → Calls Tryz.prog 31 #[.int .i64 2, v, .int .i64 wd] W (RetO W S2v)) := fun W v h => by rw [hS2v]; exact specSealed 2 wd v _ W (by omega) h (by simp) hwd
  have C4 : Hid (∀ W v, Rd W v (bytesOf com) → Calls Tryz.prog 31 #[.int .i64 4, v, .int .i64 wd] W (RetO W S4)) := fun W v h => by rw [hS4]; exact specSealed 4 wd v _ W (by omega) h (by omega) hwd
  have C164 : Hid (∀ W v, Rd W v BD → Calls Tryz.prog 31 #[.int .i64 164, v, .int .i64 wd] W (RetO W S164)) := fun W v h => by rw [hS164]; exact specSealed 164 wd v _ W (by omega) h (by omega) hwd
  have CALL : Hid (∀ W v, Rd W v ALL → Calls Tryz.prog 31 #[.int .i64 48, v, .int .i64 wd] W (RetO W (sealB 48 ALL wd))) := fun W v h => specSealed 48 wd v _ W (by omega) h (by omega) hwd
  have N1 : Hid (S6.length + S64.length ≤ 1000000000000) := by unfold Hid; omega
  have N2 : Hid (P2.length + S2g.length ≤ 1000000000000) := by unfold Hid; rw [hP2]; simp only [List.length_append]; omega
  have N3 : Hid (P3.length + S2s.length ≤ 1000000000000) := by unfold Hid; rw [hP3, hP2]; simp only [List.length_append]; omega
  have N4 : Hid (P4.length + S67.length ≤ 1000000000000) := by unfold Hid; rw [hP4, hP3, hP2]; simp only [List.length_append]; omega
  have N5 : Hid (P5.length + S48.length ≤ 1000000000000) := by unfold Hid; rw [hP5, hP4, hP3, hP2]; simp only [List.length_append]; omega
  have N6 : Hid (S2v.length + S4.length ≤ 1000000000000) := by unfold Hid; omega
  have N7 : Hid (Q1.length + S164.length ≤ 1000000000000) := by unfold Hid; rw [hQ1]; simp only [List.length_append]; omega
  have HBD := Lib.hid hBD
  have HP2 := Lib.hid hP2
  have HP3 := Lib.hid hP3
  have HP4 := Lib.hid hP4
  have HP5 := Lib.hid hP5
  have HQ1 := Lib.hid hQ1
  have HALLE := Lib.hid hALL
  have HRG := Lib.hid hgen
  have HRS := Lib.hid hspec
  have HRT := Lib.hid htime
  have HCM := Lib.hid hcom
  have HAR := Lib.hid ha
  have HIPP := Lib.hid hip
  have HENT := Lib.hid hent
  have HAGT := Lib.hid hag
  have HN := Lib.hid hn
  have HLEN := Lib.hid hlen
  have HROW := Lib.hid hrow
  have HWF := Lib.hid hwf
  have HFIT := Lib.hid hfit
  have HAVS := Lib.hid havs
  have HWD := Lib.hid hwd
  have HOK := Lib.hid hok
  have HB0 : Hid (∀ k, k ≤ n → (varsB (l.take k) wd).length ≤ 12360) := fun k hk => by
    have h1 := varsB_length (l.take k) wd hwd (fun x hx => hok x (List.mem_of_mem_take hx))
    have h2 : (l.take k).length ≤ 20 := by rw [List.length_take]; omega
    omega
  clear hall b0 b48 b67 b67' b2s b2s' b2g b2g' b64 b64' b6 b6' b4 b4' b2v b2v' bBD b164 bALL hBD hP2 hP3 hP4 hP5 hQ1 hALL hS6 hS64 hS2g hS2s hS67 hS48 hS2v hS4 hS164 hgen hspec htime hcom ha hip hent hag hn hlen hrow hwf hfit havs hok hwd
  simp only [msgV]
  obtain ⟨W0, hW0⟩ : ∃ W0, W0 = (w.alloc (.cells #[.int .i64 ver, .string com, .int .i64 kind, .int .u32 id, .int .i64 st, .int .i64 ix, .slice A n c, .string ent, .string agent, .int .i64 gen, .int .i64 spec, .int .u64 time] 26)).alloc (.cells #[] 5) := ⟨_, rfl⟩
  have hb0 : Below w.heap.size w W0 := by rw [hW0]; exact ((Below.refl _ _).alloc (Nat.le_refl _) _).alloc (by simp) _
  have hm0 : W0.heap[w.heap.size]? = some (.cells #[.int .i64 ver, .string com, .int .i64 kind, .int .u32 id, .int .i64 st, .int .i64 ix, .slice A n c, .string ent, .string agent, .int .i64 gen, .int .i64 spec, .int .u64 time] 26 (0, 0)) := by rw [hW0, Below.heap_alloc _ _ _ (by simp)]; exact heap_alloc_new w _
  have hO0 : Own W0 (w.heap.size + 1) (.slice (some ⟨w.heap.size + 1, 0, none⟩) 0 0) [] := by
    rw [hW0]
    have h := Own.lit (w.alloc (.cells #[.int .i64 ver, .string com, .int .i64 kind, .int .u32 id, .int .i64 st, .int .i64 ix, .slice A n c, .string ent, .string agent, .int .i64 gen, .int .i64 spec, .int .u64 time] 26)) (w.heap.size + 1) [] (by simp) (by simp [maxLen])
    rwa [show (w.alloc (.cells #[.int .i64 ver, .string com, .int .i64 kind, .int .u32 id, .int .i64 st, .int .i64 ix, .slice A n c, .string ent, .string agent, .int .i64 gen, .int .i64 spec, .int .u64 time] 26)).heap.size = w.heap.size + 1 by simp] at h
  have HB1 := Lib.hid hb0
  have HM1 := Lib.hid hm0
  have HO1 := Lib.hid hO0
  go_enter Tryz.func13, Tryz.ntmps13
  go_wp2
  rw [← hW0]
  clear hW0 hb0 hm0 hO0
  go_loopw [5, 22] (fun s i wr => ∃ (k : Nat), i = .int .i64 k ∧ k ≤ n ∧ Own wr (w.heap.size + 1) s (varsB (l.take k) wd) ∧ Below w.heap.size w wr ∧ wr.heap[w.heap.size]? = some (.cells #[.int .i64 ver, .string com, .int .i64 kind, .int .u32 id, .int .i64 st, .int .i64 ix, .slice A n c, .string ent, .string agent, .int .i64 gen, .int .i64 spec, .int .u64 time] 26 (0, 0))) (fun _ i _ => n - (intOf i).toNat)
  case atStart => exact ⟨0, rfl, Nat.zero_le _, HO1.out, HB1.out, HM1.out⟩
  case round =>
    obtain ⟨k, rfl, hk, hown, hbel, hmb⟩ := hrel
    obtain ⟨wo, rfl⟩ : ∃ wo : World, wo = wr := ⟨_, rfl⟩
    obtain ⟨s, rfl⟩ : ∃ s : Value, s = u5 := ⟨_, rfl⟩
    clear HO1 HB1 HM1
    have HO1 := Lib.hid hown
    have HB1 := Lib.hid hbel
    have HM1 := Lib.hid hmb
    clear hown hbel hmb
    by_cases hkn : k < n
    · obtain ⟨x, hx⟩ : ∃ x, rs[k]? = some x := ⟨_, List.getElem?_eq_getElem (by rw [HN.out]; exact hkn)⟩
      obtain ⟨y, hy⟩ : ∃ y, l[k]? = some y := ⟨_, List.getElem?_eq_getElem (by rw [HLEN.out]; exact hkn)⟩
      obtain ⟨g, o, rfl, e0, e1, e2, e3, e4⟩ := HROW.out k x hx
      have e0 := cellB HB1.out e0
      have e1 := cellB HB1.out e1
      have e2 := cellB HB1.out e2
      have e3 := cellB HB1.out e3
      have e4 := cellB HB1.out e4
      obtain ⟨f1, f2⟩ := HFIT.out x (List.mem_of_getElem? hx)
      obtain ⟨wi, wu0, wu1⟩ := HWF.out x (List.mem_of_getElem? hx)
      obtain ⟨un, hun⟩ : ∃ un : Nat, x.u = (un : Int) := ⟨x.u.toNat, by omega⟩
      have hav : avOf x.name x.t x.i x.u x.text = some y := by rw [HAVS.out.each k x hx, hy]
      obtain ⟨ao, hao⟩ : ∃ ao, ao = some y := ⟨_, rfl⟩
      have HV : Hid (∀ W, Calls Tryz.prog 15 #[varV x.name x.t x.i x.u x.text, .int .i64 wd] W (RetVal W ao wd)) := fun W => by rw [hao, ← hav, hun]; exact specValue W x.name x.t x.i un x.text wd HWD.out wi (by omega) f1 f2
      obtain ⟨xn, hxn⟩ : ∃ xn, xn = x.name := ⟨_, rfl⟩
      obtain ⟨xt, hxt⟩ : ∃ xt, xt = x.t := ⟨_, rfl⟩
      obtain ⟨xi, hxi⟩ : ∃ xi, xi = x.i := ⟨_, rfl⟩
      obtain ⟨xu, hxu⟩ : ∃ xu, xu = x.u := ⟨_, rfl⟩
      obtain ⟨xx, hxx⟩ : ∃ xx, xx = x.text := ⟨_, rfl⟩
      rw [← hxn, ← hxt, ← hxi, ← hxu, ← hxx] at HV
      rw [← hxn] at e0
      rw [← hxt] at e1
      rw [← hxi] at e2
      rw [← hxu] at e3
      rw [← hxx] at e4
      unfold varV at HV
      have HLK : Hid (varsB (l.take (k + 1)) wd = varsB (l.take k) wd ++ varB y.arcs y.pay wd) := by
        unfold Hid
        rw [List.take_add_one, hy, Option.toList_some, varsB_snoc]
      obtain ⟨L1, hL1⟩ : ∃ L1, L1 = varsB (l.take k) wd := ⟨_, rfl⟩
      obtain ⟨L2, hL2⟩ : ∃ L2, L2 = varB y.arcs y.pay wd := ⟨_, rfl⟩
      have HLN : Hid (L1.length + L2.length ≤ 1000000000000) := by
        have h1 := HB0.out (k + 1) hkn
        rw [HLK.out, List.length_append] at h1
        unfold Hid
        rw [hL1, hL2]; omega
      rw [← hL1] at HO1
      have HL1 := Lib.hid hL1
      have HL2 := Lib.hid hL2
      have HAO := Lib.hid hao
      clear hx hxn hxt hxi hxu hxx f1 f2 wi wu0 wu1 hun hav hy hL1 hL2 hao
      go_wp2_with (go_at_call 15; refine (HV.out _).mono ?_; rintro e W2 ⟨v1, v2, s0, s1, s2, s3, s4, b, rfl, hbb, hyes, hb2⟩; rw [HAO.out] at hbb; obtain rfl : b = true := hbb; have HYE := Lib.hid hyes; clear hyes; refine Hid.out ?_)
      refine Lib.hid ?_
      have hba : Below wo.heap.size wo W2 := Below.trans ((Below.refl _ _).alloc (Nat.le_refl _) _) (hb2.mono (by simp))
      have HR2 : Hid (Rd W2 v1 L2) := by rw [HL2.out]; exact (HYE.out y HAO.out).1.reads
      have HB2 : Hid (Below w.heap.size w W2) := HB1.out.trans (hba.mono HB1.out.size)
      have HM2 := Lib.hid (heapB hba HM1.out)
      have HO2 := Lib.hid (HO1.out.keptBelow hba)
      clear HYE hb2 hba e0 e1 e2 e3 e4 HV HO1 HB1 HM1
      go_upto_region 6 with fail
      obtain ⟨W3, hW3⟩ : ∃ W3, W3 = W2.alloc (.cells #[.string s0, .int .i64 s1, .int .i64 s2, .int .u64 s3, .string s4] 40) := ⟨_, rfl⟩
      rw [← hW3]
      have hb3 : Below W2.heap.size W2 W3 := by rw [hW3]; exact (Below.refl _ _).alloc (Nat.le_refl _) _
      have HB3 : Hid (Below w.heap.size w W3) := HB2.out.trans (hb3.mono HB2.out.size)
      have HM3 := Lib.hid (heapB hb3 HM2.out)
      have HO3 := Lib.hid (HO2.out.keptBelow hb3)
      have HR3 := Lib.hid (HR2.out.keptBelow hb3)
      have hsz3 : w.heap.size + 1 ≤ W3.heap.size := Lib.lt_of_heap HM3.out
      clear hW3 hb3 HB2 HM2 HO2 HR2
      go_wp2_with (at_builtin; refine wpList_append8 _ rfl _ _ rfl (w.heap.size + 1) _ _ L1 L2 rfl rfl (by exact HO3.out) (by exact HR3.out) hsz3 (by exact HLN.out) ?_)
      intro v6 w6 hO6 hg6 _
      have HO6 : Hid (Own w6 (w.heap.size + 1) v6 (varsB (l.take (k + 1)) wd)) := by rw [HLK.out, ← HL1.out, ← HL2.out]; exact hO6
      have HB6 : Hid (Below w.heap.size w w6) := HB3.out.grown hg6 HB3.out.size (fun q e => by have := (HO3.out.lt e).1; omega)
      have HM6 := Lib.hid ((hg6.block w.heap.size (Lib.lt_of_heap HM3.out) (fun e => by have := (HO3.out.lt e.symm).1; omega)).trans HM3.out)
      clear hO6 hg6 HB3 HM3 HO3 HR3 hsz3
      go_wp2
      go_roundw
      case rel => exact ⟨k + 1, by go_num, hkn, HO6.out, HB6.out, HM6.out⟩
      case measure => simp [intOf]; omega
    · obtain rfl : k = n := by omega
      have HVO : Hid (Own wo (w.heap.size + 1) s (varsB l wd)) := by
        have h := HO1.out
        rw [List.take_of_length_le (by rw [HLEN.out]; exact Nat.le_refl _)] at h
        exact h
      obtain ⟨c0, c1, c2, c3, c4, c5, c6, c7, c8, c9, c10, c11⟩ := twelve HM1.out
      have HI := Lib.hid (specArcs ent wo HENT.out)
      go_wp2_with (go_at_call 22; refine (HI.out).mono ?_; rintro e W2 ⟨va, b2, rfl, hbb, hyes, hb2⟩; rw [HAR.out] at hbb; obtain rfl : b2 = true := hbb; refine Hid.out ?_)
      refine Lib.hid ?_
      have HA2 := Lib.hid (hyes arcs HAR.out)
      have HB2 : Hid (Below w.heap.size w W2) := HB1.out.trans (hb2.mono HB1.out.size)
      have HM2 := Lib.hid (heapB hb2 HM1.out)
      have HV2 := Lib.hid (HVO.out.reads.keptBelow hb2)
      clear c0 c1 c2 c3 c4 c5 c6 c7 c8 c9 c10 c11 hyes hb2 HI HB1 HM1 HVO HO1
      obtain ⟨c0, c1, c2, c3, c4, c5, c6, c7, c8, c9, c10, c11⟩ := twelve HM2.out
      have HI := Lib.hid (address agent W2 HAGT.out)
      go_wp2_with (go_at_call 23; refine (HI.out).mono ?_; rintro e Wb ⟨vag, b2, rfl, hbb, hyes, hb2⟩; rw [HIPP.out] at hbb; obtain rfl : b2 = true := hbb; refine Hid.out ?_)
      refine Lib.hid ?_
      have HAG : Hid (Rd Wb vag [(a : Int), (b : Int), (c' : Int), (d : Int)]) := (hyes [a, b, c', d] HIPP.out).reads
      have HB3 : Hid (Below w.heap.size w Wb) := HB2.out.trans (hb2.mono HB2.out.size)
      have HM3 := Lib.hid (heapB hb2 HM2.out)
      have HVV := Lib.hid (HV2.out.keptBelow hb2)
      have HA3 := Lib.hid (HA2.out.below hb2)
      clear c0 c1 c2 c3 c4 c5 c6 c7 c8 c9 c10 c11 hyes hb2 HI HB2 HM2 HV2 HA2
      obtain ⟨-, cb1, -, -, -, -, -, -, -, cb9, cb10, cb11⟩ := twelve HM3.out
      obtain ⟨g, cap, rfl, hg1, hg2, hg3, hg4, hcell⟩ := HA3.out.cell64 (by have := HG.out.two; omega)
      have HN : Hid (∀ W, Below Wb.heap.size Wb W → Calls Tryz.prog 32 #[.slice (some ⟨g, 0, none⟩) arcs.length cap] W (RetO W (nameB arcs))) := fun W hW => specName g arcs.length cap arcs W rfl HG.out.two HG.out.sixty hg3 hg4 (fun j x hx => cellB1 hW (hcell j x hx)) HG.out.small HG.out.first HG.out.second
      have HKWb : Hid (Below Wb.heap.size Wb Wb) := Below.refl _ _
      clear hg1 hg2 hg3 hg4 hcell HA3
      have HC := Lib.hid (HN.out Wb (Below.refl _ _))
      go_wp2_with (go_at_call 32; refine (HC.out).mono ?_; rintro e Y1 ⟨t1, rfl, hO, hb⟩; refine Hid.out ?_)
      refine Lib.hid ?_
      have HKY1 : Hid (Below Wb.heap.size Wb Y1) := HKWb.out.trans (hb.mono HKWb.out.size)
      have HT := Lib.hid hO.reads
      clear hO hb HC HKWb
      have HC := Lib.hid (C6.out Y1 _ HT.out)
      go_wp2_with (go_at_call 31; refine (HC.out).mono ?_; rintro e Y2 ⟨vb0, rfl, hO, hb⟩; refine Hid.out ?_)
      refine Lib.hid ?_
      have HKY2 : Hid (Below Wb.heap.size Wb Y2) := HKY1.out.trans (hb.mono HKY1.out.size)
      have HOB := Lib.hid (hO.base HKY1.out.size)
      clear HT
      clear hO hb HC HKY1
      have HC := Lib.hid (C64.out Y2 _ (HAG.out.keptBelow HKY2.out))
      go_wp2_with (go_at_call 31; refine (HC.out).mono ?_; rintro e Y3 ⟨t3, rfl, hO, hb⟩; refine Hid.out ?_)
      refine Lib.hid ?_
      have HKY3 : Hid (Below Wb.heap.size Wb Y3) := HKY2.out.trans (hb.mono HKY2.out.size)
      replace HOB := Lib.hid (HOB.out.keptBelow hb)
      have HT := Lib.hid hO.reads
      clear hO hb HC HKY2
      go_wp2_with (at_builtin; refine wpList_append8 _ rfl _ _ rfl Wb.heap.size _ _ S6 S64 rfl rfl (by exact HOB.out) (by exact HT.out) (by exact HKY3.out.size) (by exact N1.out) ?_)
      intro vb1 Y4 hO hg _
      have HKY4 : Hid (Below Wb.heap.size Wb Y4) := HKY3.out.grown hg HKY3.out.size (fun q e => (HOB.out.lt e).1)
      replace HOB : Hid (Own Y4 Wb.heap.size vb1 P2) := by rw [HP2.out]; exact hO
      clear hO hg HT HKY3
      have cc : Y4.cell? ⟨w.heap.size, 9, none⟩ = some (.int .i64 gen) := cellB HKY4.out cb9
      have HC := Lib.hid (specInt gen Y4 (by have := HRG.out; omega))
      go_wp2_with (go_at_call 33; refine (HC.out).mono ?_; rintro e Y5 ⟨t5, rfl, hO, hb⟩; refine Hid.out ?_)
      refine Lib.hid ?_
      have HKY5 : Hid (Below Wb.heap.size Wb Y5) := HKY4.out.trans (hb.mono HKY4.out.size)
      replace HOB := Lib.hid (HOB.out.keptBelow hb)
      have HT := Lib.hid hO.reads
      clear hO hb HC HKY4
      clear cc
      have HC := Lib.hid (C2g.out Y5 _ HT.out)
      go_wp2_with (go_at_call 31; refine (HC.out).mono ?_; rintro e Y6 ⟨t6, rfl, hO, hb⟩; refine Hid.out ?_)
      refine Lib.hid ?_
      have HKY6 : Hid (Below Wb.heap.size Wb Y6) := HKY5.out.trans (hb.mono HKY5.out.size)
      replace HOB := Lib.hid (HOB.out.keptBelow hb)
      have HT := Lib.hid hO.reads
      clear hO hb HC HKY5
      go_wp2_with (at_builtin; refine wpList_append8 _ rfl _ _ rfl Wb.heap.size _ _ P2 S2g rfl rfl (by exact HOB.out) (by exact HT.out) (by exact HKY6.out.size) (by exact N2.out) ?_)
      intro vb7 Y7 hO hg _
      have HKY7 : Hid (Below Wb.heap.size Wb Y7) := HKY6.out.grown hg HKY6.out.size (fun q e => (HOB.out.lt e).1)
      replace HOB : Hid (Own Y7 Wb.heap.size vb7 P3) := by rw [HP3.out]; exact hO
      clear hO hg HT HKY6
      have cc : Y7.cell? ⟨w.heap.size, 10, none⟩ = some (.int .i64 spec) := cellB HKY7.out cb10
      have HC := Lib.hid (specInt spec Y7 (by have := HRS.out; omega))
      go_wp2_with (go_at_call 33; refine (HC.out).mono ?_; rintro e Y8 ⟨t8, rfl, hO, hb⟩; refine Hid.out ?_)
      refine Lib.hid ?_
      have HKY8 : Hid (Below Wb.heap.size Wb Y8) := HKY7.out.trans (hb.mono HKY7.out.size)
      replace HOB := Lib.hid (HOB.out.keptBelow hb)
      have HT := Lib.hid hO.reads
      clear hO hb HC HKY7
      clear cc
      have HC := Lib.hid (C2s.out Y8 _ HT.out)
      go_wp2_with (go_at_call 31; refine (HC.out).mono ?_; rintro e Y9 ⟨t9, rfl, hO, hb⟩; refine Hid.out ?_)
      refine Lib.hid ?_
      have HKY9 : Hid (Below Wb.heap.size Wb Y9) := HKY8.out.trans (hb.mono HKY8.out.size)
      replace HOB := Lib.hid (HOB.out.keptBelow hb)
      have HT := Lib.hid hO.reads
      clear hO hb HC HKY8
      go_wp2_with (at_builtin; refine wpList_append8 _ rfl _ _ rfl Wb.heap.size _ _ P3 S2s rfl rfl (by exact HOB.out) (by exact HT.out) (by exact HKY9.out.size) (by exact N3.out) ?_)
      intro vb10 Y10 hO hg _
      have HKY10 : Hid (Below Wb.heap.size Wb Y10) := HKY9.out.grown hg HKY9.out.size (fun q e => (HOB.out.lt e).1)
      replace HOB : Hid (Own Y10 Wb.heap.size vb10 P4) := by rw [HP4.out]; exact hO
      clear hO hg HT HKY9
      have cc : Y10.cell? ⟨w.heap.size, 11, none⟩ = some (.int .u64 time) := cellB HKY10.out cb11
      have HC := Lib.hid (specUint time Y10 (by have := HRT.out; omega))
      go_wp2_with (go_at_call 34; refine (HC.out).mono ?_; rintro e Y11 ⟨t11, rfl, hO, hb⟩; refine Hid.out ?_)
      refine Lib.hid ?_
      have HKY11 : Hid (Below Wb.heap.size Wb Y11) := HKY10.out.trans (hb.mono HKY10.out.size)
      replace HOB := Lib.hid (HOB.out.keptBelow hb)
      have HT := Lib.hid hO.reads
      clear hO hb HC HKY10
      clear cc
      have HC := Lib.hid (C67.out Y11 _ HT.out)
      go_wp2_with (go_at_call 31; refine (HC.out).mono ?_; rintro e Y12 ⟨t12, rfl, hO, hb⟩; refine Hid.out ?_)
      refine Lib.hid ?_
      have HKY12 : Hid (Below Wb.heap.size Wb Y12) := HKY11.out.trans (hb.mono HKY11.out.size)
      replace HOB := Lib.hid (HOB.out.keptBelow hb)
      have HT := Lib.hid hO.reads
      clear hO hb HC HKY11
      go_wp2_with (at_builtin; refine wpList_append8 _ rfl _ _ rfl Wb.heap.size _ _ P4 S67 rfl rfl (by exact HOB.out) (by exact HT.out) (by exact HKY12.out.size) (by exact N4.out) ?_)
      intro vb13 Y13 hO hg _
      have HKY13 : Hid (Below Wb.heap.size Wb Y13) := HKY12.out.grown hg HKY12.out.size (fun q e => (HOB.out.lt e).1)
      replace HOB : Hid (Own Y13 Wb.heap.size vb13 P5) := by rw [HP5.out]; exact hO
      clear hO hg HT HKY12
      have HC := Lib.hid (C48.out Y13 _ (HVV.out.keptBelow HKY13.out))
      go_wp2_with (go_at_call 31; refine (HC.out).mono ?_; rintro e Y14 ⟨t14, rfl, hO, hb⟩; refine Hid.out ?_)
      refine Lib.hid ?_
      have HKY14 : Hid (Below Wb.heap.size Wb Y14) := HKY13.out.trans (hb.mono HKY13.out.size)
      replace HOB := Lib.hid (HOB.out.keptBelow hb)
      have HT := Lib.hid hO.reads
      clear hO hb HC HKY13
      go_wp2_with (at_builtin; refine wpList_append8 _ rfl _ _ rfl Wb.heap.size _ _ P5 S48 rfl rfl (by exact HOB.out) (by exact HT.out) (by exact HKY14.out.size) (by exact N5.out) ?_)
      intro vb Y hO hg _
      have HKY : Hid (Below Wb.heap.size Wb Y) := HKY14.out.grown hg HKY14.out.size (fun q e => (HOB.out.lt e).1)
      replace HOB : Hid (Own Y Wb.heap.size vb BD) := by rw [HBD.out]; exact hO
      clear hO hg HT HKY14
      have HBD9 := HOB
      have cY : Y.cell? ⟨w.heap.size, 1, none⟩ = some (.string com) := cellB HKY.out cb1
      have hcv : ∀ W, (convert 9 30 (.string com)).run Tryz.prog W = .ok (.slice (some ⟨W.heap.size, 0, none⟩) com.size (grownCap W com.size 0 5)) (Lib.bytesWorld W 5 com) := fun W => conv_bytes W com
      have kd : Below Y.heap.size Y Y.drew := (Below.refl _ _).drew
      have k3 : Below Y.heap.size Y (Y.alloc (.cells #[.int .u8 0] 5)).drew := wA
      have kb : Below Y.heap.size Y (Lib.bytesWorld Y.drew 5 com) := bwB kd com
      have k1 : Below Y.heap.size Y ((Lib.bytesWorld Y.drew 5 com).alloc (.cells #[.int .u8 0] 5)) := kb.alloc kb.size _
      have k2 : Below Y.heap.size Y (Lib.bytesWorld (Y.alloc (.cells #[.int .u8 0] 5)).drew 5 com) := bwB k3 com
      have HBR : Hid (∀ W, Rd (Lib.bytesWorld W 5 com) (.slice (some ⟨W.heap.size, 0, none⟩) com.size (grownCap W com.size 0 5)) (bytesOf com)) := fun W => rd_bytes W com (by have := HCM.out; unfold maxLen; omega)
      have hbr2 : Rd (Lib.bytesWorld (Y.alloc (.cells #[.int .u8 0] 5)).drew 5 com) (.slice (some ⟨Y.heap.size + 1, 0, none⟩) com.size (grownCap (Y.alloc (.cells #[.int .u8 0] 5)).drew com.size 0 5)) (bytesOf com) := by
        have h := HBR.out (Y.alloc (.cells #[.int .u8 0] 5)).drew
        rwa [show ((Y.alloc (.cells #[.int .u8 0] 5)).drew).heap.size = Y.heap.size + 1 by simp] at h
      have hlr1 : Rd ((Lib.bytesWorld Y.drew 5 com).alloc (.cells #[.int .u8 0] 5)) (.slice (some ⟨Y.heap.size + 1, 0, none⟩) 1 1) [0] := by
        have h := litRd (Lib.bytesWorld Y.drew 5 com)
        rwa [show (Lib.bytesWorld Y.drew 5 com).heap.size = Y.heap.size + 1 by rw [Lib.bytesWorld_size]; rfl] at h
      have HBR2 := Lib.hid hbr2
      have HBR1 : Hid (Rd (Lib.bytesWorld Y.drew 5 com) (.slice (some ⟨Y.heap.size, 0, none⟩) com.size (grownCap Y.drew com.size 0 5)) (bytesOf com)) := HBR.out Y.drew
      have HLR1 := Lib.hid hlr1
      clear hbr2 hlr1
      clear HOB cb1 cb9 cb10 cb11 HN HAG HVV
      go_upto_region 15 with fail
      go_region_held_law (fun W => W.cell? ⟨w.heap.size, 1, none⟩ = some (.string com)) (first | with_reducible exact cY | with_reducible exact cellB kd cY | with_reducible exact cellB k3 cY | with_reducible exact cellB kb cY | with_reducible exact cellB k1 cY | with_reducible exact cellB k2 cY | with_reducible exact cellB hcur cY | with_reducible exact cellB (bwB hcur com) cY) (first | (go_at_call 31; with_reducible refine (C2v.out _ _ ?hh).mono ?_; (case hh => first | with_reducible exact litRdD _ | with_reducible exact (litRdD _).keptBelow (bytesWorld_below _ _) | with_reducible exact litRd _ | with_reducible exact HLR1.out); intro e Z1 hret; unfold RetO at hret; obtain ⟨x1, he, hown1, hb1⟩ := hret; subst he; have hcur : Below Y.heap.size Y Z1 := by { first | with_reducible exact k1.trans (hb1.mono k1.size) | with_reducible exact k2.trans (hb1.mono k2.size) | with_reducible exact k3.trans (hb1.mono k3.size) }; have hw1 : Own Z1 Y.heap.size x1 S2v := by { first | with_reducible exact hown1.base k1.size | with_reducible exact hown1.base k2.size | with_reducible exact hown1.base k3.size }) | (go_at_call 31; with_reducible refine (C4.out _ _ ?hh).mono ?_; (case hh => first | with_reducible exact HBR.out _ | with_reducible exact HBR2.out.keptBelow hb1 | with_reducible exact (HBR1.out.keptBelow (litB _)).keptBelow hb1 | with_reducible exact (HBR.out _).keptBelow hb1 | with_reducible exact ((HBR.out _).keptBelow (litB _)).keptBelow hb1); intro e Z2 hret; unfold RetO at hret; obtain ⟨x2, he, hown2, hb2⟩ := hret; subst he; first | (with_reducible replace hw1 := hw1.keptBelow hb2; with_reducible replace hcur := hcur.trans (hb2.mono hcur.size)) | (with_reducible replace hw1 := (hw1.keptBelow (bytesWorld_below _ com)).keptBelow hb2; with_reducible replace hcur := (bwB hcur com).trans (hb2.mono (bwB hcur com).size))) | (refine step_append8 rfl (.tmp 86) (.tmp 91) rfl Y.heap.size _ _ S2v S4 rfl rfl (by exact hw1) (by exact hown2.reads) (by exact hcur.size) (by exact N6.out) ?_; rintro x3 Z3 hown3 hg3; replace hcur := hcur.grown hg3 hcur.size (fun k e => (hw1.lt e).1)))
      all_goals
        have HK3 := Lib.hid hcur
        have HT := Lib.hid (HBD9.out.reads.keptBelow hcur)
        have HOB : Hid (Own Z3 Y.heap.size x3 Q1) := by rw [HQ1.out]; exact hown3
        clear hcur hw1 hown1 hown2 hown3 hb1 hb2 hg3 cY hcv kd k3 kb k1 k2 HBR HBR1 HBR2 HLR1 C2v C4 HBD9
        have HC := Lib.hid (C164.out Z3 _ HT.out)
        go_wp2_with (go_at_call 31; refine (HC.out).mono ?_; rintro e Z4 ⟨t4, rfl, hO, hb⟩; refine Hid.out ?_)
        refine Lib.hid ?_
        have HK4 : Hid (Below Y.heap.size Y Z4) := HK3.out.trans (hb.mono HK3.out.size)
        replace HOB := Lib.hid (HOB.out.keptBelow hb)
        have HT4 := Lib.hid hO.reads
        clear hO hb HC HK3 HT
        go_wp2_with (at_builtin; refine wpList_append8 _ rfl _ _ rfl Y.heap.size _ _ Q1 S164 rfl rfl (by exact HOB.out) (by exact HT4.out) (by exact HK4.out.size) (by exact N7.out) ?_)
        intro x5 Z5 hO hg _
        have HK5 : Hid (Below Y.heap.size Y Z5) := HK4.out.grown hg HK4.out.size (fun q e => (HOB.out.lt e).1)
        have HT5 : Hid (Rd Z5 x5 ALL) := by rw [HALLE.out]; exact hO.reads
        clear hO hg HT4 HK4 HOB
        have HC := Lib.hid (CALL.out Z5 _ HT5.out)
        go_wp2_with (go_at_call 31; refine (HC.out).mono ?_; rintro e Z6 ⟨x6, rfl, hO, hb⟩; refine Hid.out ?_)
        refine Lib.hid ?_
        have HRES : Hid (Rd Z6 x6 (sealB 48 ALL wd)) := hO.reads
        have HK6 : Hid (Below w.heap.size w Z6) := HB3.out.trans ((HKY.out.trans ((HK5.out.trans (hb.mono HK5.out.size)).mono HKY.out.size)).mono HB3.out.size)
        clear hO hb HC HK5 HT5
        go_wp2
        go_ret
        exact ⟨x6, rfl, HRES.out, HK6.out⟩
end Go.Proofs.YtpfmcdhmboclhaaGreatDoor
