/- spec: a variable's bytes and what is told of it. laws: what fits. spec: a message as it is told. spec: a message as it is told, where it is one of those that are asked. laws: two messages that are the same. laws: a message there and back. laws: FnAgain and FnBack, walked. -/
import Derived.Laws.StructEq
import Derived.Test.YtpfmcdhmboclhaaGreatDoorG19
import Derived.Test.YtpfmcdhmboclhaaGreatDoorG29
import Derived.Test.YtpfmcdhmboclhaaGreatDoorG30
set_option linter.unusedVariables false
set_option linter.unusedSimpArgs false
namespace Go.Proofs.YtpfmcdhmboclhaaGreatDoor
open Go.RowKit
set_option maxHeartbeats 16000000 in
set_option maxRecDepth 100000 in
theorem value_ok (w : World) (name : ByteArray) (t i : Int) (u : Nat) (text : ByteArray) (wd : Nat) (hi : -9223372036854775808 ≤ i ∧ i ≤ 9223372036854775807) (hu : u < 18446744073709551616) (hs : name.size ≤ 2147483647) (ht : text.size ≤ 2147483647) (arcs : List Nat) (p : Pay) (hwd : wd ≤ 2) (ha : arcsOf (bytesOf name) = some arcs) (hp : payOf t i u text = some p) (h5 : text.size ≤ 500) (h10 : name.size ≤ 1000) :
    Calls Tryz.prog 15 #[varV name t i u text, .int .i64 wd] w (RetVal w (avOf name t i u text) wd) := by
  simp only [varV]
  obtain ⟨W1, hW1⟩ : ∃ W1, W1 = (w.alloc (.cells #[.string name, .int .i64 t, .int .i64 i, .int .u64 u, .string text] 40)).alloc (.cells #[.string ⟨#[]⟩, .int .i64 0, .int .i64 0, .int .u64 0, .string ⟨#[]⟩] 40) := ⟨_, rfl⟩
  have hb1 : Below w.heap.size w W1 := by rw [hW1]; exact ((Below.refl _ _).alloc (Nat.le_refl _) _).alloc (by simp) _
  have h1 : W1.heap[w.heap.size]? = some (.cells #[.string name, .int .i64 t, .int .i64 i, .int .u64 u, .string text] 40 (0, 0)) := by rw [hW1, Below.heap_alloc _ _ _ (by simp)]; exact heap_alloc_new w _
  have hz1 : W1.heap[w.heap.size + 1]? = some (.cells #[.string ⟨#[]⟩, .int .i64 0, .int .i64 0, .int .u64 0, .string ⟨#[]⟩] 40 (0, 0)) := by
    rw [hW1]
    have hh := heap_alloc_new (w.alloc (.cells #[.string name, .int .i64 t, .int .i64 i, .int .u64 u, .string text] 40)) (.cells #[.string ⟨#[]⟩, .int .i64 0, .int .i64 0, .int .u64 0, .string ⟨#[]⟩] 40)
    rwa [show (w.alloc (.cells #[.string name, .int .i64 t, .int .i64 i, .int .u64 u, .string text] 40)).heap.size = w.heap.size + 1 by simp] at hh
  have HI := Lib.hid (specArcs name W1 hs)
  have HC : Hid (∀ W, Calls Tryz.prog 36 #[varV name t i u text] W (RetC W (payOf t i u text))) := fun W => specContent W name t i u text hi hu ht
  unfold varV at HC
  have HB1 := Lib.hid hb1
  have HW1 := Lib.hid hW1
  have H1 := Lib.hid h1
  have HZ1 := Lib.hid hz1
  have hsz1 := hs
  have htz1 := ht
  have hu0 := hu
  clear hb1 hW1 h1 hz1 hs ht hi hu
  have HA := Lib.hid ha
  have HP := Lib.hid hp
  have hp2 := hp
  obtain ⟨tag, htag, htag256⟩ : ∃ tag : Nat, t = (tag : Int) ∧ tag < 256 := payOf_tag hp
  subst htag
  clear ha hp hp2
  go_enter Tryz.func15, Tryz.ntmps15
  go_wp2_with (go_at_call 22; rw [← HW1.out]; refine (HI.out).mono ?_; rintro e W2 ⟨v2, b2, rfl, hbb, hyes, hb2⟩; rw [HA.out] at hbb; obtain rfl : b2 = true := hbb; refine Hid.out ?_)
  refine Lib.hid ?_
  have HB2 : Hid (Below w.heap.size w W2) := HB1.out.trans (hb2.mono HB1.out.size)
  have H2 := Lib.hid ((hb2.block _ (Lib.lt_of_heap H1.out)).trans H1.out)
  have HZ2 := Lib.hid ((hb2.block _ (Lib.lt_of_heap HZ1.out)).trans HZ1.out)
  obtain ⟨c0, c1, c2, c3, c4⟩ := fiveC H2.out
  have HC2 := Lib.hid (HC.out W2)
  have HY2 := Lib.hid hyes
  clear hb2 hyes HI HC
  go_wp2_with (go_at_call 36; refine (HC2.out).mono ?_; rintro e W3 ⟨v3, b3, rfl, hbb, hyes, hb3⟩; rw [HP.out] at hbb; obtain rfl : b3 = true := hbb; refine Hid.out ?_)
  refine Lib.hid ?_
  have HB3 : Hid (Below w.heap.size w W3) := HB2.out.trans (hb3.mono HB2.out.size)
  have HB23 := Lib.hid hb3
  have H3 := Lib.hid ((hb3.block _ (Lib.lt_of_heap H2.out)).trans H2.out)
  have HZ3 := Lib.hid ((hb3.block _ (Lib.lt_of_heap HZ2.out)).trans HZ2.out)
  have HY3 := Lib.hid hyes
  clear hb3 hyes c0 c1 c2 c3 c4
  obtain ⟨c0, c1, c2, c3, c4⟩ := fiveC H3.out
  have hg := arcsOf_good HA.out
  have hR3 := HY3.out p HP.out
  have hcl : p.con.length ≤ 500 := Pay.con_len (payOf_ok hu0 htz1 HP.out)
  have HT := Lib.hid (specSealed tag wd v3 p.con W3 htag256 hR3 (by omega) hwd)
  have hO2 := HY2.out arcs HA.out
  have HO3 := Lib.hid (hO2.below HB23.out)
  clear HY2 HY3 hR3 hO2
  go_wp2_with (go_at_call 31; refine (HT.out).mono ?_; rintro e W4 ⟨v4, rfl, hO4, hb4⟩; refine Hid.out ?_)
  refine Lib.hid ?_
  have HB4 : Hid (Below w.heap.size w W4) := HB3.out.trans (hb4.mono HB3.out.size)
  have H4 := Lib.hid ((hb4.block _ (Lib.lt_of_heap H3.out)).trans H3.out)
  have HZ4 := Lib.hid ((hb4.block _ (Lib.lt_of_heap HZ3.out)).trans HZ3.out)
  have HO4 := Lib.hid (HO3.out.below hb4)
  have HS4 := Lib.hid hO4.reads
  clear hb4 hO4 HT HO3 c0 c1 c2 c3 c4
  obtain ⟨g, cap, rfl, hg1, hg2, hg3, hg4, hcell⟩ := HO4.out.cell64 (by have := hg.two; omega)
  have HN : Hid (∀ W, Below W4.heap.size W4 W → Calls Tryz.prog 32 #[.slice (some ⟨g, 0, none⟩) arcs.length cap] W (RetO W (nameB arcs))) := fun W hW => specName g arcs.length cap arcs W rfl hg.two hg.sixty hg3 hg4 (fun j x hx => cellB1 hW (hcell j x hx)) hg.small hg.first hg.second
  have HS6 : Hid (∀ W v, Rd W v (nameB arcs) → Calls Tryz.prog 31 #[.int .i64 6, v, .int .i64 wd] W (RetO W (sealB 6 (nameB arcs) wd))) := fun W v hv => specSealed 6 wd v (nameB arcs) W (by omega) hv (by have := hg.bytes; omega) hwd
  obtain ⟨LL, hLL⟩ : ∃ LL, LL = sealB 6 (nameB arcs) wd ++ sealB tag p.con wd := ⟨_, rfl⟩
  have hll : LL.length < 65536 := by
    rw [hLL, List.length_append]
    have h1 := sealB_length 6 (nameB arcs) wd (by have := hg.bytes; omega)
    have h2 := sealB_length tag p.con wd (by omega)
    have := hg.bytes
    omega
  have hap : (sealB 6 (nameB arcs) wd).length + (sealB tag p.con wd).length ≤ 1000000000000 := by
    have := congrArg List.length hLL
    rw [List.length_append] at this
    omega
  have HLL := Lib.hid hLL
  have HS48 : Hid (∀ W v, Rd W v LL → Calls Tryz.prog 31 #[.int .i64 48, v, .int .i64 wd] W (RetO W (sealB 48 LL wd))) := fun W v hv => specSealed 48 wd v LL W (by omega) hv hll hwd
  have HPL : Hid (∀ W, Calls Tryz.prog 37 #[varV name tag i u text] W fun e w' => e = .returned (toldV (dot arcs) p) ∧ Below W.heap.size W w') := fun W => specPlain W name tag i u text arcs p hsz1 htz1 HA.out HP.out
  obtain ⟨s0, s1, s2, s3, s4, hsv⟩ : ∃ s0 s1 s2 s3 s4, toldV (dot arcs) p = .agg #[.string s0, .int .i64 s1, .int .i64 s2, .int .u64 s3, .string s4] := ⟨_, _, _, _, _, rfl⟩
  rw [hsv] at HPL
  unfold varV at HPL
  have HSV := Lib.hid hsv
  have hcur : Below W4.heap.size W4 W4.drew := (Below.refl _ _).drew
  have HL4 := Lib.hid (Lib.lt_of_heap H4.out)
  have HLZ := Lib.hid (Lib.lt_of_heap HZ4.out)
  have hrq : w.heap.size + 1 ≠ w.heap.size := by omega
  obtain ⟨q0, q1, q2, q3, q4, qf⟩ := five40 ((hcur.block _ HLZ.out).trans HZ4.out)
  clear hg hsv hLL hg1 hg2 hg3 hg4 hcell htag256 hcl hll HC2 HB23
  have HAP := Lib.hid hap
  clear hap
  go_upto_region 6 with fail
  go_region_held3 (fun W => W.cell? ⟨w.heap.size, 0, none⟩ = some (.string name) ∧ W.cell? ⟨w.heap.size, 1, none⟩ = some (.int .i64 tag) ∧ W.cell? ⟨w.heap.size, 2, none⟩ = some (.int .i64 i) ∧ W.cell? ⟨w.heap.size, 3, none⟩ = some (.int .u64 u) ∧ W.cell? ⟨w.heap.size, 4, none⟩ = some (.string text)) (first | with_reducible exact fiveC ((hcur.block _ HL4.out).trans H4.out) | with_reducible exact fiveS hrq ((hcur.block _ HL4.out).trans H4.out)) (first | (go_at_call 32; refine (HN.out _ ?hh).mono ?_; (case hh => with_reducible exact hcur); rintro e Wn ⟨vn, rfl, hown, hb⟩; replace hown := hown.base hcur.size; replace hcur := hcur.trans (hb.mono hcur.size); clear hb q0 q1 q2 q3 q4 qf; obtain ⟨q0, q1, q2, q3, q4, qf⟩ := five40 ((hcur.block _ HLZ.out).trans HZ4.out)) | (go_at_call 37; refine (HPL.out _).mono ?_; rintro e Wn ⟨rfl, hb⟩; (try replace hown := hown.keptBelow hb); replace hcur := hcur.trans (hb.mono hcur.size); clear hb q0 q1 q2 q3 q4 qf; obtain ⟨q0, q1, q2, q3, q4, qf⟩ := five40 ((hcur.block _ HLZ.out).trans HZ4.out)) | (go_at_call 31; (with_reducible have hx := HS6.out _ _ hown.reads); refine hx.mono ?_; clear hx; rintro e Wn ⟨vn, rfl, hown', hb⟩; replace hown := hown'.base hcur.size; replace hcur := hcur.trans (hb.mono hcur.size); clear hown' hb q0 q1 q2 q3 q4 qf; obtain ⟨q0, q1, q2, q3, q4, qf⟩ := five40 ((hcur.block _ HLZ.out).trans HZ4.out)) | (go_at_call 31; (with_reducible have hx := HS48.out _ _ hown.reads); refine hx.mono ?_; clear hx; rintro e Wn ⟨vn, rfl, hown', hb⟩; replace hown := hown'.base hcur.size; replace hcur := hcur.trans (hb.mono hcur.size); clear hown' hb q0 q1 q2 q3 q4 qf; obtain ⟨q0, q1, q2, q3, q4, qf⟩ := five40 ((hcur.block _ HLZ.out).trans HZ4.out)) | (refine step_append8 rfl (.tmp 51) (.tmp 52) rfl W4.heap.size _ _ (sealB 6 (nameB arcs) wd) (sealB tag p.con wd) rfl rfl (by exact hown) (by exact HS4.out.keptBelow hcur) (by exact hcur.size) (by exact HAP.out) ?_; rintro vn Wn hown' hg'; replace hcur := hcur.grown hg' hcur.size (fun k e => (hown.lt e).1); rw [← HLL.out] at hown'; replace hown := hown'; clear hown' hg' q0 q1 q2 q3 q4 qf; obtain ⟨q0, q1, q2, q3, q4, qf⟩ := five40 ((hcur.block _ HLZ.out).trans HZ4.out)))
  have hz9 : Wn.heap[w.heap.size + 1]? = some (.cells #[.string ⟨#[]⟩, .int .i64 0, .int .i64 0, .int .u64 0, .string ⟨#[]⟩] 40 (0, 0)) := (hcur.block _ HLZ.out).trans HZ4.out
  have hB9 : Below w.heap.size w Wn := HB4.out.trans (hcur.mono HB4.out.size)
  obtain ⟨WF, hWF⟩ : ∃ WF, WF = (((((Wn.setCell ⟨w.heap.size + 1, 0, none⟩ (.string s0)).setCell ⟨w.heap.size + 1, 1, none⟩ (.int .i64 s1)).setCell ⟨w.heap.size + 1, 2, none⟩ (.int .i64 s2)).setCell ⟨w.heap.size + 1, 3, none⟩ (.int .u64 s3)).setCell ⟨w.heap.size + 1, 4, none⟩ (.string s4)) := ⟨_, rfl⟩
  rw [← hWF]
  obtain ⟨k0, k1, k2, k3, k4⟩ := fiveC (W := WF) (by rw [hWF]; exact setAll5 (a := .string s0) (b := .int .i64 s1) (c := .int .i64 s2) (d := .int .u64 s3) (e := .string s4) hz9)
  have HBF : Hid (Below w.heap.size w WF) := by unfold Hid; rw [hWF]; exact setBel5 hB9 (by omega)
  have HOF : Hid (Own WF w.heap.size vn (varB arcs p wd)) := by
    unfold Hid
    have h1 : Own Wn w.heap.size vn (varB arcs p wd) := by
      have := hown.base HB4.out.size
      rw [HLL.out] at this
      unfold varB
      have ht : (tag : Int) = p.typ := payOf_typ HP.out
      rw [← ht]
      exact this
    refine h1.kept (fun k hk => ?_)
    have hk4 := hown.lt hk
    have : w.heap.size + 1 < W4.heap.size := HLZ.out
    rw [hWF]
    exact setHeap5 (by omega)
  clear hown hcur hz9 hB9 hWF q0 q1 q2 q3 q4 qf
  have HAV : Hid (avOf name tag i u text = some ⟨name, arcs, p⟩) := by
    unfold Hid avOf
    rw [HA.out, HP.out]
    simp [h5, h10]
  go_wp2
  try simp only [Exit.inBlock, Exit.then]
  refine bodyPost_ret (v := .tuple #[vn, v4, .agg #[.string s0, .int .i64 s1, .int .i64 s2, .int .u64 s3, .string s4], .bool true]) (by simp [results, Tryz.results15, go_sem, k0, k1, k2, k3, k4]) rfl ?_
  exact ⟨_, _, _, _, _, _, _, true, rfl, by rw [HAV.out]; rfl, (fun x e => by rw [HAV.out] at e; obtain rfl := Option.some.inj e; exact ⟨HOF.out, HSV.out.symm⟩), HBF.out⟩
/-- spec.Value. -/
theorem specValue (w : World) (name : ByteArray) (t i : Int) (u : Nat) (text : ByteArray) (wd : Nat) (hwd : wd ≤ 2) (hi : -9223372036854775808 ≤ i ∧ i ≤ 9223372036854775807) (hu : u < 18446744073709551616) (hs : name.size ≤ 2147483647) (ht : text.size ≤ 2147483647) :
    Calls Tryz.prog 15 #[varV name t i u text, .int .i64 wd] w (RetVal w (avOf name t i u text) wd) := by
  cases ha : arcsOf (bytesOf name) with
  | none => exact value_f1 w name t i u text wd hi hu hs ht _ ha rfl
  | some arcs =>
    cases hp : payOf t i u text with
    | none => exact value_f2 w name t i u text wd hi hu hs ht arcs ha hp
    | some p =>
      by_cases h5 : text.size ≤ 500
      · by_cases h10 : name.size ≤ 1000
        · exact value_ok w name t i u text wd hi hu hs ht arcs p hwd ha hp h5 h10
        · exact value_f4 w name t i u text wd hi hu hs ht arcs p ha hp h5 (by omega)
      · exact value_f3 w name t i u text wd hi hu hs ht arcs p ha hp (by omega)
end Go.Proofs.YtpfmcdhmboclhaaGreatDoor
namespace Go.Proofs.YtpfmcdhmboclhaaGreatDoor
open Go.RowKit

theorem RawRow.below {w W : World} {A : Option Addr} {l : List Raw} (h : RawRow w A l) (hb : Below w.heap.size w W) : RawRow W A l := by
  intro k x hx
  obtain ⟨g, o, e, e0, e1, e2, e3, e4⟩ := h k x hx
  exact ⟨g, o, e, cellB hb e0, cellB hb e1, cellB hb e2, cellB hb e3, cellB hb e4⟩
/-- A variable whose texts fit. -/
def FitsV (x : Raw) : Prop := x.name.size ≤ 2147483647 ∧ x.text.size ≤ 2147483647
/-- .. whose texts are those of a machine. -/
def FarV (x : Raw) : Prop := x.name.size ≤ 9223372036854775807 ∧ x.text.size ≤ 9223372036854775807
set_option maxHeartbeats 4000000 in
set_option maxRecDepth 100000 in
theorem fits1 (w : World) (name : ByteArray) (t i u : Int) (text : ByteArray) (hn : name.size ≤ 9223372036854775807) (ht : text.size ≤ 9223372036854775807) :
    Calls Tryz.prog 35 #[varV name t i u text] w fun e w' => (∃ b, e = .returned (.bool b) ∧ (b = true → name.size ≤ 2147483647 ∧ text.size ≤ 2147483647)) ∧ Below w.heap.size w w' := by
  simp only [varV]
  by_cases h1 : name.size ≤ 2147483647
  · by_cases h2 : text.size ≤ 2147483647
    · go_enter Tryz.func35, Tryz.ntmps35
      go_wp2
      go_ret
      exact ⟨⟨true, rfl, fun _ => ⟨h1, h2⟩⟩, (Below.refl _ _).alloc (Nat.le_refl _) _⟩
    · go_enter Tryz.func35, Tryz.ntmps35
      go_wp2
      go_ret
      exact ⟨⟨false, rfl, (fun e => by cases e)⟩, (Below.refl _ _).alloc (Nat.le_refl _) _⟩
  · go_enter Tryz.func35, Tryz.ntmps35
    go_wp2
    go_ret
    exact ⟨⟨false, rfl, (fun e => by cases e)⟩, (Below.refl _ _).alloc (Nat.le_refl _) _⟩
/-- What zzFits3 returns. -/
def RetFit (w : World) (n : Nat) (rs : List Raw) (e : Ending) (w' : World) : Prop := ∃ b, e = .returned (.bool b) ∧ (b = true → n ≤ 2147483647 ∧ ∀ x ∈ rs, FitsV x) ∧ Below w.heap.size w w'
theorem retFit_no {w w' : World} {n : Nat} {rs : List Raw} (hb : Below w.heap.size w w') : RetFit w n rs (.returned (.bool false)) w' := ⟨false, rfl, (fun e => by cases e), hb⟩
set_option maxHeartbeats 4000000 in
set_option maxRecDepth 100000 in
theorem fits3 (w : World) (A : Option Addr) (n c : Nat) (rs : List Raw) (hn : rs.length = n) (hn63 : n ≤ 9223372036854775807) (hrow : RawRow w A rs) (hfar : ∀ x ∈ rs, FarV x) :
    Calls Tryz.prog 14 #[.slice A n c] w (RetFit w n rs) := by
  have HROW := Lib.hid hrow
  have HFAR := Lib.hid hfar
  have HN := Lib.hid hn
  clear hrow hfar hn
  by_cases h31 : n ≤ 2147483647
  · go_enter Tryz.func14, Tryz.ntmps14
    go_wp2
    go_loopw [10] (fun i wr => ∃ k : Nat, i = .int .i64 k ∧ k ≤ n ∧ (∀ (j : Nat) (x : Raw), j < k → rs[j]? = some x → FitsV x) ∧ Below w.heap.size w wr) (fun i _ => n - (intOf i).toNat)
    case atStart => exact ⟨0, rfl, Nat.zero_le _, (fun j x h => by omega), Below.refl _ _⟩
    case round =>
      obtain ⟨k, rfl, hk, hall, hb⟩ := hrel
      obtain ⟨wo, rfl⟩ : ∃ wo : World, wo = wr := ⟨_, rfl⟩
      have HB := Lib.hid hb
      have HALL := Lib.hid hall
      clear hb hall
      by_cases hkn : k < n
      · obtain ⟨x, hx⟩ : ∃ x, rs[k]? = some x := ⟨_, List.getElem?_eq_getElem (by rw [HN.out]; exact hkn)⟩
        obtain ⟨g, o, rfl, e0, e1, e2, e3, e4⟩ := HROW.out k x hx
        have e0 := cellB HB.out e0
        have e1 := cellB HB.out e1
        have e2 := cellB HB.out e2
        have e3 := cellB HB.out e3
        have e4 := cellB HB.out e4
        obtain ⟨f1, f2⟩ := HFAR.out x (List.mem_of_getElem? hx)
        obtain ⟨xn, hxn⟩ : ∃ xn, xn = x.name := ⟨_, rfl⟩
        obtain ⟨xt, hxt⟩ : ∃ xt, xt = x.t := ⟨_, rfl⟩
        obtain ⟨xi, hxi⟩ : ∃ xi, xi = x.i := ⟨_, rfl⟩
        obtain ⟨xu, hxu⟩ : ∃ xu, xu = x.u := ⟨_, rfl⟩
        obtain ⟨xx, hxx⟩ : ∃ xx, xx = x.text := ⟨_, rfl⟩
        rw [← hxn] at e0 f1
        rw [← hxt] at e1
        rw [← hxi] at e2
        rw [← hxu] at e3
        rw [← hxx] at e4 f2
        have HC : Hid (∀ W, Calls Tryz.prog 35 #[.agg #[.string xn, .int .i64 xt, .int .i64 xi, .int .u64 xu, .string xx]] W fun e w' => (∃ b, e = .returned (.bool b) ∧ (b = true → xn.size ≤ 2147483647 ∧ xx.size ≤ 2147483647)) ∧ Below W.heap.size W w') := fun W => fits1 W xn xt xi xu xx f1 f2
        have HX := Lib.hid hx
        have HXN := Lib.hid hxn
        have HXX := Lib.hid hxx
        clear hx hxn hxt hxi hxu hxx f1 f2
        go_wp2_with (go_at_call 35; refine (HC.out _).mono ?_; rintro e W2 ⟨⟨b, rfl, hyes⟩, hb2⟩; refine Hid.out ?_)
        refine Lib.hid ?_
        have HY := Lib.hid hyes
        have HB2 : Hid (Below w.heap.size w W2) := (HB.out.alloc HB.out.size _).trans (hb2.mono (by have := HB.out.size; simp; omega))
        clear hyes hb2 e0 e1 e2 e3 e4 HC
        cases b with
        | false =>
          go_wp2
          go_ret
          exact retFit_no HB2.out
        | true =>
          go_wp2
          go_roundw
          case rel =>
            refine ⟨k + 1, by go_num, hkn, ?_, HB2.out⟩
            intro j y hj hy
            by_cases hjk : j < k
            · exact HALL.out j y hjk hy
            · obtain rfl : j = k := by omega
              rw [HX.out] at hy
              obtain rfl := Option.some.inj hy
              have := HY.out rfl
              rw [HXN.out, HXX.out] at this
              exact this
          case measure => simp [intOf]; omega
      · have HR : Hid (RetFit w n rs (.returned (.bool true)) wo) := ⟨true, rfl, (fun _ => ⟨h31, fun x hx => by
          obtain ⟨j, hj⟩ := List.getElem?_of_mem hx
          have hlt := (List.getElem?_eq_some_iff.1 hj).1
          rw [HN.out] at hlt
          exact HALL.out j x (by omega) hj⟩), HB.out⟩
        go_wp2
        go_ret
        exact HR.out
  · go_enter Tryz.func14, Tryz.ntmps14
    go_wp2
    go_ret
    exact retFit_no (Below.refl _ _)
/-- A message whose texts fit. -/
structure Fits (com ent agent : ByteArray) (n : Nat) (rs : List Raw) : Prop where
  com : com.size ≤ 2147483647
  ent : ent.size ≤ 2147483647
  agent : agent.size ≤ 2147483647
  n : n ≤ 2147483647
  vars : ∀ x ∈ rs, FitsV x
/-- What zzFits2 returns. -/
def RetFits (w : World) (com ent agent : ByteArray) (n : Nat) (rs : List Raw) (e : Ending) (w' : World) : Prop := ∃ b, e = .returned (.bool b) ∧ (b = true → Fits com ent agent n rs) ∧ Below w.heap.size w w'
theorem retFits_no {w w' : World} {com ent agent : ByteArray} {n : Nat} {rs : List Raw} (hb : Below w.heap.size w w') : RetFits w com ent agent n rs (.returned (.bool false)) w' := ⟨false, rfl, (fun e => by cases e), hb⟩
set_option maxHeartbeats 4000000 in
set_option maxRecDepth 100000 in
theorem fits2 (w : World) (ver : Int) (com : ByteArray) (kind id st ix : Int) (ent agent : ByteArray) (gen spec time : Int) (A : Option Addr) (n c : Nat) (rs : List Raw) (hn : rs.length = n) (hn63 : n ≤ 9223372036854775807) (hrow : RawRow w A rs) (hfar : ∀ x ∈ rs, FarV x)
    (hc : com.size ≤ 9223372036854775807) (he : ent.size ≤ 9223372036854775807) (hag : agent.size ≤ 9223372036854775807) :
    Calls Tryz.prog 6 #[msgV ver com kind id st ix (.slice A n c) ent agent gen spec time] w (RetFits w com ent agent n rs) := by
  simp only [msgV]
  obtain ⟨W1, hW1⟩ : ∃ W1, W1 = w.alloc (.cells #[.int .i64 ver, .string com, .int .i64 kind, .int .u32 id, .int .i64 st, .int .i64 ix, .slice A n c, .string ent, .string agent, .int .i64 gen, .int .i64 spec, .int .u64 time] 26) := ⟨_, rfl⟩
  have hb1 : Below w.heap.size w W1 := by rw [hW1]; exact (Below.refl _ _).alloc (Nat.le_refl _) _
  have h1 : W1.heap[w.heap.size]? = some (.cells #[.int .i64 ver, .string com, .int .i64 kind, .int .u32 id, .int .i64 st, .int .i64 ix, .slice A n c, .string ent, .string agent, .int .i64 gen, .int .i64 spec, .int .u64 time] 26 (0, 0)) := by rw [hW1]; exact heap_alloc_new w _
  have HF := Lib.hid (fits3 W1 A n c rs hn hn63 (hrow.below hb1) hfar)
  have HB1 := Lib.hid hb1
  have HW1 := Lib.hid hW1
  have H1 := Lib.hid h1
  clear hrow hfar hb1 hW1 h1 hn
  by_cases h1 : com.size ≤ 2147483647
  · go_enter Tryz.func6, Tryz.ntmps6
    go_wp2_with (go_at_call 14; rw [← HW1.out]; refine (HF.out).mono ?_; rintro e W2 ⟨b, rfl, hyes, hb2⟩; refine Hid.out ?_)
    refine Lib.hid ?_
    have HB2 : Hid (Below w.heap.size w W2) := HB1.out.trans (hb2.mono HB1.out.size)
    have h2 : W2.heap[w.heap.size]? = _ := (hb2.block _ (Lib.lt_of_heap H1.out)).trans H1.out
    have c7 : W2.cell? ⟨w.heap.size, 7, none⟩ = some (.string ent) := by rw [Lib.cell_of_heap h2]; rfl
    have c8 : W2.cell? ⟨w.heap.size, 8, none⟩ = some (.string agent) := by rw [Lib.cell_of_heap h2]; rfl
    have HY := Lib.hid hyes
    clear hb2 h2 hyes HF
    cases b with
    | false =>
      go_wp2
      go_ret
      exact retFits_no HB2.out
    | true =>
      by_cases h3 : ent.size ≤ 2147483647
      · by_cases h4 : agent.size ≤ 2147483647
        · go_wp2
          go_ret
          exact ⟨true, rfl, (fun _ => ⟨h1, h3, h4, (HY.out (by first | rfl | trivial)).1, (HY.out (by first | rfl | trivial)).2⟩), HB2.out⟩
        · go_wp2
          go_ret
          exact retFits_no HB2.out
      · go_wp2
        go_ret
        exact retFits_no HB2.out
  · go_enter Tryz.func6, Tryz.ntmps6
    go_wp2
    go_ret
    exact retFits_no (by rw [← HW1.out]; exact HB1.out)
end Go.Proofs.YtpfmcdhmboclhaaGreatDoor
namespace Go.Proofs.YtpfmcdhmboclhaaGreatDoor
open Go.RowKit

/-- A variable's numbers are of their kinds. -/
def WfV (x : Raw) : Prop := (-9223372036854775808 ≤ x.i ∧ x.i ≤ 9223372036854775807) ∧ 0 ≤ x.u ∧ x.u < 18446744073709551616
/-- The variables are those that are asked. -/
structure AVs (rs : List Raw) (l : List AV) : Prop where
  len : l.length = rs.length
  each : ∀ (k : Nat) (x : Raw), rs[k]? = some x → avOf x.name x.t x.i x.u x.text = l[k]?
/-- No message. -/
def noMsg : Value := .agg #[.int .i64 0, .string ⟨#[]⟩, .int .i64 0, .int .u32 0, .int .i64 0, .int .i64 0, .slice none 0 0, .string ⟨#[]⟩, .string ⟨#[]⟩, .int .i64 0, .int .i64 0, .int .u64 0]
theorem empty_no {s : ByteArray} (h : ¬ s = ⟨#[]⟩) : s.toList.isEmpty = false := by
  cases he : s.toList.isEmpty with
  | false => rfl
  | true =>
    exfalso; apply h
    have := List.isEmpty_iff.1 he
    rw [ByteArray.toList_eq] at this
    cases s with
    | mk d => congr 1; exact Array.toList_inj.1 this
end Go.Proofs.YtpfmcdhmboclhaaGreatDoor
namespace Go.Proofs.YtpfmcdhmboclhaaGreatDoor
open Go.RowKit

theorem new5 {a b c d e : Value} (W : World) : ∀ (j : Nat) u, [a, b, c, d, e][j]? = some u → (W.alloc (.cells #[a, b, c, d, e] 40)).cell? ⟨W.heap.size, j, none⟩ = some u := by
  intro j u h
  rw [Lib.cell_of_heap (heap_alloc_new W _)]
  simpa using h
/-- The first k variables are those that are asked. -/
def AVk (rs : List Raw) (k : Nat) (l : List AV) : Prop := l.length = k ∧ ∀ (j : Nat) (x : Raw), j < k → rs[j]? = some x → avOf x.name x.t x.i x.u x.text = l[j]?
theorem AVk.snoc {rs : List Raw} {k : Nat} {l : List AV} {x : Raw} {y : AV} (h : AVk rs k l) (hx : rs[k]? = some x) (hy : avOf x.name x.t x.i x.u x.text = some y) : AVk rs (k + 1) (l ++ [y]) := by
  refine ⟨by rw [List.length_append, h.1]; rfl, fun j z hj hz => ?_⟩
  by_cases hjk : j < k
  · rw [List.getElem?_append_left (by rw [h.1]; exact hjk)]; exact h.2 j z hjk hz
  · obtain rfl : j = k := by omega
    rw [hx] at hz
    obtain rfl := Option.some.inj hz
    rw [List.getElem?_append_right (by rw [h.1]; exact Nat.le_refl _), h.1, Nat.sub_self]
    exact hy
end Go.Proofs.YtpfmcdhmboclhaaGreatDoor
namespace Go.Proofs.YtpfmcdhmboclhaaGreatDoor
open Go.RowKit

theorem neq40 (a e : ByteArray) (b c d : Int) (W : World) : (binOp .neq 40 (.agg #[.string a, .int .i64 b, .int .i64 c, .int .u64 d, .string e]) (.agg #[.string a, .int .i64 b, .int .i64 c, .int .u64 d, .string e])).run Tryz.prog W = .ok (.bool false) W := by
  have hS : Tryz.prog.underlying 40 = some (.struct (Tryz.prog.fieldsOf 40)) := by kernel_rfl
  have hp : Tryz.prog.stoodInHeld 40 = false := by kernel_rfl
  rw [run_neq_struct, run_equalIn_agg _ _ _ _ _ hS hp]
  simp only [Program.fieldsOf, Tryz.underlying40]
  go_simp
/-- A row of told variables that is read. -/
def RdT (w : World) (v : Value) (l : List AV) : Prop := ∃ A c, v = .slice A l.length c ∧ ∀ (k : Nat) (x : AV), l[k]? = some x → ∃ g, A = some ⟨g, 0, none⟩ ∧ w.cell? ⟨g, k * 5, none⟩ = some (.string (dot x.arcs)) ∧ w.cell? ⟨g, k * 5 + 1, none⟩ = some (.int .i64 x.pay.typ) ∧ w.cell? ⟨g, k * 5 + 2, none⟩ = some (.int .i64 (toldI x.pay)) ∧ w.cell? ⟨g, k * 5 + 3, none⟩ = some (.int .u64 (toldU x.pay)) ∧ w.cell? ⟨g, k * 5 + 4, none⟩ = some (.string (toldT x.pay))
theorem RdT.below {w W : World} {v : Value} {l : List AV} (h : RdT w v l) (hb : Below w.heap.size w W) : RdT W v l := by
  obtain ⟨A, c, e, h⟩ := h
  refine ⟨A, c, e, fun k x hx => ?_⟩
  obtain ⟨g, e, h0, h1, h2, h3, h4⟩ := h k x hx
  exact ⟨g, e, cellB hb h0, cellB hb h1, cellB hb h2, cellB hb h3, cellB hb h4⟩
theorem toldC_at : ∀ (l : List AV) (i : Nat) (x : AV), l[i]? = some x → (toldC l)[i * 5]? = some (.string (dot x.arcs)) ∧ (toldC l)[i * 5 + 1]? = some (.int .i64 x.pay.typ) ∧ (toldC l)[i * 5 + 2]? = some (.int .i64 (toldI x.pay)) ∧ (toldC l)[i * 5 + 3]? = some (.int .u64 (toldU x.pay)) ∧ (toldC l)[i * 5 + 4]? = some (.string (toldT x.pay))
  | y :: r, 0, x, h => by
    obtain rfl : y = x := by simpa using h
    simp [toldC]
  | y :: r, i + 1, x, h => by
    have := toldC_at r i x (by simpa using h)
    rw [show (i + 1) * 5 = i * 5 + 5 by omega]
    simpa [toldC] using this
theorem RdT.of_own {w : World} {base : Nat} {v : Value} {l : List AV} (h : OwnC 40 5 w base v l.length (toldC l)) : RdT w v l := by
  obtain ⟨A, cap, hv⟩ := h.shape
  refine ⟨A, cap, hv, fun k x hx => ?_⟩
  have hlt := (List.getElem?_eq_some_iff.1 hx).1
  obtain ⟨g, cap2, hv2, -, hc⟩ := h.cell (by omega)
  rw [hv] at hv2
  injection hv2 with e1 e2 e3
  obtain ⟨d0, d1, d2, d3, d4⟩ := toldC_at l k x hx
  exact ⟨g, e1, hc _ _ d0, hc _ _ d1, hc _ _ d2, hc _ _ d3, hc _ _ d4⟩
set_option maxHeartbeats 16000000 in
set_option maxRecDepth 100000 in
theorem same_eq (w : World) (ver : Int) (com : ByteArray) (kind id st ix : Int) (ent agent : ByteArray) (gen spec time : Int) (v1 v2 : Value) (l : List AV) (h1 : RdT w v1 l) (h2 : RdT w v2 l) (hl : l.length ≤ 20) :
    Calls Tryz.prog 10 #[msgV ver com kind id st ix v1 ent agent gen spec time, msgV ver com kind id st ix v2 ent agent gen spec time] w fun e w' => e = .returned (.bool true) ∧ Below w.heap.size w w' := by
  obtain ⟨A1, c1, rfl, hc1⟩ := h1
  obtain ⟨A2, c2, rfl, hc2⟩ := h2
  obtain ⟨n, hn⟩ : ∃ n, n = l.length := ⟨_, rfl⟩
  rw [← hn] at hl ⊢
  have HN := Lib.hid hn
  have HC1 := Lib.hid hc1
  have HC2 := Lib.hid hc2
  clear hn hc1 hc2
  simp only [msgV]
  obtain ⟨W1, hW1⟩ : ∃ W1, W1 = (w.alloc (.cells #[.int .i64 ver, .string com, .int .i64 kind, .int .u32 id, .int .i64 st, .int .i64 ix, .slice A1 n c1, .string ent, .string agent, .int .i64 gen, .int .i64 spec, .int .u64 time] 26)).alloc (.cells #[.int .i64 ver, .string com, .int .i64 kind, .int .u32 id, .int .i64 st, .int .i64 ix, .slice A2 n c2, .string ent, .string agent, .int .i64 gen, .int .i64 spec, .int .u64 time] 26) := ⟨_, rfl⟩
  have hb1 : Below w.heap.size w W1 := by rw [hW1]; exact ((Below.refl _ _).alloc (Nat.le_refl _) _).alloc (by simp) _
  have m1 : W1.heap[w.heap.size]? = some (.cells #[.int .i64 ver, .string com, .int .i64 kind, .int .u32 id, .int .i64 st, .int .i64 ix, .slice A1 n c1, .string ent, .string agent, .int .i64 gen, .int .i64 spec, .int .u64 time] 26 (0, 0)) := by rw [hW1, Below.heap_alloc _ _ _ (by simp)]; exact heap_alloc_new w _
  have m2 : W1.heap[w.heap.size + 1]? = some (.cells #[.int .i64 ver, .string com, .int .i64 kind, .int .u32 id, .int .i64 st, .int .i64 ix, .slice A2 n c2, .string ent, .string agent, .int .i64 gen, .int .i64 spec, .int .u64 time] 26 (0, 0)) := by
    rw [hW1]
    have hh := heap_alloc_new (w.alloc (.cells #[.int .i64 ver, .string com, .int .i64 kind, .int .u32 id, .int .i64 st, .int .i64 ix, .slice A1 n c1, .string ent, .string agent, .int .i64 gen, .int .i64 spec, .int .u64 time] 26)) (.cells #[.int .i64 ver, .string com, .int .i64 kind, .int .u32 id, .int .i64 st, .int .i64 ix, .slice A2 n c2, .string ent, .string agent, .int .i64 gen, .int .i64 spec, .int .u64 time] 26)
    rwa [show (w.alloc (.cells #[.int .i64 ver, .string com, .int .i64 kind, .int .u32 id, .int .i64 st, .int .i64 ix, .slice A1 n c1, .string ent, .string agent, .int .i64 gen, .int .i64 spec, .int .u64 time] 26)).heap.size = w.heap.size + 1 by simp] at hh
  have a6 : W1.cell? ⟨w.heap.size, 6, none⟩ = some (.slice A1 n c1) := by rw [Lib.cell_of_heap m1]; rfl
  have b6 : W1.cell? ⟨w.heap.size + 1, 6, none⟩ = some (.slice A2 n c2) := by rw [Lib.cell_of_heap m2]; rfl
  have HB1 := Lib.hid hb1
  have HW1 := Lib.hid hW1
  have HA6 := Lib.hid a6
  have HB6 := Lib.hid b6
  clear hb1 hW1 m1 m2 a6 b6
  go_enter Tryz.func10, Tryz.ntmps10
  go_wp2
  rw [← HW1.out]
  go_loopw [93] (fun i wr => ∃ k : Nat, i = .int .i64 k ∧ k ≤ n ∧ Below W1.heap.size W1 wr) (fun i _ => n - (intOf i).toNat)
  case atStart => exact ⟨0, rfl, Nat.zero_le _, Below.refl _ _⟩
  case round =>
    obtain ⟨k, rfl, hk, hb⟩ := hrel
    obtain ⟨wo, rfl⟩ : ∃ wo : World, wo = wr := ⟨_, rfl⟩
    have HB := Lib.hid hb
    have HBW : Hid (Below w.heap.size w wo) := HB1.out.trans (hb.mono HB1.out.size)
    have a6 := cellB hb HA6.out
    have b6 := cellB hb HB6.out
    clear hb
    by_cases hkn : k < n
    · obtain ⟨x, hx⟩ : ∃ x, l[k]? = some x := ⟨_, List.getElem?_eq_getElem (by rw [← HN.out]; exact hkn)⟩
      obtain ⟨g1, rfl, p0, p1, p2, p3, p4⟩ := HC1.out k x hx
      obtain ⟨g2, rfl, q0, q1, q2, q3, q4⟩ := HC2.out k x hx
      have p0 := cellB HBW.out p0
      have p1 := cellB HBW.out p1
      have p2 := cellB HBW.out p2
      have p3 := cellB HBW.out p3
      have p4 := cellB HBW.out p4
      have q0 := cellB HBW.out q0
      have q1 := cellB HBW.out q1
      have q2 := cellB HBW.out q2
      have q3 := cellB HBW.out q3
      have q4 := cellB HBW.out q4
      obtain ⟨xn, hxn⟩ : ∃ xn, xn = dot x.arcs := ⟨_, rfl⟩
      obtain ⟨xt, hxt⟩ : ∃ xt, xt = x.pay.typ := ⟨_, rfl⟩
      obtain ⟨xi, hxi⟩ : ∃ xi, xi = toldI x.pay := ⟨_, rfl⟩
      obtain ⟨xu, hxu⟩ : ∃ xu, xu = toldU x.pay := ⟨_, rfl⟩
      obtain ⟨xx, hxx⟩ : ∃ xx, xx = toldT x.pay := ⟨_, rfl⟩
      rw [← hxn] at p0 q0
      rw [← hxt] at p1 q1
      rw [← hxi] at p2 q2
      rw [← hxu] at p3 q3
      rw [← hxx] at p4 q4
      have hneq := neq40 xn xx xt xi xu
      clear hx hxn hxt hxi hxu hxx
      have hki : (k : Int) < (n : Int) := by omega
      go_wp2
      go_quiet (fail)
      go_wp2
      go_roundw
      case rel => exact ⟨k + 1, by go_num, hkn, HB.out.trans (drewN_below _ _ |>.mono HB.out.size)⟩
      case measure => simp [intOf]; omega
    · go_wp2
      go_ret
      exact ⟨rfl, HBW.out⟩
end Go.Proofs.YtpfmcdhmboclhaaGreatDoor
namespace Go.Proofs.YtpfmcdhmboclhaaGreatDoor
open Go.RowKit

theorem figs_b128 (n : Nat) (h : n < 4294967296) : (figs n).length + 1 ≤ 4 * (b128 n).length := by
  by_cases h1 : n < 128
  · have := figs_len_k 2 n (by omega)
    rw [b128_1 n h1]; simp; omega
  by_cases h2 : n < 16384
  · have := figs_len_k 4 n (by omega)
    rw [b128_2 n (by omega) h2]; simp; omega
  by_cases h3 : n < 2097152
  · have := figs_len_k 6 n (by omega)
    rw [b128_3 n (by omega) h3]; simp; omega
  by_cases h4 : n < 268435456
  · have := figs_len_k 8 n (by omega)
    rw [b128_4 n (by omega) h4]; simp; omega
  · have := figs_len_k 9 n (by omega)
    rw [b128_5 n (by omega) h]; simp; omega
theorem text_b128 : ∀ (r : List Nat), (∀ x ∈ r, x < 4294967296) → (text r).length ≤ 4 * (r.flatMap b128).length
  | [], _ => by simp [text]
  | a :: r, h => by
    have h1 := figs_b128 a (h a (by simp))
    have h2 := text_b128 r (fun x hx => h x (by simp [hx]))
    rw [text_cons]
    simp only [List.flatMap_cons, List.length_append, List.length_cons]
    omega
theorem dot_short {arcs : List Nat} (h : GoodArcs arcs) : (dot arcs).size ≤ 500 := by
  have hb := h.bytes
  have hf := h.first
  have hs := h.second
  have hsm := h.small
  have hl := bytesOf_length (dot arcs)
  rw [bytesOf_dot] at hl
  match arcs, h.two with
  | a :: b :: r, _ =>
    rw [nameB_rest, List.length_append] at hb
    have h1 := text_b128 r (fun x hx => hsm x (by simp [hx]))
    have h2 := figs_len_k 0 a (by simp at hf; omega)
    have h3 := figs_len_k 1 b (by simp at hs; omega)
    rw [text_cons, text_cons] at hl
    simp only [List.length_append, List.length_cons, List.length_singleton] at hl hb
    omega
theorem payOf_is {t i : Int} {u : Nat} {text : ByteArray} {p : Pay} (hs : text.size ≤ 500) (h : payOf t i u text = some p) : IsVar p t i u text := by
  have ht := payOf_typ h
  unfold payOf at h
  split at h
  · split at h
    · obtain rfl := Option.some.inj h; exact ⟨ht, hs, rfl⟩
    · cases h
  split at h
  · obtain rfl := Option.some.inj h; exact ⟨ht, hs, rfl⟩
  split at h
  · obtain rfl := Option.some.inj h; exact ⟨ht, hs, trivial⟩
  split at h
  · cases ha : arcsOf (bytesOf text) with
    | none => rw [ha] at h; cases h
    | some arcs => rw [ha] at h; obtain rfl := Option.some.inj h; exact ⟨ht, hs, rfl⟩
  split at h
  · cases ha : ipOf (bytesOf text) with
    | none => rw [ha] at h; cases h
    | some l => rw [ha] at h; obtain rfl := Option.some.inj h; exact ⟨ht, hs, rfl⟩
  split at h
  · split at h
    · obtain rfl := Option.some.inj h; exact ⟨ht, hs, by simp⟩
    · cases h
  split at h
  · obtain rfl := Option.some.inj h; exact ⟨ht, hs, by simp⟩
  · cases h
/-- What came in and is asked is what the package takes. -/
theorem avOf_same {name : ByteArray} {t i : Int} {u : Nat} {text : ByteArray} {y : AV} (hu : u < 18446744073709551616) (hn : name.size ≤ 2147483647) (ht : text.size ≤ 2147483647) (h : avOf name t i u text = some y) : name = y.name ∧ name.size ≤ 1000 ∧ IsVar y.pay t i u text ∧ y.Ok := by
  unfold avOf at h
  cases ha : arcsOf (bytesOf name) with
  | none => rw [ha] at h; cases h
  | some arcs =>
    rw [ha] at h
    simp only [Option.bind_some] at h
    cases hp : payOf t i u text with
    | none => rw [hp] at h; cases h
    | some p =>
      rw [hp] at h
      simp only [Option.bind_some] at h
      split at h
      case isFalse => cases h
      case isTrue hsz =>
        obtain rfl := Option.some.inj h
        exact ⟨rfl, hsz.2, payOf_is hsz.1 hp, ⟨⟨arcsOf_good ha, arcsOf_text ha, hn⟩, payOf_ok hu ht hp⟩⟩
theorem AVs.same {rs : List Raw} {l : List AV} (h : AVs rs l) (hwf : ∀ x ∈ rs, WfV x) (hfit : ∀ x ∈ rs, FitsV x) : Same rs l ∧ ∀ x ∈ l, x.Ok := by
  have key : ∀ (k : Nat) (x : Raw), rs[k]? = some x → ∃ y, l[k]? = some y ∧ x.name = y.name ∧ x.name.size ≤ 1000 ∧ IsVar y.pay x.t x.i x.u x.text ∧ y.Ok := by
    intro k x hx
    have hm := List.mem_of_getElem? hx
    obtain ⟨-, h0, h1⟩ := hwf x hm
    obtain ⟨u, hu⟩ : ∃ u : Nat, x.u = (u : Int) := ⟨x.u.toNat, by omega⟩
    have hlt := (List.getElem?_eq_some_iff.1 hx).1
    obtain ⟨y, hy⟩ : ∃ y, l[k]? = some y := ⟨_, List.getElem?_eq_getElem (by rw [h.len]; exact hlt)⟩
    have he := h.each k x hx
    rw [hy, hu] at he
    have hf := hfit x hm
    obtain ⟨e1, e2, e3, e4⟩ := avOf_same (by omega) hf.1 hf.2 he
    rw [hu]
    exact ⟨y, hy, e1, e2, e3, e4⟩
  refine ⟨⟨h.len, fun k x hx => ?_⟩, fun y hy => ?_⟩
  · obtain ⟨y, h1, h2, h3, h4, -⟩ := key k x hx
    exact ⟨y, h1, h2, h3, h4⟩
  · obtain ⟨k, hk⟩ := List.getElem?_of_mem hy
    have hlt := (List.getElem?_eq_some_iff.1 hk).1
    obtain ⟨x, hx⟩ : ∃ x, rs[k]? = some x := ⟨_, List.getElem?_eq_getElem (by rw [← h.len]; exact hlt)⟩
    obtain ⟨y', h1, -, -, -, h5⟩ := key k x hx
    rw [hk] at h1
    obtain rfl := Option.some.inj h1
    exact h5
theorem msgB_ne (ver : Int) (com : ByteArray) (b : List Int) (w : Nat) : msgB ver com b w ≠ [] := by unfold msgB sealB; simp
theorem msgB_short (ver : Nat) (com : ByteArray) (b : List Int) (hv : ver ≤ 1) (hc : com.size ≤ 127) (hb : b.length ≤ 13100) (w : Nat) (hw : w ≤ 2) : (msgB ver com b w).length ≤ 13400 := by
  have h1 := sealB_length 2 (intB ver) w (by have := intB_le (ver : Int) (by omega); omega)
  have h2 := sealB_length 4 (bytesOf com) w (by rw [bytesOf_length]; omega)
  have h3 := intB_le (ver : Int) (by omega)
  rw [bytesOf_length] at h2
  have h4 : (sealB 2 (intB ver) w ++ sealB 4 (bytesOf com) w ++ b).length ≤ 13300 := by
    rw [List.length_append, List.length_append]; omega
  have h5 := sealB_length 48 (sealB 2 (intB ver) w ++ sealB 4 (bytesOf com) w ++ b) w (by omega)
  unfold msgB
  omega
end Go.Proofs.YtpfmcdhmboclhaaGreatDoor
namespace Go.Proofs.YtpfmcdhmboclhaaGreatDoor
open Go.RowKit

theorem twelve {W : World} {Q : Nat} {a b c d e f g h i j k l : Value} (hh : W.heap[Q]? = some (.cells #[a, b, c, d, e, f, g, h, i, j, k, l] 26 (0, 0))) : W.cell? ⟨Q, 0, none⟩ = some a ∧ W.cell? ⟨Q, 1, none⟩ = some b ∧ W.cell? ⟨Q, 2, none⟩ = some c ∧ W.cell? ⟨Q, 3, none⟩ = some d ∧ W.cell? ⟨Q, 4, none⟩ = some e ∧ W.cell? ⟨Q, 5, none⟩ = some f ∧ W.cell? ⟨Q, 6, none⟩ = some g ∧ W.cell? ⟨Q, 7, none⟩ = some h ∧ W.cell? ⟨Q, 8, none⟩ = some i ∧ W.cell? ⟨Q, 9, none⟩ = some j ∧ W.cell? ⟨Q, 10, none⟩ = some k ∧ W.cell? ⟨Q, 11, none⟩ = some l := by
  refine ⟨?_, ?_, ?_, ?_, ?_, ?_, ?_, ?_, ?_, ?_, ?_, ?_⟩ <;> (rw [Lib.cell_of_heap hh]; rfl)
/-- What a law is handed. -/
structure Given (w : World) (com ent agent : ByteArray) (id time : Int) (A : Option Addr) (n : Nat) (rs : List Raw) (z : Addr) : Prop where
  cnt : rs.length = n
  n63 : n ≤ 9223372036854775807
  row : RawRow w A rs
  far : ∀ x ∈ rs, FarV x
  wf : ∀ x ∈ rs, WfV x
  com : com.size ≤ 9223372036854775807
  ent : ent.size ≤ 9223372036854775807
  agent : agent.size ≤ 9223372036854775807
  id : 0 ≤ id ∧ id < 4294967296
  net : NetLaid w z
  tab : Tab w
  asn : AsnLaid w
end Go.Proofs.YtpfmcdhmboclhaaGreatDoor
