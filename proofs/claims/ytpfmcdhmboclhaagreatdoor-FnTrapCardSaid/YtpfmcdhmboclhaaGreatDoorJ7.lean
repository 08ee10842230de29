/- spec: a trap as it is told, where it is one of those that are asked. -/
import Derived.Test.YtpfmcdhmboclhaaGreatDoorR2
import Derived.Deep.DeepCutAuto
import Derived.Deep.CutBlock
import Derived.BigQuiet
set_option linter.unusedVariables false
set_option linter.unusedSimpArgs false
namespace Go.Proofs.YtpfmcdhmboclhaaGreatDoor
open Go.RowKit

/-- The first k variables are told. -/
structure TrpAt (w : World) (Q : Nat) (f : Value → Array Value) (rs : List Raw) (k : Nat) (l : List AV) (vo : Value) (wr : World) : Prop where
  avs : AVk rs k l
  out : wr.heap[Q]? = some (.cells (f vo) 26 (0, 0))
  own : OwnC 40 5 wr (Q + 1) vo k (toldC l)
  below : Below w.heap.size w wr
  res : wr.heap[w.heap.size + 1]? = some (.cells #[.int .i64 0, .string ⟨#[]⟩, .int .i64 0, .int .u32 0, .int .i64 0, .int .i64 0, .slice none 0 0, .string ⟨#[]⟩, .string ⟨#[]⟩, .int .i64 0, .int .i64 0, .int .u64 0] 26 (0, 0))
  size : w.heap.size + 1 < Q

set_option maxHeartbeats 32000000 in
set_option maxRecDepth 100000 in
theorem trap_yes (w : World) (com : ByteArray) (ent agent : ByteArray) (gen spec time : Int) (A : Option Addr) (n c : Nat) (rs : List Raw) (arcs ip : List Nat) (hent : ent.size ≤ 2147483647) (hag : agent.size ≤ 2147483647) (hn : rs.length = n) (hrow : RawRow w A rs) (hwf : ∀ x ∈ rs, WfV x) (hfit : ∀ x ∈ rs, FitsV x) (h : TrpOk 0 com 164 0 0 0 n ent agent gen spec time arcs ip) :
    Calls Tryz.prog 11 #[msgV 0 com 164 0 0 0 (.slice A n c) ent agent gen spec time] w (RetTrp w 0 com 164 0 0 0 n rs ent agent gen spec time) := by
  have HT := Lib.hid h
  have ha : (arcsOf (bytesOf ent)).isSome = true := by rw [h.arcs]; rfl
  have hp : (ipOf (bytesOf agent)).isSome = true := by rw [h.ip]; rfl
  obtain ⟨-, -, -, -, h_com, h_gen0, h_gen1, h_spec0, h_spec1, h_time, h_n, -, -, -⟩ := h
  have HN := Lib.hid hn
  have HROW := Lib.hid hrow
  have HWF := Lib.hid hwf
  have HFIT := Lib.hid hfit
  clear hn hrow hwf hfit
  have HA := Lib.hid ha
  have HP := Lib.hid hp
  simp only [msgV]
  obtain ⟨W1, hW1⟩ : ∃ W1, W1 = (w.alloc (.cells #[.int .i64 0, .string com, .int .i64 164, .int .u32 0, .int .i64 0, .int .i64 0, .slice A n c, .string ent, .string agent, .int .i64 gen, .int .i64 spec, .int .u64 time] 26)).alloc (.cells #[.int .i64 0, .string ⟨#[]⟩, .int .i64 0, .int .u32 0, .int .i64 0, .int .i64 0, .slice none 0 0, .string ⟨#[]⟩, .string ⟨#[]⟩, .int .i64 0, .int .i64 0, .int .u64 0] 26) := ⟨_, rfl⟩
  have hb1 : Below w.heap.size w W1 := by rw [hW1]; exact ((Below.refl _ _).alloc (Nat.le_refl _) _).alloc (by simp) _
  have h1 : W1.heap[w.heap.size]? = some (.cells #[.int .i64 0, .string com, .int .i64 164, .int .u32 0, .int .i64 0, .int .i64 0, .slice A n c, .string ent, .string agent, .int .i64 gen, .int .i64 spec, .int .u64 time] 26 (0, 0)) := by rw [hW1, Below.heap_alloc _ _ _ (by simp)]; exact heap_alloc_new w _
  have hz1 : W1.heap[w.heap.size + 1]? = some (.cells #[.int .i64 0, .string ⟨#[]⟩, .int .i64 0, .int .u32 0, .int .i64 0, .int .i64 0, .slice none 0 0, .string ⟨#[]⟩, .string ⟨#[]⟩, .int .i64 0, .int .i64 0, .int .u64 0] 26 (0, 0)) := by
    rw [hW1]
    have hh := heap_alloc_new (w.alloc (.cells #[.int .i64 0, .string com, .int .i64 164, .int .u32 0, .int .i64 0, .int .i64 0, .slice A n c, .string ent, .string agent, .int .i64 gen, .int .i64 spec, .int .u64 time] 26)) (.cells #[.int .i64 0, .string ⟨#[]⟩, .int .i64 0, .int .u32 0, .int .i64 0, .int .i64 0, .slice none 0 0, .string ⟨#[]⟩, .string ⟨#[]⟩, .int .i64 0, .int .i64 0, .int .u64 0] 26)
    rwa [show (w.alloc (.cells #[.int .i64 0, .string com, .int .i64 164, .int .u32 0, .int .i64 0, .int .i64 0, .slice A n c, .string ent, .string agent, .int .i64 gen, .int .i64 spec, .int .u64 time] 26)).heap.size = w.heap.size + 1 by simp] at hh
  have HI := Lib.hid (specArcs ent W1 hent)
  have HC : Hid (∀ W, Calls Tryz.prog 23 #[.string agent] W (IpRet agent W)) := fun W => address agent W hag
  have HB1 := Lib.hid hb1
  have HW1 := Lib.hid hW1
  have H1 := Lib.hid h1
  have HZ1 := Lib.hid hz1
  clear hb1 hW1 h1 hz1 ha hp hent hag
  go_enter Tryz.func11, Tryz.ntmps11
  go_wp2_with (go_at_call 22; rw [← HW1.out]; refine (HI.out).mono ?_; rintro e W2 ⟨v2, b, rfl, hbb, hyes, hb2⟩; rw [HA.out] at hbb; obtain rfl : b = true := hbb; refine Hid.out ?_)
  refine Lib.hid ?_
  have HB2 : Hid (Below w.heap.size w W2) := HB1.out.trans (hb2.mono HB1.out.size)
  have H2 := Lib.hid ((hb2.block _ (Lib.lt_of_heap H1.out)).trans H1.out)
  have HZ2 := Lib.hid ((hb2.block _ (Lib.lt_of_heap HZ1.out)).trans HZ1.out)
  obtain ⟨c0, c1, c2, c3, c4, c5, c6, c7, c8, c9, c10, c11⟩ := twelve H2.out
  have HY2 := Lib.hid hyes
  clear hb2 hyes HI HB1 HW1 H1 HZ1
  go_wp2_with (go_at_call 23; refine (HC.out _).mono ?_; rintro e W3 ⟨v3, b, rfl, hbb, hyes, hb3⟩; rw [HP.out] at hbb; obtain rfl : b = true := hbb; refine Hid.out ?_)
  refine Lib.hid ?_
  have HB3 : Hid (Below w.heap.size w W3) := HB2.out.trans (hb3.mono HB2.out.size)
  have H3 := Lib.hid ((hb3.block _ (Lib.lt_of_heap H2.out)).trans H2.out)
  have HZ3 := Lib.hid ((hb3.block _ (Lib.lt_of_heap HZ2.out)).trans HZ2.out)
  have hg := arcsOf_good HT.out.arcs
  have hO := HY2.out arcs HT.out.arcs
  have HD : Hid (∀ W, Below W2.heap.size W2 W → Calls Tryz.prog 24 #[v2] W fun e w' => e = .returned (.string (dot arcs)) ∧ Below W.heap.size W w') := fun W hW => dotted v2 arcs W (RdN.of_own (hO.below hW)) hg.small hg.sixty
  have hk1 : Below W2.heap.size W2 W3.drew := hb3.drew
  have hk2 : Below W2.heap.size W2 (W3.alloc (.cells #[.int .i64 0, .string ⟨#[]⟩, .int .i64 0, .int .u32 0, .int .i64 0, .int .i64 0, .slice none 0 0, .string ⟨#[]⟩, .string ⟨#[]⟩, .int .i64 0, .int .i64 0, .int .u64 0] 26)).drew := (hb3.alloc hb3.size _).drew
  clear hg hO
  clear hb3 hyes HC c0 c1 c2 c3 c4 c5 c6 c7 c8 c9 c10 c11
  obtain ⟨c0, c1, c2, c3, c4, c5, c6, c7, c8, c9, c10, c11⟩ := twelve H3.out
  have h3d : W3.drew.heap[w.heap.size]? = some (.cells #[.int .i64 0, .string com, .int .i64 164, .int .u32 0, .int .i64 0, .int .i64 0, .slice A n c, .string ent, .string agent, .int .i64 gen, .int .i64 spec, .int .u64 time] 26 (0, 0)) := H3.out
  have n3 : (W3.alloc (.cells #[.int .i64 0, .string ⟨#[]⟩, .int .i64 0, .int .u32 0, .int .i64 0, .int .i64 0, .slice none 0 0, .string ⟨#[]⟩, .string ⟨#[]⟩, .int .i64 0, .int .i64 0, .int .u64 0] 26)).drew.heap[W3.heap.size]? = some (.cells #[.int .i64 0, .string ⟨#[]⟩, .int .i64 0, .int .u32 0, .int .i64 0, .int .i64 0, .slice none 0 0, .string ⟨#[]⟩, .string ⟨#[]⟩, .int .i64 0, .int .i64 0, .int .u64 0] 26 (0, 0)) := heap_alloc_new W3 _
  have hne3 : W3.heap.size ≠ w.heap.size := by have := Lib.lt_of_heap H3.out; omega
  have h3A : (W3.alloc (.cells #[.int .i64 0, .string ⟨#[]⟩, .int .i64 0, .int .u32 0, .int .i64 0, .int .i64 0, .slice none 0 0, .string ⟨#[]⟩, .string ⟨#[]⟩, .int .i64 0, .int .i64 0, .int .u64 0] 26)).drew.heap[w.heap.size]? = some (.cells #[.int .i64 0, .string com, .int .i64 164, .int .u32 0, .int .i64 0, .int .i64 0, .slice A n c, .string ent, .string agent, .int .i64 gen, .int .i64 spec, .int .u64 time] 26 (0, 0)) := heapAl H3.out
  clear HY2 HB2 H2 HZ2
  go_upto_region 5 with fail
  go_region_held3 (fun W => W.cell? ⟨w.heap.size, 1, none⟩ = some (.string com) ∧ W.cell? ⟨w.heap.size, 8, none⟩ = some (.string agent) ∧ W.cell? ⟨w.heap.size, 9, none⟩ = some (.int .i64 gen) ∧ W.cell? ⟨w.heap.size, 10, none⟩ = some (.int .i64 spec) ∧ W.cell? ⟨w.heap.size, 11, none⟩ = some (.int .u64 time)) (first | with_reducible exact trapM (heapS12 hne3 (heapB hb4 h3A)) | with_reducible exact trapM h3d | with_reducible exact trapM h3A | with_reducible exact trapM (heapB hb4 h3d) | with_reducible exact trapM (heapB hb4 h3A) | with_reducible exact trapM (heapAl (heapB hb4 h3d))) (first | (go_at_call 24; refine (HD.out _ ?hbW).mono ?_; (case hbW => first | with_reducible exact hk1 | with_reducible exact hk2); rintro e W4 ⟨rfl, hb4⟩; try (with_reducible obtain ⟨q00, q01, q02, q03, q04, q05, q06, q07, q08, q09, q10, q11, q0f⟩ := twelveF (heapB hb4 n3))))
  all_goals
    rename_i hHeld
    first
    | (clear q00
       have hwA : Below W3.heap.size W3 (W3.alloc (.cells #[.int .i64 0, .string ⟨#[]⟩, .int .i64 0, .int .u32 0, .int .i64 0, .int .i64 0, .slice none 0 0, .string ⟨#[]⟩, .string ⟨#[]⟩, .int .i64 0, .int .i64 0, .int .u64 0] 26)).drew := wA
       have hW35 : Below W3.heap.size W3 W4 := hwA.trans (hb4.mono hwA.size)
       have h4 : W4.heap[w.heap.size]? = _ := heapB hW35 H3.out
       have hz4 : W4.heap[w.heap.size + 1]? = _ := heapB hW35 HZ3.out
       have hn4 : W4.heap[W3.heap.size]? = _ := heapB hb4 n3
       have hQ1' : w.heap.size + 1 < W3.heap.size := Lib.lt_of_heap HZ3.out
       obtain ⟨Q, hQ⟩ : ∃ Q, Q = W3.heap.size := ⟨_, rfl⟩
       rw [← hQ] at hn4 hQ1'
       obtain ⟨W5, hW5⟩ : ∃ W5, W5 = ((((((((((((W4.setCell ⟨Q, 0, none⟩ (.int .i64 0)).setCell ⟨Q, 1, none⟩ (.string com)).setCell ⟨Q, 2, none⟩ (.int .i64 164)).setCell ⟨Q, 3, none⟩ (.int .u32 0)).setCell ⟨Q, 4, none⟩ (.int .i64 0)).setCell ⟨Q, 5, none⟩ (.int .i64 0)).setCell ⟨Q, 6, none⟩ (.slice none 0 0)).setCell ⟨Q, 7, none⟩ (.string (dot arcs))).setCell ⟨Q, 8, none⟩ (.string agent)).setCell ⟨Q, 9, none⟩ (.int .i64 gen)).setCell ⟨Q, 10, none⟩ (.int .i64 spec)).setCell ⟨Q, 11, none⟩ (.int .u64 time)) := ⟨_, rfl⟩
       have hq5 : W5.heap[Q]? = some (.cells #[.int .i64 0, .string com, .int .i64 164, .int .u32 0, .int .i64 0, .int .i64 0, .slice none 0 0, .string (dot arcs), .string agent, .int .i64 gen, .int .i64 spec, .int .u64 time] 26 (0, 0)) := by rw [hW5]; exact setAll12 hn4
       have HP5 : Hid (W5.heap[w.heap.size]? = some (.cells #[.int .i64 0, .string com, .int .i64 164, .int .u32 0, .int .i64 0, .int .i64 0, .slice A n c, .string ent, .string agent, .int .i64 gen, .int .i64 spec, .int .u64 time] 26 (0, 0))) := by unfold Hid; rw [hW5]; exact heapS12 (by omega) h4
       have HZ5 : Hid (W5.heap[w.heap.size + 1]? = some (.cells #[.int .i64 0, .string ⟨#[]⟩, .int .i64 0, .int .u32 0, .int .i64 0, .int .i64 0, .slice none 0 0, .string ⟨#[]⟩, .string ⟨#[]⟩, .int .i64 0, .int .i64 0, .int .u64 0] 26 (0, 0))) := by unfold Hid; rw [hW5]; exact heapS12 (by omega) hz4
       have HB5 : Hid (Below w.heap.size w W5) := by unfold Hid; rw [hW5]; exact setBel12 (HB3.out.trans (hW35.mono HB3.out.size)) (by omega)
       rw [← hQ, ← hW5]
       have hQ1 := hQ1'
       have HQ5 := Lib.hid hq5
       clear hn4 q01 q02 q03 q04 q05 q06 q07 q08 q09 q10 q11 q0f hwA hQ1' hW5 hQ hq5 h4 hz4 hW35)
    | (have hW35 : Below W3.heap.size W3 W4 := Below.trans (b := W3.drew) ((Below.refl _ _).drew) hb4
       have h4 : W4.heap[w.heap.size]? = _ := heapB hW35 H3.out
       have hz4 : W4.heap[w.heap.size + 1]? = _ := heapB hW35 HZ3.out
       obtain ⟨Q, hQ⟩ : ∃ Q, Q = W4.heap.size := ⟨_, rfl⟩
       obtain ⟨W5, hW5⟩ : ∃ W5, W5 = W4.alloc (.cells #[.int .i64 0, .string com, .int .i64 164, .int .u32 0, .int .i64 0, .int .i64 0, .slice none 0 0, .string (dot arcs), .string agent, .int .i64 gen, .int .i64 spec, .int .u64 time] 26) := ⟨_, rfl⟩
       have hb5 : Below W4.heap.size W4 W5 := by rw [hW5]; exact (Below.refl _ _).alloc (Nat.le_refl _) _
       have hq5 : W5.heap[Q]? = some (.cells #[.int .i64 0, .string com, .int .i64 164, .int .u32 0, .int .i64 0, .int .i64 0, .slice none 0 0, .string (dot arcs), .string agent, .int .i64 gen, .int .i64 spec, .int .u64 time] 26 (0, 0)) := by rw [hW5, hQ]; exact heap_alloc_new W4 _
       rw [← hW5, ← hQ]
       have hQ1 : w.heap.size + 1 < Q := by rw [hQ]; exact Lib.lt_of_heap hz4
       have HP5 := Lib.hid (heapB hb5 h4)
       have HZ5 := Lib.hid (heapB hb5 hz4)
       have HB5 : Hid (Below w.heap.size w W5) := HB3.out.trans ((hW35.trans (hb5.mono hW35.size)).mono HB3.out.size)
       have HQ5 := Lib.hid hq5
       clear hb5 hW5 hQ hq5 h4 hz4 hW35)
    clear hHeld h3d n3 h3A hne3 hk1 hk2 hb4 HD HB3 H3 HZ3 c0 c1 c2 c3 c4 c5 c6 c7 c8 c9 c10 c11 h_gen0 h_gen1 h_spec0 h_spec1 h_time
    have c6 : W5.cell? ⟨w.heap.size, 6, none⟩ = some (.slice A n c) := by rw [Lib.cell_of_heap HP5.out]; rfl
    have HSQ := Lib.hid hQ1
    clear hQ1
    go_wp2
    go_loopw [112] (fun i wr => ∃ (k : Nat) (l : List AV) (vo : Value), i = .int .i64 k ∧ k ≤ n ∧ TrpAt w Q (fun vo => #[.int .i64 0, .string com, .int .i64 164, .int .u32 0, .int .i64 0, .int .i64 0, vo, .string (dot arcs), .string agent, .int .i64 gen, .int .i64 spec, .int .u64 time]) rs k l vo wr) (fun i _ => n - (intOf i).toNat)
    case atStart => exact ⟨0, [], .slice none 0 0, rfl, Nat.zero_le _, ⟨rfl, fun j x h => by omega⟩, HQ5.out, OwnC.nil _ _ _ _, HB5.out, HZ5.out, HSQ.out⟩
    case round =>
      obtain ⟨k, l, vo, rfl, hk, hT⟩ := hrel
      obtain ⟨wo, rfl⟩ : ∃ wo : World, wo = wr := ⟨_, rfl⟩
      have HA := Lib.hid hT.avs
      have HQ1 := Lib.hid hT.out
      have HO1 := Lib.hid hT.own
      have HB1 := Lib.hid hT.below
      have HZ1 := Lib.hid hT.res
      have HSZ := Lib.hid hT.size
      clear hT
      by_cases hkn : k < n
      · obtain ⟨x, hx⟩ : ∃ x, rs[k]? = some x := ⟨_, List.getElem?_eq_getElem (by rw [HN.out]; exact hkn)⟩
        obtain ⟨g, o, rfl, e0, e1, e2, e3, e4⟩ := HROW.out k x hx
        have e0 := cellB HB1.out e0
        have e1 := cellB HB1.out e1
        have e2 := cellB HB1.out e2
        have e3 := cellB HB1.out e3
        have e4 := cellB HB1.out e4
        obtain ⟨f1, f2⟩ := HFIT.out x (List.mem_of_getElem? hx)
        obtain ⟨wi, wu0, wu1⟩ := HWF.out x (List.mem_of_getElem? hx)
        obtain ⟨un, hun⟩ : ∃ un : Nat, x.u = (un : Int) := ⟨x.u.toNat, by omega⟩
        have HV : Hid (∀ W, Calls Tryz.prog 15 #[varV x.name x.t x.i x.u x.text, .int .i64 0] W (RetVal W (avOf x.name x.t x.i x.u x.text) 0)) := fun W => by rw [hun]; exact specValue W x.name x.t x.i un x.text 0 (by omega) wi (by omega) f1 f2
        obtain ⟨xn, hxn⟩ : ∃ xn, xn = x.name := ⟨_, rfl⟩
        obtain ⟨xt, hxt⟩ : ∃ xt, xt = x.t := ⟨_, rfl⟩
        obtain ⟨xi, hxi⟩ : ∃ xi, xi = x.i := ⟨_, rfl⟩
        obtain ⟨xu, hxu⟩ : ∃ xu, xu = x.u := ⟨_, rfl⟩
        obtain ⟨xx, hxx⟩ : ∃ xx, xx = x.text := ⟨_, rfl⟩
        obtain ⟨ao, hao⟩ : ∃ ao, ao = avOf x.name x.t x.i x.u x.text := ⟨_, rfl⟩
        rw [← hao, ← hxn, ← hxt, ← hxi, ← hxu, ← hxx] at HV
        rw [← hxn] at e0
        rw [← hxt] at e1
        rw [← hxi] at e2
        rw [← hxu] at e3
        rw [← hxx] at e4
        unfold varV at HV
        have HX := Lib.hid hx
        have HAO := Lib.hid hao
        clear hx hxn hxt hxi hxu hxx hao f1 f2 wi wu0 wu1 hun
        go_wp2_with (go_at_call 15; refine (HV.out _).mono ?_; rintro e W2 ⟨v1, v2, s0, s1, s2, s3, s4, b, rfl, hbb, hyes, hb2⟩; have HBB := Lib.hid hbb; clear hbb; refine Hid.out ?_)
        refine Lib.hid ?_
        have HY := Lib.hid hyes
        have hba : Below wo.heap.size wo W2 := Below.trans ((Below.refl _ _).alloc (Nat.le_refl _) _) (hb2.mono (by simp))
        have HB2 : Hid (Below w.heap.size w W2) := HB1.out.trans (hba.mono HB1.out.size)
        have HQ2 : Hid (W2.heap[Q]? = some (.cells #[.int .i64 0, .string com, .int .i64 164, .int .u32 0, .int .i64 0, .int .i64 0, vo, .string (dot arcs), .string agent, .int .i64 gen, .int .i64 spec, .int .u64 time] 26 (0, 0))) := (hba.block _ (Lib.lt_of_heap HQ1.out)).trans HQ1.out
        have HZ2 : Hid (W2.heap[w.heap.size + 1]? = some (.cells #[.int .i64 0, .string ⟨#[]⟩, .int .i64 0, .int .u32 0, .int .i64 0, .int .i64 0, .slice none 0 0, .string ⟨#[]⟩, .string ⟨#[]⟩, .int .i64 0, .int .i64 0, .int .u64 0] 26 (0, 0))) := (hba.block _ (Lib.lt_of_heap HZ1.out)).trans HZ1.out
        have HO2 := Lib.hid (HO1.out.below hba)
        clear hyes hb2 hba e0 e1 e2 e3 e4 HV
        cases b with
        | false =>
          go_upto_region 10 with fail
          obtain ⟨W3, hW3⟩ : ∃ W3, W3 = W2.alloc (.cells #[.string s0, .int .i64 s1, .int .i64 s2, .int .u64 s3, .string s4] 40) := ⟨_, rfl⟩
          rw [← hW3]
          have hb3 : Below W2.heap.size W2 W3 := by rw [hW3]; exact (Below.refl _ _).alloc (Nat.le_refl _) _
          have hz3 : W3.heap[w.heap.size + 1]? = some (.cells #[.int .i64 0, .string ⟨#[]⟩, .int .i64 0, .int .u32 0, .int .i64 0, .int .i64 0, .slice none 0 0, .string ⟨#[]⟩, .string ⟨#[]⟩, .int .i64 0, .int .i64 0, .int .u64 0] 26 (0, 0)) := (hb3.block _ (Lib.lt_of_heap HZ2.out)).trans HZ2.out
          have HB3 : Hid (Below w.heap.size w W3) := HB2.out.trans (hb3.mono HB2.out.size)
          obtain ⟨s_0, s_1, s_2, s_3, s_4, s_5, s_6, s_7, s_8, s_9, s_10, s_11⟩ := twelve hz3
          have sf : ∀ i, W3.frozen? ⟨w.heap.size + 1, i, none⟩ = false := fun i => Lib.frozen_of_heap hz3 i
          have HS := Lib.hid (setCells_at (g := w.heap.size + 1) (T := 26) [(.int .i64 0), (.string ⟨#[]⟩), (.int .i64 0), (.int .u32 0), (.int .i64 0), (.int .i64 0), (.slice none 0 0), (.string ⟨#[]⟩), (.string ⟨#[]⟩), (.int .i64 0), (.int .i64 0), (.int .u64 0)] 0 W3 _ hz3 (by simp))
          clear hW3 hb3 hz3 HO2 HY HO1
          go_wp2
          change bodyPost _ _ _ _ _ (W3.setCells (w.heap.size + 1) 0 [(.int .i64 0), (.string ⟨#[]⟩), (.int .i64 0), (.int .u32 0), (.int .i64 0), (.int .i64 0), (.slice none 0 0), (.string ⟨#[]⟩), (.string ⟨#[]⟩), (.int .i64 0), (.int .i64 0), (.int .u64 0)])
          obtain ⟨z1, z2⟩ := HS.out
          generalize W3.setCells (w.heap.size + 1) 0 [(.int .i64 0), (.string ⟨#[]⟩), (.int .i64 0), (.int .u32 0), (.int .i64 0), (.int .i64 0), (.slice none 0 0), (.string ⟨#[]⟩), (.string ⟨#[]⟩), (.int .i64 0), (.int .i64 0), (.int .u64 0)] = WF at z1 z2 ⊢
          have z1b : WF.heap[w.heap.size + 1]? = some (.cells #[.int .i64 0, .string ⟨#[]⟩, .int .i64 0, .int .u32 0, .int .i64 0, .int .i64 0, .slice none 0 0, .string ⟨#[]⟩, .string ⟨#[]⟩, .int .i64 0, .int .i64 0, .int .u64 0] 26 (0, 0)) := z1
          obtain ⟨k0, k1, k2, k3, k4, k5, k6, k7, k8, k9, k10, k11⟩ := twelve z1b
          try simp only [Exit.inBlock, Exit.then]
          refine bodyPost_ret (v := .tuple #[.agg #[.int .i64 0, .string ⟨#[]⟩, .int .i64 0, .int .u32 0, .int .i64 0, .int .i64 0, .slice none 0 0, .string ⟨#[]⟩, .string ⟨#[]⟩, .int .i64 0, .int .i64 0, .int .u64 0], .bool false]) (by simp [results, Tryz.results11, go_sem, k0, k1, k2, k3, k4, k5, k6, k7, k8, k9, k10, k11]) rfl ?_
          exact ⟨.inl rfl, HB3.out.trans (z2.below HB3.out.size (by simp))⟩
        | true =>
          obtain ⟨y, hy⟩ : ∃ y, ao = some y := Option.isSome_iff_exists.1 (HBB.out.symm)
          have HVV := Lib.hid (HY.out y hy).2
          have HYY := Lib.hid hy
          have HN1 : Hid (AVk rs (k + 1) (l ++ [y])) := HA.out.snoc HX.out (by rw [← HAO.out]; exact hy)
          clear hy
          go_upto_region 12 with fail
          obtain ⟨W3, hW3⟩ : ∃ W3, W3 = W2.alloc (.cells #[.string s0, .int .i64 s1, .int .i64 s2, .int .u64 s3, .string s4] 40) := ⟨_, rfl⟩
          obtain ⟨X, hX⟩ : ∃ X, X = W2.heap.size := ⟨_, rfl⟩
          have hb3 : Below W2.heap.size W2 W3 := by rw [hW3]; exact (Below.refl _ _).alloc (Nat.le_refl _) _
          have hx3 : W3.heap[X]? = some (.cells #[.string s0, .int .i64 s1, .int .i64 s2, .int .u64 s3, .string s4] 40 (0, 0)) := by rw [hW3, hX]; exact heap_alloc_new W2 _
          rw [← hW3, ← hX]
          have hz3 : W3.heap[w.heap.size + 1]? = some (.cells #[.int .i64 0, .string ⟨#[]⟩, .int .i64 0, .int .u32 0, .int .i64 0, .int .i64 0, .slice none 0 0, .string ⟨#[]⟩, .string ⟨#[]⟩, .int .i64 0, .int .i64 0, .int .u64 0] 26 (0, 0)) := (hb3.block _ (Lib.lt_of_heap HZ2.out)).trans HZ2.out
          have hq3 : W3.heap[Q]? = some (.cells #[.int .i64 0, .string com, .int .i64 164, .int .u32 0, .int .i64 0, .int .i64 0, vo, .string (dot arcs), .string agent, .int .i64 gen, .int .i64 spec, .int .u64 time] 26 (0, 0)) := (hb3.block _ (Lib.lt_of_heap HQ2.out)).trans HQ2.out
          have HB3 : Hid (Below w.heap.size w W3) := HB2.out.trans (hb3.mono HB2.out.size)
          have HO3 := Lib.hid (HO2.out.below hb3)
          obtain ⟨x0, x1, x2, x3, x4⟩ := fiveC hx3
          have q6 : W3.cell? ⟨Q, 6, none⟩ = some vo := by rw [Lib.cell_of_heap hq3]; rfl
          have hnQ : some Q ≠ vo.ownBlock := fun e => by have := (HO3.out.lt e.symm).1; omega
          have hnR : some (w.heap.size + 1) ≠ vo.ownBlock := fun e => by have := (HO3.out.lt e.symm).1; have := HSZ.out; omega
          have HZ3 := Lib.hid hz3
          have HQ3 := Lib.hid hq3
          have hQs : Q < W3.heap.size := Lib.lt_of_heap hq3
          have HHN := Lib.hid (And.intro hnQ hnR)
          have hk20 : k ≤ 20 := by omega
          have HONE : Hid (∀ u ∈ [Value.string s0, .int .i64 s1, .int .i64 s2, .int .u64 s3, .string s4], Value.oneCell' u = true) := by
            intro u hu; simp at hu; rcases hu with rfl | rfl | rfl | rfl | rfl <;> rfl
          have HTC : Hid (toldC (l ++ [y]) = toldC l ++ [.string s0, .int .i64 s1, .int .i64 s2, .int .u64 s3, .string s4]) := by
            unfold Hid
            rw [toldC_snoc]
            have hv := HVV.out
            simp only [toldV] at hv
            injection hv with hv
            rw [show [Value.string (dot y.arcs), .int .i64 y.pay.typ, .int .i64 (toldI y.pay), .int .u64 (toldU y.pay), .string (toldT y.pay)] = [Value.string s0, .int .i64 s1, .int .i64 s2, .int .u64 s3, .string s4] from (congrArg Array.toList hv).symm]
          clear hW3 hX hb3 hx3 hz3 hq3 hnQ hnR HO2 HO1 HY HB2 HQ2 HZ2
          go_wp2_with (at_builtin; refine wpList_appendC elem23 (by omega) _ rfl _ _ rfl (Q + 1) _ k (toldC l) [.string s0, .int .i64 s1, .int .i64 s2, .int .u64 s3, .string s4] W3.heap.size 1 rfl rfl (by exact HO3.out.alloc _) rfl (by exact new5 W3) HONE.out (by simp; omega) (by omega) ?_)
          intro v6 w6 hO6 hg6 _
          have hQ6 : w6.heap[Q]? = some (.cells #[.int .i64 0, .string com, .int .i64 164, .int .u32 0, .int .i64 0, .int .i64 0, vo, .string (dot arcs), .string agent, .int .i64 gen, .int .i64 spec, .int .u64 time] 26 (0, 0)) := (hg6.block Q (by simp; omega) HHN.out.1).trans ((Below.heap_alloc _ _ _ hQs).trans HQ3.out)
          have hZ6 : w6.heap[w.heap.size + 1]? = some (.cells #[.int .i64 0, .string ⟨#[]⟩, .int .i64 0, .int .u32 0, .int .i64 0, .int .i64 0, .slice none 0 0, .string ⟨#[]⟩, .string ⟨#[]⟩, .int .i64 0, .int .i64 0, .int .u64 0] 26 (0, 0)) := (hg6.block (w.heap.size + 1) (by have := Lib.lt_of_heap HZ3.out; simp; omega) HHN.out.2).trans ((Below.heap_alloc _ _ _ (Lib.lt_of_heap HZ3.out)).trans HZ3.out)
          have hB6 : Below w.heap.size w w6 := (HB3.out.alloc HB3.out.size _).grown hg6 (by have := HB3.out.size; simp; omega) (fun q e => by have := (HO3.out.lt e).1; have := HSZ.out; omega)
          have hO6' : OwnC 40 5 w6 (Q + 1) v6 (k + 1) (toldC (l ++ [y])) := by rw [HTC.out]; exact hO6
          obtain ⟨A6, cap6, rfl⟩ := hO6.shape
          have p6 : w6.cell? ⟨Q, 6, none⟩ = some vo := by rw [Lib.cell_of_heap hQ6]; rfl
          have pf6 : w6.frozen? ⟨Q, 6, none⟩ = false := Lib.frozen_of_heap hQ6 6
          have HNEXT : Hid (TrpAt w Q (fun vo => #[.int .i64 0, .string com, .int .i64 164, .int .u32 0, .int .i64 0, .int .i64 0, vo, .string (dot arcs), .string agent, .int .i64 gen, .int .i64 spec, .int .u64 time]) rs (k + 1) (l ++ [y]) (.slice A6 (k + 1) cap6) (w6.setCell ⟨Q, 6, none⟩ (.slice A6 (k + 1) cap6))) :=
            ⟨HN1.out, Lib.heap_setCell_same (i := 6) hQ6 _, hO6'.setCell (by omega) _, hB6.setCell (by have := HSZ.out; simp; omega) _, by rw [Below.heap_setCell _ _ _ _ (by have := HSZ.out; simp; omega)]; exact hZ6, HSZ.out⟩
          clear hO6 hg6 hQ6 hZ6 hB6 hO6' x0 x1 x2 x3 x4 q6
          go_wp2
          go_roundw
          case rel => exact ⟨k + 1, _, _, by go_num, hkn, HNEXT.out⟩
          case measure => simp [intOf]; omega
      · obtain rfl : k = n := by omega
        have hln : l.length = k := HA.out.1
        have HAVS : Hid (AVs rs l) := ⟨by rw [hln, HN.out], fun j x hx => HA.out.2 j x (by have := (List.getElem?_eq_some_iff.1 hx).1; rw [HN.out] at this; exact this) hx⟩
        obtain ⟨q0, q1, q2, q3, q4, q5, q6, q7, q8, q9, q10, q11⟩ := twelve HQ1.out
        obtain ⟨s0, s1, s2, s3, s4, s5, s6, s7, s8, s9, s10, s11⟩ := twelve HZ1.out
        have sf : ∀ i, wo.frozen? ⟨w.heap.size + 1, i, none⟩ = false := fun i => Lib.frozen_of_heap HZ1.out i
        have hstv : ∀ (W : World) (q : Addr) (m : Mode), (store q vo m).run Tryz.prog W = stored Tryz.prog W q vo m := fun W q m => run_store _ W q vo m (by obtain ⟨A, c, rfl⟩ := HO1.out.shape; rfl)
        have hqr : Q ≠ w.heap.size + 1 := by have := HSZ.out; omega
        have HS := Lib.hid (setCells_at (g := w.heap.size + 1) (T := 26) [(.int .i64 0), (.string com), (.int .i64 164), (.int .u32 0), (.int .i64 0), (.int .i64 0), (vo), (.string (dot arcs)), (.string agent), (.int .i64 gen), (.int .i64 spec), (.int .u64 time)] 0 wo _ HZ1.out (by simp))
        clear hln
        go_wp2
        change bodyPost _ _ _ _ _ (wo.setCells (w.heap.size + 1) 0 [(.int .i64 0), (.string com), (.int .i64 164), (.int .u32 0), (.int .i64 0), (.int .i64 0), (vo), (.string (dot arcs)), (.string agent), (.int .i64 gen), (.int .i64 spec), (.int .u64 time)])
        obtain ⟨z1, z2⟩ := HS.out
        generalize wo.setCells (w.heap.size + 1) 0 [(.int .i64 0), (.string com), (.int .i64 164), (.int .u32 0), (.int .i64 0), (.int .i64 0), (vo), (.string (dot arcs)), (.string agent), (.int .i64 gen), (.int .i64 spec), (.int .u64 time)] = WF at z1 z2 ⊢
        have z1b : WF.heap[w.heap.size + 1]? = some (.cells #[.int .i64 0, .string com, .int .i64 164, .int .u32 0, .int .i64 0, .int .i64 0, vo, .string (dot arcs), .string agent, .int .i64 gen, .int .i64 spec, .int .u64 time] 26 (0, 0)) := z1
        obtain ⟨k0, k1, k2, k3, k4, k5, k6, k7, k8, k9, k10, k11⟩ := twelve z1b
        try simp only [Exit.inBlock, Exit.then]
        refine bodyPost_ret (v := .tuple #[.agg #[.int .i64 0, .string com, .int .i64 164, .int .u32 0, .int .i64 0, .int .i64 0, vo, .string (dot arcs), .string agent, .int .i64 gen, .int .i64 spec, .int .u64 time], .bool true]) (by simp [results, Tryz.results11, go_sem, k0, k1, k2, k3, k4, k5, k6, k7, k8, k9, k10, k11]) rfl ?_
        refine ⟨.inr ⟨arcs, ip, vo, l, rfl, HT.out, HAVS.out, ?_⟩, HB1.out.trans (z2.below HB1.out.size (by simp))⟩
        have h1 := HO1.out
        rw [← HA.out.1] at h1
        exact OwnC.rebase (h1.kept (fun q hq => z2.block q (h1.lt hq).2 (by have := (h1.lt hq).1; have := HSZ.out; simp; omega))) (by have := HSZ.out; omega)

end Go.Proofs.YtpfmcdhmboclhaaGreatDoor
