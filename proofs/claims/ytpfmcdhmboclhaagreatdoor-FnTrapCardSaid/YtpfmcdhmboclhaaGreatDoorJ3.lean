/- spec: a trap as it is told: where it is none. -/
import Derived.Test.YtpfmcdhmboclhaaGreatDoorR2
set_option linter.unusedVariables false
set_option linter.unusedSimpArgs false
namespace Go.Proofs.YtpfmcdhmboclhaaGreatDoor
open Go.RowKit

theorem trap_ways {ver : Int} {com : ByteArray} {kind id st ix : Int} {n : Nat} {ent agent : ByteArray} {gen spec time : Int} {b1 b3 : Bool} (h1 : b1 = (arcsOf (bytesOf ent)).isSome) (h3 : b3 = (ipOf (bytesOf agent)).isSome) (hbad : ¬ ∃ arcs ip, TrpOk ver com kind id st ix n ent agent gen spec time arcs ip) :
    b1 = false ∨ b1 = true ∧ (b3 = false ∨ b3 = true ∧ (((kind == 164) = false ∧ (kind != 164) = true) ∨ kind = 164 ∧ (((ver == 0) = false ∧ (ver != 0) = true) ∨ ver = 0 ∧ ((127 : Int) < (com.size : Int) ∨ com.size ≤ 127 ∧ (gen < 0 ∨ 0 ≤ gen ∧ (127 < gen ∨ gen ≤ 127 ∧ (spec < 0 ∨ 0 ≤ spec ∧ (2147483648 ≤ spec ∨ spec < 2147483648 ∧ (2147483648 ≤ time ∨ time < 2147483648 ∧ (20 < n ∨ n ≤ 20 ∧ (((id == 0) = false ∧ (id != 0) = true) ∨ id = 0 ∧ (((st == 0) = false ∧ (st != 0) = true) ∨ st = 0 ∧ (((ix == 0) = false ∧ (ix != 0) = true)))))))))))))) := by
  cases ha : arcsOf (bytesOf ent) with
  | none => exact .inl (by rw [h1, ha]; rfl)
  | some arcs =>
    refine .inr ⟨by rw [h1, ha]; rfl, ?_⟩
    cases hp : ipOf (bytesOf agent) with
    | none => exact .inl (by rw [h3, hp]; rfl)
    | some ip =>
      refine .inr ⟨by rw [h3, hp]; rfl, ?_⟩
      by_cases h_kind : kind = 164
      case neg => exact .inl ⟨by simpa using h_kind, by simpa using h_kind⟩
      refine .inr ⟨h_kind, ?_⟩
      by_cases h_ver : ver = 0
      case neg => exact .inl ⟨by simpa using h_ver, by simpa using h_ver⟩
      refine .inr ⟨h_ver, ?_⟩
      by_cases h_com : com.size ≤ 127
      case neg => exact .inl (by omega)
      refine .inr ⟨h_com, ?_⟩
      by_cases h_gen0 : 0 ≤ gen
      case neg => exact .inl (by omega)
      refine .inr ⟨h_gen0, ?_⟩
      by_cases h_gen1 : gen ≤ 127
      case neg => exact .inl (by omega)
      refine .inr ⟨h_gen1, ?_⟩
      by_cases h_spec0 : 0 ≤ spec
      case neg => exact .inl (by omega)
      refine .inr ⟨h_spec0, ?_⟩
      by_cases h_spec1 : spec < 2147483648
      case neg => exact .inl (by omega)
      refine .inr ⟨h_spec1, ?_⟩
      by_cases h_time : time < 2147483648
      case neg => exact .inl (by omega)
      refine .inr ⟨h_time, ?_⟩
      by_cases h_n : n ≤ 20
      case neg => exact .inl (by omega)
      refine .inr ⟨h_n, ?_⟩
      by_cases h_id : id = 0
      case neg => exact .inl ⟨by simpa using h_id, by simpa using h_id⟩
      refine .inr ⟨h_id, ?_⟩
      by_cases h_st : st = 0
      case neg => exact .inl ⟨by simpa using h_st, by simpa using h_st⟩
      refine .inr ⟨h_st, ?_⟩
      by_cases h_ix : ix = 0
      case neg => exact ⟨by simpa using h_ix, by simpa using h_ix⟩
      exact absurd ⟨arcs, ip, ha, hp, h_kind, h_ver, h_com, h_gen0, h_gen1, h_spec0, h_spec1, h_time, h_n, h_id, h_st, h_ix⟩ hbad
set_option maxHeartbeats 64000000 in
set_option maxRecDepth 100000 in
theorem trap_no (w : World) (ver : Int) (com : ByteArray) (kind id st ix : Int) (ent agent : ByteArray) (gen spec time : Int) (A : Option Addr) (n c : Nat) (rs : List Raw) (hent : ent.size ≤ 2147483647) (hag : agent.size ≤ 2147483647) (hcom : com.size ≤ 2147483647) (hn63 : n ≤ 2147483647) (hbad : ¬ ∃ arcs ip, TrpOk ver com kind id st ix n ent agent gen spec time arcs ip) :
    Calls Tryz.prog 11 #[msgV ver com kind id st ix (.slice A n c) ent agent gen spec time] w (RetTrp w ver com kind id st ix n rs ent agent gen spec time) := by
  have HBAD := Lib.hid hbad
  clear hbad
  simp only [msgV]
  obtain ⟨W1, hW1⟩ : ∃ W1, W1 = (w.alloc (.cells #[.int .i64 ver, .string com, .int .i64 kind, .int .u32 id, .int .i64 st, .int .i64 ix, .slice A n c, .string ent, .string agent, .int .i64 gen, .int .i64 spec, .int .u64 time] 26)).alloc (.cells #[.int .i64 0, .string ⟨#[]⟩, .int .i64 0, .int .u32 0, .int .i64 0, .int .i64 0, .slice none 0 0, .string ⟨#[]⟩, .string ⟨#[]⟩, .int .i64 0, .int .i64 0, .int .u64 0] 26) := ⟨_, rfl⟩
  have hb1 : Below w.heap.size w W1 := by rw [hW1]; exact ((Below.refl _ _).alloc (Nat.le_refl _) _).alloc (by simp) _
  have h1 : W1.heap[w.heap.size]? = some (.cells #[.int .i64 ver, .string com, .int .i64 kind, .int .u32 id, .int .i64 st, .int .i64 ix, .slice A n c, .string ent, .string agent, .int .i64 gen, .int .i64 spec, .int .u64 time] 26 (0, 0)) := by rw [hW1, Below.heap_alloc _ _ _ (by simp)]; exact heap_alloc_new w _
  have hz1 : W1.heap[w.heap.size + 1]? = some (.cells #[.int .i64 0, .string ⟨#[]⟩, .int .i64 0, .int .u32 0, .int .i64 0, .int .i64 0, .slice none 0 0, .string ⟨#[]⟩, .string ⟨#[]⟩, .int .i64 0, .int .i64 0, .int .u64 0] 26 (0, 0)) := by
    rw [hW1]
    have hh := heap_alloc_new (w.alloc (.cells #[.int .i64 ver, .string com, .int .i64 kind, .int .u32 id, .int .i64 st, .int .i64 ix, .slice A n c, .string ent, .string agent, .int .i64 gen, .int .i64 spec, .int .u64 time] 26)) (.cells #[.int .i64 0, .string ⟨#[]⟩, .int .i64 0, .int .u32 0, .int .i64 0, .int .i64 0, .slice none 0 0, .string ⟨#[]⟩, .string ⟨#[]⟩, .int .i64 0, .int .i64 0, .int .u64 0] 26)
    rwa [show (w.alloc (.cells #[.int .i64 ver, .string com, .int .i64 kind, .int .u32 id, .int .i64 st, .int .i64 ix, .slice A n c, .string ent, .string agent, .int .i64 gen, .int .i64 spec, .int .u64 time] 26)).heap.size = w.heap.size + 1 by simp] at hh
  have HI := Lib.hid (specArcs ent W1 hent)
  have HC : Hid (∀ W, Calls Tryz.prog 23 #[.string agent] W (IpRet agent W)) := fun W => address agent W hag
  have HB1 := Lib.hid hb1
  have HW1 := Lib.hid hW1
  have H1 := Lib.hid h1
  have HZ1 := Lib.hid hz1
  clear hb1 hW1 h1 hz1 hent hag
  go_enter Tryz.func11, Tryz.ntmps11
  go_wp2_with (go_at_call 22; rw [← HW1.out]; refine (HI.out).mono ?_; rintro e W2 ⟨v2, b1, rfl, hbb, hyes, hb2⟩; have HBA := Lib.hid hbb; clear hbb hyes; refine Hid.out ?_)
  refine Lib.hid ?_
  have HB2 : Hid (Below w.heap.size w W2) := HB1.out.trans (hb2.mono HB1.out.size)
  have H2 := Lib.hid ((hb2.block _ (Lib.lt_of_heap H1.out)).trans H1.out)
  have HZ2 := Lib.hid ((hb2.block _ (Lib.lt_of_heap HZ1.out)).trans HZ1.out)
  obtain ⟨c0, c1, c2, c3, c4, c5, c6, c7, c8, c9, c10, c11⟩ := twelve H2.out
  clear hb2 HI HB1 HW1 H1 HZ1
  go_wp2_with (go_at_call 23; refine (HC.out _).mono ?_; rintro e W3 ⟨v3, b3, rfl, hbb, hyes, hb3⟩; have HBB := Lib.hid hbb; clear hbb hyes; refine Hid.out ?_)
  refine Lib.hid ?_
  have HB3 : Hid (Below w.heap.size w W3) := HB2.out.trans (hb3.mono HB2.out.size)
  have H3 := Lib.hid ((hb3.block _ (Lib.lt_of_heap H2.out)).trans H2.out)
  have HZ3 := Lib.hid ((hb3.block _ (Lib.lt_of_heap HZ2.out)).trans HZ2.out)
  clear hb3 HC c0 c1 c2 c3 c4 c5 c6 c7 c8 c9 c10 c11
  obtain ⟨c0, c1, c2, c3, c4, c5, c6, c7, c8, c9, c10, c11⟩ := twelve H3.out
  obtain ⟨s_0, s_1, s_2, s_3, s_4, s_5, s_6, s_7, s_8, s_9, s_10, s_11⟩ := twelve HZ3.out
  have sf : ∀ i, W3.frozen? ⟨w.heap.size + 1, i, none⟩ = false := fun i => Lib.frozen_of_heap HZ3.out i
  have HS := Lib.hid (setCells_at (g := w.heap.size + 1) (T := 26) [(.int .i64 0), (.string ⟨#[]⟩), (.int .i64 0), (.int .u32 0), (.int .i64 0), (.int .i64 0), (.slice none 0 0), (.string ⟨#[]⟩), (.string ⟨#[]⟩), (.int .i64 0), (.int .i64 0), (.int .u64 0)] 0 W3 _ HZ3.out (by simp))
  clear HB2 H2 HZ2
  have hD := trap_ways HBA.out HBB.out HBAD.out
  clear HBA HBB HBAD
  rcases hD with rfl | ⟨rfl, rfl | ⟨rfl, ⟨z, z2⟩ | ⟨rfl, ⟨z, z2⟩ | ⟨rfl, z | ⟨h_com, z | ⟨h_gen0, z | ⟨h_gen1, z | ⟨h_spec0, z | ⟨h_spec1, z | ⟨h_time, z | ⟨h_n, ⟨z, z2⟩ | ⟨rfl, ⟨z, z2⟩ | ⟨rfl, ⟨z, z2⟩⟩⟩⟩⟩⟩⟩⟩⟩⟩⟩⟩⟩⟩
  all_goals
    go_wp2
    change bodyPost _ _ _ _ _ (W3.setCells (w.heap.size + 1) 0 [(.int .i64 0), (.string ⟨#[]⟩), (.int .i64 0), (.int .u32 0), (.int .i64 0), (.int .i64 0), (.slice none 0 0), (.string ⟨#[]⟩), (.string ⟨#[]⟩), (.int .i64 0), (.int .i64 0), (.int .u64 0)])
    obtain ⟨z1, z3⟩ := HS.out
    generalize W3.setCells (w.heap.size + 1) 0 [(.int .i64 0), (.string ⟨#[]⟩), (.int .i64 0), (.int .u32 0), (.int .i64 0), (.int .i64 0), (.slice none 0 0), (.string ⟨#[]⟩), (.string ⟨#[]⟩), (.int .i64 0), (.int .i64 0), (.int .u64 0)] = WF at z1 z3 ⊢
    have z1' : WF.heap[w.heap.size + 1]? = some (.cells #[.int .i64 0, .string ⟨#[]⟩, .int .i64 0, .int .u32 0, .int .i64 0, .int .i64 0, .slice none 0 0, .string ⟨#[]⟩, .string ⟨#[]⟩, .int .i64 0, .int .i64 0, .int .u64 0] 26 (0, 0)) := z1
    obtain ⟨k0, k1, k2, k3, k4, k5, k6, k7, k8, k9, k10, k11⟩ := twelve z1'
    try simp only [Exit.inBlock, Exit.then]
    refine bodyPost_ret (v := .tuple #[.agg #[.int .i64 0, .string ⟨#[]⟩, .int .i64 0, .int .u32 0, .int .i64 0, .int .i64 0, .slice none 0 0, .string ⟨#[]⟩, .string ⟨#[]⟩, .int .i64 0, .int .i64 0, .int .u64 0], .bool false]) (by simp [results, Tryz.results11, go_sem, k0, k1, k2, k3, k4, k5, k6, k7, k8, k9, k10, k11]) rfl ?_
    exact ⟨.inl rfl, HB3.out.trans (z3.below HB3.out.size (by simp))⟩
end Go.Proofs.YtpfmcdhmboclhaaGreatDoor
