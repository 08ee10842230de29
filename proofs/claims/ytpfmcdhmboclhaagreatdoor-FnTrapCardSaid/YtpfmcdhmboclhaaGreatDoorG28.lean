/- spec: a variable as it is told. -/
import Derived.Test.YtpfmcdhmboclhaaGreatDoorG24
set_option linter.unusedVariables false
set_option linter.unusedSimpArgs false
namespace Go.Proofs.YtpfmcdhmboclhaaGreatDoor
open Go.RowKit
set_option maxHeartbeats 8000000 in
set_option maxRecDepth 100000 in
theorem plain_128 (w : World) (name : ByteArray) (i u : Int) (text : ByteArray) (arcs : List Nat) (hs : name.size ≤ 2147483647) (hn : arcsOf (bytesOf name) = some arcs) :
    Calls Tryz.prog 37 #[varV name 128 i u text] w fun e w' => e = .returned (.agg #[.string (dot arcs), .int .i64 128, .int .i64 0, .int .u64 0, .string ⟨#[]⟩]) ∧ Below w.heap.size w w' := by
  simp only [varV]
  obtain ⟨W1, hW1⟩ : ∃ W1, W1 = (w.alloc (.cells #[.string name, .int .i64 128, .int .i64 i, .int .u64 u, .string text] 40)).alloc (.cells #[.string ⟨#[]⟩, .int .i64 0, .int .i64 0, .int .u64 0, .string ⟨#[]⟩] 40) := ⟨_, rfl⟩
  have hb1 : Below w.heap.size w W1 := by rw [hW1]; exact ((Below.refl _ _).alloc (Nat.le_refl _) _).alloc (by simp) _
  have h1 : W1.heap[w.heap.size]? = some (.cells #[.string name, .int .i64 128, .int .i64 i, .int .u64 u, .string text] 40 (0, 0)) := by rw [hW1, Below.heap_alloc _ _ _ (by simp)]; exact heap_alloc_new w _
  have hz1 : W1.heap[w.heap.size + 1]? = some (.cells #[.string ⟨#[]⟩, .int .i64 0, .int .i64 0, .int .u64 0, .string ⟨#[]⟩] 40 (0, 0)) := by
    rw [hW1]
    have hh := heap_alloc_new (w.alloc (.cells #[.string name, .int .i64 128, .int .i64 i, .int .u64 u, .string text] 40)) (.cells #[.string ⟨#[]⟩, .int .i64 0, .int .i64 0, .int .u64 0, .string ⟨#[]⟩] 40)
    rwa [show (w.alloc (.cells #[.string name, .int .i64 128, .int .i64 i, .int .u64 u, .string text] 40)).heap.size = w.heap.size + 1 by simp] at hh
  have HI := Lib.hid (specArcs name W1 hs)
  have HB1 := Lib.hid hb1
  have HW1 := Lib.hid hW1
  have H1 := Lib.hid h1
  have HZ1 := Lib.hid hz1
  have HN := Lib.hid hn
  clear hb1 hW1 h1 hz1 hn
  go_enter Tryz.func37, Tryz.ntmps37
  go_wp2_with (go_at_call 22; rw [← HW1.out]; refine (HI.out).mono ?_; rintro e W2 ⟨v2, b2, rfl, hbb, hyes, hb2⟩; rw [HN.out] at hbb; obtain rfl : b2 = true := hbb; refine Hid.out ?_)
  refine Lib.hid ?_
  have hg := arcsOf_good HN.out
  have hO := hyes arcs HN.out
  have HD : Hid (∀ W, Below W2.heap.size W2 W → Calls Tryz.prog 24 #[v2] W fun e w' => e = .returned (.string (dot arcs)) ∧ Below W.heap.size W w') := fun W hW => dotted v2 arcs W (RdN.of_own (hO.below hW)) hg.small hg.sixty
  have HB2 : Hid (Below w.heap.size w W2) := HB1.out.trans (hb2.mono HB1.out.size)
  have H2 := Lib.hid ((hb2.block _ (Lib.lt_of_heap H1.out)).trans H1.out)
  have HZ2 := Lib.hid ((hb2.block _ (Lib.lt_of_heap HZ1.out)).trans HZ1.out)
  have c1d : W2.cell? ⟨w.heap.size, 1, none⟩ = some (.int .i64 128) := by rw [Lib.cell_of_heap H2.out]; rfl
  clear hyes hO hb2 hg
  go_upto_region 2 with fail
  have n2 : (W2.alloc (.cells #[.string ⟨#[]⟩, .int .i64 0, .int .i64 0, .int .u64 0, .string ⟨#[]⟩] 40)).drew.heap[W2.heap.size]? = some (.cells #[.string ⟨#[]⟩, .int .i64 0, .int .i64 0, .int .u64 0, .string ⟨#[]⟩] 40 (0, 0)) := heap_alloc_new W2 _
  have hne2 : W2.heap.size ≠ w.heap.size := by have := Lib.lt_of_heap H2.out; omega
  have c1e : W2.drew.cell? ⟨w.heap.size, 1, none⟩ = some (.int .i64 128) := c1d
  have c1A : (W2.alloc (.cells #[.string ⟨#[]⟩, .int .i64 0, .int .i64 0, .int .u64 0, .string ⟨#[]⟩] 40)).drew.cell? ⟨w.heap.size, 1, none⟩ = some (.int .i64 128) := cellB wA c1d
  go_region_held3 (fun W => W.cell? ⟨w.heap.size, 1, none⟩ = some (.int .i64 128)) (first | with_reducible exact c1e | with_reducible exact c1A | with_reducible exact cellB hb3 c1e | with_reducible exact cellB hb3 c1A | with_reducible exact cellA (cellB hb3 c1e) | with_reducible exact cellS5 hne2 (cellB hb3 c1A)) (first | (go_at_call 24; refine (HD.out _ ?hbW).mono ?_; (case hbW => first | with_reducible exact (Below.refl _ _).drew | with_reducible exact wA); rintro e W3 ⟨rfl, hb3⟩; try (with_reducible obtain ⟨q00, q01, q02, q03, q04, q0f⟩ := five40 ((hb3.block _ (Lib.lt_of_heap n2)).trans n2))))
  · rename_i hHeld
    have HB3 : Hid (Below w.heap.size w W3) := HB2.out.trans (Below.mono (B := W2.drew.heap.size) (Below.trans (b := W2.drew) ((Below.refl _ _).drew) hb3) HB2.out.size)
    have h3 : W3.heap[w.heap.size]? = _ := (hb3.block _ (Lib.lt_of_heap H2.out)).trans H2.out
    have hz3 : W3.heap[w.heap.size + 1]? = _ := (hb3.block _ (Lib.lt_of_heap HZ2.out)).trans HZ2.out
    obtain ⟨Q, hQ⟩ : ∃ Q, Q = W3.heap.size := ⟨_, rfl⟩
    obtain ⟨W4, hW4⟩ : ∃ W4, W4 = W3.alloc (.cells #[.string (dot arcs), .int .i64 128, .int .i64 0, .int .u64 0, .string ⟨#[]⟩] 40) := ⟨_, rfl⟩
    have hb4 : Below W3.heap.size W3 W4 := by rw [hW4]; exact (Below.refl _ _).alloc (Nat.le_refl _) _
    have hq4 : W4.heap[Q]? = some (.cells #[.string (dot arcs), .int .i64 128, .int .i64 0, .int .u64 0, .string ⟨#[]⟩] 40 (0, 0)) := by rw [hW4, hQ]; exact heap_alloc_new W3 _
    rw [← hW4, ← hQ]
    have hQ1 : w.heap.size + 1 < Q := by rw [hQ]; exact Lib.lt_of_heap hz3
    have h4 : W4.heap[w.heap.size]? = some (.cells #[.string name, .int .i64 128, .int .i64 i, .int .u64 u, .string text] 40 (0, 0)) := (hb4.block _ (Lib.lt_of_heap h3)).trans h3
    have hz4 : W4.heap[w.heap.size + 1]? = some (.cells #[.string ⟨#[]⟩, .int .i64 0, .int .i64 0, .int .u64 0, .string ⟨#[]⟩] 40 (0, 0)) := (hb4.block _ (Lib.lt_of_heap hz3)).trans hz3
    have HB4 : Hid (Below w.heap.size w W4) := HB3.out.trans (hb4.mono HB3.out.size)
    clear hb4
    have HQ4 := Lib.hid hq4
    have H4 := Lib.hid h4
    have HZ4 := Lib.hid hz4
    have c0 : W4.cell? ⟨w.heap.size, 0, none⟩ = some (.string name) := by rw [Lib.cell_of_heap h4]; rfl
    have c1 : W4.cell? ⟨w.heap.size, 1, none⟩ = some (.int .i64 128) := by rw [Lib.cell_of_heap h4]; rfl
    have c2 : W4.cell? ⟨w.heap.size, 2, none⟩ = some (.int .i64 i) := by rw [Lib.cell_of_heap h4]; rfl
    have c3 : W4.cell? ⟨w.heap.size, 3, none⟩ = some (.int .u64 u) := by rw [Lib.cell_of_heap h4]; rfl
    have c4 : W4.cell? ⟨w.heap.size, 4, none⟩ = some (.string text) := by rw [Lib.cell_of_heap h4]; rfl
    have hqn : Q ≠ w.heap.size := by omega
    clear hHeld hQ hW4 hq4 h3 hz3 h4 hz4 c1d c1e c1A n2 hne2 hb3 HI HD
    go_upto_region 17 with fail
    obtain ⟨W5, hW5⟩ : ∃ W5, W5 = W4 := ⟨_, rfl⟩
    rw [← hW5]
    have hq5 : W5.heap[Q]? = some (.cells #[.string (dot arcs), .int .i64 128, .int .i64 0, .int .u64 0, .string ⟨#[]⟩] 40 (0, 0)) := by rw [hW5]; exact HQ4.out
    have hz5 : W5.heap[w.heap.size + 1]? = some (.cells #[.string ⟨#[]⟩, .int .i64 0, .int .i64 0, .int .u64 0, .string ⟨#[]⟩] 40 (0, 0)) := by rw [hW5]; exact HZ4.out
    have hb5 : Below w.heap.size w W5 := by rw [hW5]; exact HB4.out
    clear hW5
    clear c0 c1 c2 c3 c4
    have e0 : W5.cell? ⟨Q, 0, none⟩ = some (.string (dot arcs)) := by rw [Lib.cell_of_heap hq5]; rfl
    have e1 : W5.cell? ⟨Q, 1, none⟩ = some (.int .i64 128) := by rw [Lib.cell_of_heap hq5]; rfl
    have e2 : W5.cell? ⟨Q, 2, none⟩ = some (.int .i64 0) := by rw [Lib.cell_of_heap hq5]; rfl
    have e3 : W5.cell? ⟨Q, 3, none⟩ = some (.int .u64 0) := by rw [Lib.cell_of_heap hq5]; rfl
    have e4 : W5.cell? ⟨Q, 4, none⟩ = some (.string ⟨#[]⟩) := by rw [Lib.cell_of_heap hq5]; rfl
    have s0 : W5.cell? ⟨w.heap.size + 1, 0, none⟩ = some (.string ⟨#[]⟩) := by rw [Lib.cell_of_heap hz5]; rfl
    have s1 : W5.cell? ⟨w.heap.size + 1, 1, none⟩ = some (.int .i64 0) := by rw [Lib.cell_of_heap hz5]; rfl
    have s2 : W5.cell? ⟨w.heap.size + 1, 2, none⟩ = some (.int .i64 0) := by rw [Lib.cell_of_heap hz5]; rfl
    have s3 : W5.cell? ⟨w.heap.size + 1, 3, none⟩ = some (.int .u64 0) := by rw [Lib.cell_of_heap hz5]; rfl
    have s4 : W5.cell? ⟨w.heap.size + 1, 4, none⟩ = some (.string ⟨#[]⟩) := by rw [Lib.cell_of_heap hz5]; rfl
    have sf : ∀ i, W5.frozen? ⟨w.heap.size + 1, i, none⟩ = false := fun i => Lib.frozen_of_heap hz5 i
    have HS := Lib.hid (setCells_at (g := w.heap.size + 1) (T := 40) [(.string (dot arcs)), (.int .i64 128), (.int .i64 0), (.int .u64 0), (.string ⟨#[]⟩)] 0 W5 _ hz5 (by simp))
    have HB5 := Lib.hid hb5
    clear hq5 hz5 hb5
    go_wp2
    change bodyPost _ _ _ _ _ (W5.setCells (w.heap.size + 1) 0 [(.string (dot arcs)), (.int .i64 128), (.int .i64 0), (.int .u64 0), (.string ⟨#[]⟩)])
    obtain ⟨z1, z2⟩ := HS.out
    generalize W5.setCells (w.heap.size + 1) 0 [(.string (dot arcs)), (.int .i64 128), (.int .i64 0), (.int .u64 0), (.string ⟨#[]⟩)] = WF at z1 z2 ⊢
    have k0 : WF.cell? ⟨w.heap.size + 1, 0, none⟩ = some (.string (dot arcs)) := by rw [Lib.cell_of_heap z1]; rfl
    have k1 : WF.cell? ⟨w.heap.size + 1, 1, none⟩ = some (.int .i64 128) := by rw [Lib.cell_of_heap z1]; rfl
    have k2 : WF.cell? ⟨w.heap.size + 1, 2, none⟩ = some (.int .i64 0) := by rw [Lib.cell_of_heap z1]; rfl
    have k3 : WF.cell? ⟨w.heap.size + 1, 3, none⟩ = some (.int .u64 0) := by rw [Lib.cell_of_heap z1]; rfl
    have k4 : WF.cell? ⟨w.heap.size + 1, 4, none⟩ = some (.string ⟨#[]⟩) := by rw [Lib.cell_of_heap z1]; rfl
    try simp only [Exit.inBlock, Exit.then]
    refine bodyPost_ret (v := .agg #[.string (dot arcs), .int .i64 128, .int .i64 0, .int .u64 0, .string ⟨#[]⟩]) (by simp [results, Tryz.results37, go_sem, k0, k1, k2, k3, k4]) rfl ?_
    exact ⟨rfl, HB5.out.trans (z2.below HB5.out.size (by simp))⟩

  · rename_i hHeld
    have hwA : Below W2.heap.size W2 (W2.alloc (.cells #[.string ⟨#[]⟩, .int .i64 0, .int .i64 0, .int .u64 0, .string ⟨#[]⟩] 40)).drew := wA
    have HB3 : Hid (Below w.heap.size w W3) := HB2.out.trans ((hwA.trans (hb3.mono hwA.size)).mono HB2.out.size)
    have h3 : W3.heap[w.heap.size]? = _ := ((hwA.trans (hb3.mono hwA.size)).block _ (Lib.lt_of_heap H2.out)).trans H2.out
    have hz3 : W3.heap[w.heap.size + 1]? = _ := ((hwA.trans (hb3.mono hwA.size)).block _ (Lib.lt_of_heap HZ2.out)).trans HZ2.out
    have hn3 : W3.heap[W2.heap.size]? = _ := (hb3.block _ (Lib.lt_of_heap n2)).trans n2
    have hQ1' : w.heap.size + 1 < W2.heap.size := Lib.lt_of_heap HZ2.out
    obtain ⟨Q, hQ⟩ : ∃ Q, Q = W2.heap.size := ⟨_, rfl⟩
    rw [← hQ] at hn3 hQ1'
    obtain ⟨W4, hW4⟩ : ∃ W4, W4 = (((((W3.setCell ⟨Q, 0, none⟩ (.string (dot arcs))).setCell ⟨Q, 1, none⟩ (.int .i64 128)).setCell ⟨Q, 2, none⟩ (.int .i64 0)).setCell ⟨Q, 3, none⟩ (.int .u64 0)).setCell ⟨Q, 4, none⟩ (.string ⟨#[]⟩)) := ⟨_, rfl⟩
    have hq4 : W4.heap[Q]? = some (.cells #[.string (dot arcs), .int .i64 128, .int .i64 0, .int .u64 0, .string ⟨#[]⟩] 40 (0, 0)) := by rw [hW4]; exact setAll5 hn3
    have h4 : W4.heap[w.heap.size]? = some (.cells #[.string name, .int .i64 128, .int .i64 i, .int .u64 u, .string text] 40 (0, 0)) := by rw [hW4, setHeap5 (by omega)]; exact h3
    have hz4 : W4.heap[w.heap.size + 1]? = some (.cells #[.string ⟨#[]⟩, .int .i64 0, .int .i64 0, .int .u64 0, .string ⟨#[]⟩] 40 (0, 0)) := by rw [hW4, setHeap5 (by omega)]; exact hz3
    have HB4 : Hid (Below w.heap.size w W4) := by unfold Hid; rw [hW4]; exact setBel5 HB3.out (by omega)
    rw [← hQ, ← hW4]
    have hQ1 := hQ1'
    clear hn3 q00 q01 q02 q03 q04 q0f hwA hQ1'
    have HQ4 := Lib.hid hq4
    have H4 := Lib.hid h4
    have HZ4 := Lib.hid hz4
    have c0 : W4.cell? ⟨w.heap.size, 0, none⟩ = some (.string name) := by rw [Lib.cell_of_heap h4]; rfl
    have c1 : W4.cell? ⟨w.heap.size, 1, none⟩ = some (.int .i64 128) := by rw [Lib.cell_of_heap h4]; rfl
    have c2 : W4.cell? ⟨w.heap.size, 2, none⟩ = some (.int .i64 i) := by rw [Lib.cell_of_heap h4]; rfl
    have c3 : W4.cell? ⟨w.heap.size, 3, none⟩ = some (.int .u64 u) := by rw [Lib.cell_of_heap h4]; rfl
    have c4 : W4.cell? ⟨w.heap.size, 4, none⟩ = some (.string text) := by rw [Lib.cell_of_heap h4]; rfl
    have hqn : Q ≠ w.heap.size := by omega
    clear hHeld hQ hW4 hq4 h3 hz3 h4 hz4 c1d c1e c1A n2 hne2 hb3 HI HD
    go_upto_region 17 with fail
    obtain ⟨W5, hW5⟩ : ∃ W5, W5 = W4 := ⟨_, rfl⟩
    rw [← hW5]
    have hq5 : W5.heap[Q]? = some (.cells #[.string (dot arcs), .int .i64 128, .int .i64 0, .int .u64 0, .string ⟨#[]⟩] 40 (0, 0)) := by rw [hW5]; exact HQ4.out
    have hz5 : W5.heap[w.heap.size + 1]? = some (.cells #[.string ⟨#[]⟩, .int .i64 0, .int .i64 0, .int .u64 0, .string ⟨#[]⟩] 40 (0, 0)) := by rw [hW5]; exact HZ4.out
    have hb5 : Below w.heap.size w W5 := by rw [hW5]; exact HB4.out
    clear hW5
    clear c0 c1 c2 c3 c4
    have e0 : W5.cell? ⟨Q, 0, none⟩ = some (.string (dot arcs)) := by rw [Lib.cell_of_heap hq5]; rfl
    have e1 : W5.cell? ⟨Q, 1, none⟩ = some (.int .i64 128) := by rw [Lib.cell_of_heap hq5]; rfl
    have e2 : W5.cell? ⟨Q, 2, none⟩ = some (.int .i64 0) := by rw [Lib.cell_of_heap hq5]; rfl
    have e3 : W5.cell? ⟨Q, 3, none⟩ = some (.int .u64 0) := by rw [Lib.cell_of_heap hq5]; rfl
    have e4 : W5.cell? ⟨Q, 4, none⟩ = some (.string ⟨#[]⟩) := by rw [Lib.cell_of_heap hq5]; rfl
    have s0 : W5.cell? ⟨w.heap.size + 1, 0, none⟩ = some (.string ⟨#[]⟩) := by rw [Lib.cell_of_heap hz5]; rfl
    have s1 : W5.cell? ⟨w.heap.size + 1, 1, none⟩ = some (.int .i64 0) := by rw [Lib.cell_of_heap hz5]; rfl
    have s2 : W5.cell? ⟨w.heap.size + 1, 2, none⟩ = some (.int .i64 0) := by rw [Lib.cell_of_heap hz5]; rfl
    have s3 : W5.cell? ⟨w.heap.size + 1, 3, none⟩ = some (.int .u64 0) := by rw [Lib.cell_of_heap hz5]; rfl
    have s4 : W5.cell? ⟨w.heap.size + 1, 4, none⟩ = some (.string ⟨#[]⟩) := by rw [Lib.cell_of_heap hz5]; rfl
    have sf : ∀ i, W5.frozen? ⟨w.heap.size + 1, i, none⟩ = false := fun i => Lib.frozen_of_heap hz5 i
    have HS := Lib.hid (setCells_at (g := w.heap.size + 1) (T := 40) [(.string (dot arcs)), (.int .i64 128), (.int .i64 0), (.int .u64 0), (.string ⟨#[]⟩)] 0 W5 _ hz5 (by simp))
    have HB5 := Lib.hid hb5
    clear hq5 hz5 hb5
    go_wp2
    change bodyPost _ _ _ _ _ (W5.setCells (w.heap.size + 1) 0 [(.string (dot arcs)), (.int .i64 128), (.int .i64 0), (.int .u64 0), (.string ⟨#[]⟩)])
    obtain ⟨z1, z2⟩ := HS.out
    generalize W5.setCells (w.heap.size + 1) 0 [(.string (dot arcs)), (.int .i64 128), (.int .i64 0), (.int .u64 0), (.string ⟨#[]⟩)] = WF at z1 z2 ⊢
    have k0 : WF.cell? ⟨w.heap.size + 1, 0, none⟩ = some (.string (dot arcs)) := by rw [Lib.cell_of_heap z1]; rfl
    have k1 : WF.cell? ⟨w.heap.size + 1, 1, none⟩ = some (.int .i64 128) := by rw [Lib.cell_of_heap z1]; rfl
    have k2 : WF.cell? ⟨w.heap.size + 1, 2, none⟩ = some (.int .i64 0) := by rw [Lib.cell_of_heap z1]; rfl
    have k3 : WF.cell? ⟨w.heap.size + 1, 3, none⟩ = some (.int .u64 0) := by rw [Lib.cell_of_heap z1]; rfl
    have k4 : WF.cell? ⟨w.heap.size + 1, 4, none⟩ = some (.string ⟨#[]⟩) := by rw [Lib.cell_of_heap z1]; rfl
    try simp only [Exit.inBlock, Exit.then]
    refine bodyPost_ret (v := .agg #[.string (dot arcs), .int .i64 128, .int .i64 0, .int .u64 0, .string ⟨#[]⟩]) (by simp [results, Tryz.results37, go_sem, k0, k1, k2, k3, k4]) rfl ?_
    exact ⟨rfl, HB5.out.trans (z2.below HB5.out.size (by simp))⟩
set_option maxHeartbeats 8000000 in
set_option maxRecDepth 100000 in
theorem plain_129 (w : World) (name : ByteArray) (i u : Int) (text : ByteArray) (arcs : List Nat) (hs : name.size ≤ 2147483647) (hn : arcsOf (bytesOf name) = some arcs) :
    Calls Tryz.prog 37 #[varV name 129 i u text] w fun e w' => e = .returned (.agg #[.string (dot arcs), .int .i64 129, .int .i64 0, .int .u64 0, .string ⟨#[]⟩]) ∧ Below w.heap.size w w' := by
  simp only [varV]
  obtain ⟨W1, hW1⟩ : ∃ W1, W1 = (w.alloc (.cells #[.string name, .int .i64 129, .int .i64 i, .int .u64 u, .string text] 40)).alloc (.cells #[.string ⟨#[]⟩, .int .i64 0, .int .i64 0, .int .u64 0, .string ⟨#[]⟩] 40) := ⟨_, rfl⟩
  have hb1 : Below w.heap.size w W1 := by rw [hW1]; exact ((Below.refl _ _).alloc (Nat.le_refl _) _).alloc (by simp) _
  have h1 : W1.heap[w.heap.size]? = some (.cells #[.string name, .int .i64 129, .int .i64 i, .int .u64 u, .string text] 40 (0, 0)) := by rw [hW1, Below.heap_alloc _ _ _ (by simp)]; exact heap_alloc_new w _
  have hz1 : W1.heap[w.heap.size + 1]? = some (.cells #[.string ⟨#[]⟩, .int .i64 0, .int .i64 0, .int .u64 0, .string ⟨#[]⟩] 40 (0, 0)) := by
    rw [hW1]
    have hh := heap_alloc_new (w.alloc (.cells #[.string name, .int .i64 129, .int .i64 i, .int .u64 u, .string text] 40)) (.cells #[.string ⟨#[]⟩, .int .i64 0, .int .i64 0, .int .u64 0, .string ⟨#[]⟩] 40)
    rwa [show (w.alloc (.cells #[.string name, .int .i64 129, .int .i64 i, .int .u64 u, .string text] 40)).heap.size = w.heap.size + 1 by simp] at hh
  have HI := Lib.hid (specArcs name W1 hs)
  have HB1 := Lib.hid hb1
  have HW1 := Lib.hid hW1
  have H1 := Lib.hid h1
  have HZ1 := Lib.hid hz1
  have HN := Lib.hid hn
  clear hb1 hW1 h1 hz1 hn
  go_enter Tryz.func37, Tryz.ntmps37
  go_wp2_with (go_at_call 22; rw [← HW1.out]; refine (HI.out).mono ?_; rintro e W2 ⟨v2, b2, rfl, hbb, hyes, hb2⟩; rw [HN.out] at hbb; obtain rfl : b2 = true := hbb; refine Hid.out ?_)
  refine Lib.hid ?_
  have hg := arcsOf_good HN.out
  have hO := hyes arcs HN.out
  have HD : Hid (∀ W, Below W2.heap.size W2 W → Calls Tryz.prog 24 #[v2] W fun e w' => e = .returned (.string (dot arcs)) ∧ Below W.heap.size W w') := fun W hW => dotted v2 arcs W (RdN.of_own (hO.below hW)) hg.small hg.sixty
  have HB2 : Hid (Below w.heap.size w W2) := HB1.out.trans (hb2.mono HB1.out.size)
  have H2 := Lib.hid ((hb2.block _ (Lib.lt_of_heap H1.out)).trans H1.out)
  have HZ2 := Lib.hid ((hb2.block _ (Lib.lt_of_heap HZ1.out)).trans HZ1.out)
  have c1d : W2.cell? ⟨w.heap.size, 1, none⟩ = some (.int .i64 129) := by rw [Lib.cell_of_heap H2.out]; rfl
  clear hyes hO hb2 hg
  go_upto_region 2 with fail
  have n2 : (W2.alloc (.cells #[.string ⟨#[]⟩, .int .i64 0, .int .i64 0, .int .u64 0, .string ⟨#[]⟩] 40)).drew.heap[W2.heap.size]? = some (.cells #[.string ⟨#[]⟩, .int .i64 0, .int .i64 0, .int .u64 0, .string ⟨#[]⟩] 40 (0, 0)) := heap_alloc_new W2 _
  have hne2 : W2.heap.size ≠ w.heap.size := by have := Lib.lt_of_heap H2.out; omega
  have c1e : W2.drew.cell? ⟨w.heap.size, 1, none⟩ = some (.int .i64 129) := c1d
  have c1A : (W2.alloc (.cells #[.string ⟨#[]⟩, .int .i64 0, .int .i64 0, .int .u64 0, .string ⟨#[]⟩] 40)).drew.cell? ⟨w.heap.size, 1, none⟩ = some (.int .i64 129) := cellB wA c1d
  go_region_held3 (fun W => W.cell? ⟨w.heap.size, 1, none⟩ = some (.int .i64 129)) (first | with_reducible exact c1e | with_reducible exact c1A | with_reducible exact cellB hb3 c1e | with_reducible exact cellB hb3 c1A | with_reducible exact cellA (cellB hb3 c1e) | with_reducible exact cellS5 hne2 (cellB hb3 c1A)) (first | (go_at_call 24; refine (HD.out _ ?hbW).mono ?_; (case hbW => first | with_reducible exact (Below.refl _ _).drew | with_reducible exact wA); rintro e W3 ⟨rfl, hb3⟩; try (with_reducible obtain ⟨q00, q01, q02, q03, q04, q0f⟩ := five40 ((hb3.block _ (Lib.lt_of_heap n2)).trans n2))))
  · rename_i hHeld
    have HB3 : Hid (Below w.heap.size w W3) := HB2.out.trans (Below.mono (B := W2.drew.heap.size) (Below.trans (b := W2.drew) ((Below.refl _ _).drew) hb3) HB2.out.size)
    have h3 : W3.heap[w.heap.size]? = _ := (hb3.block _ (Lib.lt_of_heap H2.out)).trans H2.out
    have hz3 : W3.heap[w.heap.size + 1]? = _ := (hb3.block _ (Lib.lt_of_heap HZ2.out)).trans HZ2.out
    obtain ⟨Q, hQ⟩ : ∃ Q, Q = W3.heap.size := ⟨_, rfl⟩
    obtain ⟨W4, hW4⟩ : ∃ W4, W4 = W3.alloc (.cells #[.string (dot arcs), .int .i64 129, .int .i64 0, .int .u64 0, .string ⟨#[]⟩] 40) := ⟨_, rfl⟩
    have hb4 : Below W3.heap.size W3 W4 := by rw [hW4]; exact (Below.refl _ _).alloc (Nat.le_refl _) _
    have hq4 : W4.heap[Q]? = some (.cells #[.string (dot arcs), .int .i64 129, .int .i64 0, .int .u64 0, .string ⟨#[]⟩] 40 (0, 0)) := by rw [hW4, hQ]; exact heap_alloc_new W3 _
    rw [← hW4, ← hQ]
    have hQ1 : w.heap.size + 1 < Q := by rw [hQ]; exact Lib.lt_of_heap hz3
    have h4 : W4.heap[w.heap.size]? = some (.cells #[.string name, .int .i64 129, .int .i64 i, .int .u64 u, .string text] 40 (0, 0)) := (hb4.block _ (Lib.lt_of_heap h3)).trans h3
    have hz4 : W4.heap[w.heap.size + 1]? = some (.cells #[.string ⟨#[]⟩, .int .i64 0, .int .i64 0, .int .u64 0, .string ⟨#[]⟩] 40 (0, 0)) := (hb4.block _ (Lib.lt_of_heap hz3)).trans hz3
    have HB4 : Hid (Below w.heap.size w W4) := HB3.out.trans (hb4.mono HB3.out.size)
    clear hb4
    have HQ4 := Lib.hid hq4
    have H4 := Lib.hid h4
    have HZ4 := Lib.hid hz4
    have c0 : W4.cell? ⟨w.heap.size, 0, none⟩ = some (.string name) := by rw [Lib.cell_of_heap h4]; rfl
    have c1 : W4.cell? ⟨w.heap.size, 1, none⟩ = some (.int .i64 129) := by rw [Lib.cell_of_heap h4]; rfl
    have c2 : W4.cell? ⟨w.heap.size, 2, none⟩ = some (.int .i64 i) := by rw [Lib.cell_of_heap h4]; rfl
    have c3 : W4.cell? ⟨w.heap.size, 3, none⟩ = some (.int .u64 u) := by rw [Lib.cell_of_heap h4]; rfl
    have c4 : W4.cell? ⟨w.heap.size, 4, none⟩ = some (.string text) := by rw [Lib.cell_of_heap h4]; rfl
    have hqn : Q ≠ w.heap.size := by omega
    clear hHeld hQ hW4 hq4 h3 hz3 h4 hz4 c1d c1e c1A n2 hne2 hb3 HI HD
    go_upto_region 17 with fail
    obtain ⟨W5, hW5⟩ : ∃ W5, W5 = W4 := ⟨_, rfl⟩
    rw [← hW5]
    have hq5 : W5.heap[Q]? = some (.cells #[.string (dot arcs), .int .i64 129, .int .i64 0, .int .u64 0, .string ⟨#[]⟩] 40 (0, 0)) := by rw [hW5]; exact HQ4.out
    have hz5 : W5.heap[w.heap.size + 1]? = some (.cells #[.string ⟨#[]⟩, .int .i64 0, .int .i64 0, .int .u64 0, .string ⟨#[]⟩] 40 (0, 0)) := by rw [hW5]; exact HZ4.out
    have hb5 : Below w.heap.size w W5 := by rw [hW5]; exact HB4.out
    clear hW5
    clear c0 c1 c2 c3 c4
    have e0 : W5.cell? ⟨Q, 0, none⟩ = some (.string (dot arcs)) := by rw [Lib.cell_of_heap hq5]; rfl
    have e1 : W5.cell? ⟨Q, 1, none⟩ = some (.int .i64 129) := by rw [Lib.cell_of_heap hq5]; rfl
    have e2 : W5.cell? ⟨Q, 2, none⟩ = some (.int .i64 0) := by rw [Lib.cell_of_heap hq5]; rfl
    have e3 : W5.cell? ⟨Q, 3, none⟩ = some (.int .u64 0) := by rw [Lib.cell_of_heap hq5]; rfl
    have e4 : W5.cell? ⟨Q, 4, none⟩ = some (.string ⟨#[]⟩) := by rw [Lib.cell_of_heap hq5]; rfl
    have s0 : W5.cell? ⟨w.heap.size + 1, 0, none⟩ = some (.string ⟨#[]⟩) := by rw [Lib.cell_of_heap hz5]; rfl
    have s1 : W5.cell? ⟨w.heap.size + 1, 1, none⟩ = some (.int .i64 0) := by rw [Lib.cell_of_heap hz5]; rfl
    have s2 : W5.cell? ⟨w.heap.size + 1, 2, none⟩ = some (.int .i64 0) := by rw [Lib.cell_of_heap hz5]; rfl
    have s3 : W5.cell? ⟨w.heap.size + 1, 3, none⟩ = some (.int .u64 0) := by rw [Lib.cell_of_heap hz5]; rfl
    have s4 : W5.cell? ⟨w.heap.size + 1, 4, none⟩ = some (.string ⟨#[]⟩) := by rw [Lib.cell_of_heap hz5]; rfl
    have sf : ∀ i, W5.frozen? ⟨w.heap.size + 1, i, none⟩ = false := fun i => Lib.frozen_of_heap hz5 i
    have HS := Lib.hid (setCells_at (g := w.heap.size + 1) (T := 40) [(.string (dot arcs)), (.int .i64 129), (.int .i64 0), (.int .u64 0), (.string ⟨#[]⟩)] 0 W5 _ hz5 (by simp))
    have HB5 := Lib.hid hb5
    clear hq5 hz5 hb5
    go_wp2
    change bodyPost _ _ _ _ _ (W5.setCells (w.heap.size + 1) 0 [(.string (dot arcs)), (.int .i64 129), (.int .i64 0), (.int .u64 0), (.string ⟨#[]⟩)])
    obtain ⟨z1, z2⟩ := HS.out
    generalize W5.setCells (w.heap.size + 1) 0 [(.string (dot arcs)), (.int .i64 129), (.int .i64 0), (.int .u64 0), (.string ⟨#[]⟩)] = WF at z1 z2 ⊢
    have k0 : WF.cell? ⟨w.heap.size + 1, 0, none⟩ = some (.string (dot arcs)) := by rw [Lib.cell_of_heap z1]; rfl
    have k1 : WF.cell? ⟨w.heap.size + 1, 1, none⟩ = some (.int .i64 129) := by rw [Lib.cell_of_heap z1]; rfl
    have k2 : WF.cell? ⟨w.heap.size + 1, 2, none⟩ = some (.int .i64 0) := by rw [Lib.cell_of_heap z1]; rfl
    have k3 : WF.cell? ⟨w.heap.size + 1, 3, none⟩ = some (.int .u64 0) := by rw [Lib.cell_of_heap z1]; rfl
    have k4 : WF.cell? ⟨w.heap.size + 1, 4, none⟩ = some (.string ⟨#[]⟩) := by rw [Lib.cell_of_heap z1]; rfl
    try simp only [Exit.inBlock, Exit.then]
    refine bodyPost_ret (v := .agg #[.string (dot arcs), .int .i64 129, .int .i64 0, .int .u64 0, .string ⟨#[]⟩]) (by simp [results, Tryz.results37, go_sem, k0, k1, k2, k3, k4]) rfl ?_
    exact ⟨rfl, HB5.out.trans (z2.below HB5.out.size (by simp))⟩

  · rename_i hHeld
    have hwA : Below W2.heap.size W2 (W2.alloc (.cells #[.string ⟨#[]⟩, .int .i64 0, .int .i64 0, .int .u64 0, .string ⟨#[]⟩] 40)).drew := wA
    have HB3 : Hid (Below w.heap.size w W3) := HB2.out.trans ((hwA.trans (hb3.mono hwA.size)).mono HB2.out.size)
    have h3 : W3.heap[w.heap.size]? = _ := ((hwA.trans (hb3.mono hwA.size)).block _ (Lib.lt_of_heap H2.out)).trans H2.out
    have hz3 : W3.heap[w.heap.size + 1]? = _ := ((hwA.trans (hb3.mono hwA.size)).block _ (Lib.lt_of_heap HZ2.out)).trans HZ2.out
    have hn3 : W3.heap[W2.heap.size]? = _ := (hb3.block _ (Lib.lt_of_heap n2)).trans n2
    have hQ1' : w.heap.size + 1 < W2.heap.size := Lib.lt_of_heap HZ2.out
    obtain ⟨Q, hQ⟩ : ∃ Q, Q = W2.heap.size := ⟨_, rfl⟩
    rw [← hQ] at hn3 hQ1'
    obtain ⟨W4, hW4⟩ : ∃ W4, W4 = (((((W3.setCell ⟨Q, 0, none⟩ (.string (dot arcs))).setCell ⟨Q, 1, none⟩ (.int .i64 129)).setCell ⟨Q, 2, none⟩ (.int .i64 0)).setCell ⟨Q, 3, none⟩ (.int .u64 0)).setCell ⟨Q, 4, none⟩ (.string ⟨#[]⟩)) := ⟨_, rfl⟩
    have hq4 : W4.heap[Q]? = some (.cells #[.string (dot arcs), .int .i64 129, .int .i64 0, .int .u64 0, .string ⟨#[]⟩] 40 (0, 0)) := by rw [hW4]; exact setAll5 hn3
    have h4 : W4.heap[w.heap.size]? = some (.cells #[.string name, .int .i64 129, .int .i64 i, .int .u64 u, .string text] 40 (0, 0)) := by rw [hW4, setHeap5 (by omega)]; exact h3
    have hz4 : W4.heap[w.heap.size + 1]? = some (.cells #[.string ⟨#[]⟩, .int .i64 0, .int .i64 0, .int .u64 0, .string ⟨#[]⟩] 40 (0, 0)) := by rw [hW4, setHeap5 (by omega)]; exact hz3
    have HB4 : Hid (Below w.heap.size w W4) := by unfold Hid; rw [hW4]; exact setBel5 HB3.out (by omega)
    rw [← hQ, ← hW4]
    have hQ1 := hQ1'
    clear hn3 q00 q01 q02 q03 q04 q0f hwA hQ1'
    have HQ4 := Lib.hid hq4
    have H4 := Lib.hid h4
    have HZ4 := Lib.hid hz4
    have c0 : W4.cell? ⟨w.heap.size, 0, none⟩ = some (.string name) := by rw [Lib.cell_of_heap h4]; rfl
    have c1 : W4.cell? ⟨w.heap.size, 1, none⟩ = some (.int .i64 129) := by rw [Lib.cell_of_heap h4]; rfl
    have c2 : W4.cell? ⟨w.heap.size, 2, none⟩ = some (.int .i64 i) := by rw [Lib.cell_of_heap h4]; rfl
    have c3 : W4.cell? ⟨w.heap.size, 3, none⟩ = some (.int .u64 u) := by rw [Lib.cell_of_heap h4]; rfl
    have c4 : W4.cell? ⟨w.heap.size, 4, none⟩ = some (.string text) := by rw [Lib.cell_of_heap h4]; rfl
    have hqn : Q ≠ w.heap.size := by omega
    clear hHeld hQ hW4 hq4 h3 hz3 h4 hz4 c1d c1e c1A n2 hne2 hb3 HI HD
    go_upto_region 17 with fail
    obtain ⟨W5, hW5⟩ : ∃ W5, W5 = W4 := ⟨_, rfl⟩
    rw [← hW5]
    have hq5 : W5.heap[Q]? = some (.cells #[.string (dot arcs), .int .i64 129, .int .i64 0, .int .u64 0, .string ⟨#[]⟩] 40 (0, 0)) := by rw [hW5]; exact HQ4.out
    have hz5 : W5.heap[w.heap.size + 1]? = some (.cells #[.string ⟨#[]⟩, .int .i64 0, .int .i64 0, .int .u64 0, .string ⟨#[]⟩] 40 (0, 0)) := by rw [hW5]; exact HZ4.out
    have hb5 : Below w.heap.size w W5 := by rw [hW5]; exact HB4.out
    clear hW5
    clear c0 c1 c2 c3 c4
    have e0 : W5.cell? ⟨Q, 0, none⟩ = some (.string (dot arcs)) := by rw [Lib.cell_of_heap hq5]; rfl
    have e1 : W5.cell? ⟨Q, 1, none⟩ = some (.int .i64 129) := by rw [Lib.cell_of_heap hq5]; rfl
    have e2 : W5.cell? ⟨Q, 2, none⟩ = some (.int .i64 0) := by rw [Lib.cell_of_heap hq5]; rfl
    have e3 : W5.cell? ⟨Q, 3, none⟩ = some (.int .u64 0) := by rw [Lib.cell_of_heap hq5]; rfl
    have e4 : W5.cell? ⟨Q, 4, none⟩ = some (.string ⟨#[]⟩) := by rw [Lib.cell_of_heap hq5]; rfl
    have s0 : W5.cell? ⟨w.heap.size + 1, 0, none⟩ = some (.string ⟨#[]⟩) := by rw [Lib.cell_of_heap hz5]; rfl
    have s1 : W5.cell? ⟨w.heap.size + 1, 1, none⟩ = some (.int .i64 0) := by rw [Lib.cell_of_heap hz5]; rfl
    have s2 : W5.cell? ⟨w.heap.size + 1, 2, none⟩ = some (.int .i64 0) := by rw [Lib.cell_of_heap hz5]; rfl
    have s3 : W5.cell? ⟨w.heap.size + 1, 3, none⟩ = some (.int .u64 0) := by rw [Lib.cell_of_heap hz5]; rfl
    have s4 : W5.cell? ⟨w.heap.size + 1, 4, none⟩ = some (.string ⟨#[]⟩) := by rw [Lib.cell_of_heap hz5]; rfl
    have sf : ∀ i, W5.frozen? ⟨w.heap.size + 1, i, none⟩ = false := fun i => Lib.frozen_of_heap hz5 i
    have HS := Lib.hid (setCells_at (g := w.heap.size + 1) (T := 40) [(.string (dot arcs)), (.int .i64 129), (.int .i64 0), (.int .u64 0), (.string ⟨#[]⟩)] 0 W5 _ hz5 (by simp))
    have HB5 := Lib.hid hb5
    clear hq5 hz5 hb5
    go_wp2
    change bodyPost _ _ _ _ _ (W5.setCells (w.heap.size + 1) 0 [(.string (dot arcs)), (.int .i64 129), (.int .i64 0), (.int .u64 0), (.string ⟨#[]⟩)])
    obtain ⟨z1, z2⟩ := HS.out
    generalize W5.setCells (w.heap.size + 1) 0 [(.string (dot arcs)), (.int .i64 129), (.int .i64 0), (.int .u64 0), (.string ⟨#[]⟩)] = WF at z1 z2 ⊢
    have k0 : WF.cell? ⟨w.heap.size + 1, 0, none⟩ = some (.string (dot arcs)) := by rw [Lib.cell_of_heap z1]; rfl
    have k1 : WF.cell? ⟨w.heap.size + 1, 1, none⟩ = some (.int .i64 129) := by rw [Lib.cell_of_heap z1]; rfl
    have k2 : WF.cell? ⟨w.heap.size + 1, 2, none⟩ = some (.int .i64 0) := by rw [Lib.cell_of_heap z1]; rfl
    have k3 : WF.cell? ⟨w.heap.size + 1, 3, none⟩ = some (.int .u64 0) := by rw [Lib.cell_of_heap z1]; rfl
    have k4 : WF.cell? ⟨w.heap.size + 1, 4, none⟩ = some (.string ⟨#[]⟩) := by rw [Lib.cell_of_heap z1]; rfl
    try simp only [Exit.inBlock, Exit.then]
    refine bodyPost_ret (v := .agg #[.string (dot arcs), .int .i64 129, .int .i64 0, .int .u64 0, .string ⟨#[]⟩]) (by simp [results, Tryz.results37, go_sem, k0, k1, k2, k3, k4]) rfl ?_
    exact ⟨rfl, HB5.out.trans (z2.below HB5.out.size (by simp))⟩
end Go.Proofs.YtpfmcdhmboclhaaGreatDoor
