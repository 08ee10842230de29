/- spec: the content of a value. spec: a variable as it is told. -/
import Derived.Deep.RegionLaw
import Derived.Test.YtpfmcdhmboclhaaGreatDoorG13
import Derived.Test.YtpfmcdhmboclhaaGreatDoorG23
set_option linter.unusedVariables false
set_option linter.unusedSimpArgs false
namespace Go.Proofs.YtpfmcdhmboclhaaGreatDoor
open Go.RowKit
/-- spec.content. -/
theorem specContent (w : World) (name : ByteArray) (t i : Int) (u : Nat) (text : ByteArray) (hi : -9223372036854775808 ≤ i ∧ i ≤ 9223372036854775807) (hu : u < 18446744073709551616) (hs : text.size ≤ 2147483647) :
    Calls Tryz.prog 36 #[varV name t i u text] w (RetC w (payOf t i u text)) := by
  by_cases h2 : t = 2
  · subst h2
    by_cases a : -2147483648 ≤ i
    · by_cases b : i < 2147483648
      · exact content_2a w name i u text a b
      · exact content_2c w name i u text a b hi
    · exact content_2b w name i u text a (decide_eq_false a) hi
  by_cases h4 : t = 4
  · subst h4
    by_cases a : text.size ≤ 500
    · exact content_4a w name i u text a
    · exact content_4b w name i u text a hs
  by_cases h5 : t = 5
  · subst h5; exact content_5 w name i u text
  by_cases h128 : t = 128
  · subst h128; exact content_128 w name i u text
  by_cases h129 : t = 129
  · subst h129; exact content_129 w name i u text
  by_cases h130 : t = 130
  · subst h130; exact content_130 w name i u text
  by_cases h6 : t = 6
  · subst h6; exact content_6 w name i u text hs
  by_cases h64 : t = 64
  · subst h64; exact content_64 w name i u text hs
  by_cases h65 : t = 65
  · subst h65
    by_cases a : u < 4294967296
    · exact content_65a w name i u text hu a
    · exact content_65b w name i u text hu a
  by_cases h66 : t = 66
  · subst h66
    by_cases a : u < 4294967296
    · exact content_66a w name i u text hu a
    · exact content_66b w name i u text hu a
  by_cases h67 : t = 67
  · subst h67
    by_cases a : u < 4294967296
    · exact content_67a w name i u text hu a
    · exact content_67b w name i u text hu a
  by_cases h70 : t = 70
  · subst h70; exact content_70 w name i u text hu
  exact content_rest w name i u text t h2 h4 h5 h128 h129 h130 h6 h64 h65 h66 h67 h70
end Go.Proofs.YtpfmcdhmboclhaaGreatDoor
namespace Go.Proofs.YtpfmcdhmboclhaaGreatDoor
open Go.RowKit

theorem wA {w : World} {o : Obj} : Below w.heap.size w (w.alloc o).drew := ((Below.refl _ _).alloc (Nat.le_refl _) _).drew
theorem ipT_range (a b c d : Nat) : ∀ x ∈ ipT a b c d, 0 ≤ x ∧ x < 256 := by
  intro x hx
  simp only [ipT, List.mem_append, List.mem_singleton] at hx
  rcases hx with (((((h | h) | h) | h) | h) | h) | h
  all_goals first
    | (have := figs_range _ x h; omega)
    | (subst h; omega)
theorem cellA {W : World} {o : Obj} {p : Addr} {x : Value} (h : W.cell? p = some x) : (W.alloc o).cell? p = some x := cellB ((Below.refl _ _).alloc (Nat.le_refl _) _) h
theorem setne {W : World} {Q p i k : Nat} {v : Value} (hq : Q ≠ p) : (W.setCell ⟨Q, i, none⟩ v).cell? ⟨p, k, none⟩ = W.cell? ⟨p, k, none⟩ :=
  World.cell?_setCell_other _ _ _ _ (by intro e; injection e with e1; first | exact hq e1 | exact hq e1.symm)
theorem cellS5 {W : World} {Q p k : Nat} {x a b c d e : Value} (hq : Q ≠ p) (h : W.cell? ⟨p, k, none⟩ = some x) : (((((W.setCell ⟨Q, 0, none⟩ a).setCell ⟨Q, 1, none⟩ b).setCell ⟨Q, 2, none⟩ c).setCell ⟨Q, 3, none⟩ d).setCell ⟨Q, 4, none⟩ e).cell? ⟨p, k, none⟩ = some x := by
  rw [setne hq, setne hq, setne hq, setne hq, setne hq]; exact h
theorem setAll5 {W : World} {Q : Nat} {a b c d e a' b' c' d' e' : Value} (h : W.heap[Q]? = some (.cells #[a', b', c', d', e'] 40 (0, 0))) : (((((W.setCell ⟨Q, 0, none⟩ a).setCell ⟨Q, 1, none⟩ b).setCell ⟨Q, 2, none⟩ c).setCell ⟨Q, 3, none⟩ d).setCell ⟨Q, 4, none⟩ e).heap[Q]? = some (.cells #[a, b, c, d, e] 40 (0, 0)) :=
  Lib.heap_setCell_same (i := 4) (Lib.heap_setCell_same (i := 3) (Lib.heap_setCell_same (i := 2) (Lib.heap_setCell_same (i := 1) (Lib.heap_setCell_same (i := 0) h _) _) _) _) _
theorem setHeap5 {W : World} {Q p : Nat} {a b c d e : Value} (hq : p ≠ Q) : (((((W.setCell ⟨Q, 0, none⟩ a).setCell ⟨Q, 1, none⟩ b).setCell ⟨Q, 2, none⟩ c).setCell ⟨Q, 3, none⟩ d).setCell ⟨Q, 4, none⟩ e).heap[p]? = W.heap[p]? := by
  rw [Below.heap_setCell _ _ _ _ (by simpa using hq), Below.heap_setCell _ _ _ _ (by simpa using hq), Below.heap_setCell _ _ _ _ (by simpa using hq), Below.heap_setCell _ _ _ _ (by simpa using hq), Below.heap_setCell _ _ _ _ (by simpa using hq)]
theorem setBel5 {B : Nat} {w W : World} {Q : Nat} {a b c d e : Value} (h : Below B w W) (hq : B ≤ Q) : Below B w (((((W.setCell ⟨Q, 0, none⟩ a).setCell ⟨Q, 1, none⟩ b).setCell ⟨Q, 2, none⟩ c).setCell ⟨Q, 3, none⟩ d).setCell ⟨Q, 4, none⟩ e) :=
  ((((h.setCell hq _).setCell hq _).setCell hq _).setCell hq _).setCell hq _
theorem five40 {W : World} {Q : Nat} {a b c d e : Value} (h : W.heap[Q]? = some (.cells #[a, b, c, d, e] 40 (0, 0))) : W.cell? ⟨Q, 0, none⟩ = some a ∧ W.cell? ⟨Q, 1, none⟩ = some b ∧ W.cell? ⟨Q, 2, none⟩ = some c ∧ W.cell? ⟨Q, 3, none⟩ = some d ∧ W.cell? ⟨Q, 4, none⟩ = some e ∧ ∀ i, W.frozen? ⟨Q, i, none⟩ = false :=
  ⟨by rw [Lib.cell_of_heap h]; rfl, by rw [Lib.cell_of_heap h]; rfl, by rw [Lib.cell_of_heap h]; rfl, by rw [Lib.cell_of_heap h]; rfl, by rw [Lib.cell_of_heap h]; rfl, fun i => Lib.frozen_of_heap h i⟩
set_option maxHeartbeats 8000000 in
set_option maxRecDepth 100000 in
theorem plain_2 (w : World) (name : ByteArray) (i u : Int) (text : ByteArray) (arcs : List Nat) (hs : name.size ≤ 2147483647) (hn : arcsOf (bytesOf name) = some arcs) :
    Calls Tryz.prog 37 #[varV name 2 i u text] w fun e w' => e = .returned (.agg #[.string (dot arcs), .int .i64 2, .int .i64 i, .int .u64 0, .string ⟨#[]⟩]) ∧ Below w.heap.size w w' := by
  simp only [varV]
  obtain ⟨W1, hW1⟩ : ∃ W1, W1 = (w.alloc (.cells #[.string name, .int .i64 2, .int .i64 i, .int .u64 u, .string text] 40)).alloc (.cells #[.string ⟨#[]⟩, .int .i64 0, .int .i64 0, .int .u64 0, .string ⟨#[]⟩] 40) := ⟨_, rfl⟩
  have hb1 : Below w.heap.size w W1 := by rw [hW1]; exact ((Below.refl _ _).alloc (Nat.le_refl _) _).alloc (by simp) _
  have h1 : W1.heap[w.heap.size]? = some (.cells #[.string name, .int .i64 2, .int .i64 i, .int .u64 u, .string text] 40 (0, 0)) := by rw [hW1, Below.heap_alloc _ _ _ (by simp)]; exact heap_alloc_new w _
  have hz1 : W1.heap[w.heap.size + 1]? = some (.cells #[.string ⟨#[]⟩, .int .i64 0, .int .i64 0, .int .u64 0, .string ⟨#[]⟩] 40 (0, 0)) := by
    rw [hW1]
    have hh := heap_alloc_new (w.alloc (.cells #[.string name, .int .i64 2, .int .i64 i, .int .u64 u, .string text] 40)) (.cells #[.string ⟨#[]⟩, .int .i64 0, .int .i64 0, .int .u64 0, .string ⟨#[]⟩] 40)
    rwa [show (w.alloc (.cells #[.string name, .int .i64 2, .int .i64 i, .int .u64 u, .string text] 40)).heap.size = w.heap.size + 1 by simp] at hh
  have HI := Lib.hid (specArcs name W1 hs)
  have HB1 := Lib.hid hb1
  have HW1 := Lib.hid hW1
  have H1 := Lib.hid h1
  have HZ1 := Lib.hid hz1
  have HN := Lib.hid hn
  clear hb1 hW1 h1 hz1 hn
  go_enter Tryz.func37, Tryz.ntmps37
  go_wp2_with (go_at_call 22; rw [← HW1.out]; refine (HI.out).mono ?_; rintro e W2 ⟨v2, b2, rfl, hbb, hyes, hb2⟩; rw [HN.out] at hbb; obtain rfl : b2 = true := hbb; refine Hid.out ?_)
  refine Lib.hid ?_
  have hg := arcsOf_good HN.out
  have hO := hyes arcs HN.out
  have HD : Hid (∀ W, Below W2.heap.size W2 W → Calls Tryz.prog 24 #[v2] W fun e w' => e = .returned (.string (dot arcs)) ∧ Below W.heap.size W w') := fun W hW => dotted v2 arcs W (RdN.of_own (hO.below hW)) hg.small hg.sixty
  have HB2 : Hid (Below w.heap.size w W2) := HB1.out.trans (hb2.mono HB1.out.size)
  have H2 := Lib.hid ((hb2.block _ (Lib.lt_of_heap H1.out)).trans H1.out)
  have HZ2 := Lib.hid ((hb2.block _ (Lib.lt_of_heap HZ1.out)).trans HZ1.out)
  have c1d : W2.cell? ⟨w.heap.size, 1, none⟩ = some (.int .i64 2) := by rw [Lib.cell_of_heap H2.out]; rfl
  clear hyes hO hb2 hg
  go_upto_region 2 with fail
  have n2 : (W2.alloc (.cells #[.string ⟨#[]⟩, .int .i64 0, .int .i64 0, .int .u64 0, .string ⟨#[]⟩] 40)).drew.heap[W2.heap.size]? = some (.cells #[.string ⟨#[]⟩, .int .i64 0, .int .i64 0, .int .u64 0, .string ⟨#[]⟩] 40 (0, 0)) := heap_alloc_new W2 _
  have hne2 : W2.heap.size ≠ w.heap.size := by have := Lib.lt_of_heap H2.out; omega
  have c1e : W2.drew.cell? ⟨w.heap.size, 1, none⟩ = some (.int .i64 2) := c1d
  have c1A : (W2.alloc (.cells #[.string ⟨#[]⟩, .int .i64 0, .int .i64 0, .int .u64 0, .string ⟨#[]⟩] 40)).drew.cell? ⟨w.heap.size, 1, none⟩ = some (.int .i64 2) := cellB wA c1d
  go_region_held3 (fun W => W.cell? ⟨w.heap.size, 1, none⟩ = some (.int .i64 2)) (first | with_reducible exact c1e | with_reducible exact c1A | with_reducible exact cellB hb3 c1e | with_reducible exact cellB hb3 c1A | with_reducible exact cellA (cellB hb3 c1e) | with_reducible exact cellS5 hne2 (cellB hb3 c1A)) (first | (go_at_call 24; refine (HD.out _ ?hbW).mono ?_; (case hbW => first | with_reducible exact (Below.refl _ _).drew | with_reducible exact wA); rintro e W3 ⟨rfl, hb3⟩; try (with_reducible obtain ⟨q00, q01, q02, q03, q04, q0f⟩ := five40 ((hb3.block _ (Lib.lt_of_heap n2)).trans n2))))
  · rename_i hHeld
    have HB3 : Hid (Below w.heap.size w W3) := HB2.out.trans (Below.mono (B := W2.drew.heap.size) (Below.trans (b := W2.drew) ((Below.refl _ _).drew) hb3) HB2.out.size)
    have h3 : W3.heap[w.heap.size]? = _ := (hb3.block _ (Lib.lt_of_heap H2.out)).trans H2.out
    have hz3 : W3.heap[w.heap.size + 1]? = _ := (hb3.block _ (Lib.lt_of_heap HZ2.out)).trans HZ2.out
    obtain ⟨Q, hQ⟩ : ∃ Q, Q = W3.heap.size := ⟨_, rfl⟩
    obtain ⟨W4, hW4⟩ : ∃ W4, W4 = W3.alloc (.cells #[.string (dot arcs), .int .i64 2, .int .i64 0, .int .u64 0, .string ⟨#[]⟩] 40) := ⟨_, rfl⟩
    have hb4 : Below W3.heap.size W3 W4 := by rw [hW4]; exact (Below.refl _ _).alloc (Nat.le_refl _) _
    have hq4 : W4.heap[Q]? = some (.cells #[.string (dot arcs), .int .i64 2, .int .i64 0, .int .u64 0, .string ⟨#[]⟩] 40 (0, 0)) := by rw [hW4, hQ]; exact heap_alloc_new W3 _
    rw [← hW4, ← hQ]
    have hQ1 : w.heap.size + 1 < Q := by rw [hQ]; exact Lib.lt_of_heap hz3
    have h4 : W4.heap[w.heap.size]? = some (.cells #[.string name, .int .i64 2, .int .i64 i, .int .u64 u, .string text] 40 (0, 0)) := (hb4.block _ (Lib.lt_of_heap h3)).trans h3
    have hz4 : W4.heap[w.heap.size + 1]? = some (.cells #[.string ⟨#[]⟩, .int .i64 0, .int .i64 0, .int .u64 0, .string ⟨#[]⟩] 40 (0, 0)) := (hb4.block _ (Lib.lt_of_heap hz3)).trans hz3
    have HB4 : Hid (Below w.heap.size w W4) := HB3.out.trans (hb4.mono HB3.out.size)
    clear hb4
    have HQ4 := Lib.hid hq4
    have H4 := Lib.hid h4
    have HZ4 := Lib.hid hz4
    have c0 : W4.cell? ⟨w.heap.size, 0, none⟩ = some (.string name) := by rw [Lib.cell_of_heap h4]; rfl
    have c1 : W4.cell? ⟨w.heap.size, 1, none⟩ = some (.int .i64 2) := by rw [Lib.cell_of_heap h4]; rfl
    have c2 : W4.cell? ⟨w.heap.size, 2, none⟩ = some (.int .i64 i) := by rw [Lib.cell_of_heap h4]; rfl
    have c3 : W4.cell? ⟨w.heap.size, 3, none⟩ = some (.int .u64 u) := by rw [Lib.cell_of_heap h4]; rfl
    have c4 : W4.cell? ⟨w.heap.size, 4, none⟩ = some (.string text) := by rw [Lib.cell_of_heap h4]; rfl
    have hqn : Q ≠ w.heap.size := by omega
    clear hHeld hQ hW4 hq4 h3 hz3 h4 hz4 c1d c1e c1A n2 hne2 hb3 HI HD
    have q2 : W4.cell? ⟨Q, 2, none⟩ = some (.int .i64 0) := by rw [Lib.cell_of_heap HQ4.out]; rfl
    have qf : W4.frozen? ⟨Q, 2, none⟩ = false := Lib.frozen_of_heap HQ4.out 2
    go_upto_region 17 with fail
    obtain ⟨W5, hW5⟩ : ∃ W5, W5 = W4.setCell ⟨Q, 2, none⟩ (.int .i64 i) := ⟨_, rfl⟩
    rw [← hW5]
    have hq5 : W5.heap[Q]? = some (.cells #[.string (dot arcs), .int .i64 2, .int .i64 i, .int .u64 0, .string ⟨#[]⟩] 40 (0, 0)) := by rw [hW5]; exact Lib.heap_setCell_same (i := 2) HQ4.out _
    have hz5 : W5.heap[w.heap.size + 1]? = some (.cells #[.string ⟨#[]⟩, .int .i64 0, .int .i64 0, .int .u64 0, .string ⟨#[]⟩] 40 (0, 0)) := by rw [hW5, Below.heap_setCell _ _ _ _ (by simp; omega)]; exact HZ4.out
    have hb5 : Below w.heap.size w W5 := by rw [hW5]; exact HB4.out.setCell (by simp; omega) _
    clear q2 qf hW5
    clear c0 c1 c2 c3 c4
    have e0 : W5.cell? ⟨Q, 0, none⟩ = some (.string (dot arcs)) := by rw [Lib.cell_of_heap hq5]; rfl
    have e1 : W5.cell? ⟨Q, 1, none⟩ = some (.int .i64 2) := by rw [Lib.cell_of_heap hq5]; rfl
    have e2 : W5.cell? ⟨Q, 2, none⟩ = some (.int .i64 i) := by rw [Lib.cell_of_heap hq5]; rfl
    have e3 : W5.cell? ⟨Q, 3, none⟩ = some (.int .u64 0) := by rw [Lib.cell_of_heap hq5]; rfl
    have e4 : W5.cell? ⟨Q, 4, none⟩ = some (.string ⟨#[]⟩) := by rw [Lib.cell_of_heap hq5]; rfl
    have s0 : W5.cell? ⟨w.heap.size + 1, 0, none⟩ = some (.string ⟨#[]⟩) := by rw [Lib.cell_of_heap hz5]; rfl
    have s1 : W5.cell? ⟨w.heap.size + 1, 1, none⟩ = some (.int .i64 0) := by rw [Lib.cell_of_heap hz5]; rfl
    have s2 : W5.cell? ⟨w.heap.size + 1, 2, none⟩ = some (.int .i64 0) := by rw [Lib.cell_of_heap hz5]; rfl
    have s3 : W5.cell? ⟨w.heap.size + 1, 3, none⟩ = some (.int .u64 0) := by rw [Lib.cell_of_heap hz5]; rfl
    have s4 : W5.cell? ⟨w.heap.size + 1, 4, none⟩ = some (.string ⟨#[]⟩) := by rw [Lib.cell_of_heap hz5]; rfl
    have sf : ∀ i, W5.frozen? ⟨w.heap.size + 1, i, none⟩ = false := fun i => Lib.frozen_of_heap hz5 i
    have HS := Lib.hid (setCells_at (g := w.heap.size + 1) (T := 40) [(.string (dot arcs)), (.int .i64 2), (.int .i64 i), (.int .u64 0), (.string ⟨#[]⟩)] 0 W5 _ hz5 (by simp))
    have HB5 := Lib.hid hb5
    clear hq5 hz5 hb5
    go_wp2
    change bodyPost _ _ _ _ _ (W5.setCells (w.heap.size + 1) 0 [(.string (dot arcs)), (.int .i64 2), (.int .i64 i), (.int .u64 0), (.string ⟨#[]⟩)])
    obtain ⟨z1, z2⟩ := HS.out
    generalize W5.setCells (w.heap.size + 1) 0 [(.string (dot arcs)), (.int .i64 2), (.int .i64 i), (.int .u64 0), (.string ⟨#[]⟩)] = WF at z1 z2 ⊢
    have k0 : WF.cell? ⟨w.heap.size + 1, 0, none⟩ = some (.string (dot arcs)) := by rw [Lib.cell_of_heap z1]; rfl
    have k1 : WF.cell? ⟨w.heap.size + 1, 1, none⟩ = some (.int .i64 2) := by rw [Lib.cell_of_heap z1]; rfl
    have k2 : WF.cell? ⟨w.heap.size + 1, 2, none⟩ = some (.int .i64 i) := by rw [Lib.cell_of_heap z1]; rfl
    have k3 : WF.cell? ⟨w.heap.size + 1, 3, none⟩ = some (.int .u64 0) := by rw [Lib.cell_of_heap z1]; rfl
    have k4 : WF.cell? ⟨w.heap.size + 1, 4, none⟩ = some (.string ⟨#[]⟩) := by rw [Lib.cell_of_heap z1]; rfl
    try simp only [Exit.inBlock, Exit.then]
    refine bodyPost_ret (v := .agg #[.string (dot arcs), .int .i64 2, .int .i64 i, .int .u64 0, .string ⟨#[]⟩]) (by simp [results, Tryz.results37, go_sem, k0, k1, k2, k3, k4]) rfl ?_
    exact ⟨rfl, HB5.out.trans (z2.below HB5.out.size (by simp))⟩

  · rename_i hHeld
    have hwA : Below W2.heap.size W2 (W2.alloc (.cells #[.string ⟨#[]⟩, .int .i64 0, .int .i64 0, .int .u64 0, .string ⟨#[]⟩] 40)).drew := wA
    have HB3 : Hid (Below w.heap.size w W3) := HB2.out.trans ((hwA.trans (hb3.mono hwA.size)).mono HB2.out.size)
    have h3 : W3.heap[w.heap.size]? = _ := ((hwA.trans (hb3.mono hwA.size)).block _ (Lib.lt_of_heap H2.out)).trans H2.out
    have hz3 : W3.heap[w.heap.size + 1]? = _ := ((hwA.trans (hb3.mono hwA.size)).block _ (Lib.lt_of_heap HZ2.out)).trans HZ2.out
    have hn3 : W3.heap[W2.heap.size]? = _ := (hb3.block _ (Lib.lt_of_heap n2)).trans n2
    have hQ1' : w.heap.size + 1 < W2.heap.size := Lib.lt_of_heap HZ2.out
    obtain ⟨Q, hQ⟩ : ∃ Q, Q = W2.heap.size := ⟨_, rfl⟩
    rw [← hQ] at hn3 hQ1'
    obtain ⟨W4, hW4⟩ : ∃ W4, W4 = (((((W3.setCell ⟨Q, 0, none⟩ (.string (dot arcs))).setCell ⟨Q, 1, none⟩ (.int .i64 2)).setCell ⟨Q, 2, none⟩ (.int .i64 0)).setCell ⟨Q, 3, none⟩ (.int .u64 0)).setCell ⟨Q, 4, none⟩ (.string ⟨#[]⟩)) := ⟨_, rfl⟩
    have hq4 : W4.heap[Q]? = some (.cells #[.string (dot arcs), .int .i64 2, .int .i64 0, .int .u64 0, .string ⟨#[]⟩] 40 (0, 0)) := by rw [hW4]; exact setAll5 hn3
    have h4 : W4.heap[w.heap.size]? = some (.cells #[.string name, .int .i64 2, .int .i64 i, .int .u64 u, .string text] 40 (0, 0)) := by rw [hW4, setHeap5 (by omega)]; exact h3
    have hz4 : W4.heap[w.heap.size + 1]? = some (.cells #[.string ⟨#[]⟩, .int .i64 0, .int .i64 0, .int .u64 0, .string ⟨#[]⟩] 40 (0, 0)) := by rw [hW4, setHeap5 (by omega)]; exact hz3
    have HB4 : Hid (Below w.heap.size w W4) := by unfold Hid; rw [hW4]; exact setBel5 HB3.out (by omega)
    rw [← hQ, ← hW4]
    have hQ1 := hQ1'
    clear hn3 q00 q01 q02 q03 q04 q0f hwA hQ1'
    have HQ4 := Lib.hid hq4
    have H4 := Lib.hid h4
    have HZ4 := Lib.hid hz4
    have c0 : W4.cell? ⟨w.heap.size, 0, none⟩ = some (.string name) := by rw [Lib.cell_of_heap h4]; rfl
    have c1 : W4.cell? ⟨w.heap.size, 1, none⟩ = some (.int .i64 2) := by rw [Lib.cell_of_heap h4]; rfl
    have c2 : W4.cell? ⟨w.heap.size, 2, none⟩ = some (.int .i64 i) := by rw [Lib.cell_of_heap h4]; rfl
    have c3 : W4.cell? ⟨w.heap.size, 3, none⟩ = some (.int .u64 u) := by rw [Lib.cell_of_heap h4]; rfl
    have c4 : W4.cell? ⟨w.heap.size, 4, none⟩ = some (.string text) := by rw [Lib.cell_of_heap h4]; rfl
    have hqn : Q ≠ w.heap.size := by omega
    clear hHeld hQ hW4 hq4 h3 hz3 h4 hz4 c1d c1e c1A n2 hne2 hb3 HI HD
    have q2 : W4.cell? ⟨Q, 2, none⟩ = some (.int .i64 0) := by rw [Lib.cell_of_heap HQ4.out]; rfl
    have qf : W4.frozen? ⟨Q, 2, none⟩ = false := Lib.frozen_of_heap HQ4.out 2
    go_upto_region 17 with fail
    obtain ⟨W5, hW5⟩ : ∃ W5, W5 = W4.setCell ⟨Q, 2, none⟩ (.int .i64 i) := ⟨_, rfl⟩
    rw [← hW5]
    have hq5 : W5.heap[Q]? = some (.cells #[.string (dot arcs), .int .i64 2, .int .i64 i, .int .u64 0, .string ⟨#[]⟩] 40 (0, 0)) := by rw [hW5]; exact Lib.heap_setCell_same (i := 2) HQ4.out _
    have hz5 : W5.heap[w.heap.size + 1]? = some (.cells #[.string ⟨#[]⟩, .int .i64 0, .int .i64 0, .int .u64 0, .string ⟨#[]⟩] 40 (0, 0)) := by rw [hW5, Below.heap_setCell _ _ _ _ (by simp; omega)]; exact HZ4.out
    have hb5 : Below w.heap.size w W5 := by rw [hW5]; exact HB4.out.setCell (by simp; omega) _
    clear q2 qf hW5
    clear c0 c1 c2 c3 c4
    have e0 : W5.cell? ⟨Q, 0, none⟩ = some (.string (dot arcs)) := by rw [Lib.cell_of_heap hq5]; rfl
    have e1 : W5.cell? ⟨Q, 1, none⟩ = some (.int .i64 2) := by rw [Lib.cell_of_heap hq5]; rfl
    have e2 : W5.cell? ⟨Q, 2, none⟩ = some (.int .i64 i) := by rw [Lib.cell_of_heap hq5]; rfl
    have e3 : W5.cell? ⟨Q, 3, none⟩ = some (.int .u64 0) := by rw [Lib.cell_of_heap hq5]; rfl
    have e4 : W5.cell? ⟨Q, 4, none⟩ = some (.string ⟨#[]⟩) := by rw [Lib.cell_of_heap hq5]; rfl
    have s0 : W5.cell? ⟨w.heap.size + 1, 0, none⟩ = some (.string ⟨#[]⟩) := by rw [Lib.cell_of_heap hz5]; rfl
    have s1 : W5.cell? ⟨w.heap.size + 1, 1, none⟩ = some (.int .i64 0) := by rw [Lib.cell_of_heap hz5]; rfl
    have s2 : W5.cell? ⟨w.heap.size + 1, 2, none⟩ = some (.int .i64 0) := by rw [Lib.cell_of_heap hz5]; rfl
    have s3 : W5.cell? ⟨w.heap.size + 1, 3, none⟩ = some (.int .u64 0) := by rw [Lib.cell_of_heap hz5]; rfl
    have s4 : W5.cell? ⟨w.heap.size + 1, 4, none⟩ = some (.string ⟨#[]⟩) := by rw [Lib.cell_of_heap hz5]; rfl
    have sf : ∀ i, W5.frozen? ⟨w.heap.size + 1, i, none⟩ = false := fun i => Lib.frozen_of_heap hz5 i
    have HS := Lib.hid (setCells_at (g := w.heap.size + 1) (T := 40) [(.string (dot arcs)), (.int .i64 2), (.int .i64 i), (.int .u64 0), (.string ⟨#[]⟩)] 0 W5 _ hz5 (by simp))
    have HB5 := Lib.hid hb5
    clear hq5 hz5 hb5
    go_wp2
    change bodyPost _ _ _ _ _ (W5.setCells (w.heap.size + 1) 0 [(.string (dot arcs)), (.int .i64 2), (.int .i64 i), (.int .u64 0), (.string ⟨#[]⟩)])
    obtain ⟨z1, z2⟩ := HS.out
    generalize W5.setCells (w.heap.size + 1) 0 [(.string (dot arcs)), (.int .i64 2), (.int .i64 i), (.int .u64 0), (.string ⟨#[]⟩)] = WF at z1 z2 ⊢
    have k0 : WF.cell? ⟨w.heap.size + 1, 0, none⟩ = some (.string (dot arcs)) := by rw [Lib.cell_of_heap z1]; rfl
    have k1 : WF.cell? ⟨w.heap.size + 1, 1, none⟩ = some (.int .i64 2) := by rw [Lib.cell_of_heap z1]; rfl
    have k2 : WF.cell? ⟨w.heap.size + 1, 2, none⟩ = some (.int .i64 i) := by rw [Lib.cell_of_heap z1]; rfl
    have k3 : WF.cell? ⟨w.heap.size + 1, 3, none⟩ = some (.int .u64 0) := by rw [Lib.cell_of_heap z1]; rfl
    have k4 : WF.cell? ⟨w.heap.size + 1, 4, none⟩ = some (.string ⟨#[]⟩) := by rw [Lib.cell_of_heap z1]; rfl
    try simp only [Exit.inBlock, Exit.then]
    refine bodyPost_ret (v := .agg #[.string (dot arcs), .int .i64 2, .int .i64 i, .int .u64 0, .string ⟨#[]⟩]) (by simp [results, Tryz.results37, go_sem, k0, k1, k2, k3, k4]) rfl ?_
    exact ⟨rfl, HB5.out.trans (z2.below HB5.out.size (by simp))⟩
set_option maxHeartbeats 8000000 in
set_option maxRecDepth 100000 in
theorem plain_4 (w : World) (name : ByteArray) (i u : Int) (text : ByteArray) (arcs : List Nat) (hs : name.size ≤ 2147483647) (hn : arcsOf (bytesOf name) = some arcs) :
    Calls Tryz.prog 37 #[varV name 4 i u text] w fun e w' => e = .returned (.agg #[.string (dot arcs), .int .i64 4, .int .i64 0, .int .u64 0, .string text]) ∧ Below w.heap.size w w' := by
  simp only [varV]
  obtain ⟨W1, hW1⟩ : ∃ W1, W1 = (w.alloc (.cells #[.string name, .int .i64 4, .int .i64 i, .int .u64 u, .string text] 40)).alloc (.cells #[.string ⟨#[]⟩, .int .i64 0, .int .i64 0, .int .u64 0, .string ⟨#[]⟩] 40) := ⟨_, rfl⟩
  have hb1 : Below w.heap.size w W1 := by rw [hW1]; exact ((Below.refl _ _).alloc (Nat.le_refl _) _).alloc (by simp) _
  have h1 : W1.heap[w.heap.size]? = some (.cells #[.string name, .int .i64 4, .int .i64 i, .int .u64 u, .string text] 40 (0, 0)) := by rw [hW1, Below.heap_alloc _ _ _ (by simp)]; exact heap_alloc_new w _
  have hz1 : W1.heap[w.heap.size + 1]? = some (.cells #[.string ⟨#[]⟩, .int .i64 0, .int .i64 0, .int .u64 0, .string ⟨#[]⟩] 40 (0, 0)) := by
    rw [hW1]
    have hh := heap_alloc_new (w.alloc (.cells #[.string name, .int .i64 4, .int .i64 i, .int .u64 u, .string text] 40)) (.cells #[.string ⟨#[]⟩, .int .i64 0, .int .i64 0, .int .u64 0, .string ⟨#[]⟩] 40)
    rwa [show (w.alloc (.cells #[.string name, .int .i64 4, .int .i64 i, .int .u64 u, .string text] 40)).heap.size = w.heap.size + 1 by simp] at hh
  have HI := Lib.hid (specArcs name W1 hs)
  have HB1 := Lib.hid hb1
  have HW1 := Lib.hid hW1
  have H1 := Lib.hid h1
  have HZ1 := Lib.hid hz1
  have HN := Lib.hid hn
  clear hb1 hW1 h1 hz1 hn
  go_enter Tryz.func37, Tryz.ntmps37
  go_wp2_with (go_at_call 22; rw [← HW1.out]; refine (HI.out).mono ?_; rintro e W2 ⟨v2, b2, rfl, hbb, hyes, hb2⟩; rw [HN.out] at hbb; obtain rfl : b2 = true := hbb; refine Hid.out ?_)
  refine Lib.hid ?_
  have hg := arcsOf_good HN.out
  have hO := hyes arcs HN.out
  have HD : Hid (∀ W, Below W2.heap.size W2 W → Calls Tryz.prog 24 #[v2] W fun e w' => e = .returned (.string (dot arcs)) ∧ Below W.heap.size W w') := fun W hW => dotted v2 arcs W (RdN.of_own (hO.below hW)) hg.small hg.sixty
  have HB2 : Hid (Below w.heap.size w W2) := HB1.out.trans (hb2.mono HB1.out.size)
  have H2 := Lib.hid ((hb2.block _ (Lib.lt_of_heap H1.out)).trans H1.out)
  have HZ2 := Lib.hid ((hb2.block _ (Lib.lt_of_heap HZ1.out)).trans HZ1.out)
  have c1d : W2.cell? ⟨w.heap.size, 1, none⟩ = some (.int .i64 4) := by rw [Lib.cell_of_heap H2.out]; rfl
  clear hyes hO hb2 hg
  go_upto_region 2 with fail
  have n2 : (W2.alloc (.cells #[.string ⟨#[]⟩, .int .i64 0, .int .i64 0, .int .u64 0, .string ⟨#[]⟩] 40)).drew.heap[W2.heap.size]? = some (.cells #[.string ⟨#[]⟩, .int .i64 0, .int .i64 0, .int .u64 0, .string ⟨#[]⟩] 40 (0, 0)) := heap_alloc_new W2 _
  have hne2 : W2.heap.size ≠ w.heap.size := by have := Lib.lt_of_heap H2.out; omega
  have c1e : W2.drew.cell? ⟨w.heap.size, 1, none⟩ = some (.int .i64 4) := c1d
  have c1A : (W2.alloc (.cells #[.string ⟨#[]⟩, .int .i64 0, .int .i64 0, .int .u64 0, .string ⟨#[]⟩] 40)).drew.cell? ⟨w.heap.size, 1, none⟩ = some (.int .i64 4) := cellB wA c1d
  go_region_held3 (fun W => W.cell? ⟨w.heap.size, 1, none⟩ = some (.int .i64 4)) (first | with_reducible exact c1e | with_reducible exact c1A | with_reducible exact cellB hb3 c1e | with_reducible exact cellB hb3 c1A | with_reducible exact cellA (cellB hb3 c1e) | with_reducible exact cellS5 hne2 (cellB hb3 c1A)) (first | (go_at_call 24; refine (HD.out _ ?hbW).mono ?_; (case hbW => first | with_reducible exact (Below.refl _ _).drew | with_reducible exact wA); rintro e W3 ⟨rfl, hb3⟩; try (with_reducible obtain ⟨q00, q01, q02, q03, q04, q0f⟩ := five40 ((hb3.block _ (Lib.lt_of_heap n2)).trans n2))))
  · rename_i hHeld
    have HB3 : Hid (Below w.heap.size w W3) := HB2.out.trans (Below.mono (B := W2.drew.heap.size) (Below.trans (b := W2.drew) ((Below.refl _ _).drew) hb3) HB2.out.size)
    have h3 : W3.heap[w.heap.size]? = _ := (hb3.block _ (Lib.lt_of_heap H2.out)).trans H2.out
    have hz3 : W3.heap[w.heap.size + 1]? = _ := (hb3.block _ (Lib.lt_of_heap HZ2.out)).trans HZ2.out
    obtain ⟨Q, hQ⟩ : ∃ Q, Q = W3.heap.size := ⟨_, rfl⟩
    obtain ⟨W4, hW4⟩ : ∃ W4, W4 = W3.alloc (.cells #[.string (dot arcs), .int .i64 4, .int .i64 0, .int .u64 0, .string ⟨#[]⟩] 40) := ⟨_, rfl⟩
    have hb4 : Below W3.heap.size W3 W4 := by rw [hW4]; exact (Below.refl _ _).alloc (Nat.le_refl _) _
    have hq4 : W4.heap[Q]? = some (.cells #[.string (dot arcs), .int .i64 4, .int .i64 0, .int .u64 0, .string ⟨#[]⟩] 40 (0, 0)) := by rw [hW4, hQ]; exact heap_alloc_new W3 _
    rw [← hW4, ← hQ]
    have hQ1 : w.heap.size + 1 < Q := by rw [hQ]; exact Lib.lt_of_heap hz3
    have h4 : W4.heap[w.heap.size]? = some (.cells #[.string name, .int .i64 4, .int .i64 i, .int .u64 u, .string text] 40 (0, 0)) := (hb4.block _ (Lib.lt_of_heap h3)).trans h3
    have hz4 : W4.heap[w.heap.size + 1]? = some (.cells #[.string ⟨#[]⟩, .int .i64 0, .int .i64 0, .int .u64 0, .string ⟨#[]⟩] 40 (0, 0)) := (hb4.block _ (Lib.lt_of_heap hz3)).trans hz3
    have HB4 : Hid (Below w.heap.size w W4) := HB3.out.trans (hb4.mono HB3.out.size)
    clear hb4
    have HQ4 := Lib.hid hq4
    have H4 := Lib.hid h4
    have HZ4 := Lib.hid hz4
    have c0 : W4.cell? ⟨w.heap.size, 0, none⟩ = some (.string name) := by rw [Lib.cell_of_heap h4]; rfl
    have c1 : W4.cell? ⟨w.heap.size, 1, none⟩ = some (.int .i64 4) := by rw [Lib.cell_of_heap h4]; rfl
    have c2 : W4.cell? ⟨w.heap.size, 2, none⟩ = some (.int .i64 i) := by rw [Lib.cell_of_heap h4]; rfl
    have c3 : W4.cell? ⟨w.heap.size, 3, none⟩ = some (.int .u64 u) := by rw [Lib.cell_of_heap h4]; rfl
    have c4 : W4.cell? ⟨w.heap.size, 4, none⟩ = some (.string text) := by rw [Lib.cell_of_heap h4]; rfl
    have hqn : Q ≠ w.heap.size := by omega
    clear hHeld hQ hW4 hq4 h3 hz3 h4 hz4 c1d c1e c1A n2 hne2 hb3 HI HD
    have q4 : W4.cell? ⟨Q, 4, none⟩ = some (.string ⟨#[]⟩) := by rw [Lib.cell_of_heap HQ4.out]; rfl
    have qf : W4.frozen? ⟨Q, 4, none⟩ = false := Lib.frozen_of_heap HQ4.out 4
    go_upto_region 17 with fail
    obtain ⟨W5, hW5⟩ : ∃ W5, W5 = W4.setCell ⟨Q, 4, none⟩ (.string text) := ⟨_, rfl⟩
    rw [← hW5]
    have hq5 : W5.heap[Q]? = some (.cells #[.string (dot arcs), .int .i64 4, .int .i64 0, .int .u64 0, .string text] 40 (0, 0)) := by rw [hW5]; exact Lib.heap_setCell_same (i := 4) HQ4.out _
    have hz5 : W5.heap[w.heap.size + 1]? = some (.cells #[.string ⟨#[]⟩, .int .i64 0, .int .i64 0, .int .u64 0, .string ⟨#[]⟩] 40 (0, 0)) := by rw [hW5, Below.heap_setCell _ _ _ _ (by simp; omega)]; exact HZ4.out
    have hb5 : Below w.heap.size w W5 := by rw [hW5]; exact HB4.out.setCell (by simp; omega) _
    clear q4 qf hW5
    clear c0 c1 c2 c3 c4
    have e0 : W5.cell? ⟨Q, 0, none⟩ = some (.string (dot arcs)) := by rw [Lib.cell_of_heap hq5]; rfl
    have e1 : W5.cell? ⟨Q, 1, none⟩ = some (.int .i64 4) := by rw [Lib.cell_of_heap hq5]; rfl
    have e2 : W5.cell? ⟨Q, 2, none⟩ = some (.int .i64 0) := by rw [Lib.cell_of_heap hq5]; rfl
    have e3 : W5.cell? ⟨Q, 3, none⟩ = some (.int .u64 0) := by rw [Lib.cell_of_heap hq5]; rfl
    have e4 : W5.cell? ⟨Q, 4, none⟩ = some (.string text) := by rw [Lib.cell_of_heap hq5]; rfl
    have s0 : W5.cell? ⟨w.heap.size + 1, 0, none⟩ = some (.string ⟨#[]⟩) := by rw [Lib.cell_of_heap hz5]; rfl
    have s1 : W5.cell? ⟨w.heap.size + 1, 1, none⟩ = some (.int .i64 0) := by rw [Lib.cell_of_heap hz5]; rfl
    have s2 : W5.cell? ⟨w.heap.size + 1, 2, none⟩ = some (.int .i64 0) := by rw [Lib.cell_of_heap hz5]; rfl
    have s3 : W5.cell? ⟨w.heap.size + 1, 3, none⟩ = some (.int .u64 0) := by rw [Lib.cell_of_heap hz5]; rfl
    have s4 : W5.cell? ⟨w.heap.size + 1, 4, none⟩ = some (.string ⟨#[]⟩) := by rw [Lib.cell_of_heap hz5]; rfl
    have sf : ∀ i, W5.frozen? ⟨w.heap.size + 1, i, none⟩ = false := fun i => Lib.frozen_of_heap hz5 i
    have HS := Lib.hid (setCells_at (g := w.heap.size + 1) (T := 40) [(.string (dot arcs)), (.int .i64 4), (.int .i64 0), (.int .u64 0), (.string text)] 0 W5 _ hz5 (by simp))
    have HB5 := Lib.hid hb5
    clear hq5 hz5 hb5
    go_wp2
    change bodyPost _ _ _ _ _ (W5.setCells (w.heap.size + 1) 0 [(.string (dot arcs)), (.int .i64 4), (.int .i64 0), (.int .u64 0), (.string text)])
    obtain ⟨z1, z2⟩ := HS.out
    generalize W5.setCells (w.heap.size + 1) 0 [(.string (dot arcs)), (.int .i64 4), (.int .i64 0), (.int .u64 0), (.string text)] = WF at z1 z2 ⊢
    have k0 : WF.cell? ⟨w.heap.size + 1, 0, none⟩ = some (.string (dot arcs)) := by rw [Lib.cell_of_heap z1]; rfl
    have k1 : WF.cell? ⟨w.heap.size + 1, 1, none⟩ = some (.int .i64 4) := by rw [Lib.cell_of_heap z1]; rfl
    have k2 : WF.cell? ⟨w.heap.size + 1, 2, none⟩ = some (.int .i64 0) := by rw [Lib.cell_of_heap z1]; rfl
    have k3 : WF.cell? ⟨w.heap.size + 1, 3, none⟩ = some (.int .u64 0) := by rw [Lib.cell_of_heap z1]; rfl
    have k4 : WF.cell? ⟨w.heap.size + 1, 4, none⟩ = some (.string text) := by rw [Lib.cell_of_heap z1]; rfl
    try simp only [Exit.inBlock, Exit.then]
    refine bodyPost_ret (v := .agg #[.string (dot arcs), .int .i64 4, .int .i64 0, .int .u64 0, .string text]) (by simp [results, Tryz.results37, go_sem, k0, k1, k2, k3, k4]) rfl ?_
    exact ⟨rfl, HB5.out.trans (z2.below HB5.out.size (by simp))⟩

  · rename_i hHeld
    have hwA : Below W2.heap.size W2 (W2.alloc (.cells #[.string ⟨#[]⟩, .int .i64 0, .int .i64 0, .int .u64 0, .string ⟨#[]⟩] 40)).drew := wA
    have HB3 : Hid (Below w.heap.size w W3) := HB2.out.trans ((hwA.trans (hb3.mono hwA.size)).mono HB2.out.size)
    have h3 : W3.heap[w.heap.size]? = _ := ((hwA.trans (hb3.mono hwA.size)).block _ (Lib.lt_of_heap H2.out)).trans H2.out
    have hz3 : W3.heap[w.heap.size + 1]? = _ := ((hwA.trans (hb3.mono hwA.size)).block _ (Lib.lt_of_heap HZ2.out)).trans HZ2.out
    have hn3 : W3.heap[W2.heap.size]? = _ := (hb3.block _ (Lib.lt_of_heap n2)).trans n2
    have hQ1' : w.heap.size + 1 < W2.heap.size := Lib.lt_of_heap HZ2.out
    obtain ⟨Q, hQ⟩ : ∃ Q, Q = W2.heap.size := ⟨_, rfl⟩
    rw [← hQ] at hn3 hQ1'
    obtain ⟨W4, hW4⟩ : ∃ W4, W4 = (((((W3.setCell ⟨Q, 0, none⟩ (.string (dot arcs))).setCell ⟨Q, 1, none⟩ (.int .i64 4)).setCell ⟨Q, 2, none⟩ (.int .i64 0)).setCell ⟨Q, 3, none⟩ (.int .u64 0)).setCell ⟨Q, 4, none⟩ (.string ⟨#[]⟩)) := ⟨_, rfl⟩
    have hq4 : W4.heap[Q]? = some (.cells #[.string (dot arcs), .int .i64 4, .int .i64 0, .int .u64 0, .string ⟨#[]⟩] 40 (0, 0)) := by rw [hW4]; exact setAll5 hn3
    have h4 : W4.heap[w.heap.size]? = some (.cells #[.string name, .int .i64 4, .int .i64 i, .int .u64 u, .string text] 40 (0, 0)) := by rw [hW4, setHeap5 (by omega)]; exact h3
    have hz4 : W4.heap[w.heap.size + 1]? = some (.cells #[.string ⟨#[]⟩, .int .i64 0, .int .i64 0, .int .u64 0, .string ⟨#[]⟩] 40 (0, 0)) := by rw [hW4, setHeap5 (by omega)]; exact hz3
    have HB4 : Hid (Below w.heap.size w W4) := by unfold Hid; rw [hW4]; exact setBel5 HB3.out (by omega)
    rw [← hQ, ← hW4]
    have hQ1 := hQ1'
    clear hn3 q00 q01 q02 q03 q04 q0f hwA hQ1'
    have HQ4 := Lib.hid hq4
    have H4 := Lib.hid h4
    have HZ4 := Lib.hid hz4
    have c0 : W4.cell? ⟨w.heap.size, 0, none⟩ = some (.string name) := by rw [Lib.cell_of_heap h4]; rfl
    have c1 : W4.cell? ⟨w.heap.size, 1, none⟩ = some (.int .i64 4) := by rw [Lib.cell_of_heap h4]; rfl
    have c2 : W4.cell? ⟨w.heap.size, 2, none⟩ = some (.int .i64 i) := by rw [Lib.cell_of_heap h4]; rfl
    have c3 : W4.cell? ⟨w.heap.size, 3, none⟩ = some (.int .u64 u) := by rw [Lib.cell_of_heap h4]; rfl
    have c4 : W4.cell? ⟨w.heap.size, 4, none⟩ = some (.string text) := by rw [Lib.cell_of_heap h4]; rfl
    have hqn : Q ≠ w.heap.size := by omega
    clear hHeld hQ hW4 hq4 h3 hz3 h4 hz4 c1d c1e c1A n2 hne2 hb3 HI HD
    have q4 : W4.cell? ⟨Q, 4, none⟩ = some (.string ⟨#[]⟩) := by rw [Lib.cell_of_heap HQ4.out]; rfl
    have qf : W4.frozen? ⟨Q, 4, none⟩ = false := Lib.frozen_of_heap HQ4.out 4
    go_upto_region 17 with fail
    obtain ⟨W5, hW5⟩ : ∃ W5, W5 = W4.setCell ⟨Q, 4, none⟩ (.string text) := ⟨_, rfl⟩
    rw [← hW5]
    have hq5 : W5.heap[Q]? = some (.cells #[.string (dot arcs), .int .i64 4, .int .i64 0, .int .u64 0, .string text] 40 (0, 0)) := by rw [hW5]; exact Lib.heap_setCell_same (i := 4) HQ4.out _
    have hz5 : W5.heap[w.heap.size + 1]? = some (.cells #[.string ⟨#[]⟩, .int .i64 0, .int .i64 0, .int .u64 0, .string ⟨#[]⟩] 40 (0, 0)) := by rw [hW5, Below.heap_setCell _ _ _ _ (by simp; omega)]; exact HZ4.out
    have hb5 : Below w.heap.size w W5 := by rw [hW5]; exact HB4.out.setCell (by simp; omega) _
    clear q4 qf hW5
    clear c0 c1 c2 c3 c4
    have e0 : W5.cell? ⟨Q, 0, none⟩ = some (.string (dot arcs)) := by rw [Lib.cell_of_heap hq5]; rfl
    have e1 : W5.cell? ⟨Q, 1, none⟩ = some (.int .i64 4) := by rw [Lib.cell_of_heap hq5]; rfl
    have e2 : W5.cell? ⟨Q, 2, none⟩ = some (.int .i64 0) := by rw [Lib.cell_of_heap hq5]; rfl
    have e3 : W5.cell? ⟨Q, 3, none⟩ = some (.int .u64 0) := by rw [Lib.cell_of_heap hq5]; rfl
    have e4 : W5.cell? ⟨Q, 4, none⟩ = some (.string text) := by rw [Lib.cell_of_heap hq5]; rfl
    have s0 : W5.cell? ⟨w.heap.size + 1, 0, none⟩ = some (.string ⟨#[]⟩) := by rw [Lib.cell_of_heap hz5]; rfl
    have s1 : W5.cell? ⟨w.heap.size + 1, 1, none⟩ = some (.int .i64 0) := by rw [Lib.cell_of_heap hz5]; rfl
    have s2 : W5.cell? ⟨w.heap.size + 1, 2, none⟩ = some (.int .i64 0) := by rw [Lib.cell_of_heap hz5]; rfl
    have s3 : W5.cell? ⟨w.heap.size + 1, 3, none⟩ = some (.int .u64 0) := by rw [Lib.cell_of_heap hz5]; rfl
    have s4 : W5.cell? ⟨w.heap.size + 1, 4, none⟩ = some (.string ⟨#[]⟩) := by rw [Lib.cell_of_heap hz5]; rfl
    have sf : ∀ i, W5.frozen? ⟨w.heap.size + 1, i, none⟩ = false := fun i => Lib.frozen_of_heap hz5 i
    have HS := Lib.hid (setCells_at (g := w.heap.size + 1) (T := 40) [(.string (dot arcs)), (.int .i64 4), (.int .i64 0), (.int .u64 0), (.string text)] 0 W5 _ hz5 (by simp))
    have HB5 := Lib.hid hb5
    clear hq5 hz5 hb5
    go_wp2
    change bodyPost _ _ _ _ _ (W5.setCells (w.heap.size + 1) 0 [(.string (dot arcs)), (.int .i64 4), (.int .i64 0), (.int .u64 0), (.string text)])
    obtain ⟨z1, z2⟩ := HS.out
    generalize W5.setCells (w.heap.size + 1) 0 [(.string (dot arcs)), (.int .i64 4), (.int .i64 0), (.int .u64 0), (.string text)] = WF at z1 z2 ⊢
    have k0 : WF.cell? ⟨w.heap.size + 1, 0, none⟩ = some (.string (dot arcs)) := by rw [Lib.cell_of_heap z1]; rfl
    have k1 : WF.cell? ⟨w.heap.size + 1, 1, none⟩ = some (.int .i64 4) := by rw [Lib.cell_of_heap z1]; rfl
    have k2 : WF.cell? ⟨w.heap.size + 1, 2, none⟩ = some (.int .i64 0) := by rw [Lib.cell_of_heap z1]; rfl
    have k3 : WF.cell? ⟨w.heap.size + 1, 3, none⟩ = some (.int .u64 0) := by rw [Lib.cell_of_heap z1]; rfl
    have k4 : WF.cell? ⟨w.heap.size + 1, 4, none⟩ = some (.string text) := by rw [Lib.cell_of_heap z1]; rfl
    try simp only [Exit.inBlock, Exit.then]
    refine bodyPost_ret (v := .agg #[.string (dot arcs), .int .i64 4, .int .i64 0, .int .u64 0, .string text]) (by simp [results, Tryz.results37, go_sem, k0, k1, k2, k3, k4]) rfl ?_
    exact ⟨rfl, HB5.out.trans (z2.below HB5.out.size (by simp))⟩
end Go.Proofs.YtpfmcdhmboclhaaGreatDoor
