/- spec: a tag, a length and content; figures. spec: a variable's bytes and what is told of it. -/
import Derived.Test.YtpfmcdhmboclhaaGreatDoorG17
import Derived.Test.YtpfmcdhmboclhaaGreatDoorG24
set_option linter.unusedVariables false
set_option linter.unusedSimpArgs false
namespace Go.Proofs.YtpfmcdhmboclhaaGreatDoor
open Go.RowKit

set_option maxHeartbeats 4000000 in
set_option maxRecDepth 100000 in
theorem specSealed (tag wd : Nat) (v : Value) (c : List Int) (w : World) (ht : tag < 256) (hr : Rd w v c) (hc : c.length < 65536) (hwd : wd ≤ 2) : Calls Tryz.prog 31 #[.int .i64 tag, v, .int .i64 wd] w (RetO w (sealB tag c wd)) := by
  have hlen := hr.len c.length rfl
  have hw : IntKind.u8.wrap (tag : Int) = tag := by rw [IntKind.wrap_u8]; omega
  obtain ⟨W1, hW1⟩ : ∃ W1, W1 = w.alloc (.cells #[.int .u8 tag] 5) := ⟨_, rfl⟩
  have hb1 : Below w.heap.size w W1 := by rw [hW1]; exact (Below.refl _ _).alloc (Nat.le_refl _) _
  have hO1 : Own W1 w.heap.size (.slice (some ⟨w.heap.size, 0, none⟩) 1 1) [(tag : Int)] := by rw [hW1]; exact Own.lit w w.heap.size [(tag : Int)] (Nat.le_refl _) (by simp [maxLen])
  have HL := Lib.hid (specLength c.length wd W1 hc hwd)
  have HB1 := Lib.hid hb1
  have HO1 := Lib.hid hO1
  have HR := Lib.hid hr
  have HC := Lib.hid hc
  have HW1 := Lib.hid hW1
  have HLB := Lib.hid (lenB_length c.length wd hc)
  clear hb1 hO1 hr hc hW1
  go_enter Tryz.func31, Tryz.ntmps31
  go_wp2_with (go_at_call 46; rw [← HW1.out]; refine (HL.out).mono ?_; rintro e W2 ⟨v2, rfl, hO2, hb2⟩; refine Hid.out ?_)
  refine Lib.hid ?_
  have HB2 := Lib.hid (HB1.out.trans (hb2.mono HB1.out.size))
  have HO2 := Lib.hid hO2
  have HOT := Lib.hid (HO1.out.keptBelow hb2)
  clear hO2 hb2 HL
  go_wp2_with (at_builtin; refine wpList_append8 _ rfl _ _ rfl w.heap.size _ _ [(tag : Int)] (lenB c.length wd) rfl rfl (by exact HOT.out) (by exact HO2.out.reads) (by exact HB2.out.size) (by have := HLB.out; simp; omega) ?_)
  intro v3 w3 hO3 hg3 _
  have HB3 : Hid (Below w.heap.size w w3) := HB2.out.grown hg3 HB2.out.size (fun k e => (HOT.out.lt e).1)
  have HO3 := Lib.hid hO3
  clear hO3 hg3
  go_wp2_with (at_builtin; refine wpList_append8 _ rfl _ _ rfl w.heap.size _ _ ([(tag : Int)] ++ lenB c.length wd) c rfl rfl (by exact HO3.out) (by exact HR.out.keptBelow HB3.out) (by exact HB3.out.size) (by have := HLB.out; have := HC.out; simp; omega) ?_)
  intro v4 w4 hO4 hg4 _
  have HRT : Hid (RetO w (sealB tag c wd) (.returned v4) w4) := ⟨v4, rfl, own_text1 hO4 (by unfold sealB; simp), HB3.out.grown hg4 HB3.out.size (fun k e => (HO3.out.lt e).1)⟩
  clear hO4 hg4
  go_wp2
  go_ret
  exact HRT.out
end Go.Proofs.YtpfmcdhmboclhaaGreatDoor
namespace Go.Proofs.YtpfmcdhmboclhaaGreatDoor
open Go.RowKit

/-- A variable that came in, where it is one of those that are asked. -/
def avOf (name : ByteArray) (t i u : Int) (text : ByteArray) : Option AV :=
  (arcsOf (bytesOf name)).bind fun arcs => (payOf t i u text).bind fun p => if text.size ≤ 500 ∧ name.size ≤ 1000 then some ⟨name, arcs, p⟩ else none
/-- What Value returns. -/
def RetVal (w : World) (ao : Option AV) (wd : Nat) (e : Ending) (w' : World) : Prop :=
  ∃ v1 v2 s0 s1 s2 s3 s4 b, e = .returned (.tuple #[v1, v2, .agg #[.string s0, .int .i64 s1, .int .i64 s2, .int .u64 s3, .string s4], .bool b]) ∧ b = ao.isSome ∧
    (∀ x, ao = some x → Own w' w.heap.size v1 (varB x.arcs x.pay wd) ∧ (.agg #[.string s0, .int .i64 s1, .int .i64 s2, .int .u64 s3, .string s4] : Value) = toldV (dot x.arcs) x.pay) ∧ Below w.heap.size w w'
theorem retV_no {w w' : World} {ao : Option AV} {wd : Nat} (h : ao = none) (hb : Below w.heap.size w w') : RetVal w ao wd (.returned (.tuple #[.slice none 0 0, .slice none 0 0, .agg #[.string ⟨#[]⟩, .int .i64 0, .int .i64 0, .int .u64 0, .string ⟨#[]⟩], .bool false])) w' :=
  ⟨_, _, _, _, _, _, _, false, rfl, by rw [h]; rfl, (fun x e => by rw [h] at e; cases e), hb⟩
theorem fiveC {W : World} {Q : Nat} {a b c d e : Value} (h : W.heap[Q]? = some (.cells #[a, b, c, d, e] 40 (0, 0))) : W.cell? ⟨Q, 0, none⟩ = some a ∧ W.cell? ⟨Q, 1, none⟩ = some b ∧ W.cell? ⟨Q, 2, none⟩ = some c ∧ W.cell? ⟨Q, 3, none⟩ = some d ∧ W.cell? ⟨Q, 4, none⟩ = some e := by
  obtain ⟨h1, h2, h3, h4, h5, -⟩ := five40 h
  exact ⟨h1, h2, h3, h4, h5⟩
theorem fiveS {W : World} {Q R : Nat} {a b c d e a' b' c' d' e' : Value} (hq : R ≠ Q) (h : W.heap[Q]? = some (.cells #[a, b, c, d, e] 40 (0, 0))) :
    (((((W.setCell ⟨R, 0, none⟩ a').setCell ⟨R, 1, none⟩ b').setCell ⟨R, 2, none⟩ c').setCell ⟨R, 3, none⟩ d').setCell ⟨R, 4, none⟩ e').cell? ⟨Q, 0, none⟩ = some a ∧ (((((W.setCell ⟨R, 0, none⟩ a').setCell ⟨R, 1, none⟩ b').setCell ⟨R, 2, none⟩ c').setCell ⟨R, 3, none⟩ d').setCell ⟨R, 4, none⟩ e').cell? ⟨Q, 1, none⟩ = some b ∧ (((((W.setCell ⟨R, 0, none⟩ a').setCell ⟨R, 1, none⟩ b').setCell ⟨R, 2, none⟩ c').setCell ⟨R, 3, none⟩ d').setCell ⟨R, 4, none⟩ e').cell? ⟨Q, 2, none⟩ = some c ∧ (((((W.setCell ⟨R, 0, none⟩ a').setCell ⟨R, 1, none⟩ b').setCell ⟨R, 2, none⟩ c').setCell ⟨R, 3, none⟩ d').setCell ⟨R, 4, none⟩ e').cell? ⟨Q, 3, none⟩ = some d ∧ (((((W.setCell ⟨R, 0, none⟩ a').setCell ⟨R, 1, none⟩ b').setCell ⟨R, 2, none⟩ c').setCell ⟨R, 3, none⟩ d').setCell ⟨R, 4, none⟩ e').cell? ⟨Q, 4, none⟩ = some e := by
  obtain ⟨h1, h2, h3, h4, h5, -⟩ := five40 h
  exact ⟨cellS5 hq h1, cellS5 hq h2, cellS5 hq h3, cellS5 hq h4, cellS5 hq h5⟩
section
variable {ops : Array Oper} {o : Oper} {a : Act} {w : World} {K : Act → World → Prop} {Q : Exit → Act → World → Prop} {E : Prop}
theorem step_append8 (hgd : o.guard = none) (s x : Operand) (ho : o.op = .call { callee := .builtin .append, args := #[s, x], argTypes := #[30, 30] })
    (base : Nat) (v p : Value) (l cs : List Int) (hs : a.eval s = v) (hx : a.eval x = p) (hO : Own w base v l) (hR : Rd w p cs) (hbase : base ≤ w.heap.size) (hl : l.length + cs.length ≤ 1000000000000)
    (h : ∀ v' w', Own w' base v' (l ++ cs) → w.grownBy w' v.ownBlock → K (a.put o.dst v') w') :
    if Region.wanted o (yielded ops a.tmps) = true then Oper.wp Tryz.prog o a w K Q else E := by
  have hw : Region.wanted o (yielded ops a.tmps) = true := by simp [Region.wanted, hgd]
  rw [if_pos hw]
  obtain ⟨v1, w1, hr, h4, h5, _⟩ := run_append8 w base o.type v p l cs hO hR hbase hl
  unfold Oper.wp execOp
  simp only [ho, resolve, invoke, builtin, Sem.run_bind, Sem.run_pure, Result.andThen_ok, List.map_toArray, List.map_cons, List.map_nil, hs, hx, hr]
  exact h v1 w1 h4 h5
end

set_option maxHeartbeats 16000000 in
set_option maxRecDepth 100000 in
theorem value_f1 (w : World) (name : ByteArray) (t i : Int) (u : Nat) (text : ByteArray) (wd : Nat) (hi : -9223372036854775808 ≤ i ∧ i ≤ 9223372036854775807) (hu : u < 18446744073709551616) (hs : name.size ≤ 2147483647) (ht : text.size ≤ 2147483647) (b3 : Bool) (ha : arcsOf (bytesOf name) = none) (hp : (payOf t i u text).isSome = b3) :
    Calls Tryz.prog 15 #[varV name t i u text, .int .i64 wd] w (RetVal w (avOf name t i u text) wd) := by
  have HAV : Hid (avOf name t i u text = none) := by unfold Hid avOf; rw [ha]; rfl
  simp only [varV]
  obtain ⟨W1, hW1⟩ : ∃ W1, W1 = (w.alloc (.cells #[.string name, .int .i64 t, .int .i64 i, .int .u64 u, .string text] 40)).alloc (.cells #[.string ⟨#[]⟩, .int .i64 0, .int .i64 0, .int .u64 0, .string ⟨#[]⟩] 40) := ⟨_, rfl⟩
  have hb1 : Below w.heap.size w W1 := by rw [hW1]; exact ((Below.refl _ _).alloc (Nat.le_refl _) _).alloc (by simp) _
  have h1 : W1.heap[w.heap.size]? = some (.cells #[.string name, .int .i64 t, .int .i64 i, .int .u64 u, .string text] 40 (0, 0)) := by rw [hW1, Below.heap_alloc _ _ _ (by simp)]; exact heap_alloc_new w _
  have hz1 : W1.heap[w.heap.size + 1]? = some (.cells #[.string ⟨#[]⟩, .int .i64 0, .int .i64 0, .int .u64 0, .string ⟨#[]⟩] 40 (0, 0)) := by
    rw [hW1]
    have hh := heap_alloc_new (w.alloc (.cells #[.string name, .int .i64 t, .int .i64 i, .int .u64 u, .string text] 40)) (.cells #[.string ⟨#[]⟩, .int .i64 0, .int .i64 0, .int .u64 0, .string ⟨#[]⟩] 40)
    rwa [show (w.alloc (.cells #[.string name, .int .i64 t, .int .i64 i, .int .u64 u, .string text] 40)).heap.size = w.heap.size + 1 by simp] at hh
  have HI := Lib.hid (specArcs name W1 hs)
  have HC : Hid (∀ W, Calls Tryz.prog 36 #[varV name t i u text] W (RetC W (payOf t i u text))) := fun W => specContent W name t i u text hi hu ht
  unfold varV at HC
  have HB1 := Lib.hid hb1
  have HW1 := Lib.hid hW1
  have H1 := Lib.hid h1
  have HZ1 := Lib.hid hz1
  have hsz1 := hs
  have htz1 := ht
  clear hb1 hW1 h1 hz1 hs ht hi hu
  have HA := Lib.hid ha
  have HP := Lib.hid hp
  clear ha hp
  go_enter Tryz.func15, Tryz.ntmps15
  go_wp2_with (go_at_call 22; rw [← HW1.out]; refine (HI.out).mono ?_; rintro e W2 ⟨v2, b2, rfl, hbb, hyes, hb2⟩; rw [HA.out] at hbb; obtain rfl : b2 = false := hbb; refine Hid.out ?_)
  refine Lib.hid ?_
  have HB2 : Hid (Below w.heap.size w W2) := HB1.out.trans (hb2.mono HB1.out.size)
  have H2 := Lib.hid ((hb2.block _ (Lib.lt_of_heap H1.out)).trans H1.out)
  have HZ2 := Lib.hid ((hb2.block _ (Lib.lt_of_heap HZ1.out)).trans HZ1.out)
  obtain ⟨c0, c1, c2, c3, c4⟩ := fiveC H2.out
  have HC2 := Lib.hid (HC.out W2)
  have HY2 := Lib.hid hyes
  clear hb2 hyes HI HC
  go_wp2_with (go_at_call 36; refine (HC2.out).mono ?_; rintro e W3 ⟨v3, b3, rfl, hbb, hyes, hb3⟩; rw [HP.out] at hbb; subst hbb; refine Hid.out ?_)
  refine Lib.hid ?_
  have HB3 : Hid (Below w.heap.size w W3) := HB2.out.trans (hb3.mono HB2.out.size)
  have HB23 := Lib.hid hb3
  have H3 := Lib.hid ((hb3.block _ (Lib.lt_of_heap H2.out)).trans H2.out)
  have HZ3 := Lib.hid ((hb3.block _ (Lib.lt_of_heap HZ2.out)).trans HZ2.out)
  have HY3 := Lib.hid hyes
  clear hb3 hyes c0 c1 c2 c3 c4
  obtain ⟨c0, c1, c2, c3, c4⟩ := fiveC H3.out
  have sf : ∀ i, W3.frozen? ⟨w.heap.size + 1, i, none⟩ = false := fun i => Lib.frozen_of_heap HZ3.out i
  obtain ⟨s0, s1, s2, s3, s4⟩ := fiveC HZ3.out
  have HS := Lib.hid (setCells_at (g := w.heap.size + 1) (T := 40) [(.string ⟨#[]⟩), (.int .i64 0), (.int .i64 0), (.int .u64 0), (.string ⟨#[]⟩)] 0 W3 _ HZ3.out (by simp))
  clear HY2 HY3
  go_wp2
  change bodyPost _ _ _ _ _ (W3.setCells (w.heap.size + 1) 0 [(.string ⟨#[]⟩), (.int .i64 0), (.int .i64 0), (.int .u64 0), (.string ⟨#[]⟩)])
  obtain ⟨z1, z2⟩ := HS.out
  generalize W3.setCells (w.heap.size + 1) 0 [(.string ⟨#[]⟩), (.int .i64 0), (.int .i64 0), (.int .u64 0), (.string ⟨#[]⟩)] = WF at z1 z2 ⊢
  obtain ⟨k0, k1, k2, k3, k4⟩ := fiveC (W := WF) (a := .string ⟨#[]⟩) (b := .int .i64 0) (c := .int .i64 0) (d := .int .u64 0) (e := .string ⟨#[]⟩) (by simpa using z1)
  try simp only [Exit.inBlock, Exit.then]
  refine bodyPost_ret (v := .tuple #[.slice none 0 0, .slice none 0 0, .agg #[.string ⟨#[]⟩, .int .i64 0, .int .i64 0, .int .u64 0, .string ⟨#[]⟩], .bool false]) (by simp [results, Tryz.results15, go_sem, k0, k1, k2, k3, k4]) rfl ?_
  exact retV_no HAV.out (HB3.out.trans (z2.below HB3.out.size (by simp)))
set_option maxHeartbeats 16000000 in
set_option maxRecDepth 100000 in
theorem value_f2 (w : World) (name : ByteArray) (t i : Int) (u : Nat) (text : ByteArray) (wd : Nat) (hi : -9223372036854775808 ≤ i ∧ i ≤ 9223372036854775807) (hu : u < 18446744073709551616) (hs : name.size ≤ 2147483647) (ht : text.size ≤ 2147483647) (arcs : List Nat) (ha : arcsOf (bytesOf name) = some arcs) (hp : payOf t i u text = none) :
    Calls Tryz.prog 15 #[varV name t i u text, .int .i64 wd] w (RetVal w (avOf name t i u text) wd) := by
  have HAV : Hid (avOf name t i u text = none) := by unfold Hid avOf; rw [ha, hp]; rfl
  simp only [varV]
  obtain ⟨W1, hW1⟩ : ∃ W1, W1 = (w.alloc (.cells #[.string name, .int .i64 t, .int .i64 i, .int .u64 u, .string text] 40)).alloc (.cells #[.string ⟨#[]⟩, .int .i64 0, .int .i64 0, .int .u64 0, .string ⟨#[]⟩] 40) := ⟨_, rfl⟩
  have hb1 : Below w.heap.size w W1 := by rw [hW1]; exact ((Below.refl _ _).alloc (Nat.le_refl _) _).alloc (by simp) _
  have h1 : W1.heap[w.heap.size]? = some (.cells #[.string name, .int .i64 t, .int .i64 i, .int .u64 u, .string text] 40 (0, 0)) := by rw [hW1, Below.heap_alloc _ _ _ (by simp)]; exact heap_alloc_new w _
  have hz1 : W1.heap[w.heap.size + 1]? = some (.cells #[.string ⟨#[]⟩, .int .i64 0, .int .i64 0, .int .u64 0, .string ⟨#[]⟩] 40 (0, 0)) := by
    rw [hW1]
    have hh := heap_alloc_new (w.alloc (.cells #[.string name, .int .i64 t, .int .i64 i, .int .u64 u, .string text] 40)) (.cells #[.string ⟨#[]⟩, .int .i64 0, .int .i64 0, .int .u64 0, .string ⟨#[]⟩] 40)
    rwa [show (w.alloc (.cells #[.string name, .int .i64 t, .int .i64 i, .int .u64 u, .string text] 40)).heap.size = w.heap.size + 1 by simp] at hh
  have HI := Lib.hid (specArcs name W1 hs)
  have HC : Hid (∀ W, Calls Tryz.prog 36 #[varV name t i u text] W (RetC W (payOf t i u text))) := fun W => specContent W name t i u text hi hu ht
  unfold varV at HC
  have HB1 := Lib.hid hb1
  have HW1 := Lib.hid hW1
  have H1 := Lib.hid h1
  have HZ1 := Lib.hid hz1
  have hsz1 := hs
  have htz1 := ht
  clear hb1 hW1 h1 hz1 hs ht hi hu
  have HA := Lib.hid ha
  have HP := Lib.hid hp
  clear ha hp
  go_enter Tryz.func15, Tryz.ntmps15
  go_wp2_with (go_at_call 22; rw [← HW1.out]; refine (HI.out).mono ?_; rintro e W2 ⟨v2, b2, rfl, hbb, hyes, hb2⟩; rw [HA.out] at hbb; obtain rfl : b2 = true := hbb; refine Hid.out ?_)
  refine Lib.hid ?_
  have HB2 : Hid (Below w.heap.size w W2) := HB1.out.trans (hb2.mono HB1.out.size)
  have H2 := Lib.hid ((hb2.block _ (Lib.lt_of_heap H1.out)).trans H1.out)
  have HZ2 := Lib.hid ((hb2.block _ (Lib.lt_of_heap HZ1.out)).trans HZ1.out)
  obtain ⟨c0, c1, c2, c3, c4⟩ := fiveC H2.out
  have HC2 := Lib.hid (HC.out W2)
  have HY2 := Lib.hid hyes
  clear hb2 hyes HI HC
  go_wp2_with (go_at_call 36; refine (HC2.out).mono ?_; rintro e W3 ⟨v3, b3, rfl, hbb, hyes, hb3⟩; rw [HP.out] at hbb; obtain rfl : b3 = false := hbb; refine Hid.out ?_)
  refine Lib.hid ?_
  have HB3 : Hid (Below w.heap.size w W3) := HB2.out.trans (hb3.mono HB2.out.size)
  have HB23 := Lib.hid hb3
  have H3 := Lib.hid ((hb3.block _ (Lib.lt_of_heap H2.out)).trans H2.out)
  have HZ3 := Lib.hid ((hb3.block _ (Lib.lt_of_heap HZ2.out)).trans HZ2.out)
  have HY3 := Lib.hid hyes
  clear hb3 hyes c0 c1 c2 c3 c4
  obtain ⟨c0, c1, c2, c3, c4⟩ := fiveC H3.out
  have sf : ∀ i, W3.frozen? ⟨w.heap.size + 1, i, none⟩ = false := fun i => Lib.frozen_of_heap HZ3.out i
  obtain ⟨s0, s1, s2, s3, s4⟩ := fiveC HZ3.out
  have HS := Lib.hid (setCells_at (g := w.heap.size + 1) (T := 40) [(.string ⟨#[]⟩), (.int .i64 0), (.int .i64 0), (.int .u64 0), (.string ⟨#[]⟩)] 0 W3 _ HZ3.out (by simp))
  clear HY2 HY3
  go_wp2
  change bodyPost _ _ _ _ _ (W3.setCells (w.heap.size + 1) 0 [(.string ⟨#[]⟩), (.int .i64 0), (.int .i64 0), (.int .u64 0), (.string ⟨#[]⟩)])
  obtain ⟨z1, z2⟩ := HS.out
  generalize W3.setCells (w.heap.size + 1) 0 [(.string ⟨#[]⟩), (.int .i64 0), (.int .i64 0), (.int .u64 0), (.string ⟨#[]⟩)] = WF at z1 z2 ⊢
  obtain ⟨k0, k1, k2, k3, k4⟩ := fiveC (W := WF) (a := .string ⟨#[]⟩) (b := .int .i64 0) (c := .int .i64 0) (d := .int .u64 0) (e := .string ⟨#[]⟩) (by simpa using z1)
  try simp only [Exit.inBlock, Exit.then]
  refine bodyPost_ret (v := .tuple #[.slice none 0 0, .slice none 0 0, .agg #[.string ⟨#[]⟩, .int .i64 0, .int .i64 0, .int .u64 0, .string ⟨#[]⟩], .bool false]) (by simp [results, Tryz.results15, go_sem, k0, k1, k2, k3, k4]) rfl ?_
  exact retV_no HAV.out (HB3.out.trans (z2.below HB3.out.size (by simp)))
set_option maxHeartbeats 16000000 in
set_option maxRecDepth 100000 in
theorem value_f3 (w : World) (name : ByteArray) (t i : Int) (u : Nat) (text : ByteArray) (wd : Nat) (hi : -9223372036854775808 ≤ i ∧ i ≤ 9223372036854775807) (hu : u < 18446744073709551616) (hs : name.size ≤ 2147483647) (ht : text.size ≤ 2147483647) (arcs : List Nat) (p : Pay) (ha : arcsOf (bytesOf name) = some arcs) (hp : payOf t i u text = some p) (h5 : 500 < text.size) :
    Calls Tryz.prog 15 #[varV name t i u text, .int .i64 wd] w (RetVal w (avOf name t i u text) wd) := by
  have HAV : Hid (avOf name t i u text = none) := by unfold Hid avOf; rw [ha, hp]; simp; omega
  simp only [varV]
  obtain ⟨W1, hW1⟩ : ∃ W1, W1 = (w.alloc (.cells #[.string name, .int .i64 t, .int .i64 i, .int .u64 u, .string text] 40)).alloc (.cells #[.string ⟨#[]⟩, .int .i64 0, .int .i64 0, .int .u64 0, .string ⟨#[]⟩] 40) := ⟨_, rfl⟩
  have hb1 : Below w.heap.size w W1 := by rw [hW1]; exact ((Below.refl _ _).alloc (Nat.le_refl _) _).alloc (by simp) _
  have h1 : W1.heap[w.heap.size]? = some (.cells #[.string name, .int .i64 t, .int .i64 i, .int .u64 u, .string text] 40 (0, 0)) := by rw [hW1, Below.heap_alloc _ _ _ (by simp)]; exact heap_alloc_new w _
  have hz1 : W1.heap[w.heap.size + 1]? = some (.cells #[.string ⟨#[]⟩, .int .i64 0, .int .i64 0, .int .u64 0, .string ⟨#[]⟩] 40 (0, 0)) := by
    rw [hW1]
    have hh := heap_alloc_new (w.alloc (.cells #[.string name, .int .i64 t, .int .i64 i, .int .u64 u, .string text] 40)) (.cells #[.string ⟨#[]⟩, .int .i64 0, .int .i64 0, .int .u64 0, .string ⟨#[]⟩] 40)
    rwa [show (w.alloc (.cells #[.string name, .int .i64 t, .int .i64 i, .int .u64 u, .string text] 40)).heap.size = w.heap.size + 1 by simp] at hh
  have HI := Lib.hid (specArcs name W1 hs)
  have HC : Hid (∀ W, Calls Tryz.prog 36 #[varV name t i u text] W (RetC W (payOf t i u text))) := fun W => specContent W name t i u text hi hu ht
  unfold varV at HC
  have HB1 := Lib.hid hb1
  have HW1 := Lib.hid hW1
  have H1 := Lib.hid h1
  have HZ1 := Lib.hid hz1
  have hsz1 := hs
  have htz1 := ht
  clear hb1 hW1 h1 hz1 hs ht hi hu
  have HA := Lib.hid ha
  have HP := Lib.hid hp
  clear ha hp
  go_enter Tryz.func15, Tryz.ntmps15
  go_wp2_with (go_at_call 22; rw [← HW1.out]; refine (HI.out).mono ?_; rintro e W2 ⟨v2, b2, rfl, hbb, hyes, hb2⟩; rw [HA.out] at hbb; obtain rfl : b2 = true := hbb; refine Hid.out ?_)
  refine Lib.hid ?_
  have HB2 : Hid (Below w.heap.size w W2) := HB1.out.trans (hb2.mono HB1.out.size)
  have H2 := Lib.hid ((hb2.block _ (Lib.lt_of_heap H1.out)).trans H1.out)
  have HZ2 := Lib.hid ((hb2.block _ (Lib.lt_of_heap HZ1.out)).trans HZ1.out)
  obtain ⟨c0, c1, c2, c3, c4⟩ := fiveC H2.out
  have HC2 := Lib.hid (HC.out W2)
  have HY2 := Lib.hid hyes
  clear hb2 hyes HI HC
  go_wp2_with (go_at_call 36; refine (HC2.out).mono ?_; rintro e W3 ⟨v3, b3, rfl, hbb, hyes, hb3⟩; rw [HP.out] at hbb; obtain rfl : b3 = true := hbb; refine Hid.out ?_)
  refine Lib.hid ?_
  have HB3 : Hid (Below w.heap.size w W3) := HB2.out.trans (hb3.mono HB2.out.size)
  have HB23 := Lib.hid hb3
  have H3 := Lib.hid ((hb3.block _ (Lib.lt_of_heap H2.out)).trans H2.out)
  have HZ3 := Lib.hid ((hb3.block _ (Lib.lt_of_heap HZ2.out)).trans HZ2.out)
  have HY3 := Lib.hid hyes
  clear hb3 hyes c0 c1 c2 c3 c4
  obtain ⟨c0, c1, c2, c3, c4⟩ := fiveC H3.out
  have sf : ∀ i, W3.frozen? ⟨w.heap.size + 1, i, none⟩ = false := fun i => Lib.frozen_of_heap HZ3.out i
  obtain ⟨s0, s1, s2, s3, s4⟩ := fiveC HZ3.out
  have HS := Lib.hid (setCells_at (g := w.heap.size + 1) (T := 40) [(.string ⟨#[]⟩), (.int .i64 0), (.int .i64 0), (.int .u64 0), (.string ⟨#[]⟩)] 0 W3 _ HZ3.out (by simp))
  clear HY2 HY3
  go_wp2
  change bodyPost _ _ _ _ _ (W3.setCells (w.heap.size + 1) 0 [(.string ⟨#[]⟩), (.int .i64 0), (.int .i64 0), (.int .u64 0), (.string ⟨#[]⟩)])
  obtain ⟨z1, z2⟩ := HS.out
  generalize W3.setCells (w.heap.size + 1) 0 [(.string ⟨#[]⟩), (.int .i64 0), (.int .i64 0), (.int .u64 0), (.string ⟨#[]⟩)] = WF at z1 z2 ⊢
  obtain ⟨k0, k1, k2, k3, k4⟩ := fiveC (W := WF) (a := .string ⟨#[]⟩) (b := .int .i64 0) (c := .int .i64 0) (d := .int .u64 0) (e := .string ⟨#[]⟩) (by simpa using z1)
  try simp only [Exit.inBlock, Exit.then]
  refine bodyPost_ret (v := .tuple #[.slice none 0 0, .slice none 0 0, .agg #[.string ⟨#[]⟩, .int .i64 0, .int .i64 0, .int .u64 0, .string ⟨#[]⟩], .bool false]) (by simp [results, Tryz.results15, go_sem, k0, k1, k2, k3, k4]) rfl ?_
  exact retV_no HAV.out (HB3.out.trans (z2.below HB3.out.size (by simp)))
set_option maxHeartbeats 16000000 in
set_option maxRecDepth 100000 in
theorem value_f4 (w : World) (name : ByteArray) (t i : Int) (u : Nat) (text : ByteArray) (wd : Nat) (hi : -9223372036854775808 ≤ i ∧ i ≤ 9223372036854775807) (hu : u < 18446744073709551616) (hs : name.size ≤ 2147483647) (ht : text.size ≤ 2147483647) (arcs : List Nat) (p : Pay) (ha : arcsOf (bytesOf name) = some arcs) (hp : payOf t i u text = some p) (h5 : text.size ≤ 500) (h10 : 1000 < name.size) :
    Calls Tryz.prog 15 #[varV name t i u text, .int .i64 wd] w (RetVal w (avOf name t i u text) wd) := by
  have HAV : Hid (avOf name t i u text = none) := by unfold Hid avOf; rw [ha, hp]; simp; omega
  simp only [varV]
  obtain ⟨W1, hW1⟩ : ∃ W1, W1 = (w.alloc (.cells #[.string name, .int .i64 t, .int .i64 i, .int .u64 u, .string text] 40)).alloc (.cells #[.string ⟨#[]⟩, .int .i64 0, .int .i64 0, .int .u64 0, .string ⟨#[]⟩] 40) := ⟨_, rfl⟩
  have hb1 : Below w.heap.size w W1 := by rw [hW1]; exact ((Below.refl _ _).alloc (Nat.le_refl _) _).alloc (by simp) _
  have h1 : W1.heap[w.heap.size]? = some (.cells #[.string name, .int .i64 t, .int .i64 i, .int .u64 u, .string text] 40 (0, 0)) := by rw [hW1, Below.heap_alloc _ _ _ (by simp)]; exact heap_alloc_new w _
  have hz1 : W1.heap[w.heap.size + 1]? = some (.cells #[.string ⟨#[]⟩, .int .i64 0, .int .i64 0, .int .u64 0, .string ⟨#[]⟩] 40 (0, 0)) := by
    rw [hW1]
    have hh := heap_alloc_new (w.alloc (.cells #[.string name, .int .i64 t, .int .i64 i, .int .u64 u, .string text] 40)) (.cells #[.string ⟨#[]⟩, .int .i64 0, .int .i64 0, .int .u64 0, .string ⟨#[]⟩] 40)
    rwa [show (w.alloc (.cells #[.string name, .int .i64 t, .int .i64 i, .int .u64 u, .string text] 40)).heap.size = w.heap.size + 1 by simp] at hh
  have HI := Lib.hid (specArcs name W1 hs)
  have HC : Hid (∀ W, Calls Tryz.prog 36 #[varV name t i u text] W (RetC W (payOf t i u text))) := fun W => specContent W name t i u text hi hu ht
  unfold varV at HC
  have HB1 := Lib.hid hb1
  have HW1 := Lib.hid hW1
  have H1 := Lib.hid h1
  have HZ1 := Lib.hid hz1
  have hsz1 := hs
  have htz1 := ht
  clear hb1 hW1 h1 hz1 hs ht hi hu
  have HA := Lib.hid ha
  have HP := Lib.hid hp
  clear ha hp
  go_enter Tryz.func15, Tryz.ntmps15
  go_wp2_with (go_at_call 22; rw [← HW1.out]; refine (HI.out).mono ?_; rintro e W2 ⟨v2, b2, rfl, hbb, hyes, hb2⟩; rw [HA.out] at hbb; obtain rfl : b2 = true := hbb; refine Hid.out ?_)
  refine Lib.hid ?_
  have HB2 : Hid (Below w.heap.size w W2) := HB1.out.trans (hb2.mono HB1.out.size)
  have H2 := Lib.hid ((hb2.block _ (Lib.lt_of_heap H1.out)).trans H1.out)
  have HZ2 := Lib.hid ((hb2.block _ (Lib.lt_of_heap HZ1.out)).trans HZ1.out)
  obtain ⟨c0, c1, c2, c3, c4⟩ := fiveC H2.out
  have HC2 := Lib.hid (HC.out W2)
  have HY2 := Lib.hid hyes
  clear hb2 hyes HI HC
  go_wp2_with (go_at_call 36; refine (HC2.out).mono ?_; rintro e W3 ⟨v3, b3, rfl, hbb, hyes, hb3⟩; rw [HP.out] at hbb; obtain rfl : b3 = true := hbb; refine Hid.out ?_)
  refine Lib.hid ?_
  have HB3 : Hid (Below w.heap.size w W3) := HB2.out.trans (hb3.mono HB2.out.size)
  have HB23 := Lib.hid hb3
  have H3 := Lib.hid ((hb3.block _ (Lib.lt_of_heap H2.out)).trans H2.out)
  have HZ3 := Lib.hid ((hb3.block _ (Lib.lt_of_heap HZ2.out)).trans HZ2.out)
  have HY3 := Lib.hid hyes
  clear hb3 hyes c0 c1 c2 c3 c4
  obtain ⟨c0, c1, c2, c3, c4⟩ := fiveC H3.out
  have sf : ∀ i, W3.frozen? ⟨w.heap.size + 1, i, none⟩ = false := fun i => Lib.frozen_of_heap HZ3.out i
  obtain ⟨s0, s1, s2, s3, s4⟩ := fiveC HZ3.out
  have HS := Lib.hid (setCells_at (g := w.heap.size + 1) (T := 40) [(.string ⟨#[]⟩), (.int .i64 0), (.int .i64 0), (.int .u64 0), (.string ⟨#[]⟩)] 0 W3 _ HZ3.out (by simp))
  clear HY2 HY3
  go_wp2
  change bodyPost _ _ _ _ _ (W3.setCells (w.heap.size + 1) 0 [(.string ⟨#[]⟩), (.int .i64 0), (.int .i64 0), (.int .u64 0), (.string ⟨#[]⟩)])
  obtain ⟨z1, z2⟩ := HS.out
  generalize W3.setCells (w.heap.size + 1) 0 [(.string ⟨#[]⟩), (.int .i64 0), (.int .i64 0), (.int .u64 0), (.string ⟨#[]⟩)] = WF at z1 z2 ⊢
  obtain ⟨k0, k1, k2, k3, k4⟩ := fiveC (W := WF) (a := .string ⟨#[]⟩) (b := .int .i64 0) (c := .int .i64 0) (d := .int .u64 0) (e := .string ⟨#[]⟩) (by simpa using z1)
  try simp only [Exit.inBlock, Exit.then]
  refine bodyPost_ret (v := .tuple #[.slice none 0 0, .slice none 0 0, .agg #[.string ⟨#[]⟩, .int .i64 0, .int .i64 0, .int .u64 0, .string ⟨#[]⟩], .bool false]) (by simp [results, Tryz.results15, go_sem, k0, k1, k2, k3, k4]) rfl ?_
  exact retV_no HAV.out (HB3.out.trans (z2.below HB3.out.size (by simp)))
theorem payOf_tag {t i u : Int} {text : ByteArray} {p : Pay} (h : payOf t i u text = some p) : ∃ tag : Nat, t = (tag : Int) ∧ tag < 256 := by
  unfold payOf at h
  by_cases h2 : t = 2
  · exact ⟨2, h2, by omega⟩
  rw [if_neg h2] at h
  by_cases h4 : t = 4
  · exact ⟨4, h4, by omega⟩
  rw [if_neg h4] at h
  by_cases h5 : t = 5 ∨ t = 128 ∨ t = 129 ∨ t = 130
  · exact ⟨t.toNat, by omega, by omega⟩
  rw [if_neg h5] at h
  by_cases h6 : t = 6
  · exact ⟨6, h6, by omega⟩
  rw [if_neg h6] at h
  by_cases h64 : t = 64
  · exact ⟨64, h64, by omega⟩
  rw [if_neg h64] at h
  by_cases h65 : t = 65 ∨ t = 66 ∨ t = 67
  · exact ⟨t.toNat, by omega, by omega⟩
  rw [if_neg h65] at h
  by_cases h70 : t = 70
  · exact ⟨70, h70, by omega⟩
  rw [if_neg h70] at h; cases h
theorem payOf_typ {t i u : Int} {text : ByteArray} {p : Pay} (h : payOf t i u text = some p) : t = p.typ := by
  unfold payOf at h
  split at h
  · split at h
    · obtain rfl := Option.some.inj h; assumption
    · cases h
  split at h
  · split at h
    · obtain rfl := Option.some.inj h; assumption
    · cases h
  split at h
  · obtain rfl := Option.some.inj h
    simp only [Pay.typ]; omega
  split at h
  · cases ha : arcsOf (bytesOf text) with
    | none => rw [ha] at h; cases h
    | some arcs => rw [ha] at h; obtain rfl := Option.some.inj h; assumption
  split at h
  · cases ha : ipOf (bytesOf text) with
    | none => rw [ha] at h; cases h
    | some l => rw [ha] at h; obtain rfl := Option.some.inj h; assumption
  split at h
  · split at h
    · obtain rfl := Option.some.inj h
      simp only [Pay.typ]; omega
    · cases h
  split at h
  · obtain rfl := Option.some.inj h; assumption
  · cases h
/-- It is one that the package takes. -/
theorem payOf_ok {t i : Int} {u : Nat} {text : ByteArray} {p : Pay} (hu : u < 18446744073709551616) (hs : text.size ≤ 2147483647) (h : payOf t i u text = some p) : p.Ok := by
  unfold payOf at h
  split at h
  · split at h
    · obtain rfl := Option.some.inj h
      simp only [Pay.Ok]; omega
    · cases h
  split at h
  · split at h
    · obtain rfl := Option.some.inj h
      simpa [Pay.Ok]
    · cases h
  split at h
  · obtain rfl := Option.some.inj h
    simp only [Pay.Ok]; omega
  split at h
  · cases ha : arcsOf (bytesOf text) with
    | none => rw [ha] at h; cases h
    | some arcs =>
      rw [ha] at h
      obtain rfl := Option.some.inj h
      exact ⟨arcsOf_good ha, arcsOf_text ha, hs⟩
  split at h
  · cases ha : ipOf (bytesOf text) with
    | none => rw [ha] at h; cases h
    | some l =>
      rw [ha] at h
      obtain rfl := Option.some.inj h
      obtain ⟨a, b, c, d, rfl, -⟩ := ipOf_text ha
      exact ⟨ha, hs⟩
  split at h
  · split at h
    · obtain rfl := Option.some.inj h
      simp only [Pay.Ok]; omega
    · cases h
  split at h
  · obtain rfl := Option.some.inj h
    simp only [Pay.Ok]; omega
  · cases h
end Go.Proofs.YtpfmcdhmboclhaaGreatDoor
