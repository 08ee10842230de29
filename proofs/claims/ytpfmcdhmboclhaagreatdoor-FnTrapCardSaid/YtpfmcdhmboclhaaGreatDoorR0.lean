/- A row of variables of one's own holds no bytes, behind 'append' too: so a row of bytes that is read stays as it is. -/
import Derived.Test.YtpfmcdhmboclhaaGreatDoorG19
set_option linter.unusedVariables false
set_option linter.unusedSimpArgs false
namespace Go.Proofs.YtpfmcdhmboclhaaGreatDoor
open Go.RowKit

/-- No byte. -/
def NoU (u : Value) : Prop := ∀ x : Int, u ≠ .int .u8 x
/-- The row's own block holds no byte. -/
def NoB (w : World) (v : Value) : Prop := ∀ k, v.ownBlock = some k → ∀ (j : Nat) (u : Value), w.cell? ⟨k, j, none⟩ = some u → NoU u
theorem NoB.nil (w : World) : NoB w (.slice none 0 0) := fun k h => by simp [Value.ownBlock] at h
theorem NoB.kept {w W : World} {v : Value} (h : NoB w v) (hk : ∀ k, v.ownBlock = some k → W.heap[k]? = w.heap[k]?) : NoB W v := fun k e j u hc => h k e j u (by rw [← hc]; exact (World.cell?_of_block (a := ⟨k, j, none⟩) (hk k e)).symm)
theorem NoB.below {w W : World} {v : Value} {B n : Nat} {cs : List Value} (h : NoB w v) (ho : OwnC 40 5 w B v n cs) (hb : Below w.heap.size w W) : NoB W v := h.kept fun k e => hb.block k (ho.lt e).2
theorem Rd.grown {w W : World} {s v : Value} {l : List Int} (h : Rd w s l) (hg : w.grownBy W v.ownBlock) (hn : NoB w v) : Rd W s l := by
  obtain ⟨A, c, rfl, h1, h2, hcell⟩ := h
  refine ⟨A, c, rfl, h1, h2, fun h0 => ?_⟩
  obtain ⟨b, o, rfl, hc⟩ := hcell h0
  refine ⟨b, o, rfl, fun j hj => ?_⟩
  have hx := hc j hj
  have hne : some b ≠ v.ownBlock := fun e => hn b e.symm _ _ hx _ rfl
  have hlt : b < w.heap.size := by
    rcases Nat.lt_or_ge b w.heap.size with h | h
    · exact h
    · simp [World.cell?, Array.getElem?_eq_none h] at hx
  rw [World.cell?_of_block (a := ⟨b, o + j, none⟩) (hg.block b hlt hne)]
  exact hx
theorem info40 : ∃ (i : TypeInfo), Tryz.prog.info? 40 = some i ∧ i.zero = some (.agg #[.string ⟨#[]⟩, .int .i64 0, .int .i64 0, .int .u64 0, .string ⟨#[]⟩]) ∧ i.size = 5 ∧ i.bytes = 56 := by
  have h : (Tryz.prog.info? 40).map (fun i => (i.zero, i.size, i.bytes)) = some (some (.agg #[.string ⟨#[]⟩, .int .i64 0, .int .i64 0, .int .u64 0, .string ⟨#[]⟩]), 5, 56) := by kernel_rfl
  cases hi : Tryz.prog.info? 40 with
  | none => rw [hi] at h; cases h
  | some i =>
    rw [hi] at h
    simp only [Option.map_some, Option.some.injEq, Prod.mk.injEq] at h
    exact ⟨i, rfl, h.1, h.2.1, h.2.2⟩
theorem zero40_no (m j : Nat) (u : Value) (h : (Builtin.zeroCells (Value.cells (.agg #[.string ⟨#[]⟩, .int .i64 0, .int .i64 0, .int .u64 0, .string ⟨#[]⟩])) m)[j]? = some u) : NoU u := by
  have hz : Value.cells (.agg #[.string ⟨#[]⟩, .int .i64 0, .int .i64 0, .int .u64 0, .string ⟨#[]⟩]) = #[.string ⟨#[]⟩, .int .i64 0, .int .i64 0, .int .u64 0, .string ⟨#[]⟩] := by kernel_rfl
  rw [hz] at h
  unfold Builtin.zeroCells at h
  rw [Array.getElem?_map] at h
  obtain ⟨q, -, hq⟩ := Option.map_eq_some_iff.1 h
  have hm : q % 5 < 5 := Nat.mod_lt _ (by omega)
  have hs : (#[.string ⟨#[]⟩, .int .i64 0, .int .i64 0, .int .u64 0, .string ⟨#[]⟩] : Array Value).size = 5 := rfl
  rw [hs] at hq
  intro x
  generalize q % 5 = r at hm hq
  match r, hm with
  | 0, _ => subst hq; simp
  | 1, _ => subst hq; simp
  | 2, _ => subst hq; simp
  | 3, _ => subst hq; simp
  | 4, _ => subst hq; simp
theorem append40_no (w : World) (base : Nat) (ty : TypeId) (v : Value) (n : Nat) (cs news : List Value) (g c : Nat) (hO : OwnC 40 5 w base v n cs) (hn : NoB w v) (hcs : ∀ u ∈ cs, NoU u) (hnl : news.length = 5) (hnews : ∀ u ∈ news, NoU u)
    (hR : ∀ (j : Nat) u, news[j]? = some u → w.cell? ⟨g, j, none⟩ = some u) (h1 : ∀ u ∈ news, u.oneCell' = true) (hl : n ≤ 1000000) (v' : Value) (w' : World)
    (hr : (Builtin.append_ #[23, 23] ty #[v, .slice (some ⟨g, 0, none⟩) 1 c]).run Tryz.prog w = .ok v' w') : NoB w' v' := by
  obtain ⟨i, hi, hz, hsz, hby⟩ := info40
  have hu : Tryz.prog.underlying 23 = some (.slice 40) := elem23.under
  have hcells : ∀ j u, news[j]? = some u → w.cell? ((⟨g, 0, none⟩ : Addr).add j) = some u := by
    intro j u hu
    rw [addr_add, Nat.zero_add]
    exact hR j u hu
  have fresh : ∀ (W : World) (olds : List Value) (m : Nat), (∀ u ∈ olds, NoU u) → ∀ k, some W.heap.size = some k → ∀ (j : Nat) (u : Value), (W.drew.alloc (.cells (olds.toArray ++ news.toArray ++ Builtin.zeroCells (Value.cells (.agg #[.string ⟨#[]⟩, .int .i64 0, .int .i64 0, .int .u64 0, .string ⟨#[]⟩])) m) 40)).cell? ⟨k, j, none⟩ = some u → NoU u := by
    intro W olds m ho k hk j u hcu
    obtain rfl := Option.some.inj hk
    have hh := heap_alloc_new W.drew (.cells (olds.toArray ++ news.toArray ++ Builtin.zeroCells (Value.cells (.agg #[.string ⟨#[]⟩, .int .i64 0, .int .i64 0, .int .u64 0, .string ⟨#[]⟩])) m) 40)
    rw [show W.heap.size = W.drew.heap.size from rfl, Lib.cell_of_heap hh] at hcu
    rcases Nat.lt_or_ge j (olds.toArray ++ news.toArray).size with hj | hj
    · rw [Array.getElem?_append_left hj] at hcu
      have hm := Array.mem_of_getElem? hcu
      rw [Array.mem_append] at hm
      rcases hm with hm | hm
      · exact ho u (by simpa using hm)
      · exact hnews u (by simpa using hm)
    · rw [Array.getElem?_append_right hj] at hcu
      exact zero40_no _ _ _ hcu
  rcases hO.form with ⟨rfl, rfl, rfl⟩ | ⟨g2, cap, cur, rfl, h2, h3, h4, h5, h6, h7⟩
  · have e := Go.run_append_nil (P := Tryz.prog) w 23 ty 40 i _ hu hi hz ⟨g, 0, none⟩ 1 c news (by rw [hnl, hsz]) hcells (by omega) (by omega) (by rw [hby]; omega)
    rw [e] at hr
    injection hr with e1 e2
    subst e1; subst e2
    have hf := fresh w [] (grownCap w 1 0 40 - 1) (by simp)
    simp only [Array.empty_append] at hf
    intro k hk
    exact hf k hk
  · by_cases hroom : n + 1 ≤ cap
    · have hfit : n * i.size + news.length ≤ cur.size := by rw [hnl, hsz, h6]; omega
      have e := run_append_room (P := Tryz.prog) w 23 ty 40 i hu hi g2 n cap cur h3 ⟨g, 0, none⟩ 1 c news (by rw [hnl, hsz]) hcells h1 hroom hfit
      rw [e] at hr
      injection hr with e1 e2
      subst e1; subst e2
      intro k hk j u hcu
      obtain rfl : g2 = k := by simpa [Value.ownBlock] using hk
      rw [Lib.cell_of_heap (setRow_heap w g2 cur _ 40 _ h3)] at hcu
      have hm := Array.mem_of_getElem? hcu
      have hcur : ∀ u ∈ cur, NoU u := by
        intro u hu
        obtain ⟨q, hq⟩ := Array.mem_iff_getElem?.1 hu
        exact hn g2 rfl q u (by rw [Lib.cell_of_heap h3]; exact hq)
      simp only [List.mem_toArray, List.mem_append] at hm
      rcases hm with (hm | hm) | hm
      · exact hcur u (by have := List.mem_of_mem_take hm; simpa using this)
      · exact hnews u hm
      · exact hcur u (by have := List.mem_of_mem_drop hm; simpa using this)
    · have holds : ∀ j u, cs[j]? = some u → w.cell? ((⟨g2, 0, none⟩ : Addr).add j) = some u := World.ownsRow.cells (g := g2) hO rfl
      have e := run_append_grow (P := Tryz.prog) w 23 ty 40 i _ hu hi hz ⟨g2, 0, none⟩ n cap cs (by rw [hO.len, hsz]) holds ⟨g, 0, none⟩ 1 c news (by rw [hnl, hsz]) hcells (by omega) (by omega) (growslice_fits (by omega) (by rw [hby]; omega))
      rw [e] at hr
      injection hr with e1 e2
      subst e1; subst e2
      exact fresh w cs _ hcs
section
variable {ops : Array Oper} {rest : List Oper} {o : Oper} {a : Act} {Q : Exit → Act → World → Prop}
theorem wpList_appendV (w : World) (hgd : o.guard = none) (s x : Operand) (ho : o.op = .call { callee := .builtin .append, args := #[s, x], argTypes := #[23, 23] })
    (base : Nat) (v : Value) (n : Nat) (cs news : List Value) (g c : Nat) (hs : a.eval s = v) (hx : a.eval x = .slice (some ⟨g, 0, none⟩) 1 c) (hO : OwnC 40 5 w base v n cs) (hn : NoB w v) (hcs : ∀ u ∈ cs, NoU u)
    (hnl : news.length = 5) (hnews : ∀ u ∈ news, NoU u) (hR : ∀ (j : Nat) u, news[j]? = some u → w.cell? ⟨g, j, none⟩ = some u) (h1 : ∀ u ∈ news, u.oneCell' = true) (hbase : base ≤ w.heap.size) (hl : n ≤ 1000000)
    (h : ∀ v' w', OwnC 40 5 w' base v' (n + 1) (cs ++ news) → w.grownBy w' v.ownBlock → NoB w' v' → wpList Tryz.prog ops Q rest (a.put o.dst v') w') :
    wpList Tryz.prog ops Q (o :: rest) a w := by
  obtain ⟨i0, z, hi, hz, hz1, hz2, hz3⟩ := elem23.info
  have hcells : ∀ j u, news[j]? = some u → w.cell? ((⟨g, 0, none⟩ : Addr).add j) = some u := by
    intro j u hu
    rw [addr_add, Nat.zero_add]
    exact hR j u hu
  obtain ⟨v1, w1, hr, h4, h5, _, h6⟩ := run_append_own_at (P := Tryz.prog) w base 23 o.type 40 i0 z 5 56 elem23.under hi hz hz1 hz2 hz3 elem23.pos v n cs hO ⟨g, 0, none⟩ 1 c news (by rw [hnl]) hcells h1
    (by unfold maxLen; omega) (by omega) hbase
  have hno := append40_no w base o.type v n cs news g c hO hn hcs hnl hnews hR h1 hl v1 w1 hr
  refine wpList_plain hgd fun K hK => ?_
  unfold Oper.wp execOp
  simp only [ho, resolve, invoke, builtin, Sem.run_bind, Sem.run_pure, Result.andThen_ok, List.map_toArray, List.map_cons, List.map_nil, hs, hx, hr]
  exact hK _ _ (h v1 w1 h4 h5 hno)
end
theorem toldC_no (l : List AV) : ∀ u ∈ toldC l, NoU u := by
  intro u hu x
  unfold toldC at hu
  obtain ⟨y, -, hy⟩ := List.mem_flatMap.1 hu
  simp only [List.mem_cons, List.not_mem_nil, or_false] at hy
  rcases hy with rfl | rfl | rfl | rfl | rfl <;> simp
end Go.Proofs.YtpfmcdhmboclhaaGreatDoor
