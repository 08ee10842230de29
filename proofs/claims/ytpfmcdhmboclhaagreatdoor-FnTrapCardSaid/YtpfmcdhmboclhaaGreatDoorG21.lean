/- spec: the content of a name. spec: the numbers of a name out of its text. -/
import Derived.Lib.IndexBytes
import Derived.Test.YtpfmcdhmboclhaaGreatDoorG20
set_option linter.unusedVariables false
set_option linter.unusedSimpArgs false
namespace Go.Proofs.YtpfmcdhmboclhaaGreatDoor
open Go.RowKit
set_option maxHeartbeats 4000000 in
set_option maxRecDepth 100000 in
theorem specName (g n c : Nat) (arcs : List Nat) (w : World) (hn : n = arcs.length) (h2 : 2 ≤ n) (h60 : n ≤ 60) (hnc : n ≤ c) (hc : c ≤ maxLen) (hcell : ∀ (j x : Nat), arcs[j]? = some x → w.cell? ⟨g, j, none⟩ = some (.int .u64 x)) (hs : ∀ x ∈ arcs, x < 4294967296) (ha0 : arcs.getD 0 0 ≤ 2) (ha1 : arcs.getD 1 0 < 40) :
    Calls Tryz.prog 32 #[.slice (some ⟨g, 0, none⟩) n c] w (RetO w (nameB arcs)) := by
  obtain ⟨a, b, r, rfl⟩ : ∃ a b r, arcs = a :: b :: r := by
    match arcs, hn with
    | a :: b :: r, _ => exact ⟨a, b, r, rfl⟩
    | [a], h => simp at h; omega
    | [], h => simp at h; omega
  have c0 : w.cell? ⟨g, 0, none⟩ = some (.int .u64 a) := hcell 0 a rfl
  have c1 : w.cell? ⟨g, 1, none⟩ = some (.int .u64 b) := hcell 1 b rfl
  have ha : a ≤ 2 := by simpa using ha0
  have hb40 : b < 40 := by simpa using ha1
  have hn2 : n - 2 = r.length := by simp at hn; omega
  have HC := Lib.hid hcell
  have HS := Lib.hid hs
  have HN2 := Lib.hid hn2
  clear hcell hs ha0 ha1 hn hn2
  unfold maxLen at hc
  have i1 : (1 : Int) < (n : Int) := by omega
  have i0 : (0 : Int) < (n : Int) := by omega
  have ha' : (a : Int) ≤ 2 := by omega
  have HW0 : Hid ((40 * (a : Int) + (b : Int)) = ((40 * a + b : Nat) : Int)) := by unfold Hid; simp
  by_cases hc2 : c = 2
  · have hn22 : n ≤ 2 := by omega
    obtain rfl : r = [] := List.eq_nil_of_length_eq_zero (by have := HN2.out; omega)
    go_enter Tryz.func32, Tryz.ntmps32
    go_wp2
    go_region
    go_wp2
    go_loopw [3, 20] (fun out i wr => i = .int .i64 0 ∧ Own wr w.heap.size out [40 * (a : Int) + b] ∧ Below w.heap.size w wr) (fun _ i _ => 0)
    case atStart => exact ⟨rfl, (Own.lit w w.heap.size [40 * (a : Int) + b] (Nat.le_refl _) (by simp [maxLen])).keptBelow ⟨rfl, rfl, rfl, Nat.le_refl _, fun _ _ => rfl⟩, ((Below.refl _ _).alloc (Nat.le_refl _) _).drew⟩
    case round =>
      obtain ⟨rfl, hO, hb⟩ := hrel
      have HR : Hid (RetO w (nameB [a, b]) (.returned u3) wr) := ⟨u3, rfl, own_text1 hO (by rw [nameB_rest, ← HW0.out]; rfl), hb⟩
      clear hO hb
      go_wp2
      go_ret
      exact HR.out
  · have hc2' : (c == 2) = false := by simpa using hc2
    have hc3 : c - 2 ≠ 0 := by omega
    go_enter Tryz.func32, Tryz.ntmps32
    go_wp2
    go_region
    go_wp2
    go_loopw [3, 20] (fun out i wr => ∃ k : Nat, k ≤ r.length ∧ i = .int .i64 k ∧ Own wr w.heap.size out (nameB ((a :: b :: r).take (k + 2))) ∧ Below w.heap.size w wr) (fun _ i _ => r.length - (intOf i).toNat)
    case atStart => exact ⟨0, Nat.zero_le _, rfl, own_text1 ((Own.lit w w.heap.size [40 * (a : Int) + b] (Nat.le_refl _) (by simp [maxLen])).keptBelow ⟨rfl, rfl, rfl, Nat.le_refl _, fun _ _ => rfl⟩) (by simp [nameB]), ((Below.refl _ _).alloc (Nat.le_refl _) _).drew⟩
    case round =>
      obtain ⟨k, hk, rfl, hO, hb⟩ := hrel
      obtain ⟨wo, rfl⟩ : ∃ wo : World, wo = wr := ⟨_, rfl⟩
      have HO := Lib.hid hO
      have HB := Lib.hid hb
      have hrn : r.length ≤ 58 := by have := HN2.out; omega
      have hrl : n - 2 = r.length := HN2.out
      by_cases hkn : k < n - 2
      · obtain ⟨x, hx⟩ : ∃ x, r[k]? = some x := ⟨_, List.getElem?_eq_getElem (by omega)⟩
        have hxc := cellB1 hb (show w.cell? ⟨g, 2 + k, none⟩ = some (.int .u64 x) by rw [Nat.add_comm]; exact HC.out (k + 2) x (by simpa using hx))
        have hx32 := HS.out x (by have := List.mem_of_getElem? hx; simp [this])
        have hbit := and127u x (by omega)
        obtain ⟨d, hd⟩ : ∃ d, d = x % 128 := ⟨_, rfl⟩
        rw [← hd] at hbit
        have hd128 : d < 128 := by omega
        have HX := Lib.hid hx
        have HD := Lib.hid hd
        clear hO hb hx hd hrl
        go_wp2
        go_loopw [5, 6] (fun i p wr => ∃ (m : Nat) (part : List Int), i = .int .u64 m ∧ m < 4294967296 ∧ b128 x = hi128 (m / 128) ++ part ∧ Own wr wo.heap.size p part ∧ Below wo.heap.size wo wr) (fun i _ _ => (intOf i).natAbs)
        case atStart => exact ⟨x, [(d : Int)], rfl, hx32, by rw [HD.out]; rfl, Own.lit wo wo.heap.size [(d : Int)] (Nat.le_refl _) (by simp [maxLen]), (Below.refl _ _).alloc (Nat.le_refl _) _⟩
        case round =>
          obtain ⟨m, part, rfl, hm, hbe, hO2, hb2⟩ := hrel
          obtain ⟨wp, rfl⟩ : ∃ wp : World, wp = wr := ⟨_, rfl⟩
          have HO2 := Lib.hid hO2
          have HB2 := Lib.hid hb2
          have HL : Hid (part.length ≤ 5) := by
            have := b128_len x hx32
            rw [hbe, List.length_append] at this
            unfold Hid; omega
          by_cases h127 : 127 < m
          · have HS2 : Hid (b128 x = hi128 (m / 128 / 128) ++ (((m / 128 % 128 + 128 : Nat) : Int) :: part)) := by
              unfold Hid
              rw [hbe, hi128_step (m / 128) (by omega)]
              simp
            have hbit2 := and127u (m / 128) (by omega)
            obtain ⟨q, hq⟩ : ∃ q, q = m / 128 % 128 := ⟨_, rfl⟩
            rw [← hq] at hbit2
            have hq128 : q < 128 := by omega
            have hor : bits .or .u8 (q : Int) 128 = (q : Int) + 128 := or128 q (by omega) (by omega)
            have HQ := Lib.hid hq
            have hbit3 : bits .and .u64 ((m : Int) / 128) 127 = (q : Int) := by have := hbit2; simpa using this
            clear hbe hO2 hb2 hbit2 hq hbit hxc
            go_wp2_with (at_builtin; refine wpList_append8 _ rfl _ _ rfl wo.heap.size _ _ [(q : Int) + 128] part rfl rfl (by exact Own.lit _ _ [(q : Int) + 128] HB2.out.size (by simp [maxLen])) (by exact HO2.out.reads.keptBelow ((Below.refl _ _).alloc (Nat.le_refl _) _)) (by have := HB2.out.size; simp; omega) (by have := HL.out; simp; omega) ?_)
            intro v1 w1 hO1 hg1 _
            have HB1 : Hid (Below wo.heap.size wo w1) := own_push HB2.out hg1
            have HO1 : Hid (Own w1 wo.heap.size v1 (((m / 128 % 128 + 128 : Nat) : Int) :: part)) := own_text1 hO1 (by rw [← HQ.out]; simp)
            clear hO1 hg1
            go_wp2
            go_roundw
            case rel => exact ⟨m / 128, _, by go_num, by omega, HS2.out, HO1.out, HB1.out⟩
            case measure => simp [intOf]; omega
          · have HE : Hid (b128 x = part) := by
              unfold Hid
              rw [hbe, Nat.div_eq_of_lt (by omega), hi128_zero]; rfl
            have HOK := Lib.hid (HO.out.keptBelow (hb2.mono (Nat.le_refl _)))
            have HBW := Lib.hid (HB.out.trans (hb2.mono HB.out.size))
            have HLN : Hid ((nameB ((a :: b :: r).take (k + 2))).length ≤ 300) := nameB_len _ (fun y hy => HS.out y (List.mem_of_mem_take hy)) (by rw [List.length_take]; simp; omega)
            clear hbe hO2 hb2 hbit hxc
            go_wp2_with (at_builtin; refine wpList_append8 _ rfl _ _ rfl w.heap.size _ _ (nameB ((a :: b :: r).take (k + 2))) part rfl rfl (by exact HOK.out) (by exact HO2.out.reads) (by exact HBW.out.size) (by have := HL.out; have := HLN.out; omega) ?_)
            intro v1 w1 hO1 hg1 _
            have HB1 : Hid (Below w.heap.size w w1) := HBW.out.grown hg1 HBW.out.size (fun q e => (HOK.out.lt e).1)
            have HO1 : Hid (Own w1 w.heap.size v1 (nameB ((a :: b :: r).take (k + 1 + 2)))) := own_text1 hO1 (by rw [nameB_step _ k x (by simp) (by simpa using HX.out), HE.out]; simp only [List.take_succ_cons])
            clear hO1 hg1
            go_wp2
            go_roundw
            case rel => first | exact ⟨k + 1, by have := HN2.out; omega, by go_num, HO1.out, HB1.out⟩ | ((repeat apply Exists.intro); exact ⟨⟨k + 1, by have := HN2.out; omega, by go_num, HO1.out, HB1.out⟩, rfl⟩)
            case measure => simp [intOf]; have := HN2.out; omega
      · obtain rfl : k = r.length := by omega
        have HR : Hid (RetO w (nameB (a :: b :: r)) (.returned u3) wo) := ⟨u3, rfl, own_text1 hO (by rw [List.take_of_length_le (by simp)]), hb⟩
        clear hO hb hrl
        go_wp2
        go_ret
        exact HR.out
end Go.Proofs.YtpfmcdhmboclhaaGreatDoor
namespace Go.Proofs.YtpfmcdhmboclhaaGreatDoor
open Go.RowKit
section
variable {ops : Array Oper} {rest : List Oper} {o : Oper} {a : Act} {Q : Exit → Act → World → Prop}
/-- One number more, of whatever many. -/
theorem wpList_append64 {t e : TypeId} (E : Elem t e 1 8) (w : World) (hgd : o.guard = none) (s x : Operand) (ho : o.op = .call { callee := .builtin .append, args := #[s, x], argTypes := #[t, t] })
    (base : Nat) (v : Value) (n : Nat) (cs news : List Value) (g c : Nat) (hs : a.eval s = v) (hx : a.eval x = .slice (some ⟨g, 0, none⟩) 1 c) (hO : OwnC e 1 w base v n cs)
    (hnl : news.length = 1) (hR : ∀ (j : Nat) u, news[j]? = some u → w.cell? ⟨g, j, none⟩ = some u) (h1 : ∀ u ∈ news, u.oneCell' = true) (hbase : base ≤ w.heap.size) (hl : n ≤ 4294967296)
    (h : ∀ v' w', OwnC e 1 w' base v' (n + 1) (cs ++ news) → w.grownBy w' v.ownBlock → (v'.ownBlock = v.ownBlock ∨ v'.ownBlock = some w.heap.size) → wpList Tryz.prog ops Q rest (a.put o.dst v') w') :
    wpList Tryz.prog ops Q (o :: rest) a w := by
  obtain ⟨i0, z, hi, hz, hz1, hz2, hz3⟩ := E.info
  have hcells : ∀ j u, news[j]? = some u → w.cell? ((⟨g, 0, none⟩ : Addr).add j) = some u := by
    intro j u hu
    rw [addr_add, Nat.zero_add]
    exact hR j u hu
  obtain ⟨v1, w1, hr, h4, h5, _, h6⟩ := run_append_own_at (P := Tryz.prog) w base t o.type e i0 z 1 8 E.under hi hz hz1 hz2 hz3 E.pos v n cs hO ⟨g, 0, none⟩ 1 c news (by rw [hnl]) hcells h1
    (by unfold maxLen; omega) (by omega) hbase
  refine wpList_plain hgd fun K hK => ?_
  unfold Oper.wp execOp
  simp only [ho, resolve, invoke, builtin, Sem.run_bind, Sem.run_pure, Result.andThen_ok, List.map_toArray, List.map_cons, List.map_nil, hs, hx, hr]
  exact hK _ _ (h v1 w1 h4 h5 h6)
end
theorem elem71 : Elem 71 38 1 8 := by
  refine ⟨by kernel_rfl, ?_, by omega⟩
  have h : (Tryz.prog.info? 38).map (fun i => (i.zero, i.size, i.bytes, (i.zero.getD .nilIface).cells.size)) = some (some (.int .u64 0), 1, 8, 1) := by kernel_rfl
  cases hi : Tryz.prog.info? 38 with
  | none => rw [hi] at h; cases h
  | some i =>
    rw [hi] at h
    simp at h
    obtain ⟨h1, h2, h3, h4⟩ := h
    exact ⟨i, _, rfl, h1, h2, h3, by rw [h1] at h4; simpa using h4⟩
theorem OwnC.len71 {w : World} {base : Nat} {v : Value} {n : Nat} {cs : List Value} (h : OwnC 38 1 w base v n cs) (W : World) : (Builtin.len_ #[71] 3 #[v]).run Tryz.prog W = .ok (.int .i64 (n : Int)) W := by
  obtain ⟨A, c, rfl⟩ := h.shape
  simp [Builtin.len_, run_underlying Tryz.underlying71, goInt]
theorem by64_append (a b : List Nat) : by64 (a ++ b) = by64 a ++ by64 b := by simp [by64]
theorem arcsGo_nil (out : List Nat) (n : Nat) (sm : Bool) : arcsGo [] out n sm = if sm then some (out ++ [n]) else none := by rw [arcsGo]
theorem arcsGo_cons (c : Int) (r : List Int) (out : List Nat) (n : Nat) (sm : Bool) : arcsGo (c :: r) out n sm =
    if c = 46 then (if sm then arcsGo r (out ++ [n]) 0 false else none)
    else if c < 48 ∨ 57 < c ∨ (sm = true ∧ n = 0) then none
    else if 4294967296 ≤ 10 * n + (c - 48).toNat then none
    else arcsGo r out (10 * n + (c - 48).toNat) true := by rw [arcsGo]
/-- The reader's state. -/
def ArcAt (t : ByteArray) (w : World) (out n sm i : Value) (wr : World) : Prop :=
  ∃ (k m : Nat) (b : Bool) (o : List Nat), i = .int .i64 k ∧ n = .int .u64 m ∧ sm = .bool b ∧ k ≤ t.size ∧ m < 4294967296 ∧ arcsGo (bytesOf t) [] 0 false = arcsGo ((bytesOf t).drop k) o m b ∧ OwnC 38 1 wr w.heap.size out o.length (by64 o) ∧ o.length ≤ k ∧ Below w.heap.size w wr
/-- What it returns. -/
def ArcRet (s : ByteArray) (w : World) (e : Ending) (w' : World) : Prop :=
  ∃ v b, e = .returned (.tuple #[v, .bool b]) ∧ b = (arcsOf (bytesOf s)).isSome ∧ (∀ res, arcsOf (bytesOf s) = some res → OwnC 38 1 w' w.heap.size v res.length (by64 res)) ∧ Below w.heap.size w w'
theorem arcsOf_of (s : ByteArray) (t : List Int) (ht : t = bare (bytesOf s)) : arcsOf (bytesOf s) = (arcsGo t [] 0 false).bind fun out => if GoodArcs out then some out else none := by subst ht; rfl
theorem arcRet_no {s : ByteArray} {w w' : World} {v : Value} (h : arcsOf (bytesOf s) = none) (hb : Below w.heap.size w w') : ArcRet s w (.returned (.tuple #[v, .bool false])) w' :=
  ⟨v, false, rfl, by rw [h]; rfl, (fun res e => by rw [h] at e; cases e), hb⟩
theorem arcRet_yes {s : ByteArray} {w w' : World} {v : Value} {res : List Nat} (h : arcsOf (bytesOf s) = some res) (ho : OwnC 38 1 w' w.heap.size v res.length (by64 res)) (hb : Below w.heap.size w w') : ArcRet s w (.returned (.tuple #[v, .bool true])) w' :=
  ⟨v, true, rfl, by rw [h]; rfl, (fun res e => by rw [h] at e; obtain rfl := Option.some.inj e; exact ho), hb⟩
theorem arcs_none {s : ByteArray} {t : List Int} (ht : t = bare (bytesOf s)) (h : arcsGo t [] 0 false = none) : arcsOf (bytesOf s) = none := by rw [arcsOf_of s t ht, h]; rfl
theorem arcs_bad {s : ByteArray} {t : List Int} {o : List Nat} (ht : t = bare (bytesOf s)) (h : arcsGo t [] 0 false = some o) (hg : ¬ GoodArcs o) : arcsOf (bytesOf s) = none := by rw [arcsOf_of s t ht, h]; simp [hg]
theorem arcs_good {s : ByteArray} {t : List Int} {o : List Nat} (ht : t = bare (bytesOf s)) (h : arcsGo t [] 0 false = some o) (hg : GoodArcs o) : arcsOf (bytesOf s) = some o := by rw [arcsOf_of s t ht, h]; simp [hg]
theorem arcsGo_small {t : List Int} {o : List Nat} (h : arcsGo t [] 0 false = some o) : ∀ x ∈ o, x < 4294967296 := by
  obtain ⟨a, r, h1, -, h3⟩ := arcsGo_text t [] 0 false o h (fun _ => rfl) (by omega)
  rw [h1]; simpa using h3
theorem OwnC.cell64 {w : World} {base : Nat} {v : Value} {o : List Nat} (h : OwnC 38 1 w base v o.length (by64 o)) (hn : 0 < o.length) : ∃ g cap, v = .slice (some ⟨g, 0, none⟩) o.length cap ∧ base ≤ g ∧ g < w.heap.size ∧ o.length ≤ cap ∧ cap ≤ maxLen ∧ ∀ (j x : Nat), o[j]? = some x → w.cell? ⟨g, j, none⟩ = some (.int .u64 x) := by
  rcases h.form with ⟨-, h0, -⟩ | ⟨g, cap, cur, rfl, h2, h3, h4, h5, h6, h7⟩
  · omega
  · refine ⟨g, cap, rfl, h2, Lib.lt_of_heap h3, h4, h5, fun j x hx => ?_⟩
    obtain ⟨g', cap', e1, -, e2⟩ := h.cell hn
    injection e1 with e1 _ _
    injection e1 with e1
    injection e1 with e1
    subst e1
    exact e2 j _ (by simp [by64, hx])
theorem own0 (w : World) : OwnC 38 1 (w.alloc (.cells #[] 38)) w.heap.size (.slice (some ⟨w.heap.size, 0, none⟩) 0 0) 0 [] := ⟨rfl, .inr ⟨w.heap.size, 0, #[], rfl, Nat.le_refl _, heap_alloc_new w _, Nat.le_refl _, Nat.zero_le _, rfl, rfl⟩⟩
theorem one64 (w : World) (m : Nat) : ∀ (j : Nat) u, [Value.int .u64 (m : Int)][j]? = some u → (w.alloc (.cells #[.int .u64 m] 38)).cell? ⟨w.heap.size, j, none⟩ = some u := by
  intro j u h
  rw [Lib.cell_of_heap (heap_alloc_new w _)]
  simpa using h
set_option maxHeartbeats 4000000 in
set_option maxRecDepth 100000 in
/-- Behind the point. -/
theorem arcs_bare (s : ByteArray) (w : World) (hsz0 : s.size ≤ 2147483647) (h46 : ∃ r, bytesOf s = 46 :: r) : Calls Tryz.prog 22 #[.string s] w (ArcRet s w) := by
  obtain ⟨r0, hr0⟩ := h46
  obtain ⟨hlt0, hidx0, hd0⟩ := at_char s 0 46 r0 (by simpa using hr0)
  obtain ⟨t, ht⟩ : ∃ t, t = s.extract 1 s.size := ⟨_, rfl⟩
  have HT : Hid (bytesOf t = bare (bytesOf s)) := by
    unfold Hid
    have h1 : bytesOf t = (bytesOf s).drop 1 := by
      unfold bytesOf
      rw [ht, Lib.extract_to_end, List.map_drop]
    rw [h1, hr0]; rfl
  have hts : t.size ≤ 2147483647 := by
    have := congrArg List.length HT.out
    rw [hr0, bytesOf_length] at this
    have h2 := congrArg List.length hr0
    rw [bytesOf_length] at h2
    simp [bare] at this h2
    omega
  have hsz := hts
  have h1s : 1 ≤ s.size := hlt0
  have hidx1 : ∀ W, (Instr.index 9 (.string s) (.int .i64 0)).run Tryz.prog W = .ok (.int .u8 46) W := hidx0
  have HTT := Lib.hid ht
  have hs31 : s.size ≤ 2147483647 := hsz0
  clear hr0 hidx0 hd0 hts ht
  go_enter Tryz.func22, Tryz.ntmps22
  go_wp2
  rw [← HTT.out]
  clear hlt0 h1s hidx1 hs31
  go_loopw [4, 5, 6, 7] (fun out n sm i wr => ArcAt t w out n sm i wr ∨ ∃ o, i = .int .i64 (t.size + 1 : Nat) ∧ OwnC 38 1 wr w.heap.size out o.length (by64 o) ∧ arcsGo (bytesOf t) [] 0 false = some o ∧ o.length ≤ t.size + 1 ∧ Below w.heap.size w wr) (fun _ _ _ i _ => t.size + 2 - (intOf i).toNat)
  case atStart =>
    refine .inl ⟨0, 0, false, [], rfl, rfl, rfl, Nat.zero_le _, by omega, rfl, ?_, by simp, (Below.refl _ _).alloc (Nat.le_refl _) _⟩
    exact own0 w
  case round =>
    rcases hrel with hrel | ⟨o, rfl, hO, hip, hol, hb⟩
    · obtain ⟨k, m, b, o, rfl, rfl, rfl, hk, hm, hip, hO, hol, hb⟩ := hrel
      obtain ⟨wo, rfl⟩ : ∃ wo : World, wo = wr := ⟨_, rfl⟩
      have HO := Lib.hid hO
      have HB := Lib.hid hb
      have HI := Lib.hid hip
      have HM := Lib.hid hm
      have HL := Lib.hid hol
      have HS := Lib.hid hsz
      clear hO hb hip hsz hm hol
      rcases hd : (bytesOf t).drop k with _ | ⟨c, r⟩
      · rw [hd] at HI
        obtain rfl := at_end t k hk hd
        have HI := Lib.hid (HI.out.trans (arcsGo_nil o m b))
        clear hd hk
        cases b with
        | false =>
          have HR := Lib.hid (arcRet_no (v := .slice none 0 0) (arcs_none HT.out (by rw [HI.out]; rfl)) HB.out)
          go_wp2
          go_ret2
          exact HR.out
        | true =>
          have hm32 := HM.out
          go_wp2_with (at_builtin; refine wpList_append64 elem71 _ rfl _ _ rfl w.heap.size _ o.length (by64 o) [.int .u64 m] wo.heap.size 1 rfl rfl (by exact HO.out.alloc _) rfl (by exact one64 wo m) (by simp [Value.oneCell']) (by have := HB.out.size; simp; omega) (by have := HL.out; have := HS.out; omega) ?_)
          intro v1 w1 hO1 hg _
          have HB1 : Hid (Below w.heap.size w w1) := (HB.out.alloc HB.out.size _).grown hg (by have := HB.out.size; simp; omega) (fun k e => (HO.out.lt e).1)
          have HO1 : Hid (OwnC 38 1 w1 w.heap.size v1 (o ++ [m]).length (by64 (o ++ [m]))) := by rw [by64_append, List.length_append]; exact hO1
          have hsz := HS.out
          clear hO1 hg
          go_wp2
          go_roundw
          case rel => exact .inr ⟨o ++ [m], by go_num, HO1.out, by rw [HI.out]; rfl, by have := HL.out; simp; omega, HB1.out⟩
          case measure => simp [intOf]
      · have hcr := drop_range t hd
        obtain ⟨hlt, hidx, hd1⟩ := at_char t k c r hd
        rw [hd] at HI
        have HI := Lib.hid (HI.out.trans (arcsGo_cons c r o m b))
        have HD := Lib.hid hd1
        clear hd hk hd1
        by_cases hc : c = 46
        · subst hc
          clear hcr
          cases b with
          | false =>
            have HR := Lib.hid (arcRet_no (v := .slice none 0 0) (arcs_none HT.out (by rw [HI.out]; rfl)) HB.out)
            go_wp2
            go_ret2
            exact HR.out
          | true =>
            have hm32 := HM.out
            go_wp2_with (at_builtin; refine wpList_append64 elem71 _ rfl _ _ rfl w.heap.size _ o.length (by64 o) [.int .u64 m] wo.heap.size 1 rfl rfl (by exact HO.out.alloc _) rfl (by exact one64 wo m) (by simp [Value.oneCell']) (by have := HB.out.size; simp; omega) (by have := HL.out; have := HS.out; omega) ?_)
            intro v1 w1 hO1 hg _
            have HB1 : Hid (Below w.heap.size w w1) := (HB.out.alloc HB.out.size _).grown hg (by have := HB.out.size; simp; omega) (fun k e => (HO.out.lt e).1)
            have HO1 : Hid (OwnC 38 1 w1 w.heap.size v1 (o ++ [m]).length (by64 (o ++ [m]))) := by rw [by64_append, List.length_append]; exact hO1
            have hsz := HS.out
            clear hO1 hg
            go_wp2
            go_roundw
            case rel =>
              refine .inl ⟨k + 1, 0, false, o ++ [m], by go_num, rfl, rfl, hlt, by omega, ?_, HO1.out, by have := HL.out; simp; omega, HB1.out⟩
              rw [HI.out, HD.out]
              simp
            case measure => simp [intOf]; omega
        · have hne : (c == 46) = false := by simpa using hc
          have HC := Lib.hid hc
          clear hc
          by_cases hbad : c < 48 ∨ 57 < c ∨ (b = true ∧ m = 0)
          · have HR := Lib.hid (arcRet_no (v := .slice none 0 0) (arcs_none HT.out (by rw [HI.out, if_neg HC.out, if_pos hbad])) HB.out)
            by_cases hb1 : c < 48
            · clear hbad
              go_wp2
              go_ret2
              exact HR.out
            by_cases hb2 : 57 < c
            · clear hbad
              go_wp2
              go_ret2
              exact HR.out
            obtain ⟨rfl, rfl⟩ : b = true ∧ m = 0 := by rcases hbad with h | h | h <;> first | omega | exact h
            clear hbad
            go_wp2
            go_ret2
            exact HR.out
          · have h48 : 48 ≤ c := by omega
            have h57 : c ≤ 57 := by omega
            have hbm : b = true → ¬ m = 0 := fun e1 e2 => hbad (.inr (.inr ⟨e1, e2⟩))
            have HJ := Lib.hid (HI.out.trans ((if_neg HC.out).trans (if_neg hbad)))
            obtain ⟨m2, hm2⟩ : ∃ m2 : Nat, m2 = 10 * m + (c - 48).toNat := ⟨_, rfl⟩
            have hmi : (m2 : Int) = 10 * m + (c - 48) := by omega
            have hwr : IntKind.u8.wrap (c - 48) = c - 48 := by rw [IntKind.wrap_u8]; omega
            rw [← hm2] at HJ
            have HM2 := Lib.hid hm2
            have HMI := Lib.hid hmi
            have HBM := Lib.hid hbm
            have hm32 := HM.out
            clear hbad hcr hm2 hmi hbm
            cases b with
            | false =>
              by_cases hbig : 4294967296 ≤ m2
              · have HR := Lib.hid (arcRet_no (v := .slice none 0 0) (arcs_none HT.out (by rw [HJ.out, if_pos hbig])) HB.out)
                have hgt : 4294967296 ≤ (10 * (m : Int) + (c - 48)) := by rw [← HMI.out]; omega
                clear hbig
                go_wp2
                go_ret2
                exact HR.out
              · have HK := Lib.hid (HJ.out.trans (if_neg hbig))
                have hle : (10 * (m : Int) + (c - 48)) < 4294967296 := by rw [← HMI.out]; omega
                have hsz := HS.out
                clear hbig
                go_wp2
                go_roundw
                case rel =>
                  exact .inl ⟨k + 1, m2, true, o, by go_num, by rw [HMI.out], rfl, hlt, by have := HMI.out; omega, by rw [HK.out, HD.out], HO.out, by have := HL.out; omega, HB.out⟩
                case measure => simp [intOf]; omega
            | true =>
              have hz : ((m : Int) == 0) = false := by have := HBM.out rfl; simp; omega
              by_cases hbig : 4294967296 ≤ m2
              · have HR := Lib.hid (arcRet_no (v := .slice none 0 0) (arcs_none HT.out (by rw [HJ.out, if_pos hbig])) HB.out)
                have hgt : 4294967296 ≤ (10 * (m : Int) + (c - 48)) := by rw [← HMI.out]; omega
                clear hbig
                go_wp2
                go_ret2
                exact HR.out
              · have HK := Lib.hid (HJ.out.trans (if_neg hbig))
                have hle : (10 * (m : Int) + (c - 48)) < 4294967296 := by rw [← HMI.out]; omega
                have hsz := HS.out
                clear hbig
                go_wp2
                go_roundw
                case rel =>
                  exact .inl ⟨k + 1, m2, true, o, by go_num, by rw [HMI.out], rfl, hlt, by have := HMI.out; omega, by rw [HK.out, HD.out], HO.out, by have := HL.out; omega, HB.out⟩
                case measure => simp [intOf]; omega
    · have hlen := hO.len71
      have hsmall := arcsGo_small hip
      by_cases h2 : o.length < 2
      · have HR := Lib.hid (arcRet_no (v := u4) (arcs_bad HT.out hip (fun h => by have := h.two; omega)) hb)
        clear hip hO hb hsmall
        go_wp2
        go_ret2
        exact HR.out
      obtain ⟨g, cap, rfl, hg1, hg2, hg3, hg4, hcell⟩ := hO.cell64 (by omega)
      obtain ⟨L, hL⟩ : ∃ L, L = o.length := ⟨_, rfl⟩
      rw [← hL] at h2 hol hg3 hO ⊢
      have HLL := Lib.hid hL
      by_cases h60 : 60 < L
      · have HR := Lib.hid (arcRet_no (v := .slice (some ⟨g, 0, none⟩) L cap) (arcs_bad HT.out hip (fun h => by have := h.sixty; omega)) hb)
        clear hip hO hb hsmall hcell hL hlen
        go_wp2
        go_ret2
        exact HR.out
      have c0 := hcell 0 (o.getD 0 0) (by rw [List.getElem?_eq_getElem (by omega)]; simp [List.getD, List.getElem?_eq_getElem (show 0 < o.length by omega)])
      have c1 := hcell 1 (o.getD 1 0) (by rw [List.getElem?_eq_getElem (by omega)]; simp [List.getD, List.getElem?_eq_getElem (show 1 < o.length by omega)])
      obtain ⟨a0, ha0⟩ : ∃ a0, a0 = o.getD 0 0 := ⟨_, rfl⟩
      obtain ⟨a1, ha1⟩ : ∃ a1, a1 = o.getD 1 0 := ⟨_, rfl⟩
      rw [← ha0] at c0
      rw [← ha1] at c1
      have HA0 := Lib.hid ha0
      have HA1 := Lib.hid ha1
      clear ha0 ha1
      by_cases hf : 2 < a0
      · have HR := Lib.hid (arcRet_no (v := .slice (some ⟨g, 0, none⟩) L cap) (arcs_bad HT.out hip (fun h => by have := h.first; rw [← HA0.out] at this; omega)) hb)
        clear hip hO hb hsmall hcell hL hlen
        go_wp2
        go_ret2
        exact HR.out
      by_cases hf2 : 40 ≤ a1
      · have HR := Lib.hid (arcRet_no (v := .slice (some ⟨g, 0, none⟩) L cap) (arcs_bad HT.out hip (fun h => by have := h.second; rw [← HA1.out] at this; omega)) hb)
        clear hip hO hb hsmall hcell hL hlen
        go_wp2
        go_ret2
        exact HR.out
      obtain ⟨wo, rfl⟩ : ∃ wo : World, wo = wr := ⟨_, rfl⟩
      have HN := Lib.hid (specName g L cap o wo hL (by omega) (by omega) hg3 hg4 hcell hsmall (by rw [← HA0.out]; omega) (by rw [← HA1.out]; omega))
      have HSM := Lib.hid hsmall
      have HIP := Lib.hid hip
      have HO := Lib.hid hO
      have HB := Lib.hid hb
      obtain ⟨M, hM⟩ : ∃ M, M = (nameB o).length := ⟨_, rfl⟩
      have hM3 : M ≤ 300 := by rw [hM]; exact nameB_len o hsmall (by omega)
      have HMM := Lib.hid hM
      clear hip hO hb hsmall hcell hL hM
      by_cases h100 : M ≤ 100
      · go_wp2_with (go_at_call 32; refine (HN.out).mono ?_; rintro e W2 ⟨v2, rfl, hO2, hb2⟩; have hlen2 := hO2.len M HMM.out.symm; refine Hid.out ?_)
        refine Lib.hid ?_
        have HR : Hid (ArcRet s w (.returned (.tuple #[.slice (some ⟨g, 0, none⟩) L cap, .bool true])) W2) := arcRet_yes (arcs_good HT.out HIP.out ⟨by have := HLL.out; omega, by have := HLL.out; omega, by rw [← HA0.out]; omega, by rw [← HA1.out]; omega, HSM.out, by rw [← HMM.out]; exact h100⟩) (by rw [← HLL.out]; exact HO.out.below hb2) (HB.out.trans (hb2.mono HB.out.size))
        have HE : Hid (decide ((M : Int) ≤ 100) = true) := decide_eq_true (by omega)
        clear hO2 hb2
        go_wp2
        go_ret2
        show ArcRet s w (.returned (.tuple #[.slice (some ⟨g, 0, none⟩) L cap, .bool (decide ((M : Int) ≤ 100))])) W2
        rw [HE.out]
        exact HR.out
      · go_wp2_with (go_at_call 32; refine (HN.out).mono ?_; rintro e W2 ⟨v2, rfl, hO2, hb2⟩; have hlen2 := hO2.len M HMM.out.symm; refine Hid.out ?_)
        refine Lib.hid ?_
        have HR : Hid (ArcRet s w (.returned (.tuple #[.slice (some ⟨g, 0, none⟩) L cap, .bool false])) W2) := arcRet_no (arcs_bad HT.out HIP.out (fun h => by have := h.bytes; rw [← HMM.out] at this; omega)) (HB.out.trans (hb2.mono HB.out.size))
        have HE : Hid (decide ((M : Int) ≤ 100) = false) := decide_eq_false (by omega)
        clear hO2 hb2
        go_wp2
        go_ret2
        show ArcRet s w (.returned (.tuple #[.slice (some ⟨g, 0, none⟩) L cap, .bool (decide ((M : Int) ≤ 100))])) W2
        rw [HE.out]
        exact HR.out
end Go.Proofs.YtpfmcdhmboclhaaGreatDoor
