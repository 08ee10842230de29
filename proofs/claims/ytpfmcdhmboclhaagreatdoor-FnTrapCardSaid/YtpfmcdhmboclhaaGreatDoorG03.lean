/- append(v, p...) over bytes: v a row of one's own, p whatever reads. gosnmp: the content of a number without a sign, of 32 bits. gosnmp: an INTEGER whole; written to a buffer. THE PLAIN MATHEMATICS OF NAMES: numbers to the base 128; a name's content. gosnmp: a number to the base 128, appended. -/
import Derived.Test.YtpfmcdhmboclhaaGreatDoorG02
set_option linter.unusedVariables false
set_option linter.unusedSimpArgs false
namespace Go.Proofs.YtpfmcdhmboclhaaGreatDoor
open Go.RowKit

theorem run_append_nil {P : Program} (w : World) (base : Nat) (ty : TypeId) (i0 : TypeInfo) (ht : P.underlying 30 = some (.slice 5)) (hi : P.info? 5 = some i0) (v : Value) (l : List Int) (c : Nat) (hO : Own w base v l) :
    (Builtin.append_ #[30, 30] ty #[v, .slice none 0 c]).run P w = .ok v w := by
  rcases hO.form with ⟨rfl, rfl⟩ | ⟨g, cap, cur, rfl, _, _, hnc, _⟩
  · simp [Builtin.append_, run_underlying ht, sizeOf, typeInfo, hi, Builtin.lenOf, Builtin.firstCells]
  · simp [Builtin.append_, run_underlying ht, sizeOf, typeInfo, hi, Builtin.lenOf, Builtin.firstCells, hnc, storeCells]
theorem run_append8 (w : World) (base : Nat) (ty : TypeId) (v p : Value) (l cs : List Int) (hO : Own w base v l) (hR : Rd w p cs) (hbase : base ≤ w.heap.size) (hl : l.length + cs.length ≤ 1000000000000) :
    ∃ v' w', (Builtin.append_ #[30, 30] ty #[v, p]).run Tryz.prog w = .ok v' w' ∧ Own w' base v' (l ++ cs) ∧ w.grownBy w' v.ownBlock ∧ (v'.ownBlock = v.ownBlock ∨ v'.ownBlock = some w.heap.size) := by
  obtain ⟨i0, hi, hz0, hz1, hz2⟩ := info_parts info5
  obtain ⟨A, c, rfl, h1, h2, h3⟩ := hR
  rcases A with _ | ad
  · have h0 : cs.length = 0 := by
      rcases Nat.eq_zero_or_pos cs.length with h0 | h0
      · exact h0
      · obtain ⟨_, _, h, _⟩ := h3 h0
        cases h
    obtain rfl : cs = [] := List.eq_nil_of_length_eq_zero h0
    exact ⟨v, w, run_append_nil w base ty i0 Tryz.underlying30 hi v l c hO, by simpa using hO, World.grownBy.refl w _, .inl rfl⟩
  · have hcells : ∀ j u, (by8 cs)[j]? = some u → w.cell? (ad.add j) = some u := by
      intro j u hu
      have hj : j < cs.length := by
        rcases Nat.lt_or_ge j cs.length with h | h
        · exact h
        · rw [List.getElem?_eq_none (by rw [by8_length]; exact h)] at hu; cases hu
      obtain ⟨b, o, he, hc⟩ := h3 (Nat.lt_of_le_of_lt (Nat.zero_le _) hj)
      obtain rfl : ad = ⟨b, o, none⟩ := Option.some.inj he
      rw [by8_get _ _ hj] at hu
      obtain rfl := Option.some.inj hu
      rw [addr_add]
      exact hc j hj
    obtain ⟨v1, w1, hr, h4, h5, _, h6⟩ := run_append_own_at (P := Tryz.prog) w base 30 ty 5 i0 (.int .u8 0) 1 1 Tryz.underlying30 hi hz0 hz1 hz2 rfl (by omega) v l.length (by8 l) hO ad cs.length c (by8 cs) (by rw [by8_length, Nat.mul_one]) hcells
      (by8_one cs) (by unfold maxLen; omega) (by omega) hbase
    exact ⟨v1, w1, hr, by rw [Own, List.length_append, by8_append]; exact h4, h5, h6⟩
section
variable {ops : Array Oper} {rest : List Oper} {o : Oper} {a : Act} {Q : Exit → Act → World → Prop}
theorem wpList_append8 (w : World) (hgd : o.guard = none) (s x : Operand) (ho : o.op = .call { callee := .builtin .append, args := #[s, x], argTypes := #[30, 30] })
    (base : Nat) (v p : Value) (l cs : List Int) (hs : a.eval s = v) (hx : a.eval x = p) (hO : Own w base v l) (hR : Rd w p cs) (hbase : base ≤ w.heap.size) (hl : l.length + cs.length ≤ 1000000000000)
    (h : ∀ v' w', Own w' base v' (l ++ cs) → w.grownBy w' v.ownBlock → (v'.ownBlock = v.ownBlock ∨ v'.ownBlock = some w.heap.size) → wpList Tryz.prog ops Q rest (a.put o.dst v') w') :
    wpList Tryz.prog ops Q (o :: rest) a w := by
  obtain ⟨v1, w1, hr, h1, h2, h3⟩ := run_append8 w base o.type v p l cs hO hR hbase hl
  refine wpList_plain hgd fun K hK => ?_
  unfold Oper.wp execOp
  simp only [ho, resolve, invoke, builtin, Sem.run_bind, Sem.run_pure, Result.andThen_ok, List.map_toArray, List.map_cons, List.map_nil, hs, hx, hr]
  exact hK _ _ (h v1 w1 h1 h2 h3)
end
end Go.Proofs.YtpfmcdhmboclhaaGreatDoor
namespace Go.Proofs.YtpfmcdhmboclhaaGreatDoor
open Go.RowKit

theorem high_bit (x : Int) (h0 : 0 ≤ x) (h1 : x < 256) : bits .and .u8 x 128 = x / 128 * 128 := by
  obtain ⟨a, rfl⟩ := Int.eq_ofNat_of_zero_le h0
  have ha : a < 2 ^ 8 := by omega
  rw [show (128 : Int) = ((128 : Nat) : Int) from rfl, (bits_nat .u8 8 (by decide) (fun n h0 h1 => by rw [IntKind.wrap_u8]; omega) a 128 ha (by omega)).1]
  have key : ∀ a : Fin 256, a.val &&& 128 = a.val / 128 * 128 := by decide +kernel
  have := key ⟨a, by omega⟩
  simp only at this
  rw [this]
  simp
theorem high_yes (x : Int) (h0 : 128 ≤ x) (h1 : x < 256) : 0 < bits .and .u8 x 128 := by rw [high_bit x (by omega) h1]; omega
theorem high_no (x : Int) (h0 : 0 ≤ x) (h1 : x < 128) : ¬ 0 < bits .and .u8 x 128 := by rw [high_bit x h0 (by omega)]; omega
/-- A cut of a block of bytes. -/
theorem rd_cut {W : World} {g : Nat} {T : TypeId} {l : List Int} (h : W.heap[g]? = some (.cells (by8 l).toArray T (0, 0))) (z k : Nat) (hk : k = (l.drop z).length) (hm : l.length ≤ 1000) : Rd W (.slice (some ⟨g, z, none⟩) k k) (l.drop z) := by
  subst hk
  refine ⟨_, _, rfl, Nat.le_refl _, by unfold maxLen; rw [List.length_drop]; omega, fun _ => ⟨g, z, rfl, fun j hj => ?_⟩⟩
  rw [Lib.cell_of_heap h, List.getElem?_toArray]
  rw [List.length_drop] at hj
  rw [by8_get _ _ (by omega), List.getElem_drop]
theorem retB_cut {w W : World} {g : Nat} {T : TypeId} {l : List Int} (h : W.heap[g]? = some (.cells (by8 l).toArray T (0, 0))) (hb : Below w.heap.size w W) (hg : w.heap.size ≤ g) (z k : Nat) (hk : k = (l.drop z).length) (hm : l.length ≤ 1000) :
    RetB w (l.drop z) (.returned (.tuple #[.slice (some ⟨g, z, none⟩) k k, .nilIface])) W :=
  ⟨_, rfl, rd_cut h z k hk hm, fun a k' c e => by injection e with e _ _; injection e with e; subst e; exact hg, hb⟩
theorem retB_own {w W : World} {v : Value} {l : List Int} (h : Own W w.heap.size v l) (hb : Below w.heap.size w W) : RetB w l (.returned (.tuple #[v, .nilIface])) W := ⟨_, rfl, h.reads, h.newer, hb⟩
theorem ta_24_22 (v : Value) (w : World) : (Instr.typeAssert (.iface 24 v) 20 22 true).run Tryz.prog w = .ok (.tuple #[.int .u32 0, .bool false]) w := by kernel_rfl
theorem ta_24_24 (v : Value) (w : World) : (Instr.typeAssert (.iface 24 v) 20 24 true).run Tryz.prog w = .ok (.tuple #[v, .bool true]) w := by kernel_rfl
theorem put32s (g n : Nat) (w : World) (l : List Int) (h : n < 4294967296) (hl : [(n : Int) / 16777216, (n : Int) / 65536 % 256, (n : Int) / 256 % 256, (n : Int) % 256] = l) (hb : w.heap[g]? = some (.cells #[.int .u8 0, .int .u8 0, .int .u8 0, .int .u8 0] 5 (0, 0))) :
    Calls Tryz.prog 90 #[.agg #[], .slice (some ⟨g, 0, none⟩) 4 4, .int .u32 n] w fun e w' => e = .returned (.tuple #[]) ∧ Put w g 5 l w' := by
  subst hl
  exact put32 g n 5 _ _ _ _ w h hb
set_option maxHeartbeats 1000000 in
set_option maxRecDepth 100000 in
theorem u32_24_3 (n : Nat) (w : World) (h : 0 ≤ n) (h2 : n < 128) : Calls Tryz.prog 71 #[.iface 24 (.int .u64 n)] w (RetB w [(n : Int)]) := by
  have hmk : ∀ w, (Instr.makeSlice 30 (.int .i64 4) (.int .i64 4)).run Tryz.prog w = .ok (.slice (some ⟨w.heap.size, 0, none⟩) 4 4) (w.alloc (.cells #[.int .u8 0, .int .u8 0, .int .u8 0, .int .u8 0] 5)) := fun _ => by kernel_rfl
  have ta22 := ta_24_22
  have ta24 := ta_24_24
  have h3 : (n : Int) < 128 := by omega
  have h4 : (0 : Int) ≤ n := by omega
  go_enter Tryz.func71, Tryz.ntmps71
  go_wp2_with (go_at_call 90; refine (put32s w.heap.size n _ [0, 0, 0, (n : Int)] ?_ ?_ ?_).mono ?_)
  · omega
  · first | rfl | (simp only [List.cons.injEq, and_true]; omega)
  · exact heap_alloc_new w _
  rintro e W1 ⟨rfl, hp, hk⟩
  have hbel : Below w.heap.size w W1 := ((Below.refl _ w).alloc (Nat.le_refl _) _).trans (hk.below (by simp) (by simp))
  have hc : ∀ k : Nat, k < 3 → W1.cell? ⟨w.heap.size, k, none⟩ = some (.int .u8 0) := fun k hk => by
    rw [Lib.cell_of_heap hp]
    match k, hk with
    | 0, _ | 1, _ | 2, _ => rfl
  have hcz : W1.cell? ⟨w.heap.size, 3, none⟩ = some (.int .u8 ((n : Int))) := by rw [Lib.cell_of_heap hp]; rfl
  have hhi := high_no ((n : Int)) (by omega) (by omega)
  have HP := Lib.hid hp
  have HB := Lib.hid hbel
  clear hp hbel hk h h2 h3 h4
  go_wp2
  go_loop [11] (fun i => ∃ k : Nat, k ≤ 3 ∧ i = .int .i64 k) (fun i => 8 - (intOf i).toNat)
  case atStart => exact ⟨0, by omega, rfl⟩
  case round =>
    obtain ⟨k, hk, rfl⟩ := hrel
    by_cases hlt : k < 3
    · have hck := hc k hlt
      clear hc hcz hhi
      go_wp2
      go_round
      case rel => exact ⟨k + 1, by omega, by go_num⟩
      case measure => simp [intOf]; omega
    · obtain rfl : k = 3 := by omega
      clear hc
      go_wp2
      go_ret2
      exact retB_cut HP.out HB.out (Nat.le_refl _) 3 1 rfl (by simp)
set_option maxHeartbeats 1000000 in
set_option maxRecDepth 100000 in
theorem u32_24_3h (n : Nat) (w : World) (h : 128 ≤ n) (h2 : n < 256) : Calls Tryz.prog 71 #[.iface 24 (.int .u64 n)] w (RetB w [0, (n : Int)]) := by
  have hmk : ∀ w, (Instr.makeSlice 30 (.int .i64 4) (.int .i64 4)).run Tryz.prog w = .ok (.slice (some ⟨w.heap.size, 0, none⟩) 4 4) (w.alloc (.cells #[.int .u8 0, .int .u8 0, .int .u8 0, .int .u8 0] 5)) := fun _ => by kernel_rfl
  have ta22 := ta_24_22
  have ta24 := ta_24_24
  have h3 : (n : Int) < 256 := by omega
  have h4 : (128 : Int) ≤ n := by omega
  go_enter Tryz.func71, Tryz.ntmps71
  go_wp2_with (go_at_call 90; refine (put32s w.heap.size n _ [0, 0, 0, (n : Int)] ?_ ?_ ?_).mono ?_)
  · omega
  · first | rfl | (simp only [List.cons.injEq, and_true]; omega)
  · exact heap_alloc_new w _
  rintro e W1 ⟨rfl, hp, hk⟩
  have hbel : Below w.heap.size w W1 := ((Below.refl _ w).alloc (Nat.le_refl _) _).trans (hk.below (by simp) (by simp))
  have hc : ∀ k : Nat, k < 3 → W1.cell? ⟨w.heap.size, k, none⟩ = some (.int .u8 0) := fun k hk => by
    rw [Lib.cell_of_heap hp]
    match k, hk with
    | 0, _ | 1, _ | 2, _ => rfl
  have hcz : W1.cell? ⟨w.heap.size, 3, none⟩ = some (.int .u8 ((n : Int))) := by rw [Lib.cell_of_heap hp]; rfl
  have hhi := high_yes ((n : Int)) (by omega) (by omega)
  have HP := Lib.hid hp
  have HB := Lib.hid hbel
  clear hp hbel hk h h2 h3 h4
  go_wp2
  go_loop [11] (fun i => ∃ k : Nat, k ≤ 3 ∧ i = .int .i64 k) (fun i => 8 - (intOf i).toNat)
  case atStart => exact ⟨0, by omega, rfl⟩
  case round =>
    obtain ⟨k, hk, rfl⟩ := hrel
    by_cases hlt : k < 3
    · have hck := hc k hlt
      clear hc hcz hhi
      go_wp2
      go_round
      case rel => exact ⟨k + 1, by omega, by go_num⟩
      case measure => simp [intOf]; omega
    · obtain rfl : k = 3 := by omega
      clear hc
      go_wp2_with (at_builtin; refine wpList_append8 _ rfl _ _ rfl w.heap.size _ _ [0] [(n : Int)] rfl rfl ?_ ?_ ?_ ?_ ?_)
      · exact Own.lit W1 w.heap.size [0] HB.out.size (by decide)
      · exact (rd_cut HP.out 3 1 rfl (by simp)).keptBelow ((Below.refl _ _).alloc (Nat.le_refl _) _)
      · have := HB.out.size; first | omega | (simp; omega)
      intro v' w' hO hg _
      have hb2 : Below w.heap.size w w' := (HB.out.alloc HB.out.size _).grown hg (by have := HB.out.size; simp; omega) (by rintro k e; injection e with e; subst e; exact HB.out.size)
      have HR := Lib.hid (retB_own hO hb2)
      clear hO hg hb2
      go_wp2
      go_ret2
      exact HR.out
set_option maxHeartbeats 1000000 in
set_option maxRecDepth 100000 in
theorem u32_24_2 (n : Nat) (w : World) (h : 256 ≤ n) (h2 : n < 32768) : Calls Tryz.prog 71 #[.iface 24 (.int .u64 n)] w (RetB w [(n : Int) / 256, (n : Int) % 256]) := by
  have hmk : ∀ w, (Instr.makeSlice 30 (.int .i64 4) (.int .i64 4)).run Tryz.prog w = .ok (.slice (some ⟨w.heap.size, 0, none⟩) 4 4) (w.alloc (.cells #[.int .u8 0, .int .u8 0, .int .u8 0, .int .u8 0] 5)) := fun _ => by kernel_rfl
  have ta22 := ta_24_22
  have ta24 := ta_24_24
  have h3 : (n : Int) < 32768 := by omega
  have h4 : (256 : Int) ≤ n := by omega
  go_enter Tryz.func71, Tryz.ntmps71
  go_wp2_with (go_at_call 90; refine (put32s w.heap.size n _ [0, 0, (n : Int) / 256, (n : Int) % 256] ?_ ?_ ?_).mono ?_)
  · omega
  · first | rfl | (simp only [List.cons.injEq, and_true]; omega)
  · exact heap_alloc_new w _
  rintro e W1 ⟨rfl, hp, hk⟩
  have hbel : Below w.heap.size w W1 := ((Below.refl _ w).alloc (Nat.le_refl _) _).trans (hk.below (by simp) (by simp))
  have hc : ∀ k : Nat, k < 2 → W1.cell? ⟨w.heap.size, k, none⟩ = some (.int .u8 0) := fun k hk => by
    rw [Lib.cell_of_heap hp]
    match k, hk with
    | 0, _ | 1, _ => rfl
  have hcz : W1.cell? ⟨w.heap.size, 2, none⟩ = some (.int .u8 ((n : Int) / 256)) := by rw [Lib.cell_of_heap hp]; rfl
  have hhi := high_no ((n : Int) / 256) (by omega) (by omega)
  have hnz : (((n : Int) / 256 : Int) != 0) = true := by simp; omega
  have HP := Lib.hid hp
  have HB := Lib.hid hbel
  clear hp hbel hk h h2 h3 h4
  go_wp2
  go_loop [11] (fun i => ∃ k : Nat, k ≤ 2 ∧ i = .int .i64 k) (fun i => 8 - (intOf i).toNat)
  case atStart => exact ⟨0, by omega, rfl⟩
  case round =>
    obtain ⟨k, hk, rfl⟩ := hrel
    by_cases hlt : k < 2
    · have hck := hc k hlt
      clear hc hcz hhi hnz
      go_wp2
      go_round
      case rel => exact ⟨k + 1, by omega, by go_num⟩
      case measure => simp [intOf]; omega
    · obtain rfl : k = 2 := by omega
      clear hc
      go_wp2
      go_ret2
      exact retB_cut HP.out HB.out (Nat.le_refl _) 2 2 rfl (by simp)
set_option maxHeartbeats 1000000 in
set_option maxRecDepth 100000 in
theorem u32_24_2h (n : Nat) (w : World) (h : 32768 ≤ n) (h2 : n < 65536) : Calls Tryz.prog 71 #[.iface 24 (.int .u64 n)] w (RetB w [0, (n : Int) / 256, (n : Int) % 256]) := by
  have hmk : ∀ w, (Instr.makeSlice 30 (.int .i64 4) (.int .i64 4)).run Tryz.prog w = .ok (.slice (some ⟨w.heap.size, 0, none⟩) 4 4) (w.alloc (.cells #[.int .u8 0, .int .u8 0, .int .u8 0, .int .u8 0] 5)) := fun _ => by kernel_rfl
  have ta22 := ta_24_22
  have ta24 := ta_24_24
  have h3 : (n : Int) < 65536 := by omega
  have h4 : (32768 : Int) ≤ n := by omega
  go_enter Tryz.func71, Tryz.ntmps71
  go_wp2_with (go_at_call 90; refine (put32s w.heap.size n _ [0, 0, (n : Int) / 256, (n : Int) % 256] ?_ ?_ ?_).mono ?_)
  · omega
  · first | rfl | (simp only [List.cons.injEq, and_true]; omega)
  · exact heap_alloc_new w _
  rintro e W1 ⟨rfl, hp, hk⟩
  have hbel : Below w.heap.size w W1 := ((Below.refl _ w).alloc (Nat.le_refl _) _).trans (hk.below (by simp) (by simp))
  have hc : ∀ k : Nat, k < 2 → W1.cell? ⟨w.heap.size, k, none⟩ = some (.int .u8 0) := fun k hk => by
    rw [Lib.cell_of_heap hp]
    match k, hk with
    | 0, _ | 1, _ => rfl
  have hcz : W1.cell? ⟨w.heap.size, 2, none⟩ = some (.int .u8 ((n : Int) / 256)) := by rw [Lib.cell_of_heap hp]; rfl
  have hhi := high_yes ((n : Int) / 256) (by omega) (by omega)
  have hnz : (((n : Int) / 256 : Int) != 0) = true := by simp; omega
  have HP := Lib.hid hp
  have HB := Lib.hid hbel
  clear hp hbel hk h h2 h3 h4
  go_wp2
  go_loop [11] (fun i => ∃ k : Nat, k ≤ 2 ∧ i = .int .i64 k) (fun i => 8 - (intOf i).toNat)
  case atStart => exact ⟨0, by omega, rfl⟩
  case round =>
    obtain ⟨k, hk, rfl⟩ := hrel
    by_cases hlt : k < 2
    · have hck := hc k hlt
      clear hc hcz hhi hnz
      go_wp2
      go_round
      case rel => exact ⟨k + 1, by omega, by go_num⟩
      case measure => simp [intOf]; omega
    · obtain rfl : k = 2 := by omega
      clear hc
      go_wp2_with (at_builtin; refine wpList_append8 _ rfl _ _ rfl w.heap.size _ _ [0] [(n : Int) / 256, (n : Int) % 256] rfl rfl ?_ ?_ ?_ ?_ ?_)
      · exact Own.lit W1 w.heap.size [0] HB.out.size (by decide)
      · exact (rd_cut HP.out 2 2 rfl (by simp)).keptBelow ((Below.refl _ _).alloc (Nat.le_refl _) _)
      · have := HB.out.size; first | omega | (simp; omega)
      intro v' w' hO hg _
      have hb2 : Below w.heap.size w w' := (HB.out.alloc HB.out.size _).grown hg (by have := HB.out.size; simp; omega) (by rintro k e; injection e with e; subst e; exact HB.out.size)
      have HR := Lib.hid (retB_own hO hb2)
      clear hO hg hb2
      go_wp2
      go_ret2
      exact HR.out
set_option maxHeartbeats 1000000 in
set_option maxRecDepth 100000 in
theorem u32_24_1 (n : Nat) (w : World) (h : 65536 ≤ n) (h2 : n < 8388608) : Calls Tryz.prog 71 #[.iface 24 (.int .u64 n)] w (RetB w [(n : Int) / 65536, (n : Int) / 256 % 256, (n : Int) % 256]) := by
  have hmk : ∀ w, (Instr.makeSlice 30 (.int .i64 4) (.int .i64 4)).run Tryz.prog w = .ok (.slice (some ⟨w.heap.size, 0, none⟩) 4 4) (w.alloc (.cells #[.int .u8 0, .int .u8 0, .int .u8 0, .int .u8 0] 5)) := fun _ => by kernel_rfl
  have ta22 := ta_24_22
  have ta24 := ta_24_24
  have h3 : (n : Int) < 8388608 := by omega
  have h4 : (65536 : Int) ≤ n := by omega
  go_enter Tryz.func71, Tryz.ntmps71
  go_wp2_with (go_at_call 90; refine (put32s w.heap.size n _ [0, (n : Int) / 65536, (n : Int) / 256 % 256, (n : Int) % 256] ?_ ?_ ?_).mono ?_)
  · omega
  · first | rfl | (simp only [List.cons.injEq, and_true]; omega)
  · exact heap_alloc_new w _
  rintro e W1 ⟨rfl, hp, hk⟩
  have hbel : Below w.heap.size w W1 := ((Below.refl _ w).alloc (Nat.le_refl _) _).trans (hk.below (by simp) (by simp))
  have hc : ∀ k : Nat, k < 1 → W1.cell? ⟨w.heap.size, k, none⟩ = some (.int .u8 0) := fun k hk => by
    rw [Lib.cell_of_heap hp]
    match k, hk with
    | 0, _ => rfl
  have hcz : W1.cell? ⟨w.heap.size, 1, none⟩ = some (.int .u8 ((n : Int) / 65536)) := by rw [Lib.cell_of_heap hp]; rfl
  have hhi := high_no ((n : Int) / 65536) (by omega) (by omega)
  have hnz : (((n : Int) / 65536 : Int) != 0) = true := by simp; omega
  have HP := Lib.hid hp
  have HB := Lib.hid hbel
  clear hp hbel hk h h2 h3 h4
  go_wp2
  go_loop [11] (fun i => ∃ k : Nat, k ≤ 1 ∧ i = .int .i64 k) (fun i => 8 - (intOf i).toNat)
  case atStart => exact ⟨0, by omega, rfl⟩
  case round =>
    obtain ⟨k, hk, rfl⟩ := hrel
    by_cases hlt : k < 1
    · have hck := hc k hlt
      clear hc hcz hhi hnz
      go_wp2
      go_round
      case rel => exact ⟨k + 1, by omega, by go_num⟩
      case measure => simp [intOf]; omega
    · obtain rfl : k = 1 := by omega
      clear hc
      go_wp2
      go_ret2
      exact retB_cut HP.out HB.out (Nat.le_refl _) 1 3 rfl (by simp)
set_option maxHeartbeats 1000000 in
set_option maxRecDepth 100000 in
theorem u32_24_1h (n : Nat) (w : World) (h : 8388608 ≤ n) (h2 : n < 16777216) : Calls Tryz.prog 71 #[.iface 24 (.int .u64 n)] w (RetB w [0, (n : Int) / 65536, (n : Int) / 256 % 256, (n : Int) % 256]) := by
  have hmk : ∀ w, (Instr.makeSlice 30 (.int .i64 4) (.int .i64 4)).run Tryz.prog w = .ok (.slice (some ⟨w.heap.size, 0, none⟩) 4 4) (w.alloc (.cells #[.int .u8 0, .int .u8 0, .int .u8 0, .int .u8 0] 5)) := fun _ => by kernel_rfl
  have ta22 := ta_24_22
  have ta24 := ta_24_24
  have h3 : (n : Int) < 16777216 := by omega
  have h4 : (8388608 : Int) ≤ n := by omega
  go_enter Tryz.func71, Tryz.ntmps71
  go_wp2_with (go_at_call 90; refine (put32s w.heap.size n _ [0, (n : Int) / 65536, (n : Int) / 256 % 256, (n : Int) % 256] ?_ ?_ ?_).mono ?_)
  · omega
  · first | rfl | (simp only [List.cons.injEq, and_true]; omega)
  · exact heap_alloc_new w _
  rintro e W1 ⟨rfl, hp, hk⟩
  have hbel : Below w.heap.size w W1 := ((Below.refl _ w).alloc (Nat.le_refl _) _).trans (hk.below (by simp) (by simp))
  have hc : ∀ k : Nat, k < 1 → W1.cell? ⟨w.heap.size, k, none⟩ = some (.int .u8 0) := fun k hk => by
    rw [Lib.cell_of_heap hp]
    match k, hk with
    | 0, _ => rfl
  have hcz : W1.cell? ⟨w.heap.size, 1, none⟩ = some (.int .u8 ((n : Int) / 65536)) := by rw [Lib.cell_of_heap hp]; rfl
  have hhi := high_yes ((n : Int) / 65536) (by omega) (by omega)
  have hnz : (((n : Int) / 65536 : Int) != 0) = true := by simp; omega
  have HP := Lib.hid hp
  have HB := Lib.hid hbel
  clear hp hbel hk h h2 h3 h4
  go_wp2
  go_loop [11] (fun i => ∃ k : Nat, k ≤ 1 ∧ i = .int .i64 k) (fun i => 8 - (intOf i).toNat)
  case atStart => exact ⟨0, by omega, rfl⟩
  case round =>
    obtain ⟨k, hk, rfl⟩ := hrel
    by_cases hlt : k < 1
    · have hck := hc k hlt
      clear hc hcz hhi hnz
      go_wp2
      go_round
      case rel => exact ⟨k + 1, by omega, by go_num⟩
      case measure => simp [intOf]; omega
    · obtain rfl : k = 1 := by omega
      clear hc
      go_wp2_with (at_builtin; refine wpList_append8 _ rfl _ _ rfl w.heap.size _ _ [0] [(n : Int) / 65536, (n : Int) / 256 % 256, (n : Int) % 256] rfl rfl ?_ ?_ ?_ ?_ ?_)
      · exact Own.lit W1 w.heap.size [0] HB.out.size (by decide)
      · exact (rd_cut HP.out 1 3 rfl (by simp)).keptBelow ((Below.refl _ _).alloc (Nat.le_refl _) _)
      · have := HB.out.size; first | omega | (simp; omega)
      intro v' w' hO hg _
      have hb2 : Below w.heap.size w w' := (HB.out.alloc HB.out.size _).grown hg (by have := HB.out.size; simp; omega) (by rintro k e; injection e with e; subst e; exact HB.out.size)
      have HR := Lib.hid (retB_own hO hb2)
      clear hO hg hb2
      go_wp2
      go_ret2
      exact HR.out
set_option maxHeartbeats 1000000 in
set_option maxRecDepth 100000 in
theorem u32_24_0 (n : Nat) (w : World) (h : 16777216 ≤ n) (h2 : n < 2147483648) : Calls Tryz.prog 71 #[.iface 24 (.int .u64 n)] w (RetB w [(n : Int) / 16777216, (n : Int) / 65536 % 256, (n : Int) / 256 % 256, (n : Int) % 256]) := by
  have hmk : ∀ w, (Instr.makeSlice 30 (.int .i64 4) (.int .i64 4)).run Tryz.prog w = .ok (.slice (some ⟨w.heap.size, 0, none⟩) 4 4) (w.alloc (.cells #[.int .u8 0, .int .u8 0, .int .u8 0, .int .u8 0] 5)) := fun _ => by kernel_rfl
  have ta22 := ta_24_22
  have ta24 := ta_24_24
  have h3 : (n : Int) < 2147483648 := by omega
  have h4 : (16777216 : Int) ≤ n := by omega
  go_enter Tryz.func71, Tryz.ntmps71
  go_wp2_with (go_at_call 90; refine (put32s w.heap.size n _ [(n : Int) / 16777216, (n : Int) / 65536 % 256, (n : Int) / 256 % 256, (n : Int) % 256] ?_ ?_ ?_).mono ?_)
  · omega
  · first | rfl | (simp only [List.cons.injEq, and_true]; omega)
  · exact heap_alloc_new w _
  rintro e W1 ⟨rfl, hp, hk⟩
  have hbel : Below w.heap.size w W1 := ((Below.refl _ w).alloc (Nat.le_refl _) _).trans (hk.below (by simp) (by simp))
  have hcz : W1.cell? ⟨w.heap.size, 0, none⟩ = some (.int .u8 ((n : Int) / 16777216)) := by rw [Lib.cell_of_heap hp]; rfl
  have hhi := high_no ((n : Int) / 16777216) (by omega) (by omega)
  have hnz : (((n : Int) / 16777216 : Int) != 0) = true := by simp; omega
  have HP := Lib.hid hp
  have HB := Lib.hid hbel
  clear hp hbel hk h h2 h3 h4
  go_wp2
  go_loop [11] (fun i => ∃ k : Nat, k ≤ 0 ∧ i = .int .i64 k) (fun i => 8 - (intOf i).toNat)
  case atStart => exact ⟨0, by omega, rfl⟩
  case round =>
    obtain ⟨k, hk, rfl⟩ := hrel
    obtain rfl : k = 0 := by omega
    go_wp2
    go_ret2
    exact retB_cut HP.out HB.out (Nat.le_refl _) 0 4 rfl (by simp)
set_option maxHeartbeats 1000000 in
set_option maxRecDepth 100000 in
theorem u32_24_0h (n : Nat) (w : World) (h : 2147483648 ≤ n) (h2 : n < 4294967296) : Calls Tryz.prog 71 #[.iface 24 (.int .u64 n)] w (RetB w [0, (n : Int) / 16777216, (n : Int) / 65536 % 256, (n : Int) / 256 % 256, (n : Int) % 256]) := by
  have hmk : ∀ w, (Instr.makeSlice 30 (.int .i64 4) (.int .i64 4)).run Tryz.prog w = .ok (.slice (some ⟨w.heap.size, 0, none⟩) 4 4) (w.alloc (.cells #[.int .u8 0, .int .u8 0, .int .u8 0, .int .u8 0] 5)) := fun _ => by kernel_rfl
  have ta22 := ta_24_22
  have ta24 := ta_24_24
  have h3 : (n : Int) < 4294967296 := by omega
  have h4 : (2147483648 : Int) ≤ n := by omega
  go_enter Tryz.func71, Tryz.ntmps71
  go_wp2_with (go_at_call 90; refine (put32s w.heap.size n _ [(n : Int) / 16777216, (n : Int) / 65536 % 256, (n : Int) / 256 % 256, (n : Int) % 256] ?_ ?_ ?_).mono ?_)
  · omega
  · first | rfl | (simp only [List.cons.injEq, and_true]; omega)
  · exact heap_alloc_new w _
  rintro e W1 ⟨rfl, hp, hk⟩
  have hbel : Below w.heap.size w W1 := ((Below.refl _ w).alloc (Nat.le_refl _) _).trans (hk.below (by simp) (by simp))
  have hcz : W1.cell? ⟨w.heap.size, 0, none⟩ = some (.int .u8 ((n : Int) / 16777216)) := by rw [Lib.cell_of_heap hp]; rfl
  have hhi := high_yes ((n : Int) / 16777216) (by omega) (by omega)
  have hnz : (((n : Int) / 16777216 : Int) != 0) = true := by simp; omega
  have HP := Lib.hid hp
  have HB := Lib.hid hbel
  clear hp hbel hk h h2 h3 h4
  go_wp2
  go_loop [11] (fun i => ∃ k : Nat, k ≤ 0 ∧ i = .int .i64 k) (fun i => 8 - (intOf i).toNat)
  case atStart => exact ⟨0, by omega, rfl⟩
  case round =>
    obtain ⟨k, hk, rfl⟩ := hrel
    obtain rfl : k = 0 := by omega
    go_wp2_with (at_builtin; refine wpList_append8 _ rfl _ _ rfl w.heap.size _ _ [0] [(n : Int) / 16777216, (n : Int) / 65536 % 256, (n : Int) / 256 % 256, (n : Int) % 256] rfl rfl ?_ ?_ ?_ ?_ ?_)
    · exact Own.lit W1 w.heap.size [0] HB.out.size (by decide)
    · exact (rd_cut HP.out 0 4 rfl (by simp)).keptBelow ((Below.refl _ _).alloc (Nat.le_refl _) _)
    · have := HB.out.size; first | omega | (simp; omega)
    intro v' w' hO hg _
    have hb2 : Below w.heap.size w w' := (HB.out.alloc HB.out.size _).grown hg (by have := HB.out.size; simp; omega) (by rintro k e; injection e with e; subst e; exact HB.out.size)
    have HR := Lib.hid (retB_own hO hb2)
    clear hO hg hb2
    go_wp2
    go_ret2
    exact HR.out
theorem marshalUint32 (n : Nat) (w : World) (h : n < 4294967296) : Calls Tryz.prog 71 #[.iface 24 (.int .u64 n)] w (RetB w (uintB n)) := by
  by_cases c1 : n < 128
  · rw [uintB_1 n c1]; exact u32_24_3 n w (Nat.zero_le _) c1
  by_cases c2 : n < 256
  · rw [uintB_1h n (by omega) c2]; exact u32_24_3h n w (by omega) c2
  by_cases c3 : n < 32768
  · rw [uintB_2 n (by omega) c3]; exact u32_24_2 n w (by omega) c3
  by_cases c4 : n < 65536
  · rw [uintB_2h n (by omega) c4]; exact u32_24_2h n w (by omega) c4
  by_cases c5 : n < 8388608
  · rw [uintB_3 n (by omega) c5]; exact u32_24_1 n w (by omega) c5
  by_cases c6 : n < 16777216
  · rw [uintB_3h n (by omega) c6]; exact u32_24_1h n w (by omega) c6
  by_cases c7 : n < 2147483648
  · rw [uintB_4 n (by omega) c7]; exact u32_24_0 n w (by omega) c7
  · rw [uintB_4h n (by omega) h]; exact u32_24_0h n w (by omega) h
end Go.Proofs.YtpfmcdhmboclhaaGreatDoor
namespace Go.Proofs.YtpfmcdhmboclhaaGreatDoor
open Go.RowKit
theorem rd_one (W : World) (x : Int) : Rd (W.alloc (.cells #[.int .u8 x] 5)) (.slice (some ⟨W.heap.size, 0, none⟩) 1 1) [x] := (Own.lit W 0 [x] (Nat.zero_le _) (by simp [maxLen])).reads
theorem Own.alloc {w : World} {base : Nat} {v : Value} {l : List Int} (h : Own w base v l) (o : Obj) : Own (w.alloc o) base v l := h.keptBelow ((Below.refl _ _).alloc (Nat.le_refl _) _)
/-- A call that makes a row of bytes. -/
def RetO (w : World) (l : List Int) (e : Ending) (w' : World) : Prop := ∃ v, e = .returned v ∧ Own w' w.heap.size v l ∧ Below w.heap.size w w'
theorem intB_short (n : Nat) (h : n < 2147483648) : (intB n).length ≤ 4 := by
  by_cases c1 : n < 128
  · rw [intB_1 n (by omega)]; simp
  by_cases c2 : n < 32768
  · rw [intB_2 n (by omega) (by omega)]; simp
  by_cases c3 : n < 8388608
  · rw [intB_3 n (by omega) (by omega)]; simp
  · rw [intB_4 n (by omega) (by omega)]; simp
end Go.Proofs.YtpfmcdhmboclhaaGreatDoor
namespace Go.Proofs.YtpfmcdhmboclhaaGreatDoor

/-- The figures of a number to the base 128, each with the mark that another follows. -/
def hi128 (n : Nat) : List Int := if h : n = 0 then [] else hi128 (n / 128) ++ [((n % 128 + 128 : Nat) : Int)]
/-- A number to the base 128. -/
def b128 (n : Nat) : List Int := hi128 (n / 128) ++ [((n % 128 : Nat) : Int)]
/-- The content of a name. -/
def nameB : List Nat → List Int
  | a :: b :: r => ((40 * a + b : Nat) : Int) :: r.flatMap b128
  | _ => []
theorem hi128_zero : hi128 0 = [] := by rw [hi128]; rfl
theorem hi128_step (n : Nat) (h : 0 < n) : hi128 n = hi128 (n / 128) ++ [((n % 128 + 128 : Nat) : Int)] := by rw [hi128, dif_neg (by omega)]
theorem b128_1 (n : Nat) (h : n < 128) : b128 n = [(n : Int)] := by
  unfold b128; rw [Nat.div_eq_of_lt h, hi128_zero, Nat.mod_eq_of_lt h]; rfl
theorem b128_2 (n : Nat) (h : 128 ≤ n) (h1 : n < 16384) : b128 n = [(n : Int) / 128 + 128, (n : Int) % 128] := by
  unfold b128
  rw [hi128_step _ (by omega), Nat.div_eq_of_lt (by omega : n / 128 < 128), hi128_zero]
  simp
  omega
theorem b128_3 (n : Nat) (h : 16384 ≤ n) (h1 : n < 2097152) : b128 n = [(n : Int) / 16384 + 128, (n : Int) / 128 % 128 + 128, (n : Int) % 128] := by
  unfold b128
  rw [hi128_step _ (by omega), hi128_step _ (by omega), Nat.div_eq_of_lt (by omega : n / 128 / 128 < 128), hi128_zero]
  simp
  omega
theorem b128_4 (n : Nat) (h : 2097152 ≤ n) (h1 : n < 268435456) : b128 n = [(n : Int) / 2097152 + 128, (n : Int) / 16384 % 128 + 128, (n : Int) / 128 % 128 + 128, (n : Int) % 128] := by
  unfold b128
  rw [hi128_step _ (by omega), hi128_step _ (by omega), hi128_step _ (by omega), Nat.div_eq_of_lt (by omega : n / 128 / 128 / 128 < 128), hi128_zero]
  simp
  omega
theorem b128_5 (n : Nat) (h : 268435456 ≤ n) (h1 : n < 4294967296) : b128 n = [(n : Int) / 268435456 + 128, (n : Int) / 2097152 % 128 + 128, (n : Int) / 16384 % 128 + 128, (n : Int) / 128 % 128 + 128, (n : Int) % 128] := by
  unfold b128
  rw [hi128_step _ (by omega), hi128_step _ (by omega), hi128_step _ (by omega), hi128_step _ (by omega), Nat.div_eq_of_lt (by omega : n / 128 / 128 / 128 / 128 < 128), hi128_zero]
  simp
  omega
end Go.Proofs.YtpfmcdhmboclhaaGreatDoor
namespace Go.Proofs.YtpfmcdhmboclhaaGreatDoor
open Go.RowKit
/-- A call that appends to a row of bytes. -/
def RetA (w : World) (base : Nat) (l : List Int) (e : Ending) (w' : World) : Prop := ∃ v, e = .returned v ∧ Own w' base v l ∧ Below base w w'
theorem low7 (x : Int) (h : 0 ≤ x) : bits .and .u8 (x % 256) 127 = x % 128 := by
  have := bits_mask .u8 8 (by decide) (fun n h0 h1 => by rw [IntKind.wrap_u8]; omega) 7 (by decide) (x % 256) (by omega) (by omega)
  rw [show (127 : Int) = 2 ^ 7 - 1 from rfl, this]
  omega
theorem or128 (y : Int) (h0 : 0 ≤ y) (h1 : y < 128) : bits .or .u8 y 128 = y + 128 := by
  obtain ⟨a, rfl⟩ := Int.eq_ofNat_of_zero_le h0
  have ha : a < 128 := by omega
  have key : ∀ a : Fin 128, a.val ||| 128 = a.val + 128 := by decide +kernel
  have h := key ⟨a, ha⟩
  simp only at h
  rw [show (128 : Int) = ((128 : Nat) : Int) from rfl, (bits_nat .u8 8 (by decide) (fun n h0 h1 => by rw [IntKind.wrap_u8]; omega) a 128 (by omega) (by omega)).2, h]
  simp
theorem sept (x y : Int) (h : 0 ≤ x) (hy : x % 128 = y) : bits .or .u8 (bits .and .u8 (x % 256) 127) 128 = y + 128 := by rw [low7 x h, or128 _ (by omega) (by omega), hy]
theorem app_below {base : Nat} {w W w1 : World} {v : Value} {l : List Int} {o : Obj} (hO : Own W base v l) (hb : Below base w W) (hbw : base ≤ w.heap.size) (hg : (W.alloc o).grownBy w1 v.ownBlock) : Below base w w1 :=
  (hb.alloc (Nat.le_trans hbw hb.size) _).grown hg (by have := hb.size; simp; omega) (fun k e => (hO.lt e).1)
set_option maxHeartbeats 1000000 in
set_option maxRecDepth 100000 in
theorem b128_zero (w : World) (base : Nat) (v : Value) (l : List Int) (hO : Own w base v l) (hb : base ≤ w.heap.size) (hlim : l.length ≤ 100000000000) : Calls Tryz.prog 108 #[v, .int .i64 0] w (RetA w base (l ++ [0])) := by
  have HO := Lib.hid hO
  clear hO
  go_enter Tryz.func108, Tryz.ntmps108
  go_wp2_with (at_builtin; refine wpList_append8 _ rfl _ _ rfl base v _ l [0] rfl rfl (by exact HO.out.alloc _) (by exact rd_one _ _) (by simp; omega) (by simp; omega) ?_)
  intro v1 w1 hO1 hg _
  have HR : Hid (RetA w base (l ++ [0]) (.returned v1) w1) := ⟨_, rfl, hO1, app_below HO.out (Below.refl _ _) hb hg⟩
  clear hO1 hg
  go_wp2
  go_ret
  exact HR.out
set_option maxHeartbeats 2000000 in
set_option maxRecDepth 100000 in
theorem b128_c1 (n : Nat) (w : World) (base : Nat) (v : Value) (l : List Int) (hO : Own w base v l) (hb : base ≤ w.heap.size) (hlim : l.length ≤ 100000000000) (h : 1 ≤ n) (h2 : n < 128) : Calls Tryz.prog 108 #[v, .int .i64 n] w (RetA w base (l ++ [(n : Int)])) := by
  have hnz : ((n : Int) == 0) = false := by simp; omega
  have HO := Lib.hid hO
  clear hO
  go_enter Tryz.func108, Tryz.ntmps108
  go_wp2
  go_loop [5, 6] (fun k i => (k = .int .i64 0 ∧ i = .int .i64 ((n : Int))) ∨ (k = .int .i64 1 ∧ i = .int .i64 (0))) (fun k _ => (10 - intOf k).toNat)
  case atStart => exact .inl ⟨rfl, rfl⟩
  case round =>
    rcases hrel with ⟨rfl, rfl⟩ | ⟨rfl, rfl⟩
    · have hd : (n : Int) / 128 = 0 := by omega
      go_wp2
      go_round
      case rel => exact .inr (⟨rfl, by go_num⟩)
      case measure => decide
    · clear hnz
      go_wp2
      go_loopw [0, 7, 8] (fun out i _ wr => Below base w wr ∧ ((i = .int .i64 (0) ∧ Own wr base out l) ∨ (i = .int .i64 (-1) ∧ Own wr base out (l ++ [(n : Int)])))) (fun _ i _ _ => (intOf i + 1).toNat)
      case atStart => exact ⟨Below.refl _ _, .inl ⟨rfl, HO.out⟩⟩
      case round =>
        obtain ⟨hbl, hrel⟩ := hrel
        rcases hrel with ⟨rfl, hO⟩ | ⟨rfl, hO⟩
        · have HO := Lib.hid hO
          have HB := Lib.hid hbl
          have hbit : bits .and .u8 ((n : Int) % 256) 127 = (n : Int) := by rw [low7 _ (by omega)]; omega
          have hbit2 : bits .and .u8 (n : Int) 127 = (n : Int) := by have := low7 (n : Int) (by omega); rwa [show (n : Int) % 256 = n by omega, show (n : Int) % 128 = n by omega] at this
          clear hO hbl
          go_wp2_with (at_builtin; refine wpList_append8 _ rfl _ _ rfl base _ _ l [(n : Int)] rfl rfl (by exact HO.out.alloc _) (by exact rd_one _ _) (by have := HB.out.size; simp; omega) (by simp; omega) ?_)
          intro v1 w1 hO1 hg _
          have HB1 := Lib.hid (app_below HO.out HB.out hb hg)
          have HO1 : Hid (Own w1 base v1 (l ++ [(n : Int)])) := hO1
          clear hO1 hg
          go_wp2
          go_roundw
          case rel => exact ⟨HB1.out, .inr (⟨by go_num, HO1.out⟩)⟩
          case measure => decide
        · have HR : Hid (RetA w base (l ++ [(n : Int)]) (.returned _) wr) := ⟨_, rfl, hO, hbl⟩
          clear hO hbl
          go_wp2
          go_ret
          exact HR.out
set_option maxHeartbeats 2000000 in
set_option maxRecDepth 100000 in
theorem b128_c2 (n : Nat) (w : World) (base : Nat) (v : Value) (l : List Int) (hO : Own w base v l) (hb : base ≤ w.heap.size) (hlim : l.length ≤ 100000000000) (h : 128 ≤ n) (h2 : n < 16384) : Calls Tryz.prog 108 #[v, .int .i64 n] w (RetA w base (l ++ [(n : Int) / 128 + 128, (n : Int) % 128])) := by
  have hnz : ((n : Int) == 0) = false := by simp; omega
  have HO := Lib.hid hO
  clear hO
  go_enter Tryz.func108, Tryz.ntmps108
  go_wp2
  go_loop [5, 6] (fun k i => (k = .int .i64 0 ∧ i = .int .i64 ((n : Int))) ∨ (k = .int .i64 1 ∧ i = .int .i64 ((n : Int) / 128)) ∨ (k = .int .i64 2 ∧ i = .int .i64 (0))) (fun k _ => (10 - intOf k).toNat)
  case atStart => exact .inl ⟨rfl, rfl⟩
  case round =>
    rcases hrel with ⟨rfl, rfl⟩ | ⟨rfl, rfl⟩ | ⟨rfl, rfl⟩
    · go_wp2
      go_round
      case rel => exact .inr (.inl ⟨rfl, by go_num⟩)
      case measure => decide
    · have hd : (n : Int) / 128 / 128 = 0 := by omega
      go_wp2
      go_round
      case rel => exact .inr (.inr (⟨rfl, by go_num⟩))
      case measure => decide
    · clear hnz
      go_wp2
      go_loopw [0, 7, 8] (fun out i _ wr => Below base w wr ∧ ((i = .int .i64 (1) ∧ Own wr base out l) ∨ (i = .int .i64 (0) ∧ Own wr base out (l ++ [(n : Int) / 128 + 128])) ∨ (i = .int .i64 (-1) ∧ Own wr base out (l ++ [(n : Int) / 128 + 128, (n : Int) % 128])))) (fun _ i _ _ => (intOf i + 1).toNat)
      case atStart => exact ⟨Below.refl _ _, .inl ⟨rfl, HO.out⟩⟩
      case round =>
        obtain ⟨hbl, hrel⟩ := hrel
        rcases hrel with ⟨rfl, hO⟩ | ⟨rfl, hO⟩ | ⟨rfl, hO⟩
        · have HO := Lib.hid hO
          have HB := Lib.hid hbl
          have hbit : bits .or .u8 (bits .and .u8 ((n : Int) / 128 % 256) 127) 128 = (n : Int) / 128 + 128 := sept _ _ (by omega) (by omega)
          have hbit2 : bits .or .u8 (bits .and .u8 ((n : Int) / 128) 127) 128 = (n : Int) / 128 + 128 := by have := sept ((n : Int) / 128) ((n : Int) / 128) (by omega) (by omega); rwa [show (n : Int) / 128 % 256 = (n : Int) / 128 by omega] at this
          clear hO hbl
          go_wp2_with (at_builtin; refine wpList_append8 _ rfl _ _ rfl base _ _ l [(n : Int) / 128 + 128] rfl rfl (by exact HO.out.alloc _) (by exact rd_one _ _) (by have := HB.out.size; simp; omega) (by simp; omega) ?_)
          intro v1 w1 hO1 hg _
          have HB1 := Lib.hid (app_below HO.out HB.out hb hg)
          have HO1 : Hid (Own w1 base v1 (l ++ [(n : Int) / 128 + 128])) := hO1
          clear hO1 hg
          go_wp2
          go_roundw
          case rel => exact ⟨HB1.out, .inr (.inl ⟨by go_num, HO1.out⟩)⟩
          case measure => decide
        · have HO := Lib.hid hO
          have HB := Lib.hid hbl
          have hbit : bits .and .u8 ((n : Int) % 256) 127 = (n : Int) % 128 := low7 _ (by omega)
          clear hO hbl
          go_wp2_with (at_builtin; refine wpList_append8 _ rfl _ _ rfl base _ _ (l ++ [(n : Int) / 128 + 128]) [(n : Int) % 128] rfl rfl (by exact HO.out.alloc _) (by exact rd_one _ _) (by have := HB.out.size; simp; omega) (by simp; omega) ?_)
          intro v1 w1 hO1 hg _
          have HB1 := Lib.hid (app_below HO.out HB.out hb hg)
          have HO1 : Hid (Own w1 base v1 (l ++ [(n : Int) / 128 + 128, (n : Int) % 128])) := Lib.hid (by simpa using hO1)
          clear hO1 hg
          go_wp2
          go_roundw
          case rel => exact ⟨HB1.out, .inr (.inr (⟨by go_num, HO1.out⟩))⟩
          case measure => decide
        · have HR : Hid (RetA w base (l ++ [(n : Int) / 128 + 128, (n : Int) % 128]) (.returned _) wr) := ⟨_, rfl, hO, hbl⟩
          clear hO hbl
          go_wp2
          go_ret
          exact HR.out
end Go.Proofs.YtpfmcdhmboclhaaGreatDoor
