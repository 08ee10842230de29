/- gosnmp: the content of a number without a sign, of 32 bits. gosnmp: an INTEGER whole; written to a buffer. gosnmp: the bytes of a message's body. -/
import Derived.Test.YtpfmcdhmboclhaaGreatDoorG10
set_option linter.unusedVariables false
set_option linter.unusedSimpArgs false
namespace Go.Proofs.YtpfmcdhmboclhaaGreatDoor
open Go.RowKit
theorem ta_22_22 (v : Value) (w : World) : (Instr.typeAssert (.iface 22 v) 20 22 true).run Tryz.prog w = .ok (.tuple #[v, .bool true]) w := by kernel_rfl
theorem ta_5_22 (v : Value) (w : World) : (Instr.typeAssert (.iface 5 v) 20 22 true).run Tryz.prog w = .ok (.tuple #[.int .u32 0, .bool false]) w := by kernel_rfl
theorem ta_5_24 (v : Value) (w : World) : (Instr.typeAssert (.iface 5 v) 20 24 true).run Tryz.prog w = .ok (.tuple #[.int .u64 0, .bool false]) w := by kernel_rfl
theorem ta_5_5 (v : Value) (w : World) : (Instr.typeAssert (.iface 5 v) 20 5 true).run Tryz.prog w = .ok (.tuple #[v, .bool true]) w := by kernel_rfl
theorem ta_45_22 (v : Value) (w : World) : (Instr.typeAssert (.iface 45 v) 20 22 true).run Tryz.prog w = .ok (.tuple #[.int .u32 0, .bool false]) w := by kernel_rfl
theorem ta_45_24 (v : Value) (w : World) : (Instr.typeAssert (.iface 45 v) 20 24 true).run Tryz.prog w = .ok (.tuple #[.int .u64 0, .bool false]) w := by kernel_rfl
theorem ta_45_5 (v : Value) (w : World) : (Instr.typeAssert (.iface 45 v) 20 5 true).run Tryz.prog w = .ok (.tuple #[.int .u8 0, .bool false]) w := by kernel_rfl
theorem ta_45_45 (v : Value) (w : World) : (Instr.typeAssert (.iface 45 v) 20 45 true).run Tryz.prog w = .ok (.tuple #[v, .bool true]) w := by kernel_rfl
set_option maxHeartbeats 1000000 in
set_option maxRecDepth 100000 in
theorem u32_22_3 (n : Nat) (w : World) (h : 0 ≤ n) (h2 : n < 128) : Calls Tryz.prog 71 #[.iface 22 (.int .u32 n)] w (RetB w [(n : Int)]) := by
  have hmk : ∀ w, (Instr.makeSlice 30 (.int .i64 4) (.int .i64 4)).run Tryz.prog w = .ok (.slice (some ⟨w.heap.size, 0, none⟩) 4 4) (w.alloc (.cells #[.int .u8 0, .int .u8 0, .int .u8 0, .int .u8 0] 5)) := fun _ => by kernel_rfl
  have ta22 := ta_22_22
  have h3 : (n : Int) < 128 := by omega
  have h4 : (0 : Int) ≤ n := by omega
  go_enter Tryz.func71, Tryz.ntmps71
  go_wp2_with (go_at_call 90; refine (put32s w.heap.size n _ [0, 0, 0, (n : Int)] ?_ ?_ ?_).mono ?_)
  · omega
  · first | rfl | (simp only [List.cons.injEq, and_true]; omega)
  · exact heap_alloc_new w _
  rintro e W1 ⟨rfl, hp, hk⟩
  have hbel : Below w.heap.size w W1 := ((Below.refl _ w).alloc (Nat.le_refl _) _).trans (hk.below (by simp) (by simp))
  have hc : ∀ k : Nat, k < 3 → W1.cell? ⟨w.heap.size, k, none⟩ = some (.int .u8 0) := fun k hk => by
    rw [Lib.cell_of_heap hp]
    match k, hk with
    | 0, _ | 1, _ | 2, _ => rfl
  have hcz : W1.cell? ⟨w.heap.size, 3, none⟩ = some (.int .u8 ((n : Int))) := by rw [Lib.cell_of_heap hp]; rfl
  have hhi := high_no ((n : Int)) (by omega) (by omega)
  have HP := Lib.hid hp
  have HB := Lib.hid hbel
  clear hp hbel hk h h2 h3 h4
  go_wp2
  go_loop [11] (fun i => ∃ k : Nat, k ≤ 3 ∧ i = .int .i64 k) (fun i => 8 - (intOf i).toNat)
  case atStart => exact ⟨0, by omega, rfl⟩
  case round =>
    obtain ⟨k, hk, rfl⟩ := hrel
    by_cases hlt : k < 3
    · have hck := hc k hlt
      clear hc hcz hhi
      go_wp2
      go_round
      case rel => exact ⟨k + 1, by omega, by go_num⟩
      case measure => simp [intOf]; omega
    · obtain rfl : k = 3 := by omega
      clear hc
      go_wp2
      go_ret2
      exact retB_cut HP.out HB.out (Nat.le_refl _) 3 1 rfl (by simp)
set_option maxHeartbeats 1000000 in
set_option maxRecDepth 100000 in
theorem u32_5_3 (n : Nat) (w : World) (h : 0 ≤ n) (h2 : n < 128) : Calls Tryz.prog 71 #[.iface 5 (.int .u8 n)] w (RetB w [(n : Int)]) := by
  have hmk : ∀ w, (Instr.makeSlice 30 (.int .i64 4) (.int .i64 4)).run Tryz.prog w = .ok (.slice (some ⟨w.heap.size, 0, none⟩) 4 4) (w.alloc (.cells #[.int .u8 0, .int .u8 0, .int .u8 0, .int .u8 0] 5)) := fun _ => by kernel_rfl
  have ta22 := ta_5_22
  have ta24 := ta_5_24
  have ta5 := ta_5_5
  have h3 : (n : Int) < 128 := by omega
  have h4 : (0 : Int) ≤ n := by omega
  go_enter Tryz.func71, Tryz.ntmps71
  go_wp2_with (go_at_call 90; refine (put32s w.heap.size n _ [0, 0, 0, (n : Int)] ?_ ?_ ?_).mono ?_)
  · omega
  · first | rfl | (simp only [List.cons.injEq, and_true]; omega)
  · exact heap_alloc_new w _
  rintro e W1 ⟨rfl, hp, hk⟩
  have hbel : Below w.heap.size w W1 := ((Below.refl _ w).alloc (Nat.le_refl _) _).trans (hk.below (by simp) (by simp))
  have hc : ∀ k : Nat, k < 3 → W1.cell? ⟨w.heap.size, k, none⟩ = some (.int .u8 0) := fun k hk => by
    rw [Lib.cell_of_heap hp]
    match k, hk with
    | 0, _ | 1, _ | 2, _ => rfl
  have hcz : W1.cell? ⟨w.heap.size, 3, none⟩ = some (.int .u8 ((n : Int))) := by rw [Lib.cell_of_heap hp]; rfl
  have hhi := high_no ((n : Int)) (by omega) (by omega)
  have HP := Lib.hid hp
  have HB := Lib.hid hbel
  clear hp hbel hk h h2 h3 h4
  go_wp2
  go_loop [11] (fun i => ∃ k : Nat, k ≤ 3 ∧ i = .int .i64 k) (fun i => 8 - (intOf i).toNat)
  case atStart => exact ⟨0, by omega, rfl⟩
  case round =>
    obtain ⟨k, hk, rfl⟩ := hrel
    by_cases hlt : k < 3
    · have hck := hc k hlt
      clear hc hcz hhi
      go_wp2
      go_round
      case rel => exact ⟨k + 1, by omega, by go_num⟩
      case measure => simp [intOf]; omega
    · obtain rfl : k = 3 := by omega
      clear hc
      go_wp2
      go_ret2
      exact retB_cut HP.out HB.out (Nat.le_refl _) 3 1 rfl (by simp)
set_option maxHeartbeats 1000000 in
set_option maxRecDepth 100000 in
theorem u32_45_3 (n : Nat) (w : World) (h : 0 ≤ n) (h2 : n < 128) : Calls Tryz.prog 71 #[.iface 45 (.int .u8 n)] w (RetB w [(n : Int)]) := by
  have hmk : ∀ w, (Instr.makeSlice 30 (.int .i64 4) (.int .i64 4)).run Tryz.prog w = .ok (.slice (some ⟨w.heap.size, 0, none⟩) 4 4) (w.alloc (.cells #[.int .u8 0, .int .u8 0, .int .u8 0, .int .u8 0] 5)) := fun _ => by kernel_rfl
  have ta22 := ta_45_22
  have ta24 := ta_45_24
  have ta5 := ta_45_5
  have ta45 := ta_45_45
  have h3 : (n : Int) < 128 := by omega
  have h4 : (0 : Int) ≤ n := by omega
  go_enter Tryz.func71, Tryz.ntmps71
  go_wp2_with (go_at_call 90; refine (put32s w.heap.size n _ [0, 0, 0, (n : Int)] ?_ ?_ ?_).mono ?_)
  · omega
  · first | rfl | (simp only [List.cons.injEq, and_true]; omega)
  · exact heap_alloc_new w _
  rintro e W1 ⟨rfl, hp, hk⟩
  have hbel : Below w.heap.size w W1 := ((Below.refl _ w).alloc (Nat.le_refl _) _).trans (hk.below (by simp) (by simp))
  have hc : ∀ k : Nat, k < 3 → W1.cell? ⟨w.heap.size, k, none⟩ = some (.int .u8 0) := fun k hk => by
    rw [Lib.cell_of_heap hp]
    match k, hk with
    | 0, _ | 1, _ | 2, _ => rfl
  have hcz : W1.cell? ⟨w.heap.size, 3, none⟩ = some (.int .u8 ((n : Int))) := by rw [Lib.cell_of_heap hp]; rfl
  have hhi := high_no ((n : Int)) (by omega) (by omega)
  have HP := Lib.hid hp
  have HB := Lib.hid hbel
  clear hp hbel hk h h2 h3 h4
  go_wp2
  go_loop [11] (fun i => ∃ k : Nat, k ≤ 3 ∧ i = .int .i64 k) (fun i => 8 - (intOf i).toNat)
  case atStart => exact ⟨0, by omega, rfl⟩
  case round =>
    obtain ⟨k, hk, rfl⟩ := hrel
    by_cases hlt : k < 3
    · have hck := hc k hlt
      clear hc hcz hhi
      go_wp2
      go_round
      case rel => exact ⟨k + 1, by omega, by go_num⟩
      case measure => simp [intOf]; omega
    · obtain rfl : k = 3 := by omega
      clear hc
      go_wp2
      go_ret2
      exact retB_cut HP.out HB.out (Nat.le_refl _) 3 1 rfl (by simp)
end Go.Proofs.YtpfmcdhmboclhaaGreatDoor
namespace Go.Proofs.YtpfmcdhmboclhaaGreatDoor
open Go.RowKit

/-- append(out, x) under Own: what it leaves. -/
theorem own_app {w W w1 : World} {v : Value} {l : List Int} {o : Obj} (hO : Own W w.heap.size v l) (hb : Below w.heap.size w W) (hg : (W.alloc o).grownBy w1 v.ownBlock) : Below w.heap.size w w1 :=
  (hb.alloc hb.size _).grown hg (by have := hb.size; simp; omega) (fun k e => (hO.lt e).1)
set_option maxHeartbeats 2000000 in
theorem zzInt_1 (n : Nat) (w : World) (h : 0 ≤ n) (h2 : n < 128) : Calls Tryz.prog 89 #[.int .i64 n] w (RetO w [2, 1, (n : Int)]) := by
  go_enter Tryz.func89, Tryz.ntmps89
  go_wp2
  go_loop [3, 4] (fun k i => (k = .int .i64 1 ∧ i = .int .i64 ((n : Int)))) (fun k _ => (10 - intOf k).toNat)
  case atStart => exact ⟨rfl, rfl⟩
  case round =>
    obtain ⟨rfl, rfl⟩ := hrel
    go_wp2
    go_loopw [5, 6] (fun out i wr => Below w.heap.size w wr ∧ ((i = .int .i64 (0) ∧ Own wr w.heap.size out [2, 1]) ∨ (i = .int .i64 (-1) ∧ Own wr w.heap.size out [2, 1, (n : Int)]))) (fun _ i _ => (intOf i + 1).toNat)
    case atStart =>
      refine ⟨(Below.refl _ _).alloc (Nat.le_refl _) _, .inl ⟨rfl, ?_⟩⟩
      exact Own.lit w w.heap.size [2, 1] (Nat.le_refl _) (by simp [maxLen])
    case round =>
      obtain ⟨hb, hrel⟩ := hrel
      rcases hrel with ⟨rfl, hO⟩ | ⟨rfl, hO⟩
      · have HO := Lib.hid hO
        have HB := Lib.hid hb
        clear hO hb
        go_wp2_with (at_builtin; refine wpList_append8 _ rfl _ _ rfl w.heap.size _ _ [2, 1] [(n : Int)] rfl rfl (by exact HO.out.alloc _) (by exact rd_one _ _) (by have := HB.out.size; simp; omega) (by simp) ?_)
        intro v1 w1 hO1 hg _
        have hb1 := own_app HO.out HB.out hg
        have HO1 := Lib.hid hO1
        have HB1 := Lib.hid hb1
        clear hO1 hb1 hg
        go_wp2
        go_roundw
        case rel => exact ⟨HB1.out, .inr (⟨by go_num, HO1.out⟩)⟩
        case measure => decide
      · have HO := Lib.hid hO
        have HB := Lib.hid hb
        clear hO hb
        go_wp2
        go_ret
        exact ⟨_, rfl, HO.out, HB.out⟩
set_option maxHeartbeats 2000000 in
theorem zzInt_2 (n : Nat) (w : World) (h : 128 ≤ n) (h2 : n < 32768) : Calls Tryz.prog 89 #[.int .i64 n] w (RetO w [2, 2, (n : Int) / 256, (n : Int) % 256]) := by
  go_enter Tryz.func89, Tryz.ntmps89
  go_wp2
  go_loop [3, 4] (fun k i => (k = .int .i64 1 ∧ i = .int .i64 ((n : Int))) ∨ (k = .int .i64 2 ∧ i = .int .i64 ((n : Int) / 256))) (fun k _ => (10 - intOf k).toNat)
  case atStart => exact .inl ⟨rfl, rfl⟩
  case round =>
    rcases hrel with ⟨rfl, rfl⟩ | ⟨rfl, rfl⟩
    · go_wp2
      go_round
      case rel => exact .inr (⟨rfl, by rfl⟩)
      case measure => decide
    · go_wp2
      go_loopw [5, 6] (fun out i wr => Below w.heap.size w wr ∧ ((i = .int .i64 (1) ∧ Own wr w.heap.size out [2, 2]) ∨ (i = .int .i64 (0) ∧ Own wr w.heap.size out [2, 2, (n : Int) / 256]) ∨ (i = .int .i64 (-1) ∧ Own wr w.heap.size out [2, 2, (n : Int) / 256, (n : Int) % 256]))) (fun _ i _ => (intOf i + 1).toNat)
      case atStart =>
        refine ⟨(Below.refl _ _).alloc (Nat.le_refl _) _, .inl ⟨rfl, ?_⟩⟩
        exact Own.lit w w.heap.size [2, 2] (Nat.le_refl _) (by simp [maxLen])
      case round =>
        obtain ⟨hb, hrel⟩ := hrel
        rcases hrel with ⟨rfl, hO⟩ | ⟨rfl, hO⟩ | ⟨rfl, hO⟩
        · have HO := Lib.hid hO
          have HB := Lib.hid hb
          clear hO hb
          go_wp2_with (at_builtin; refine wpList_append8 _ rfl _ _ rfl w.heap.size _ _ [2, 2] [(n : Int) / 256] rfl rfl (by exact HO.out.alloc _) (by exact rd_one _ _) (by have := HB.out.size; simp; omega) (by simp) ?_)
          intro v1 w1 hO1 hg _
          have hb1 := own_app HO.out HB.out hg
          have HO1 := Lib.hid hO1
          have HB1 := Lib.hid hb1
          clear hO1 hb1 hg
          go_wp2
          go_roundw
          case rel => exact ⟨HB1.out, .inr (.inl ⟨by go_num, HO1.out⟩)⟩
          case measure => decide
        · have HO := Lib.hid hO
          have HB := Lib.hid hb
          clear hO hb
          go_wp2_with (at_builtin; refine wpList_append8 _ rfl _ _ rfl w.heap.size _ _ [2, 2, (n : Int) / 256] [(n : Int) % 256] rfl rfl (by exact HO.out.alloc _) (by exact rd_one _ _) (by have := HB.out.size; simp; omega) (by simp) ?_)
          intro v1 w1 hO1 hg _
          have hb1 := own_app HO.out HB.out hg
          have HO1 := Lib.hid hO1
          have HB1 := Lib.hid hb1
          clear hO1 hb1 hg
          go_wp2
          go_roundw
          case rel => exact ⟨HB1.out, .inr (.inr (⟨by go_num, HO1.out⟩))⟩
          case measure => decide
        · have HO := Lib.hid hO
          have HB := Lib.hid hb
          clear hO hb
          go_wp2
          go_ret
          exact ⟨_, rfl, HO.out, HB.out⟩
set_option maxHeartbeats 2000000 in
theorem zzInt_3 (n : Nat) (w : World) (h : 32768 ≤ n) (h2 : n < 8388608) : Calls Tryz.prog 89 #[.int .i64 n] w (RetO w [2, 3, (n : Int) / 65536, (n : Int) / 256 % 256, (n : Int) % 256]) := by
  go_enter Tryz.func89, Tryz.ntmps89
  go_wp2
  go_loop [3, 4] (fun k i => (k = .int .i64 1 ∧ i = .int .i64 ((n : Int))) ∨ (k = .int .i64 2 ∧ i = .int .i64 ((n : Int) / 256)) ∨ (k = .int .i64 3 ∧ i = .int .i64 ((n : Int) / 65536))) (fun k _ => (10 - intOf k).toNat)
  case atStart => exact .inl ⟨rfl, rfl⟩
  case round =>
    rcases hrel with ⟨rfl, rfl⟩ | ⟨rfl, rfl⟩ | ⟨rfl, rfl⟩
    · go_wp2
      go_round
      case rel => exact .inr (.inl ⟨rfl, by rfl⟩)
      case measure => decide
    · go_wp2
      go_round
      case rel => exact .inr (.inr (⟨rfl, by go_num⟩))
      case measure => decide
    · go_wp2
      go_loopw [5, 6] (fun out i wr => Below w.heap.size w wr ∧ ((i = .int .i64 (2) ∧ Own wr w.heap.size out [2, 3]) ∨ (i = .int .i64 (1) ∧ Own wr w.heap.size out [2, 3, (n : Int) / 65536]) ∨ (i = .int .i64 (0) ∧ Own wr w.heap.size out [2, 3, (n : Int) / 65536, (n : Int) / 256 % 256]) ∨ (i = .int .i64 (-1) ∧ Own wr w.heap.size out [2, 3, (n : Int) / 65536, (n : Int) / 256 % 256, (n : Int) % 256]))) (fun _ i _ => (intOf i + 1).toNat)
      case atStart =>
        refine ⟨(Below.refl _ _).alloc (Nat.le_refl _) _, .inl ⟨rfl, ?_⟩⟩
        exact Own.lit w w.heap.size [2, 3] (Nat.le_refl _) (by simp [maxLen])
      case round =>
        obtain ⟨hb, hrel⟩ := hrel
        rcases hrel with ⟨rfl, hO⟩ | ⟨rfl, hO⟩ | ⟨rfl, hO⟩ | ⟨rfl, hO⟩
        · have HO := Lib.hid hO
          have HB := Lib.hid hb
          clear hO hb
          go_wp2_with (at_builtin; refine wpList_append8 _ rfl _ _ rfl w.heap.size _ _ [2, 3] [(n : Int) / 65536] rfl rfl (by exact HO.out.alloc _) (by exact rd_one _ _) (by have := HB.out.size; simp; omega) (by simp) ?_)
          intro v1 w1 hO1 hg _
          have hb1 := own_app HO.out HB.out hg
          have HO1 := Lib.hid hO1
          have HB1 := Lib.hid hb1
          clear hO1 hb1 hg
          go_wp2
          go_roundw
          case rel => exact ⟨HB1.out, .inr (.inl ⟨by go_num, HO1.out⟩)⟩
          case measure => decide
        · have HO := Lib.hid hO
          have HB := Lib.hid hb
          clear hO hb
          go_wp2_with (at_builtin; refine wpList_append8 _ rfl _ _ rfl w.heap.size _ _ [2, 3, (n : Int) / 65536] [(n : Int) / 256 % 256] rfl rfl (by exact HO.out.alloc _) (by exact rd_one _ _) (by have := HB.out.size; simp; omega) (by simp) ?_)
          intro v1 w1 hO1 hg _
          have hb1 := own_app HO.out HB.out hg
          have HO1 := Lib.hid hO1
          have HB1 := Lib.hid hb1
          clear hO1 hb1 hg
          go_wp2
          go_roundw
          case rel => exact ⟨HB1.out, .inr (.inr (.inl ⟨by go_num, HO1.out⟩))⟩
          case measure => decide
        · have HO := Lib.hid hO
          have HB := Lib.hid hb
          clear hO hb
          go_wp2_with (at_builtin; refine wpList_append8 _ rfl _ _ rfl w.heap.size _ _ [2, 3, (n : Int) / 65536, (n : Int) / 256 % 256] [(n : Int) % 256] rfl rfl (by exact HO.out.alloc _) (by exact rd_one _ _) (by have := HB.out.size; simp; omega) (by simp) ?_)
          intro v1 w1 hO1 hg _
          have hb1 := own_app HO.out HB.out hg
          have HO1 := Lib.hid hO1
          have HB1 := Lib.hid hb1
          clear hO1 hb1 hg
          go_wp2
          go_roundw
          case rel => exact ⟨HB1.out, .inr (.inr (.inr (⟨by go_num, HO1.out⟩)))⟩
          case measure => decide
        · have HO := Lib.hid hO
          have HB := Lib.hid hb
          clear hO hb
          go_wp2
          go_ret
          exact ⟨_, rfl, HO.out, HB.out⟩
set_option maxHeartbeats 2000000 in
theorem zzInt_4 (n : Nat) (w : World) (h : 8388608 ≤ n) (h2 : n < 2147483648) : Calls Tryz.prog 89 #[.int .i64 n] w (RetO w [2, 4, (n : Int) / 16777216, (n : Int) / 65536 % 256, (n : Int) / 256 % 256, (n : Int) % 256]) := by
  go_enter Tryz.func89, Tryz.ntmps89
  go_wp2
  go_loop [3, 4] (fun k i => (k = .int .i64 1 ∧ i = .int .i64 ((n : Int))) ∨ (k = .int .i64 2 ∧ i = .int .i64 ((n : Int) / 256)) ∨ (k = .int .i64 3 ∧ i = .int .i64 ((n : Int) / 65536)) ∨ (k = .int .i64 4 ∧ i = .int .i64 ((n : Int) / 16777216))) (fun k _ => (10 - intOf k).toNat)
  case atStart => exact .inl ⟨rfl, rfl⟩
  case round =>
    rcases hrel with ⟨rfl, rfl⟩ | ⟨rfl, rfl⟩ | ⟨rfl, rfl⟩ | ⟨rfl, rfl⟩
    · go_wp2
      go_round
      case rel => exact .inr (.inl ⟨rfl, by rfl⟩)
      case measure => decide
    · go_wp2
      go_round
      case rel => exact .inr (.inr (.inl ⟨rfl, by go_num⟩))
      case measure => decide
    · go_wp2
      go_round
      case rel => exact .inr (.inr (.inr (⟨rfl, by go_num⟩)))
      case measure => decide
    · go_wp2
      go_loopw [5, 6] (fun out i wr => Below w.heap.size w wr ∧ ((i = .int .i64 (3) ∧ Own wr w.heap.size out [2, 4]) ∨ (i = .int .i64 (2) ∧ Own wr w.heap.size out [2, 4, (n : Int) / 16777216]) ∨ (i = .int .i64 (1) ∧ Own wr w.heap.size out [2, 4, (n : Int) / 16777216, (n : Int) / 65536 % 256]) ∨ (i = .int .i64 (0) ∧ Own wr w.heap.size out [2, 4, (n : Int) / 16777216, (n : Int) / 65536 % 256, (n : Int) / 256 % 256]) ∨ (i = .int .i64 (-1) ∧ Own wr w.heap.size out [2, 4, (n : Int) / 16777216, (n : Int) / 65536 % 256, (n : Int) / 256 % 256, (n : Int) % 256]))) (fun _ i _ => (intOf i + 1).toNat)
      case atStart =>
        refine ⟨(Below.refl _ _).alloc (Nat.le_refl _) _, .inl ⟨rfl, ?_⟩⟩
        exact Own.lit w w.heap.size [2, 4] (Nat.le_refl _) (by simp [maxLen])
      case round =>
        obtain ⟨hb, hrel⟩ := hrel
        rcases hrel with ⟨rfl, hO⟩ | ⟨rfl, hO⟩ | ⟨rfl, hO⟩ | ⟨rfl, hO⟩ | ⟨rfl, hO⟩
        · have HO := Lib.hid hO
          have HB := Lib.hid hb
          clear hO hb
          go_wp2_with (at_builtin; refine wpList_append8 _ rfl _ _ rfl w.heap.size _ _ [2, 4] [(n : Int) / 16777216] rfl rfl (by exact HO.out.alloc _) (by exact rd_one _ _) (by have := HB.out.size; simp; omega) (by simp) ?_)
          intro v1 w1 hO1 hg _
          have hb1 := own_app HO.out HB.out hg
          have HO1 := Lib.hid hO1
          have HB1 := Lib.hid hb1
          clear hO1 hb1 hg
          go_wp2
          go_roundw
          case rel => exact ⟨HB1.out, .inr (.inl ⟨by go_num, HO1.out⟩)⟩
          case measure => decide
        · have HO := Lib.hid hO
          have HB := Lib.hid hb
          clear hO hb
          go_wp2_with (at_builtin; refine wpList_append8 _ rfl _ _ rfl w.heap.size _ _ [2, 4, (n : Int) / 16777216] [(n : Int) / 65536 % 256] rfl rfl (by exact HO.out.alloc _) (by exact rd_one _ _) (by have := HB.out.size; simp; omega) (by simp) ?_)
          intro v1 w1 hO1 hg _
          have hb1 := own_app HO.out HB.out hg
          have HO1 := Lib.hid hO1
          have HB1 := Lib.hid hb1
          clear hO1 hb1 hg
          go_wp2
          go_roundw
          case rel => exact ⟨HB1.out, .inr (.inr (.inl ⟨by go_num, HO1.out⟩))⟩
          case measure => decide
        · have HO := Lib.hid hO
          have HB := Lib.hid hb
          clear hO hb
          go_wp2_with (at_builtin; refine wpList_append8 _ rfl _ _ rfl w.heap.size _ _ [2, 4, (n : Int) / 16777216, (n : Int) / 65536 % 256] [(n : Int) / 256 % 256] rfl rfl (by exact HO.out.alloc _) (by exact rd_one _ _) (by have := HB.out.size; simp; omega) (by simp) ?_)
          intro v1 w1 hO1 hg _
          have hb1 := own_app HO.out HB.out hg
          have HO1 := Lib.hid hO1
          have HB1 := Lib.hid hb1
          clear hO1 hb1 hg
          go_wp2
          go_roundw
          case rel => exact ⟨HB1.out, .inr (.inr (.inr (.inl ⟨by go_num, HO1.out⟩)))⟩
          case measure => decide
        · have HO := Lib.hid hO
          have HB := Lib.hid hb
          clear hO hb
          go_wp2_with (at_builtin; refine wpList_append8 _ rfl _ _ rfl w.heap.size _ _ [2, 4, (n : Int) / 16777216, (n : Int) / 65536 % 256, (n : Int) / 256 % 256] [(n : Int) % 256] rfl rfl (by exact HO.out.alloc _) (by exact rd_one _ _) (by have := HB.out.size; simp; omega) (by simp) ?_)
          intro v1 w1 hO1 hg _
          have hb1 := own_app HO.out HB.out hg
          have HO1 := Lib.hid hO1
          have HB1 := Lib.hid hb1
          clear hO1 hb1 hg
          go_wp2
          go_roundw
          case rel => exact ⟨HB1.out, .inr (.inr (.inr (.inr (⟨by go_num, HO1.out⟩))))⟩
          case measure => decide
        · have HO := Lib.hid hO
          have HB := Lib.hid hb
          clear hO hb
          go_wp2
          go_ret
          exact ⟨_, rfl, HO.out, HB.out⟩
/-- An INTEGER whole: its tag, its length, its content. -/
theorem zzInteger (n : Nat) (w : World) (h : n < 2147483648) : Calls Tryz.prog 89 #[.int .i64 n] w (RetO w (sealB 2 (intB n) 0)) := by
  by_cases c1 : n < 128
  · rw [intB_1 n (by omega), show (n : Int) % 256 = n by omega]; exact zzInt_1 n w (by omega) c1
  by_cases c2 : n < 32768
  · rw [intB_2 n (by omega) (by omega), show (n : Int) / 256 % 256 = n / 256 by omega]; exact zzInt_2 n w (by omega) c2
  by_cases c3 : n < 8388608
  · rw [intB_3 n (by omega) (by omega), show (n : Int) / 65536 % 256 = n / 65536 by omega]; exact zzInt_3 n w (by omega) c3
  · rw [intB_4 n (by omega) (by omega), show (n : Int) / 16777216 % 256 = n / 16777216 by omega]; exact zzInt_4 n w (by omega) h
set_option maxHeartbeats 400000 in
theorem shrinkUint (w : World) (b : Nat) (v : Value) (l : List Int) (n : Nat) (hB : Buf w b v l) (h : n < 2147483648) (hlim : l.length ≤ 100000000000) :
    Calls Tryz.prog 70 #[.pointer (some ⟨b, 0, none⟩), .int .i64 n] w fun e w' => e = .returned .nilIface ∧ Wrote w b v (l ++ sealB 2 (intB n) 0) w' := by
  have hlen : (sealB 2 (intB n) 0).length ≤ 10 := by
    have h1 := intB_short n h
    have h2 := lenB_length (intB n).length 0 (by omega)
    unfold sealB
    simp only [List.length_cons, List.length_append]
    omega
  have HL := Lib.hid hlen
  clear hlen
  go_enter Tryz.func70, Tryz.ntmps70
  go_wp2_with (go_at_call 89; refine (zzInteger n _ h).mono ?_; rintro e W1 ⟨v1, rfl, hO, hb1⟩; refine Hid.out ?_)
  refine Lib.hid ?_
  have hB1 := hB.keptBelow hb1
  have hne : sealB 2 (intB n) 0 ≠ [] := by simp [sealB]
  go_wp2_with (go_at_call 50; refine (write _ b v v1 l _ hB1 hO.reads (hO.newer.apart (X := [b]) (by intro k hk; rw [List.mem_singleton.1 hk]; exact hB.lt)) (.inr hne) (by have := HL.out; omega)).mono ?_; rintro e W2 ⟨rfl, hw2⟩; refine Hid.out ?_)
  refine Lib.hid ?_
  have HW := Lib.hid (Wrote.below hb1 hw2)
  clear hw2 hB1
  go_wp2
  go_ret
  exact ⟨rfl, HW.out⟩
end Go.Proofs.YtpfmcdhmboclhaaGreatDoor
namespace Go.Proofs.YtpfmcdhmboclhaaGreatDoor
open Go.RowKit
set_option maxHeartbeats 8000000 in
set_option maxRecDepth 100000 in
theorem marshalPDU_bulk (w : World) (P : Nat) (id s i : Nat) (v : Value) (l : List AV) (z : Addr) (hz : NetLaid w z)
    (h2 : w.cell? ⟨P, 2, none⟩ = some (.int .u8 165)) (h10 : w.cell? ⟨P, 10, none⟩ = some v) (h4 : w.cell? ⟨P, 4, none⟩ = some (.int .u32 id)) (hx : w.cell? ⟨P, 8, none⟩ = some (.int .u8 s)) (hy : w.cell? ⟨P, 9, none⟩ = some (.int .u32 i))
    (hid : id < 2147483648) (hs : s < 128) (hi : i < 128) (hpr : PduRow w v l) (hok : ∀ x ∈ l, x.Ok) (hln : l.length ≤ 20) :
    Calls Tryz.prog 53 #[.pointer (some ⟨P, 0, none⟩)] w (RetB w (sealB 165 (bodyB id s i l 0) 0)) := by
  have HZ := Lib.hid hz
  have HPR := Lib.hid hpr
  have HOK := Lib.hid hok
  have HLN := Lib.hid hln
  have H2 := Lib.hid h2
  have H10 := Lib.hid h10
  have HO0 := Lib.hid (OB.start (Below.refl w.heap.size w))
  have HX := Lib.hid hx
  have HY := Lib.hid hy
  have HID := Lib.hid hid
  have HSS := Lib.hid hs
  have HII := Lib.hid hi
  have c2 := cellB HO0.out.below h2
  have c4 := cellB HO0.out.below h4
  have HL0 : Hid (([] : List Int).length ≤ 0) := Nat.le_refl _
  have ta1 := ta_5_5
  have ta2 := ta_5_22
  have ta3 := ta_5_24
  have ta4 := ta_22_22
  clear hz h2 h10 h4 hx hy hs hi hpr hok hln
  have hid' : (id : Int) < 2147483648 := by omega
  clear hid
  go_enter Tryz.func53, Tryz.ntmps53
  go_wp2_with (go_at_call 70; refine (shrinkUint _ w.heap.size _ [] id (by exact HO0.out.tb) HID.out (by simp)).mono ?_; rintro e W2 ⟨rfl, hw⟩; refine Hid.out ?_)
  refine Lib.hid ?_
  obtain ⟨vt2, hO⟩ := HO0.out.wrote hw
  obtain ⟨l2, hl⟩ : ∃ l', l' = [] ++ sealB 2 (intB id) 0 := ⟨_, rfl⟩
  rw [← hl] at hO
  have HO2 := Lib.hid hO
  have HL2 : Hid (l2.length ≤ 8) := by show l2.length ≤ 8; rw [hl]; have := intB_short id HID.out; have := sealB_length 2 (intB id) 0 (by omega); simp; omega
  have HE2 := Lib.hid hl
  clear hw hO hl HO0 c2 c4 hid'
  have cx := cellB HO2.out.below HX.out
  go_wp2_with (go_at_call 71; refine (u32_5_3 s _ (by omega) HSS.out).mono ?_; rintro e W3 ⟨vc3, rfl, hr, hn, hb⟩; refine Hid.out ?_)
  refine Lib.hid ?_
  have HA3 := Lib.hid (HO2.out.apart_new hn)
  have HO3 := Lib.hid (HO2.out.more hb)
  have HR3 := Lib.hid hr
  clear hr hn hb HO2
  have HL3 := HL2
  clear cx HL2
  obtain ⟨k3, hk3⟩ : ∃ k, k = ([(s : Int)]).length := ⟨_, rfl⟩
  have hkl : k3 ≤ 1 := by rw [hk3]; exact (by simp)
  have HK3 := Lib.hid hk3
  have hlen := HR3.out.len k3 hk3
  clear hk3
  have HTT := Lib.hid (HO3.out.two 2 (k3 : Int))
  go_wp2_with (go_at_call 50; refine (write _ w.heap.size _ _ _ [2, (k3 : Int)] (by exact HTT.out.1.tb) (by exact HTT.out.2.1) (by exact HTT.out.2.2) (by right; simp) (by have := HL3.out; simp; omega)).mono ?_; rintro e W4 ⟨rfl, hw⟩; refine Hid.out ?_)
  refine Lib.hid ?_
  have HR4 := Lib.hid (HTT.out.1.keeps hw (HR3.out.keptBelow ((Below.refl _ _).alloc (Nat.le_refl _) _)) HA3.out)
  obtain ⟨vt4, hO⟩ := HTT.out.1.wrote hw
  have HAA := Lib.hid (OB.head HA3.out)
  obtain ⟨l4, hl⟩ : ∃ l', l' = l2 ++ [2, (k3 : Int)] := ⟨_, rfl⟩
  rw [← hl] at hO
  have HO4 := Lib.hid hO
  have HL4 : Hid (l4.length ≤ 10) := by show l4.length ≤ 10; rw [hl]; have := HL3.out; simp; omega
  have HE4 := Lib.hid hl
  clear hw hO hl hlen HTT HO3 HR3 HA3 HL3
  go_wp2_with (go_at_call 50; refine (write _ w.heap.size _ _ _ _ (by exact HO4.out.tb) HR4.out HAA.out (by left; rw [HE4.out]; simp) (by have := HL4.out; have : ([(s : Int)]).length ≤ 1 := (by simp); omega)).mono ?_; rintro e W5 ⟨rfl, hw⟩; refine Hid.out ?_)
  refine Lib.hid ?_
  obtain ⟨vt5, hO⟩ := HO4.out.wrote hw
  obtain ⟨l5, hl⟩ : ∃ l', l' = l4 ++ [(s : Int)] := ⟨_, rfl⟩
  rw [← hl] at hO
  have HO5 := Lib.hid hO
  have HL5 : Hid (l5.length ≤ 11) := by show l5.length ≤ 11; rw [hl]; have := HL4.out; have : ([(s : Int)]).length ≤ 1 := (by simp); simp; omega
  have HE5 := Lib.hid hl
  clear hw hO hl hkl HAA HO4 HR4 HL4
  have cx := cellB HO5.out.below HY.out
  go_wp2_with (go_at_call 71; refine (u32_22_3 i _ (by omega) HII.out).mono ?_; rintro e W6 ⟨vc6, rfl, hr, hn, hb⟩; refine Hid.out ?_)
  refine Lib.hid ?_
  have HA6 := Lib.hid (HO5.out.apart_new hn)
  have HO6 := Lib.hid (HO5.out.more hb)
  have HR6 := Lib.hid hr
  clear hr hn hb HO5
  have HL6 := HL5
  clear cx HL5
  obtain ⟨k6, hk6⟩ : ∃ k, k = ([(i : Int)]).length := ⟨_, rfl⟩
  have hkl : k6 ≤ 1 := by rw [hk6]; exact (by simp)
  have HK6 := Lib.hid hk6
  have hlen := HR6.out.len k6 hk6
  clear hk6
  have HTT := Lib.hid (HO6.out.two 2 (k6 : Int))
  go_wp2_with (go_at_call 50; refine (write _ w.heap.size _ _ _ [2, (k6 : Int)] (by exact HTT.out.1.tb) (by exact HTT.out.2.1) (by exact HTT.out.2.2) (by right; simp) (by have := HL6.out; simp; omega)).mono ?_; rintro e W7 ⟨rfl, hw⟩; refine Hid.out ?_)
  refine Lib.hid ?_
  have HR7 := Lib.hid (HTT.out.1.keeps hw (HR6.out.keptBelow ((Below.refl _ _).alloc (Nat.le_refl _) _)) HA6.out)
  obtain ⟨vt7, hO⟩ := HTT.out.1.wrote hw
  have HAA := Lib.hid (OB.head HA6.out)
  obtain ⟨l7, hl⟩ : ∃ l', l' = l5 ++ [2, (k6 : Int)] := ⟨_, rfl⟩
  rw [← hl] at hO
  have HO7 := Lib.hid hO
  have HL7 : Hid (l7.length ≤ 13) := by show l7.length ≤ 13; rw [hl]; have := HL6.out; simp; omega
  have HE7 := Lib.hid hl
  clear hw hO hl hlen HTT HO6 HR6 HA6 HL6
  go_wp2_with (go_at_call 50; refine (write _ w.heap.size _ _ _ _ (by exact HO7.out.tb) HR7.out HAA.out (by left; rw [HE7.out]; simp) (by have := HL7.out; have : ([(i : Int)]).length ≤ 1 := (by simp); omega)).mono ?_; rintro e W8 ⟨rfl, hw⟩; refine Hid.out ?_)
  refine Lib.hid ?_
  obtain ⟨vt8, hO⟩ := HO7.out.wrote hw
  obtain ⟨l8, hl⟩ : ∃ l', l' = l7 ++ [(i : Int)] := ⟨_, rfl⟩
  rw [← hl] at hO
  have HO8 := Lib.hid hO
  have HL8 : Hid (l8.length ≤ 14) := by show l8.length ≤ 14; rw [hl]; have := HL7.out; have : ([(i : Int)]).length ≤ 1 := (by simp); simp; omega
  have HE8 := Lib.hid hl
  clear hw hO hl hkl HAA HO7 HR7 HL7
  have c10 := cellB HO8.out.below H10.out
  have HZ2 := Lib.hid (HZ.out.below HO8.out.below)
  have HPR2 := Lib.hid (HPR.out.below HO8.out.below)
  go_wp2_with (go_at_call 73; refine (marshalVBL _ P v l z HZ2.out c10 HPR2.out HOK.out HLN.out).mono ?_; rintro e V1 ⟨u1, rfl, hr, hn, hb⟩; refine Hid.out ?_)
  refine Lib.hid ?_
  have HA := Lib.hid (OB.head (HO8.out.apart_new hn))
  have HB := Lib.hid (HO8.out.more hb)
  have HR := Lib.hid hr
  have hvl : (sealB 48 (varsB l 0) 0).length ≤ 12400 := by
    have h1 := varsB_length l 0 (by omega) HOK.out
    have h3 := HLN.out
    have h2 := sealB_length 48 (varsB l 0) 0 (by omega)
    omega
  have HVL := Lib.hid hvl
  clear hr hn hb HO8 c10 hvl
  go_wp2_with (go_at_call 50; refine (write _ w.heap.size _ _ _ _ (by exact HB.out.tb) HR.out HA.out (by right; simp [sealB]) (by have := HL8.out; have := HVL.out; omega)).mono ?_; rintro e V2 ⟨rfl, hw⟩; refine Hid.out ?_)
  refine Lib.hid ?_
  obtain ⟨u2, hO⟩ := HB.out.wrote hw
  obtain ⟨L, hl⟩ : ∃ l', l' = bodyB id s i l 0 := ⟨_, rfl⟩
  have hle : l8 ++ sealB 48 (varsB l 0) 0 = L := by
    rw [hl]
    rw [HE8.out, HE7.out, HE5.out, HE4.out, HE2.out, HK3.out, HK6.out]
    have e1 := intB_small s HSS.out
    have e2 := intB_small i HII.out
    rw [bodyB, ← e1, ← e2, seal2 2 [(s : Int)] (by simp), seal2 2 [(i : Int)] (by simp)]
    simp
  rw [hle] at hO
  have hLL : L.length ≤ 13000 := by rw [← hle]; have := HL8.out; have := HVL.out; simp; omega
  have hne : L ≠ [] := by rw [← hle]; simp [sealB]
  have HQ := Lib.hid hl
  have HLL := Lib.hid hLL
  have HNE := Lib.hid hne
  have HO := Lib.hid (TB.start hO)
  have HC := Lib.hid (bufLen' HO.out.o1.tb)
  clear hw hO hl hle hLL hne HB HR HA HVL HL8
  go_wp2_with (go_at_call 56; refine (HC.out).mono ?_; rintro e V3 ⟨rfl, k3, rfl⟩; refine Hid.out ?_)
  refine Lib.hid ?_
  have HO3 := Lib.hid (HO.out.more (drewN_below _ k3))
  clear HC HO
  go_wp2_with (go_at_call 55; refine (marshalLength L.length _ (by have := HLL.out; omega)).mono ?_; rintro e V4 ⟨u4, rfl, hr, hn, hb⟩; refine Hid.out ?_)
  refine Lib.hid ?_
  have HA4 := Lib.hid (HO3.out.o2.apart_new hn)
  have HO4 := Lib.hid (HO3.out.more hb)
  have HR4 := Lib.hid hr
  have c2 := cellB HO4.out.o1.below H2.out
  clear hr hn hb HO3
  go_wp2_with (go_at_call 54; refine (writeByte _ _ _ [] _ (by exact HO4.out.o2.tb) (by simp)).mono ?_; rintro e V5 ⟨rfl, hw⟩; refine Hid.out ?_)
  refine Lib.hid ?_
  have HR5 := Lib.hid (HO4.out.o2.keeps hw HR4.out HA4.out)
  have HA5 := Lib.hid (OB.head HA4.out)
  obtain ⟨u5, hO⟩ := HO4.out.wrote hw
  have HO5 := Lib.hid hO
  have hl7 := lenB_length L.length 0 (by have := HLL.out; omega)
  have HL7 := Lib.hid hl7
  clear hw hO c2 HO4 HR4 HA4 hl7
  go_wp2_with (go_at_call 50; refine (write _ _ _ _ _ _ (by exact HO5.out.o2.tb) HR5.out HA5.out (by left; simp) (by have := HL7.out; simp; omega)).mono ?_; rintro e V6 ⟨rfl, hw⟩; refine Hid.out ?_)
  refine Lib.hid ?_
  obtain ⟨u6, hO⟩ := HO5.out.wrote hw
  have HO6 := Lib.hid hO
  clear hw hO HO5 HR5 HA5
  go_wp2_with (go_at_call 57; refine (writeTo _ _ _ _ _ _ _ (by exact HO6.out.o1.tb) (by exact HO6.out.o2.tb) HO6.out.ne.1 HNE.out HO6.out.ne.2.1 HO6.out.ne.2.2 (by have := HL7.out; have := HLL.out; simp; omega)).mono ?_; rintro e V7 ⟨rfl, hm⟩; refine Hid.out ?_)
  refine Lib.hid ?_
  obtain ⟨u7, hO⟩ := HO6.out.moved hm
  have HO7 := Lib.hid hO
  clear hm hO HO6
  have HRET : Hid (∀ k, RetB w (sealB 165 (bodyB id s i l 0) 0) (.returned (.tuple #[u7, .nilIface])) (V7.drewN k)) := by
    intro k
    refine (HO7.out.more (drewN_below _ k)).ret.of_eq ?_
    rw [← HQ.out]
    simp [sealB]
  go_wp2_with (go_at_call 58; refine (bufBytes' HO7.out.tb).mono ?_; rintro e V8 ⟨rfl, k8, rfl⟩; refine Hid.out ?_)
  refine Lib.hid ?_
  go_wp2
  go_ret2
  exact HRET.out k8
end Go.Proofs.YtpfmcdhmboclhaaGreatDoor
