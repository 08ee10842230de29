/- gosnmp: a number to the base 128, appended. THE PLAIN MATHEMATICS OF NAMES IN DOTTED FIGURES. gosnmp: the content of a name, out of dotted figures. -/
import Derived.Test.YtpfmcdhmboclhaaGreatDoorG03
set_option linter.unusedVariables false
set_option linter.unusedSimpArgs false
namespace Go.Proofs.YtpfmcdhmboclhaaGreatDoor
open Go.RowKit
set_option maxHeartbeats 2000000 in
set_option maxRecDepth 100000 in
theorem b128_c3 (n : Nat) (w : World) (base : Nat) (v : Value) (l : List Int) (hO : Own w base v l) (hb : base ≤ w.heap.size) (hlim : l.length ≤ 100000000000) (h : 16384 ≤ n) (h2 : n < 2097152) : Calls Tryz.prog 108 #[v, .int .i64 n] w (RetA w base (l ++ [(n : Int) / 16384 + 128, (n : Int) / 128 % 128 + 128, (n : Int) % 128])) := by
  have hnz : ((n : Int) == 0) = false := by simp; omega
  have HO := Lib.hid hO
  clear hO
  go_enter Tryz.func108, Tryz.ntmps108
  go_wp2
  go_loop [5, 6] (fun k i => (k = .int .i64 0 ∧ i = .int .i64 ((n : Int))) ∨ (k = .int .i64 1 ∧ i = .int .i64 ((n : Int) / 128)) ∨ (k = .int .i64 2 ∧ i = .int .i64 ((n : Int) / 16384)) ∨ (k = .int .i64 3 ∧ i = .int .i64 (0))) (fun k _ => (10 - intOf k).toNat)
  case atStart => exact .inl ⟨rfl, rfl⟩
  case round =>
    rcases hrel with ⟨rfl, rfl⟩ | ⟨rfl, rfl⟩ | ⟨rfl, rfl⟩ | ⟨rfl, rfl⟩
    · go_wp2
      go_round
      case rel => exact .inr (.inl ⟨rfl, by go_num⟩)
      case measure => decide
    · go_wp2
      go_round
      case rel => exact .inr (.inr (.inl ⟨rfl, by go_num⟩))
      case measure => decide
    · have hd : (n : Int) / 16384 / 128 = 0 := by omega
      go_wp2
      go_round
      case rel => exact .inr (.inr (.inr (⟨rfl, by go_num⟩)))
      case measure => decide
    · clear hnz
      go_wp2
      go_loopw [0, 7, 8] (fun out i _ wr => Below base w wr ∧ ((i = .int .i64 (2) ∧ Own wr base out l) ∨ (i = .int .i64 (1) ∧ Own wr base out (l ++ [(n : Int) / 16384 + 128])) ∨ (i = .int .i64 (0) ∧ Own wr base out (l ++ [(n : Int) / 16384 + 128, (n : Int) / 128 % 128 + 128])) ∨ (i = .int .i64 (-1) ∧ Own wr base out (l ++ [(n : Int) / 16384 + 128, (n : Int) / 128 % 128 + 128, (n : Int) % 128])))) (fun _ i _ _ => (intOf i + 1).toNat)
      case atStart => exact ⟨Below.refl _ _, .inl ⟨rfl, HO.out⟩⟩
      case round =>
        obtain ⟨hbl, hrel⟩ := hrel
        rcases hrel with ⟨rfl, hO⟩ | ⟨rfl, hO⟩ | ⟨rfl, hO⟩ | ⟨rfl, hO⟩
        · have HO := Lib.hid hO
          have HB := Lib.hid hbl
          have hbit : bits .or .u8 (bits .and .u8 ((n : Int) / 16384 % 256) 127) 128 = (n : Int) / 16384 + 128 := sept _ _ (by omega) (by omega)
          have hbit2 : bits .or .u8 (bits .and .u8 ((n : Int) / 16384) 127) 128 = (n : Int) / 16384 + 128 := by have := sept ((n : Int) / 16384) ((n : Int) / 16384) (by omega) (by omega); rwa [show (n : Int) / 16384 % 256 = (n : Int) / 16384 by omega] at this
          clear hO hbl
          go_wp2_with (at_builtin; refine wpList_append8 _ rfl _ _ rfl base _ _ l [(n : Int) / 16384 + 128] rfl rfl (by exact HO.out.alloc _) (by exact rd_one _ _) (by have := HB.out.size; simp; omega) (by simp; omega) ?_)
          intro v1 w1 hO1 hg _
          have HB1 := Lib.hid (app_below HO.out HB.out hb hg)
          have HO1 : Hid (Own w1 base v1 (l ++ [(n : Int) / 16384 + 128])) := hO1
          clear hO1 hg
          go_wp2
          go_roundw
          case rel => exact ⟨HB1.out, .inr (.inl ⟨by go_num, HO1.out⟩)⟩
          case measure => decide
        · have HO := Lib.hid hO
          have HB := Lib.hid hbl
          have hbit : bits .or .u8 (bits .and .u8 ((n : Int) / 128 % 256) 127) 128 = (n : Int) / 128 % 128 + 128 := sept _ _ (by omega) (by omega)
          clear hO hbl
          go_wp2_with (at_builtin; refine wpList_append8 _ rfl _ _ rfl base _ _ (l ++ [(n : Int) / 16384 + 128]) [(n : Int) / 128 % 128 + 128] rfl rfl (by exact HO.out.alloc _) (by exact rd_one _ _) (by have := HB.out.size; simp; omega) (by simp; omega) ?_)
          intro v1 w1 hO1 hg _
          have HB1 := Lib.hid (app_below HO.out HB.out hb hg)
          have HO1 : Hid (Own w1 base v1 (l ++ [(n : Int) / 16384 + 128, (n : Int) / 128 % 128 + 128])) := Lib.hid (by simpa using hO1)
          clear hO1 hg
          go_wp2
          go_roundw
          case rel => exact ⟨HB1.out, .inr (.inr (.inl ⟨by go_num, HO1.out⟩))⟩
          case measure => decide
        · have HO := Lib.hid hO
          have HB := Lib.hid hbl
          have hbit : bits .and .u8 ((n : Int) % 256) 127 = (n : Int) % 128 := low7 _ (by omega)
          clear hO hbl
          go_wp2_with (at_builtin; refine wpList_append8 _ rfl _ _ rfl base _ _ (l ++ [(n : Int) / 16384 + 128, (n : Int) / 128 % 128 + 128]) [(n : Int) % 128] rfl rfl (by exact HO.out.alloc _) (by exact rd_one _ _) (by have := HB.out.size; simp; omega) (by simp; omega) ?_)
          intro v1 w1 hO1 hg _
          have HB1 := Lib.hid (app_below HO.out HB.out hb hg)
          have HO1 : Hid (Own w1 base v1 (l ++ [(n : Int) / 16384 + 128, (n : Int) / 128 % 128 + 128, (n : Int) % 128])) := Lib.hid (by simpa using hO1)
          clear hO1 hg
          go_wp2
          go_roundw
          case rel => exact ⟨HB1.out, .inr (.inr (.inr (⟨by go_num, HO1.out⟩)))⟩
          case measure => decide
        · have HR : Hid (RetA w base (l ++ [(n : Int) / 16384 + 128, (n : Int) / 128 % 128 + 128, (n : Int) % 128]) (.returned _) wr) := ⟨_, rfl, hO, hbl⟩
          clear hO hbl
          go_wp2
          go_ret
          exact HR.out
set_option maxHeartbeats 2000000 in
set_option maxRecDepth 100000 in
theorem b128_c4 (n : Nat) (w : World) (base : Nat) (v : Value) (l : List Int) (hO : Own w base v l) (hb : base ≤ w.heap.size) (hlim : l.length ≤ 100000000000) (h : 2097152 ≤ n) (h2 : n < 268435456) : Calls Tryz.prog 108 #[v, .int .i64 n] w (RetA w base (l ++ [(n : Int) / 2097152 + 128, (n : Int) / 16384 % 128 + 128, (n : Int) / 128 % 128 + 128, (n : Int) % 128])) := by
  have hnz : ((n : Int) == 0) = false := by simp; omega
  have HO := Lib.hid hO
  clear hO
  go_enter Tryz.func108, Tryz.ntmps108
  go_wp2
  go_loop [5, 6] (fun k i => (k = .int .i64 0 ∧ i = .int .i64 ((n : Int))) ∨ (k = .int .i64 1 ∧ i = .int .i64 ((n : Int) / 128)) ∨ (k = .int .i64 2 ∧ i = .int .i64 ((n : Int) / 16384)) ∨ (k = .int .i64 3 ∧ i = .int .i64 ((n : Int) / 2097152)) ∨ (k = .int .i64 4 ∧ i = .int .i64 (0))) (fun k _ => (10 - intOf k).toNat)
  case atStart => exact .inl ⟨rfl, rfl⟩
  case round =>
    rcases hrel with ⟨rfl, rfl⟩ | ⟨rfl, rfl⟩ | ⟨rfl, rfl⟩ | ⟨rfl, rfl⟩ | ⟨rfl, rfl⟩
    · go_wp2
      go_round
      case rel => exact .inr (.inl ⟨rfl, by go_num⟩)
      case measure => decide
    · go_wp2
      go_round
      case rel => exact .inr (.inr (.inl ⟨rfl, by go_num⟩))
      case measure => decide
    · go_wp2
      go_round
      case rel => exact .inr (.inr (.inr (.inl ⟨rfl, by go_num⟩)))
      case measure => decide
    · have hd : (n : Int) / 2097152 / 128 = 0 := by omega
      go_wp2
      go_round
      case rel => exact .inr (.inr (.inr (.inr (⟨rfl, by go_num⟩))))
      case measure => decide
    · clear hnz
      go_wp2
      go_loopw [0, 7, 8] (fun out i _ wr => Below base w wr ∧ ((i = .int .i64 (3) ∧ Own wr base out l) ∨ (i = .int .i64 (2) ∧ Own wr base out (l ++ [(n : Int) / 2097152 + 128])) ∨ (i = .int .i64 (1) ∧ Own wr base out (l ++ [(n : Int) / 2097152 + 128, (n : Int) / 16384 % 128 + 128])) ∨ (i = .int .i64 (0) ∧ Own wr base out (l ++ [(n : Int) / 2097152 + 128, (n : Int) / 16384 % 128 + 128, (n : Int) / 128 % 128 + 128])) ∨ (i = .int .i64 (-1) ∧ Own wr base out (l ++ [(n : Int) / 2097152 + 128, (n : Int) / 16384 % 128 + 128, (n : Int) / 128 % 128 + 128, (n : Int) % 128])))) (fun _ i _ _ => (intOf i + 1).toNat)
      case atStart => exact ⟨Below.refl _ _, .inl ⟨rfl, HO.out⟩⟩
      case round =>
        obtain ⟨hbl, hrel⟩ := hrel
        rcases hrel with ⟨rfl, hO⟩ | ⟨rfl, hO⟩ | ⟨rfl, hO⟩ | ⟨rfl, hO⟩ | ⟨rfl, hO⟩
        · have HO := Lib.hid hO
          have HB := Lib.hid hbl
          have hbit : bits .or .u8 (bits .and .u8 ((n : Int) / 2097152 % 256) 127) 128 = (n : Int) / 2097152 + 128 := sept _ _ (by omega) (by omega)
          have hbit2 : bits .or .u8 (bits .and .u8 ((n : Int) / 2097152) 127) 128 = (n : Int) / 2097152 + 128 := by have := sept ((n : Int) / 2097152) ((n : Int) / 2097152) (by omega) (by omega); rwa [show (n : Int) / 2097152 % 256 = (n : Int) / 2097152 by omega] at this
          clear hO hbl
          go_wp2_with (at_builtin; refine wpList_append8 _ rfl _ _ rfl base _ _ l [(n : Int) / 2097152 + 128] rfl rfl (by exact HO.out.alloc _) (by exact rd_one _ _) (by have := HB.out.size; simp; omega) (by simp; omega) ?_)
          intro v1 w1 hO1 hg _
          have HB1 := Lib.hid (app_below HO.out HB.out hb hg)
          have HO1 : Hid (Own w1 base v1 (l ++ [(n : Int) / 2097152 + 128])) := hO1
          clear hO1 hg
          go_wp2
          go_roundw
          case rel => exact ⟨HB1.out, .inr (.inl ⟨by go_num, HO1.out⟩)⟩
          case measure => decide
        · have HO := Lib.hid hO
          have HB := Lib.hid hbl
          have hbit : bits .or .u8 (bits .and .u8 ((n : Int) / 16384 % 256) 127) 128 = (n : Int) / 16384 % 128 + 128 := sept _ _ (by omega) (by omega)
          clear hO hbl
          go_wp2_with (at_builtin; refine wpList_append8 _ rfl _ _ rfl base _ _ (l ++ [(n : Int) / 2097152 + 128]) [(n : Int) / 16384 % 128 + 128] rfl rfl (by exact HO.out.alloc _) (by exact rd_one _ _) (by have := HB.out.size; simp; omega) (by simp; omega) ?_)
          intro v1 w1 hO1 hg _
          have HB1 := Lib.hid (app_below HO.out HB.out hb hg)
          have HO1 : Hid (Own w1 base v1 (l ++ [(n : Int) / 2097152 + 128, (n : Int) / 16384 % 128 + 128])) := Lib.hid (by simpa using hO1)
          clear hO1 hg
          go_wp2
          go_roundw
          case rel => exact ⟨HB1.out, .inr (.inr (.inl ⟨by go_num, HO1.out⟩))⟩
          case measure => decide
        · have HO := Lib.hid hO
          have HB := Lib.hid hbl
          have hbit : bits .or .u8 (bits .and .u8 ((n : Int) / 128 % 256) 127) 128 = (n : Int) / 128 % 128 + 128 := sept _ _ (by omega) (by omega)
          clear hO hbl
          go_wp2_with (at_builtin; refine wpList_append8 _ rfl _ _ rfl base _ _ (l ++ [(n : Int) / 2097152 + 128, (n : Int) / 16384 % 128 + 128]) [(n : Int) / 128 % 128 + 128] rfl rfl (by exact HO.out.alloc _) (by exact rd_one _ _) (by have := HB.out.size; simp; omega) (by simp; omega) ?_)
          intro v1 w1 hO1 hg _
          have HB1 := Lib.hid (app_below HO.out HB.out hb hg)
          have HO1 : Hid (Own w1 base v1 (l ++ [(n : Int) / 2097152 + 128, (n : Int) / 16384 % 128 + 128, (n : Int) / 128 % 128 + 128])) := Lib.hid (by simpa using hO1)
          clear hO1 hg
          go_wp2
          go_roundw
          case rel => exact ⟨HB1.out, .inr (.inr (.inr (.inl ⟨by go_num, HO1.out⟩)))⟩
          case measure => decide
        · have HO := Lib.hid hO
          have HB := Lib.hid hbl
          have hbit : bits .and .u8 ((n : Int) % 256) 127 = (n : Int) % 128 := low7 _ (by omega)
          clear hO hbl
          go_wp2_with (at_builtin; refine wpList_append8 _ rfl _ _ rfl base _ _ (l ++ [(n : Int) / 2097152 + 128, (n : Int) / 16384 % 128 + 128, (n : Int) / 128 % 128 + 128]) [(n : Int) % 128] rfl rfl (by exact HO.out.alloc _) (by exact rd_one _ _) (by have := HB.out.size; simp; omega) (by simp; omega) ?_)
          intro v1 w1 hO1 hg _
          have HB1 := Lib.hid (app_below HO.out HB.out hb hg)
          have HO1 : Hid (Own w1 base v1 (l ++ [(n : Int) / 2097152 + 128, (n : Int) / 16384 % 128 + 128, (n : Int) / 128 % 128 + 128, (n : Int) % 128])) := Lib.hid (by simpa using hO1)
          clear hO1 hg
          go_wp2
          go_roundw
          case rel => exact ⟨HB1.out, .inr (.inr (.inr (.inr (⟨by go_num, HO1.out⟩))))⟩
          case measure => decide
        · have HR : Hid (RetA w base (l ++ [(n : Int) / 2097152 + 128, (n : Int) / 16384 % 128 + 128, (n : Int) / 128 % 128 + 128, (n : Int) % 128]) (.returned _) wr) := ⟨_, rfl, hO, hbl⟩
          clear hO hbl
          go_wp2
          go_ret
          exact HR.out
set_option maxHeartbeats 2000000 in
set_option maxRecDepth 100000 in
theorem b128_c5 (n : Nat) (w : World) (base : Nat) (v : Value) (l : List Int) (hO : Own w base v l) (hb : base ≤ w.heap.size) (hlim : l.length ≤ 100000000000) (h : 268435456 ≤ n) (h2 : n < 4294967296) : Calls Tryz.prog 108 #[v, .int .i64 n] w (RetA w base (l ++ [(n : Int) / 268435456 + 128, (n : Int) / 2097152 % 128 + 128, (n : Int) / 16384 % 128 + 128, (n : Int) / 128 % 128 + 128, (n : Int) % 128])) := by
  have hnz : ((n : Int) == 0) = false := by simp; omega
  have HO := Lib.hid hO
  clear hO
  go_enter Tryz.func108, Tryz.ntmps108
  go_wp2
  go_loop [5, 6] (fun k i => (k = .int .i64 0 ∧ i = .int .i64 ((n : Int))) ∨ (k = .int .i64 1 ∧ i = .int .i64 ((n : Int) / 128)) ∨ (k = .int .i64 2 ∧ i = .int .i64 ((n : Int) / 16384)) ∨ (k = .int .i64 3 ∧ i = .int .i64 ((n : Int) / 2097152)) ∨ (k = .int .i64 4 ∧ i = .int .i64 ((n : Int) / 268435456)) ∨ (k = .int .i64 5 ∧ i = .int .i64 (0))) (fun k _ => (10 - intOf k).toNat)
  case atStart => exact .inl ⟨rfl, rfl⟩
  case round =>
    rcases hrel with ⟨rfl, rfl⟩ | ⟨rfl, rfl⟩ | ⟨rfl, rfl⟩ | ⟨rfl, rfl⟩ | ⟨rfl, rfl⟩ | ⟨rfl, rfl⟩
    · go_wp2
      go_round
      case rel => exact .inr (.inl ⟨rfl, by go_num⟩)
      case measure => decide
    · go_wp2
      go_round
      case rel => exact .inr (.inr (.inl ⟨rfl, by go_num⟩))
      case measure => decide
    · go_wp2
      go_round
      case rel => exact .inr (.inr (.inr (.inl ⟨rfl, by go_num⟩)))
      case measure => decide
    · go_wp2
      go_round
      case rel => exact .inr (.inr (.inr (.inr (.inl ⟨rfl, by go_num⟩))))
      case measure => decide
    · have hd : (n : Int) / 268435456 / 128 = 0 := by omega
      go_wp2
      go_round
      case rel => exact .inr (.inr (.inr (.inr (.inr (⟨rfl, by go_num⟩)))))
      case measure => decide
    · clear hnz
      go_wp2
      go_loopw [0, 7, 8] (fun out i _ wr => Below base w wr ∧ ((i = .int .i64 (4) ∧ Own wr base out l) ∨ (i = .int .i64 (3) ∧ Own wr base out (l ++ [(n : Int) / 268435456 + 128])) ∨ (i = .int .i64 (2) ∧ Own wr base out (l ++ [(n : Int) / 268435456 + 128, (n : Int) / 2097152 % 128 + 128])) ∨ (i = .int .i64 (1) ∧ Own wr base out (l ++ [(n : Int) / 268435456 + 128, (n : Int) / 2097152 % 128 + 128, (n : Int) / 16384 % 128 + 128])) ∨ (i = .int .i64 (0) ∧ Own wr base out (l ++ [(n : Int) / 268435456 + 128, (n : Int) / 2097152 % 128 + 128, (n : Int) / 16384 % 128 + 128, (n : Int) / 128 % 128 + 128])) ∨ (i = .int .i64 (-1) ∧ Own wr base out (l ++ [(n : Int) / 268435456 + 128, (n : Int) / 2097152 % 128 + 128, (n : Int) / 16384 % 128 + 128, (n : Int) / 128 % 128 + 128, (n : Int) % 128])))) (fun _ i _ _ => (intOf i + 1).toNat)
      case atStart => exact ⟨Below.refl _ _, .inl ⟨rfl, HO.out⟩⟩
      case round =>
        obtain ⟨hbl, hrel⟩ := hrel
        rcases hrel with ⟨rfl, hO⟩ | ⟨rfl, hO⟩ | ⟨rfl, hO⟩ | ⟨rfl, hO⟩ | ⟨rfl, hO⟩ | ⟨rfl, hO⟩
        · have HO := Lib.hid hO
          have HB := Lib.hid hbl
          have hbit : bits .or .u8 (bits .and .u8 ((n : Int) / 268435456 % 256) 127) 128 = (n : Int) / 268435456 + 128 := sept _ _ (by omega) (by omega)
          have hbit2 : bits .or .u8 (bits .and .u8 ((n : Int) / 268435456) 127) 128 = (n : Int) / 268435456 + 128 := by have := sept ((n : Int) / 268435456) ((n : Int) / 268435456) (by omega) (by omega); rwa [show (n : Int) / 268435456 % 256 = (n : Int) / 268435456 by omega] at this
          clear hO hbl
          go_wp2_with (at_builtin; refine wpList_append8 _ rfl _ _ rfl base _ _ l [(n : Int) / 268435456 + 128] rfl rfl (by exact HO.out.alloc _) (by exact rd_one _ _) (by have := HB.out.size; simp; omega) (by simp; omega) ?_)
          intro v1 w1 hO1 hg _
          have HB1 := Lib.hid (app_below HO.out HB.out hb hg)
          have HO1 : Hid (Own w1 base v1 (l ++ [(n : Int) / 268435456 + 128])) := hO1
          clear hO1 hg
          go_wp2
          go_roundw
          case rel => exact ⟨HB1.out, .inr (.inl ⟨by go_num, HO1.out⟩)⟩
          case measure => decide
        · have HO := Lib.hid hO
          have HB := Lib.hid hbl
          have hbit : bits .or .u8 (bits .and .u8 ((n : Int) / 2097152 % 256) 127) 128 = (n : Int) / 2097152 % 128 + 128 := sept _ _ (by omega) (by omega)
          clear hO hbl
          go_wp2_with (at_builtin; refine wpList_append8 _ rfl _ _ rfl base _ _ (l ++ [(n : Int) / 268435456 + 128]) [(n : Int) / 2097152 % 128 + 128] rfl rfl (by exact HO.out.alloc _) (by exact rd_one _ _) (by have := HB.out.size; simp; omega) (by simp; omega) ?_)
          intro v1 w1 hO1 hg _
          have HB1 := Lib.hid (app_below HO.out HB.out hb hg)
          have HO1 : Hid (Own w1 base v1 (l ++ [(n : Int) / 268435456 + 128, (n : Int) / 2097152 % 128 + 128])) := Lib.hid (by simpa using hO1)
          clear hO1 hg
          go_wp2
          go_roundw
          case rel => exact ⟨HB1.out, .inr (.inr (.inl ⟨by go_num, HO1.out⟩))⟩
          case measure => decide
        · have HO := Lib.hid hO
          have HB := Lib.hid hbl
          have hbit : bits .or .u8 (bits .and .u8 ((n : Int) / 16384 % 256) 127) 128 = (n : Int) / 16384 % 128 + 128 := sept _ _ (by omega) (by omega)
          clear hO hbl
          go_wp2_with (at_builtin; refine wpList_append8 _ rfl _ _ rfl base _ _ (l ++ [(n : Int) / 268435456 + 128, (n : Int) / 2097152 % 128 + 128]) [(n : Int) / 16384 % 128 + 128] rfl rfl (by exact HO.out.alloc _) (by exact rd_one _ _) (by have := HB.out.size; simp; omega) (by simp; omega) ?_)
          intro v1 w1 hO1 hg _
          have HB1 := Lib.hid (app_below HO.out HB.out hb hg)
          have HO1 : Hid (Own w1 base v1 (l ++ [(n : Int) / 268435456 + 128, (n : Int) / 2097152 % 128 + 128, (n : Int) / 16384 % 128 + 128])) := Lib.hid (by simpa using hO1)
          clear hO1 hg
          go_wp2
          go_roundw
          case rel => exact ⟨HB1.out, .inr (.inr (.inr (.inl ⟨by go_num, HO1.out⟩)))⟩
          case measure => decide
        · have HO := Lib.hid hO
          have HB := Lib.hid hbl
          have hbit : bits .or .u8 (bits .and .u8 ((n : Int) / 128 % 256) 127) 128 = (n : Int) / 128 % 128 + 128 := sept _ _ (by omega) (by omega)
          clear hO hbl
          go_wp2_with (at_builtin; refine wpList_append8 _ rfl _ _ rfl base _ _ (l ++ [(n : Int) / 268435456 + 128, (n : Int) / 2097152 % 128 + 128, (n : Int) / 16384 % 128 + 128]) [(n : Int) / 128 % 128 + 128] rfl rfl (by exact HO.out.alloc _) (by exact rd_one _ _) (by have := HB.out.size; simp; omega) (by simp; omega) ?_)
          intro v1 w1 hO1 hg _
          have HB1 := Lib.hid (app_below HO.out HB.out hb hg)
          have HO1 : Hid (Own w1 base v1 (l ++ [(n : Int) / 268435456 + 128, (n : Int) / 2097152 % 128 + 128, (n : Int) / 16384 % 128 + 128, (n : Int) / 128 % 128 + 128])) := Lib.hid (by simpa using hO1)
          clear hO1 hg
          go_wp2
          go_roundw
          case rel => exact ⟨HB1.out, .inr (.inr (.inr (.inr (.inl ⟨by go_num, HO1.out⟩))))⟩
          case measure => decide
        · have HO := Lib.hid hO
          have HB := Lib.hid hbl
          have hbit : bits .and .u8 ((n : Int) % 256) 127 = (n : Int) % 128 := low7 _ (by omega)
          clear hO hbl
          go_wp2_with (at_builtin; refine wpList_append8 _ rfl _ _ rfl base _ _ (l ++ [(n : Int) / 268435456 + 128, (n : Int) / 2097152 % 128 + 128, (n : Int) / 16384 % 128 + 128, (n : Int) / 128 % 128 + 128]) [(n : Int) % 128] rfl rfl (by exact HO.out.alloc _) (by exact rd_one _ _) (by have := HB.out.size; simp; omega) (by simp; omega) ?_)
          intro v1 w1 hO1 hg _
          have HB1 := Lib.hid (app_below HO.out HB.out hb hg)
          have HO1 : Hid (Own w1 base v1 (l ++ [(n : Int) / 268435456 + 128, (n : Int) / 2097152 % 128 + 128, (n : Int) / 16384 % 128 + 128, (n : Int) / 128 % 128 + 128, (n : Int) % 128])) := Lib.hid (by simpa using hO1)
          clear hO1 hg
          go_wp2
          go_roundw
          case rel => exact ⟨HB1.out, .inr (.inr (.inr (.inr (.inr (⟨by go_num, HO1.out⟩)))))⟩
          case measure => decide
        · have HR : Hid (RetA w base (l ++ [(n : Int) / 268435456 + 128, (n : Int) / 2097152 % 128 + 128, (n : Int) / 16384 % 128 + 128, (n : Int) / 128 % 128 + 128, (n : Int) % 128]) (.returned _) wr) := ⟨_, rfl, hO, hbl⟩
          clear hO hbl
          go_wp2
          go_ret
          exact HR.out
theorem appendB128 (n : Nat) (w : World) (base : Nat) (v : Value) (l : List Int) (hO : Own w base v l) (hb : base ≤ w.heap.size) (hlim : l.length ≤ 100000000000) (h : n < 4294967296) : Calls Tryz.prog 108 #[v, .int .i64 n] w (RetA w base (l ++ b128 n)) := by
  by_cases c0 : n = 0
  · subst c0; rw [b128_1 0 (by omega)]; exact b128_zero w base v l hO hb hlim
  by_cases c1 : n < 128
  · rw [b128_1 n c1]; exact b128_c1 n w base v l hO hb hlim (by omega) c1
  by_cases c2 : n < 16384
  · rw [b128_2 n (by omega) c2]; exact b128_c2 n w base v l hO hb hlim (by omega) c2
  by_cases c3 : n < 2097152
  · rw [b128_3 n (by omega) c3]; exact b128_c3 n w base v l hO hb hlim (by omega) c3
  by_cases c4 : n < 268435456
  · rw [b128_4 n (by omega) c4]; exact b128_c4 n w base v l hO hb hlim (by omega) c4
  · rw [b128_5 n (by omega) h]; exact b128_c5 n w base v l hO hb hlim (by omega) h
end Go.Proofs.YtpfmcdhmboclhaaGreatDoor
namespace Go.Proofs.YtpfmcdhmboclhaaGreatDoor

/-- Decimal figures. -/
def figs (n : Nat) : List Int := if h : n < 10 then [48 + (n : Int)] else figs (n / 10) ++ [48 + ((n % 10 : Nat) : Int)]
/-- What figures tell. -/
def numOf (p : List Int) : Nat := p.foldl (fun v c => 10 * v + (c - 48).toNat) 0
/-- A name in dotted figures, a point ahead of each number. -/
def text (arcs : List Nat) : List Int := arcs.flatMap fun a => 46 :: figs a
theorem figs_1 (n : Nat) (h : n < 10) : figs n = [48 + (n : Int)] := by rw [figs, dif_pos h]
theorem figs_step (n : Nat) (h : 10 ≤ n) : figs n = figs (n / 10) ++ [48 + ((n % 10 : Nat) : Int)] := by rw [figs, dif_neg (by omega)]
theorem figs_push (n d : Nat) (hn : 0 < n) (hd : d < 10) : figs (10 * n + d) = figs n ++ [48 + (d : Int)] := by
  rw [figs_step _ (by omega), show (10 * n + d) / 10 = n by omega, show (10 * n + d) % 10 = d by omega]
theorem figs_ne (n : Nat) : figs n ≠ [] := by
  by_cases h : n < 10
  · rw [figs_1 n h]; simp
  · rw [figs_step n (by omega)]; simp
theorem figs_range (n : Nat) : ∀ c ∈ figs n, 48 ≤ c ∧ c ≤ 57 := by
  induction n using Nat.strongRecOn with
  | ind n ih =>
    intro c hc
    by_cases h : n < 10
    · rw [figs_1 n h] at hc; simp at hc; omega
    · rw [figs_step n (by omega)] at hc
      rcases List.mem_append.1 hc with hc | hc
      · exact ih _ (by omega) c hc
      · simp at hc; omega
theorem numOf_snoc (p : List Int) (c : Int) : numOf (p ++ [c]) = 10 * numOf p + (c - 48).toNat := by simp [numOf, List.foldl_append]
theorem numOf_figs (n : Nat) : numOf (figs n) = n := by
  induction n using Nat.strongRecOn with
  | ind n ih =>
    by_cases h : n < 10
    · rw [figs_1 n h]; simp [numOf]; omega
    · rw [figs_step n (by omega), numOf_snoc, ih _ (by omega)]; omega
theorem numOf_mono : ∀ (q p : List Int), numOf p ≤ numOf (p ++ q)
  | [], p => by simp
  | c :: q, p => by
    have h := numOf_mono q (p ++ [c])
    rw [numOf_snoc, List.append_assoc] at h
    have e : p ++ ([c] ++ q) = p ++ c :: q := rfl
    rw [e] at h
    omega
theorem text_nil : text [] = [] := rfl
theorem text_cons (a : Nat) (r : List Nat) : text (a :: r) = 46 :: (figs a ++ text r) := by simp [text]
theorem text_append (a b : List Nat) : text (a ++ b) = text a ++ text b := by simp [text]
/-- The reader of dotted figures: what is left, the numbers so far, the number that is open, whether one is open. -/
def arcsGo : List Int → List Nat → Nat → Bool → Option (List Nat)
  | [], out, n, sm => if sm then some (out ++ [n]) else none
  | c :: r, out, n, sm =>
    if c = 46 then (if sm then arcsGo r (out ++ [n]) 0 false else none)
    else if c < 48 ∨ 57 < c ∨ (sm = true ∧ n = 0) then none
    else if 4294967296 ≤ 10 * n + (c - 48).toNat then none
    else arcsGo r out (10 * n + (c - 48).toNat) true
/-- What the reader reads are figures with points between, numbers below 2 to the power of 32. -/
theorem arcsGo_text : ∀ (rem : List Int) (out : List Nat) (n : Nat) (sm : Bool) (res : List Nat), arcsGo rem out n sm = some res → (sm = false → n = 0) → n < 4294967296 →
    ∃ a r, res = out ++ a :: r ∧ (if sm then figs n else []) ++ rem = figs a ++ text r ∧ (∀ x ∈ a :: r, x < 4294967296)
  | [], out, n, sm, res, h, h0, hn => by
    unfold arcsGo at h
    cases sm with
    | false => simp at h
    | true => exact ⟨n, [], by simpa using h.symm, by simp [text], by simpa using hn⟩
  | c :: rem, out, n, sm, res, h, h0, hn => by
    unfold arcsGo at h
    by_cases hc : c = 46
    · rw [if_pos hc] at h
      cases sm with
      | false => simp at h
      | true =>
        simp only [if_true] at h
        obtain ⟨a, r, h1, h2, h3⟩ := arcsGo_text rem (out ++ [n]) 0 false res h (fun _ => rfl) (by omega)
        refine ⟨n, a :: r, by rw [h1]; simp, ?_, ?_⟩
        · rw [text_cons, ← h2, hc]; simp
        · intro x hx
          rcases List.mem_cons.1 hx with rfl | hx
          · exact hn
          · exact h3 x hx
    · rw [if_neg hc] at h
      by_cases hbad : c < 48 ∨ 57 < c ∨ (sm = true ∧ n = 0)
      · rw [if_pos hbad] at h; cases h
      · rw [if_neg hbad] at h
        by_cases hbig : 4294967296 ≤ 10 * n + (c - 48).toNat
        · rw [if_pos hbig] at h; cases h
        · rw [if_neg hbig] at h
          obtain ⟨a, r, h1, h2, h3⟩ := arcsGo_text rem out _ true res h (by simp) (by omega)
          refine ⟨a, r, h1, ?_, h3⟩
          rw [← h2]
          simp only [if_true]
          have hcc : 48 + (((c - 48).toNat : Nat) : Int) = c := by omega
          cases sm with
          | false =>
            have hn0 := h0 rfl
            subst hn0
            simp only [Nat.mul_zero, Nat.zero_add, Bool.false_eq_true, if_false, List.nil_append]
            rw [figs_1 _ (by omega), hcc]; rfl
          | true =>
            have hnp : 0 < n := by
              rcases Nat.eq_zero_or_pos n with h | h
              · exact absurd (.inr (.inr ⟨rfl, h⟩)) hbad
              · exact h
            rw [if_pos rfl, figs_push n _ hnp (by omega), hcc]; simp
/-- Two to 60 numbers below 2 to the power of 32, the first at most 2, the second below 40, at most 100 bytes of content. -/
structure GoodArcs (arcs : List Nat) : Prop where
  two : 2 ≤ arcs.length
  sixty : arcs.length ≤ 60
  first : arcs.getD 0 0 ≤ 2
  second : arcs.getD 1 0 < 40
  small : ∀ x ∈ arcs, x < 4294967296
  bytes : (nameB arcs).length ≤ 100
instance (arcs : List Nat) : Decidable (GoodArcs arcs) :=
  if h : 2 ≤ arcs.length ∧ arcs.length ≤ 60 ∧ arcs.getD 0 0 ≤ 2 ∧ arcs.getD 1 0 < 40 ∧ (∀ x ∈ arcs, x < 4294967296) ∧ (nameB arcs).length ≤ 100 then .isTrue ⟨h.1, h.2.1, h.2.2.1, h.2.2.2.1, h.2.2.2.2.1, h.2.2.2.2.2⟩
  else .isFalse fun g => h ⟨g.two, g.sixty, g.first, g.second, g.small, g.bytes⟩
/-- A text without the point ahead of it. -/
def bare (l : List Int) : List Int := match l with | 46 :: r => r | l => l
/-- The numbers of a name in dotted figures. -/
def arcsOf (l : List Int) : Option (List Nat) := (arcsGo (bare l) [] 0 false).bind fun out => if GoodArcs out then some out else none
theorem bare_cons {c : Int} {q : List Int} (hc : c ≠ 46) : bare (c :: q) = c :: q := by
  unfold bare
  split
  · rename_i r heq
    exact absurd (List.cons.inj heq).1 hc
  · rfl
theorem arcsOf_good {l : List Int} {arcs : List Nat} (h : arcsOf l = some arcs) : GoodArcs arcs := by
  obtain ⟨out, h1, h2⟩ := Option.bind_eq_some_iff.1 h
  by_cases hg : GoodArcs out
  · rw [if_pos hg] at h2
    injection h2 with h2
    exact h2 ▸ hg
  · rw [if_neg hg] at h2; cases h2
theorem arcsOf_text {l : List Int} {arcs : List Nat} (h : arcsOf l = some arcs) : l = text arcs ∨ l = (text arcs).tail := by
  obtain ⟨out, h1, h2⟩ := Option.bind_eq_some_iff.1 h
  by_cases hg : GoodArcs out
  · rw [if_pos hg] at h2
    injection h2 with h2
    subst h2
    obtain ⟨a, r, h3, h4, -⟩ := arcsGo_text _ _ _ _ _ h1 (fun _ => rfl) (by omega)
    have h5 : bare l = (text out).tail := by
      rw [h3, List.nil_append, text_cons, List.tail_cons, ← h4]; simp
    match l, h5 with
    | [], h5 => exact .inr h5
    | c :: q, h5 =>
      by_cases hc : c = 46
      · subst hc
        left
        rw [h3, List.nil_append, text_cons]
        have h6 : bare (46 :: q) = q := rfl
        rw [h6] at h5
        rw [h3, List.nil_append, text_cons, List.tail_cons] at h5
        rw [h5]
      · right
        rw [← h5, bare_cons hc]
  · rw [if_neg hg] at h2; cases h2
end Go.Proofs.YtpfmcdhmboclhaaGreatDoor
namespace Go.Proofs.YtpfmcdhmboclhaaGreatDoor
open Go.RowKit

theorem getElem_bytesOf (s : ByteArray) (k : Nat) (h : k < s.size) : (bytesOf s)[k]? = some ((s[k].toNat : Nat) : Int) := by
  have h' : k < s.data.toList.length := by rw [Array.length_toList]; exact h
  simp only [bytesOf, List.getElem?_map, List.getElem?_eq_getElem h']
  rfl
theorem run_index_str {P : Program} (ht : P.underlying 9 = some .string) (s : ByteArray) (k : Nat) (c : Int) (h : (bytesOf s)[k]? = some c) (W : World) : (Instr.index 9 (.string s) (.int .i64 k)).run P W = .ok (.int .u8 c) W := by
  have hlt : k < s.size := by
    have := (List.getElem?_eq_some_iff.1 h).1
    rwa [bytesOf_length] at this
  rw [getElem_bytesOf s k hlt] at h
  obtain rfl := Option.some.inj h
  have h1 : s[k]? = some s[k] := by simp [hlt]
  simp [Instr.index, asIntOf, run_underlying ht, h1]
/-- A character of a string: where what is left begins with it. -/
theorem at_char (s : ByteArray) (k : Nat) (c : Int) (r : List Int) (h : (bytesOf s).drop k = c :: r) : k < s.size ∧ (∀ W, (Instr.index 9 (.string s) (.int .i64 k)).run Tryz.prog W = .ok (.int .u8 c) W) ∧ (bytesOf s).drop (k + 1) = r := by
  have h1 : (bytesOf s)[k]? = some c := by rw [← List.head?_drop, h]; rfl
  have hlt := (List.getElem?_eq_some_iff.1 h1).1
  rw [bytesOf_length] at hlt
  refine ⟨hlt, run_index_str Tryz.underlying9 s k c h1, ?_⟩
  rw [← List.drop_drop, h]; rfl
theorem at_end (s : ByteArray) (k : Nat) (hk : k ≤ s.size) (h : (bytesOf s).drop k = []) : k = s.size := by
  have := List.drop_eq_nil_iff.1 h
  rw [bytesOf_length] at this
  omega
theorem nameB_snoc (done : List Nat) (a : Nat) (h : 2 ≤ done.length) : nameB (done ++ [a]) = nameB done ++ b128 a := by
  match done, h with
  | x :: y :: r, _ => simp [nameB]
theorem nameB_two (x y : Nat) (h : 40 * x + y < 128) : nameB [x, y] = [] ++ b128 (x * 40 + y) := by
  rw [b128_1 _ (by omega), Nat.mul_comm]; simp [nameB]
/-- Room laid for a row of bytes. -/
theorem run_make_room (c : Nat) (hc : c ≤ 1000000000000) (W : World) : ∃ cells, (Instr.makeSlice 30 (.int .i64 0) (.int .i64 (c : Int))).run Tryz.prog W = .ok (.slice (some ⟨W.heap.size, 0, none⟩) 0 c) (W.alloc (.cells cells 5)) ∧ cells.size = c := by
  obtain ⟨i0, hi, hz0, hz1, hz2⟩ := info_parts info5
  refine ⟨madeCells (Value.int .u8 0).cells ((c : Int).toNat * i0.size), ?_, by rw [size_madeCells, hz1]; simp⟩
  have h := run_make (P := Tryz.prog) W 30 5 i0 (.int .u8 0) Tryz.underlying30 hi hz0 .i64 .i64 0 (c : Int) (by omega) (by omega) (by rw [hz2]; simp; omega) (by omega)
  simpa using h
/-- The state at the head of the reader's outer loop. -/
def OidAt (s : ByteArray) (arcs : List Nat) (w : World) (out fa i j : Value) (wr : World) (k : Nat) : Prop :=
  ∃ done rest : List Nat, arcs = done ++ rest ∧ i = .int .i64 done.length ∧ j = .int .i64 k ∧ ((bytesOf s).drop k = text rest ∨ (rest ≠ [] ∧ (bytesOf s).drop k = (text rest).tail)) ∧ k ≤ s.size ∧
    fa = .int .i64 (done.getD 0 0) ∧ Own wr w.heap.size out (nameB done) ∧ Below w.heap.size w wr
theorem nameB_prefix (a b : List Nat) : (nameB a).length ≤ (nameB (a ++ b)).length := by
  match a with
  | [] => exact Nat.zero_le _
  | [x] => exact Nat.zero_le _
  | x :: y :: r => simp [nameB]
/-- The state at the head of the reader's inner loop: it stands within the figures of a. -/
def FigAt (s : ByteArray) (a : Nat) (r : List Nat) (k : Nat) (j v : Value) : Prop :=
  ∃ (p q : List Int) (kk m : Nat), figs a = p ++ q ∧ (bytesOf s).drop kk = q ++ text r ∧ j = .int .i64 kk ∧ v = .int .i64 m ∧ kk ≤ s.size ∧ m = numOf p ∧ kk = k + p.length
theorem appendB128' (n : Nat) (z : Int) (hz : z = n) (w : World) (base : Nat) (v : Value) (l : List Int) (hO : Own w base v l) (hb : base ≤ w.heap.size) (hlim : l.length ≤ 100000000000) (h : n < 4294967296) : Calls Tryz.prog 108 #[v, .int .i64 z] w (RetA w base (l ++ b128 n)) := by
  subst hz
  exact appendB128 n w base v l hO hb hlim h
/-- One arc more. -/
theorem oid_next {s : ByteArray} {arcs done r : List Nat} {a : Nat} {w wr : World} {out : Value} {k' : Nat} (h1 : arcs = done ++ a :: r) (h2 : (bytesOf s).drop k' = text r) (h3 : k' ≤ s.size) {fa : Nat} (hf : fa = (done ++ [a]).getD 0 0) (hO : Own wr w.heap.size out (nameB (done ++ [a]))) (hb : Below w.heap.size w wr) :
    OidAt s arcs w out (.int .i64 fa) (.int .i64 (done.length + 1)) (.int .i64 k') wr k' :=
  ⟨done ++ [a], r, by rw [h1]; simp, by simp, rfl, .inl h2, h3, by rw [hf], hO, hb⟩
end Go.Proofs.YtpfmcdhmboclhaaGreatDoor
