/- impl: a value is told as data. -/
import Derived.Test.YtpfmcdhmboclhaaGreatDoorG17
set_option linter.unusedVariables false
set_option linter.unusedSimpArgs false
namespace Go.Proofs.YtpfmcdhmboclhaaGreatDoor
open Go.RowKit
set_option maxHeartbeats 8000000 in
set_option maxRecDepth 100000 in
theorem told_67 (nm : ByteArray) (n : Nat) (w : World) (hn : n < 4294967296) : Calls Tryz.prog 21 #[.string nm, .int .u8 67, .iface 22 (.int .u32 n)] w fun e w' => e = .returned (.agg #[.string nm, .int .i64 67, .int .i64 (0), .int .u64 (n), .string (⟨#[]⟩)]) ∧ Below w.heap.size w w' := by
  have t3 := tt_22_3
  have t24 := tt_22_24
  have t22 := tt_22_22
  go_enter Tryz.func21, Tryz.ntmps21
  go_wp2
  go_returns
  exact ⟨rfl, ((Below.refl _ _).alloc (Nat.le_refl _) _).alloc (by simp) _⟩
set_option maxHeartbeats 8000000 in
set_option maxRecDepth 100000 in
theorem told_70 (nm : ByteArray) (n : Nat) (w : World) (hn : n < 18446744073709551616) : Calls Tryz.prog 21 #[.string nm, .int .u8 70, .iface 38 (.int .u64 n)] w fun e w' => e = .returned (.agg #[.string nm, .int .i64 70, .int .i64 (0), .int .u64 (n), .string (⟨#[]⟩)]) ∧ Below w.heap.size w w' := by
  have t3 := tt_38_3
  have t24 := tt_38_24
  have t22 := tt_38_22
  have t38 := tt_38_38
  go_enter Tryz.func21, Tryz.ntmps21
  go_wp2
  go_returns
  exact ⟨rfl, ((Below.refl _ _).alloc (Nat.le_refl _) _).alloc (by simp) _⟩
set_option maxHeartbeats 8000000 in
set_option maxRecDepth 100000 in
theorem told_6 (nm : ByteArray) (s : ByteArray) (w : World) : Calls Tryz.prog 21 #[.string nm, .int .u8 6, .iface 9 (.string s)] w fun e w' => e = .returned (.agg #[.string nm, .int .i64 6, .int .i64 (0), .int .u64 (0), .string (s)]) ∧ Below w.heap.size w w' := by
  have t3 := tt_9_3
  have t24 := tt_9_24
  have t22 := tt_9_22
  have t38 := tt_9_38
  have t97 := tt_9_97
  have t99 := tt_9_99
  have t30 := tt_9_30
  have t9 := tt_9_9
  go_enter Tryz.func21, Tryz.ntmps21
  go_wp2
  go_returns
  exact ⟨rfl, ((Below.refl _ _).alloc (Nat.le_refl _) _).alloc (by simp) _⟩
set_option maxHeartbeats 8000000 in
set_option maxRecDepth 100000 in
theorem told_64 (nm : ByteArray) (s : ByteArray) (w : World) : Calls Tryz.prog 21 #[.string nm, .int .u8 64, .iface 9 (.string s)] w fun e w' => e = .returned (.agg #[.string nm, .int .i64 64, .int .i64 (0), .int .u64 (0), .string (s)]) ∧ Below w.heap.size w w' := by
  have t3 := tt_9_3
  have t24 := tt_9_24
  have t22 := tt_9_22
  have t38 := tt_9_38
  have t97 := tt_9_97
  have t99 := tt_9_99
  have t30 := tt_9_30
  have t9 := tt_9_9
  go_enter Tryz.func21, Tryz.ntmps21
  go_wp2
  go_returns
  exact ⟨rfl, ((Below.refl _ _).alloc (Nat.le_refl _) _).alloc (by simp) _⟩
set_option maxHeartbeats 8000000 in
set_option maxRecDepth 100000 in
theorem told_4 (nm : ByteArray) (x : Value) (s : ByteArray) (w : World) (hx : Rd w x (bytesOf s)) : Calls Tryz.prog 21 #[.string nm, .int .u8 4, .iface 30 x] w fun e w' => e = .returned (.agg #[.string nm, .int .i64 4, .int .i64 (0), .int .u64 (0), .string (s)]) ∧ Below w.heap.size w w' := by
  have hcv : ∀ o, (convert 30 9 x).run Tryz.prog (w.alloc o) = .ok (.string s) (w.alloc o) := fun o => by
    rw [conv_txt (w.alloc o) x (bytesOf s) (hx.keptBelow ((Below.refl _ _).alloc (Nat.le_refl _) o)), txt_bytes]
  have hcv2 : ∀ o o2, (convert 30 9 x).run Tryz.prog ((w.alloc o).alloc o2) = .ok (.string s) ((w.alloc o).alloc o2) := fun o o2 => by
    rw [conv_txt ((w.alloc o).alloc o2) x (bytesOf s) ((hx.keptBelow ((Below.refl _ _).alloc (Nat.le_refl _) o)).keptBelow ((Below.refl _ _).alloc (Nat.le_refl _) o2)), txt_bytes]
  clear hx
  have t3 := tt_30_3
  have t24 := tt_30_24
  have t22 := tt_30_22
  have t38 := tt_30_38
  have t97 := tt_30_97
  have t99 := tt_30_99
  have t30 := tt_30_30
  go_enter Tryz.func21, Tryz.ntmps21
  go_wp2
  go_returns
  exact ⟨rfl, ((Below.refl _ _).alloc (Nat.le_refl _) _).alloc (by simp) _⟩
theorem told (nm : ByteArray) (p : Pay) (v : Value) (w : World) (hp : p.Ok) (hv : DecV w p v) : Calls Tryz.prog 21 #[.string nm, .int .u8 p.typ, v] w fun e w' => e = .returned (toldV nm p) ∧ Below w.heap.size w w' := by
  cases p with
  | nul t =>
    obtain rfl := hv
    exact told_nul nm t w (by rcases hp with rfl | rfl | rfl | rfl <;> omega)
  | int n => obtain rfl := hv; exact told_int nm n w hp
  | str s => obtain ⟨x, rfl, hx⟩ := hv; exact told_4 nm x s w hx
  | oid s arcs => obtain rfl := hv; exact told_6 nm (dot arcs) w
  | ip s a b c d => obtain rfl := hv; exact told_64 nm (txt (ipT a b c d)) w
  | u32 t n =>
    have hv : v = if t = 67 then .iface 22 (.int .u32 n) else .iface 24 (.int .u64 n) := hv
    rcases hp with ⟨rfl | rfl | rfl, hn⟩
    · rw [if_neg (by omega)] at hv; subst hv; exact told_65 nm n w hn
    · rw [if_neg (by omega)] at hv; subst hv; exact told_66 nm n w hn
    · rw [if_pos rfl] at hv; subst hv; exact told_67 nm n w hn
  | u64 n => obtain rfl := hv; exact told_70 nm n w hp
end Go.Proofs.YtpfmcdhmboclhaaGreatDoor
