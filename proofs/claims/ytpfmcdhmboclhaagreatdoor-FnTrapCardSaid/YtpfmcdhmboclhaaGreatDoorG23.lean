/- spec: the content of a value. -/
import Derived.Deep.RegionHeld3
import Derived.Deep.DeepCutAuto
import Derived.Deep.CutBlock
import Derived.Test.YtpfmcdhmboclhaaGreatDoorG22
set_option linter.unusedVariables false
set_option linter.unusedSimpArgs false
namespace Go.Proofs.YtpfmcdhmboclhaaGreatDoor
open Go.RowKit

/-- What a variable that came in holds, where it is one of those that are asked. -/
def payOf (t i u : Int) (text : ByteArray) : Option Pay :=
  if t = 2 then (if -2147483648 ≤ i ∧ i < 2147483648 then some (.int i) else none)
  else if t = 4 then (if text.size ≤ 500 then some (.str text) else none)
  else if t = 5 ∨ t = 128 ∨ t = 129 ∨ t = 130 then some (.nul t.toNat)
  else if t = 6 then (arcsOf (bytesOf text)).map (Pay.oid text)
  else if t = 64 then (ipOf (bytesOf text)).map (fun l => Pay.ip text (l.getD 0 0) (l.getD 1 0) (l.getD 2 0) (l.getD 3 0))
  else if t = 65 ∨ t = 66 ∨ t = 67 then (if u < 4294967296 then some (.u32 t.toNat u.toNat) else none)
  else if t = 70 then some (.u64 u.toNat)
  else none
/-- What content returns. -/
def RetC (w : World) (po : Option Pay) (e : Ending) (w' : World) : Prop :=
  ∃ v b, e = .returned (.tuple #[v, .bool b]) ∧ b = po.isSome ∧ (∀ p, po = some p → Rd w' v p.con) ∧ Below w.heap.size w w'
theorem retC_no {w w' : World} {v : Value} {po : Option Pay} (h : po = none) (hb : Below w.heap.size w w') : RetC w po (.returned (.tuple #[v, .bool false])) w' :=
  ⟨v, false, rfl, by rw [h]; rfl, (fun res e => by rw [h] at e; cases e), hb⟩
theorem retC_yes {w w' : World} {v : Value} {po : Option Pay} {p : Pay} (h : po = some p) (ho : Rd w' v p.con) (hb : Below w.heap.size w w') : RetC w po (.returned (.tuple #[v, .bool true])) w' :=
  ⟨v, true, rfl, by rw [h]; rfl, (fun res e => by rw [h] at e; obtain rfl := Option.some.inj e; exact ho), hb⟩
set_option maxHeartbeats 4000000 in
set_option maxRecDepth 100000 in
theorem content_5 (w : World) (name : ByteArray) (i u : Int) (text : ByteArray) :
    Calls Tryz.prog 36 #[varV name (5) i u text] w (RetC w (payOf (5) i u text)) := by
  simp only [varV]
  go_enter Tryz.func36, Tryz.ntmps36
  go_wp2
  go_ret2
  refine retC_yes (p := .nul 5) rfl (Own.nil _ 0).reads ?_
  repeat first | exact Below.refl _ _ | refine Below.alloc ?_ (by first | (simp; done) | (simp; omega)) _
set_option maxHeartbeats 4000000 in
set_option maxRecDepth 100000 in
theorem content_128 (w : World) (name : ByteArray) (i u : Int) (text : ByteArray) :
    Calls Tryz.prog 36 #[varV name (128) i u text] w (RetC w (payOf (128) i u text)) := by
  simp only [varV]
  go_enter Tryz.func36, Tryz.ntmps36
  go_wp2
  go_ret2
  refine retC_yes (p := .nul 128) rfl (Own.nil _ 0).reads ?_
  repeat first | exact Below.refl _ _ | refine Below.alloc ?_ (by first | (simp; done) | (simp; omega)) _
set_option maxHeartbeats 4000000 in
set_option maxRecDepth 100000 in
theorem content_129 (w : World) (name : ByteArray) (i u : Int) (text : ByteArray) :
    Calls Tryz.prog 36 #[varV name (129) i u text] w (RetC w (payOf (129) i u text)) := by
  simp only [varV]
  go_enter Tryz.func36, Tryz.ntmps36
  go_wp2
  go_ret2
  refine retC_yes (p := .nul 129) rfl (Own.nil _ 0).reads ?_
  repeat first | exact Below.refl _ _ | refine Below.alloc ?_ (by first | (simp; done) | (simp; omega)) _
set_option maxHeartbeats 4000000 in
set_option maxRecDepth 100000 in
theorem content_130 (w : World) (name : ByteArray) (i u : Int) (text : ByteArray) :
    Calls Tryz.prog 36 #[varV name (130) i u text] w (RetC w (payOf (130) i u text)) := by
  simp only [varV]
  go_enter Tryz.func36, Tryz.ntmps36
  go_wp2
  go_ret2
  refine retC_yes (p := .nul 130) rfl (Own.nil _ 0).reads ?_
  repeat first | exact Below.refl _ _ | refine Below.alloc ?_ (by first | (simp; done) | (simp; omega)) _
set_option maxHeartbeats 4000000 in
set_option maxRecDepth 100000 in
theorem content_2a (w : World) (name : ByteArray) (i u : Int) (text : ByteArray) (h1 : -2147483648 ≤ i) (h2 : i < 2147483648) :
    Calls Tryz.prog 36 #[varV name (2) i u text] w (RetC w (payOf (2) i u text)) := by
  simp only [varV]
  obtain ⟨W1, hW1⟩ : ∃ W1, W1 = w.alloc (.cells #[.string name, .int .i64 (2), .int .i64 i, .int .u64 u, .string text] 40) := ⟨_, rfl⟩
  have hb1 : Below w.heap.size w W1 := by rw [hW1]; exact (Below.refl _ _).alloc (Nat.le_refl _) _
  have h1 : W1.heap[w.heap.size]? = some (.cells #[.string name, .int .i64 (2), .int .i64 i, .int .u64 u, .string text] 40 (0, 0)) := by rw [hW1]; exact heap_alloc_new w _
  have c1 : W1.cell? ⟨w.heap.size, 1, none⟩ = some (.int .i64 (2)) := by rw [Lib.cell_of_heap h1]; rfl
  have c2 : W1.cell? ⟨w.heap.size, 2, none⟩ = some (.int .i64 i) := by rw [Lib.cell_of_heap h1]; rfl
  have c3 : W1.cell? ⟨w.heap.size, 3, none⟩ = some (.int .u64 u) := by rw [Lib.cell_of_heap h1]; rfl
  have c4 : W1.cell? ⟨w.heap.size, 4, none⟩ = some (.string text) := by rw [Lib.cell_of_heap h1]; rfl
  have HB1 := Lib.hid hb1
  have HW1 := Lib.hid hW1
  have H1 := Lib.hid h1
  clear hb1 hW1 h1
  have HI := Lib.hid (specInt i W1.drew (by omega))
  have c2d : W1.drew.cell? ⟨w.heap.size, 2, none⟩ = some (.int .i64 i) := c2
  clear c1 c2 c3 c4
  go_enter Tryz.func36, Tryz.ntmps36
  go_upto_region 3 with fail
  rw [← HW1.out]
  go_region_held3 (fun W => W.cell? ⟨w.heap.size, 2, none⟩ = some (.int .i64 i)) (first | exact c2d | exact cellB (w := W1.drew) hb2 c2d) (first | (go_at_call 33; refine (HI.out).mono ?_; rintro e W2 ⟨v2, rfl, hO2, hb2⟩))
  have HBB : Hid (Below w.heap.size w W2) := HB1.out.drew.trans (hb2.mono HB1.out.size)
  have HR : Hid (RetC w (payOf (2) i u text) (.returned (.tuple #[v2, .bool true])) W2) := retC_yes (p := .int i) (by unfold payOf; rw [if_pos rfl, if_pos ⟨h1, h2⟩]) hO2.reads  HBB.out
  clear hO2
  go_wp2
  go_ret2
  exact HR.out
set_option maxHeartbeats 4000000 in
set_option maxRecDepth 100000 in
theorem content_2b (w : World) (name : ByteArray) (i u : Int) (text : ByteArray) (h1 : ¬ -2147483648 ≤ i) (hd : decide (-2147483648 ≤ i) = false) (h0 : -9223372036854775808 ≤ i ∧ i ≤ 9223372036854775807) :
    Calls Tryz.prog 36 #[varV name (2) i u text] w (RetC w (payOf (2) i u text)) := by
  simp only [varV]
  obtain ⟨W1, hW1⟩ : ∃ W1, W1 = w.alloc (.cells #[.string name, .int .i64 (2), .int .i64 i, .int .u64 u, .string text] 40) := ⟨_, rfl⟩
  have hb1 : Below w.heap.size w W1 := by rw [hW1]; exact (Below.refl _ _).alloc (Nat.le_refl _) _
  have h1 : W1.heap[w.heap.size]? = some (.cells #[.string name, .int .i64 (2), .int .i64 i, .int .u64 u, .string text] 40 (0, 0)) := by rw [hW1]; exact heap_alloc_new w _
  have c1 : W1.cell? ⟨w.heap.size, 1, none⟩ = some (.int .i64 (2)) := by rw [Lib.cell_of_heap h1]; rfl
  have c2 : W1.cell? ⟨w.heap.size, 2, none⟩ = some (.int .i64 i) := by rw [Lib.cell_of_heap h1]; rfl
  have c3 : W1.cell? ⟨w.heap.size, 3, none⟩ = some (.int .u64 u) := by rw [Lib.cell_of_heap h1]; rfl
  have c4 : W1.cell? ⟨w.heap.size, 4, none⟩ = some (.string text) := by rw [Lib.cell_of_heap h1]; rfl
  have HB1 := Lib.hid hb1
  have HW1 := Lib.hid hW1
  have H1 := Lib.hid h1
  clear hb1 hW1 h1
  have HI := Lib.hid (specInt i W1.drew (by omega))
  have c2d : W1.drew.cell? ⟨w.heap.size, 2, none⟩ = some (.int .i64 i) := c2
  clear c1 c2 c3 c4
  go_enter Tryz.func36, Tryz.ntmps36
  go_upto_region 3 with fail
  rw [← HW1.out]
  first | (go_region_with (go_at_call 33; refine (HI.out).mono ?_; rintro e W2 ⟨v2, rfl, hO2, hb2⟩; have c2e := cellB (w := W1.drew) hb2 c2d)) | fail "no"
  all_goals
    have HBB : Hid (Below w.heap.size w W2) := HB1.out.drew.trans (hb2.mono HB1.out.size)
    have HR : Hid (RetC w (payOf (2) i u text) (.returned (.tuple #[v2, .bool false])) W2) := retC_no (by unfold payOf; rw [if_pos rfl, if_neg (by omega)])  HBB.out
    clear hO2
    go_wp2
    go_ret2
    exact HR.out
  
  
set_option maxHeartbeats 4000000 in
set_option maxRecDepth 100000 in
theorem content_2c (w : World) (name : ByteArray) (i u : Int) (text : ByteArray) (h1 : -2147483648 ≤ i) (h2 : ¬ i < 2147483648) (h0 : -9223372036854775808 ≤ i ∧ i ≤ 9223372036854775807) :
    Calls Tryz.prog 36 #[varV name (2) i u text] w (RetC w (payOf (2) i u text)) := by
  simp only [varV]
  obtain ⟨W1, hW1⟩ : ∃ W1, W1 = w.alloc (.cells #[.string name, .int .i64 (2), .int .i64 i, .int .u64 u, .string text] 40) := ⟨_, rfl⟩
  have hb1 : Below w.heap.size w W1 := by rw [hW1]; exact (Below.refl _ _).alloc (Nat.le_refl _) _
  have h1 : W1.heap[w.heap.size]? = some (.cells #[.string name, .int .i64 (2), .int .i64 i, .int .u64 u, .string text] 40 (0, 0)) := by rw [hW1]; exact heap_alloc_new w _
  have c1 : W1.cell? ⟨w.heap.size, 1, none⟩ = some (.int .i64 (2)) := by rw [Lib.cell_of_heap h1]; rfl
  have c2 : W1.cell? ⟨w.heap.size, 2, none⟩ = some (.int .i64 i) := by rw [Lib.cell_of_heap h1]; rfl
  have c3 : W1.cell? ⟨w.heap.size, 3, none⟩ = some (.int .u64 u) := by rw [Lib.cell_of_heap h1]; rfl
  have c4 : W1.cell? ⟨w.heap.size, 4, none⟩ = some (.string text) := by rw [Lib.cell_of_heap h1]; rfl
  have HB1 := Lib.hid hb1
  have HW1 := Lib.hid hW1
  have H1 := Lib.hid h1
  clear hb1 hW1 h1
  have HI := Lib.hid (specInt i W1.drew (by omega))
  have c2d : W1.drew.cell? ⟨w.heap.size, 2, none⟩ = some (.int .i64 i) := c2
  clear c1 c2 c3 c4
  go_enter Tryz.func36, Tryz.ntmps36
  go_upto_region 3 with fail
  rw [← HW1.out]
  go_region_held3 (fun W => W.cell? ⟨w.heap.size, 2, none⟩ = some (.int .i64 i)) (first | exact c2d | exact cellB (w := W1.drew) hb2 c2d) (first | (go_at_call 33; refine (HI.out).mono ?_; rintro e W2 ⟨v2, rfl, hO2, hb2⟩))
  have HBB : Hid (Below w.heap.size w W2) := HB1.out.drew.trans (hb2.mono HB1.out.size)
  have HR : Hid (RetC w (payOf (2) i u text) (.returned (.tuple #[v2, .bool false])) W2) := retC_no (by unfold payOf; rw [if_pos rfl, if_neg (by omega)])  HBB.out
  have HDC : Hid (decide (i < 2147483648) = false) := by unfold Hid; simp; omega
  clear hO2
  go_wp2
  go_ret2
  first
    | exact HR.out
    | (show RetC w (payOf (2) i u text) (.returned (.tuple #[v2, .bool (decide (i < 2147483648))])) W2
       rw [HDC.out]
       exact HR.out)
set_option maxHeartbeats 4000000 in
set_option maxRecDepth 100000 in
theorem content_4a (w : World) (name : ByteArray) (i u : Int) (text : ByteArray) (h1 : text.size ≤ 500) :
    Calls Tryz.prog 36 #[varV name (4) i u text] w (RetC w (payOf (4) i u text)) := by
  simp only [varV]
  obtain ⟨W1, hW1⟩ : ∃ W1, W1 = w.alloc (.cells #[.string name, .int .i64 (4), .int .i64 i, .int .u64 u, .string text] 40) := ⟨_, rfl⟩
  have hb1 : Below w.heap.size w W1 := by rw [hW1]; exact (Below.refl _ _).alloc (Nat.le_refl _) _
  have h1 : W1.heap[w.heap.size]? = some (.cells #[.string name, .int .i64 (4), .int .i64 i, .int .u64 u, .string text] 40 (0, 0)) := by rw [hW1]; exact heap_alloc_new w _
  have c1 : W1.cell? ⟨w.heap.size, 1, none⟩ = some (.int .i64 (4)) := by rw [Lib.cell_of_heap h1]; rfl
  have c2 : W1.cell? ⟨w.heap.size, 2, none⟩ = some (.int .i64 i) := by rw [Lib.cell_of_heap h1]; rfl
  have c3 : W1.cell? ⟨w.heap.size, 3, none⟩ = some (.int .u64 u) := by rw [Lib.cell_of_heap h1]; rfl
  have c4 : W1.cell? ⟨w.heap.size, 4, none⟩ = some (.string text) := by rw [Lib.cell_of_heap h1]; rfl
  have HB1 := Lib.hid hb1
  have HW1 := Lib.hid hW1
  have H1 := Lib.hid h1
  clear hb1 hW1 h1
  have hcv := conv_bytes W1.drew text
  have c4d : W1.drew.cell? ⟨w.heap.size, 4, none⟩ = some (.string text) := c4
  have HBB : Hid (Below w.heap.size w (Lib.bytesWorld W1.drew 5 text)) := HB1.out.drew.trans ((bytesWorld_below W1.drew text).mono HB1.out.size)
  clear c1 c2 c3 c4
  go_enter Tryz.func36, Tryz.ntmps36
  go_upto_region 5 with fail
  rw [← HW1.out]
  go_region_held (fun W => W.cell? ⟨w.heap.size, 4, none⟩ = some (.string text)) (first | exact c4d | exact cellB (w := W1.drew) (bytesWorld_below W1.drew text) c4d) (fail)

  have HR : Hid (RetC w (payOf (4) i u text) (.returned (.tuple #[.slice (some ⟨W1.drew.heap.size, 0, none⟩) text.size (grownCap W1.drew text.size 0 5), .bool true])) (Lib.bytesWorld W1.drew 5 text)) := retC_yes (p := .str text) (by unfold payOf; rw [if_neg (by omega), if_pos rfl, if_pos h1]) (rd_bytes _ _ (by unfold maxLen; omega)) HBB.out
  have HDC : Hid (decide ((text.size : Int) ≤ 500) = true) := by unfold Hid; simp; omega
  go_wp2
  go_ret2
  first
    | exact HR.out
    | (show RetC w (payOf (4) i u text) (.returned (.tuple #[.slice (some ⟨W1.drew.heap.size, 0, none⟩) text.size (grownCap W1.drew text.size 0 5), .bool (decide ((text.size : Int) ≤ 500))])) (Lib.bytesWorld W1.drew 5 text)
       rw [HDC.out]
       exact HR.out)
set_option maxHeartbeats 4000000 in
set_option maxRecDepth 100000 in
theorem content_4b (w : World) (name : ByteArray) (i u : Int) (text : ByteArray) (h1 : ¬ text.size ≤ 500) (h2 : text.size ≤ 2147483647) :
    Calls Tryz.prog 36 #[varV name (4) i u text] w (RetC w (payOf (4) i u text)) := by
  simp only [varV]
  obtain ⟨W1, hW1⟩ : ∃ W1, W1 = w.alloc (.cells #[.string name, .int .i64 (4), .int .i64 i, .int .u64 u, .string text] 40) := ⟨_, rfl⟩
  have hb1 : Below w.heap.size w W1 := by rw [hW1]; exact (Below.refl _ _).alloc (Nat.le_refl _) _
  have h1 : W1.heap[w.heap.size]? = some (.cells #[.string name, .int .i64 (4), .int .i64 i, .int .u64 u, .string text] 40 (0, 0)) := by rw [hW1]; exact heap_alloc_new w _
  have c1 : W1.cell? ⟨w.heap.size, 1, none⟩ = some (.int .i64 (4)) := by rw [Lib.cell_of_heap h1]; rfl
  have c2 : W1.cell? ⟨w.heap.size, 2, none⟩ = some (.int .i64 i) := by rw [Lib.cell_of_heap h1]; rfl
  have c3 : W1.cell? ⟨w.heap.size, 3, none⟩ = some (.int .u64 u) := by rw [Lib.cell_of_heap h1]; rfl
  have c4 : W1.cell? ⟨w.heap.size, 4, none⟩ = some (.string text) := by rw [Lib.cell_of_heap h1]; rfl
  have HB1 := Lib.hid hb1
  have HW1 := Lib.hid hW1
  have H1 := Lib.hid h1
  clear hb1 hW1 h1
  have hcv := conv_bytes W1.drew text
  have c4d : W1.drew.cell? ⟨w.heap.size, 4, none⟩ = some (.string text) := c4
  have HBB : Hid (Below w.heap.size w (Lib.bytesWorld W1.drew 5 text)) := HB1.out.drew.trans ((bytesWorld_below W1.drew text).mono HB1.out.size)
  clear c1 c2 c3 c4
  go_enter Tryz.func36, Tryz.ntmps36
  go_upto_region 5 with fail
  rw [← HW1.out]
  go_region_held (fun W => W.cell? ⟨w.heap.size, 4, none⟩ = some (.string text)) (first | exact c4d | exact cellB (w := W1.drew) (bytesWorld_below W1.drew text) c4d) (fail)

  have HR : Hid (RetC w (payOf (4) i u text) (.returned (.tuple #[.slice (some ⟨W1.drew.heap.size, 0, none⟩) text.size (grownCap W1.drew text.size 0 5), .bool false])) (Lib.bytesWorld W1.drew 5 text)) := retC_no (by unfold payOf; rw [if_neg (by omega), if_pos rfl, if_neg h1]) HBB.out
  have HDC : Hid (decide ((text.size : Int) ≤ 500) = false) := by unfold Hid; simp; omega
  go_wp2
  go_ret2
  first
    | exact HR.out
    | (show RetC w (payOf (4) i u text) (.returned (.tuple #[.slice (some ⟨W1.drew.heap.size, 0, none⟩) text.size (grownCap W1.drew text.size 0 5), .bool (decide ((text.size : Int) ≤ 500))])) (Lib.bytesWorld W1.drew 5 text)
       rw [HDC.out]
       exact HR.out)
set_option maxHeartbeats 4000000 in
set_option maxRecDepth 100000 in
theorem content_65a (w : World) (name : ByteArray) (i : Int) (u : Nat) (text : ByteArray) (h0 : u < 18446744073709551616) (h1 : u < 4294967296) :
    Calls Tryz.prog 36 #[varV name (65) i u text] w (RetC w (payOf (65) i u text)) := by
  simp only [varV]
  obtain ⟨W1, hW1⟩ : ∃ W1, W1 = w.alloc (.cells #[.string name, .int .i64 (65), .int .i64 i, .int .u64 u, .string text] 40) := ⟨_, rfl⟩
  have hb1 : Below w.heap.size w W1 := by rw [hW1]; exact (Below.refl _ _).alloc (Nat.le_refl _) _
  have h1 : W1.heap[w.heap.size]? = some (.cells #[.string name, .int .i64 (65), .int .i64 i, .int .u64 u, .string text] 40 (0, 0)) := by rw [hW1]; exact heap_alloc_new w _
  have c1 : W1.cell? ⟨w.heap.size, 1, none⟩ = some (.int .i64 (65)) := by rw [Lib.cell_of_heap h1]; rfl
  have c2 : W1.cell? ⟨w.heap.size, 2, none⟩ = some (.int .i64 i) := by rw [Lib.cell_of_heap h1]; rfl
  have c3 : W1.cell? ⟨w.heap.size, 3, none⟩ = some (.int .u64 u) := by rw [Lib.cell_of_heap h1]; rfl
  have c4 : W1.cell? ⟨w.heap.size, 4, none⟩ = some (.string text) := by rw [Lib.cell_of_heap h1]; rfl
  have HB1 := Lib.hid hb1
  have HW1 := Lib.hid hW1
  have H1 := Lib.hid h1
  clear hb1 hW1 h1
  have HI := Lib.hid (specUint u W1.drew h0)
  have c3d : W1.drew.cell? ⟨w.heap.size, 3, none⟩ = some (.int .u64 u) := c3
  clear c1 c2 c3 c4
  go_enter Tryz.func36, Tryz.ntmps36
  go_upto_region 21 with fail
  rw [← HW1.out]
  go_region_held3 (fun W => W.cell? ⟨w.heap.size, 3, none⟩ = some (.int .u64 u)) (first | exact c3d | exact cellB (w := W1.drew) hb2 c3d) (first | (go_at_call 34; refine (HI.out).mono ?_; rintro e W2 ⟨v2, rfl, hO2, hb2⟩))
  have HBB : Hid (Below w.heap.size w W2) := HB1.out.drew.trans (hb2.mono HB1.out.size)
  have HR : Hid (RetC w (payOf (65) i u text) (.returned (.tuple #[v2, .bool true])) W2) := retC_yes (p := .u32 65 u) (by unfold payOf; rw [if_neg (by omega), if_neg (by omega), if_neg (by omega), if_neg (by omega), if_neg (by omega), if_pos (by omega), if_pos (by omega)]; simp) hO2.reads  HBB.out
  have HDC : Hid (decide ((u : Int) < 4294967296) = true) := by unfold Hid; simp; omega
  clear hO2
  go_wp2
  go_ret2
  show RetC w (payOf (65) i u text) (.returned (.tuple #[v2, .bool (decide ((u : Int) < 4294967296))])) W2
  rw [HDC.out]
  exact HR.out
set_option maxHeartbeats 4000000 in
set_option maxRecDepth 100000 in
theorem content_65b (w : World) (name : ByteArray) (i : Int) (u : Nat) (text : ByteArray) (h0 : u < 18446744073709551616) (h1 : ¬ u < 4294967296) :
    Calls Tryz.prog 36 #[varV name (65) i u text] w (RetC w (payOf (65) i u text)) := by
  simp only [varV]
  obtain ⟨W1, hW1⟩ : ∃ W1, W1 = w.alloc (.cells #[.string name, .int .i64 (65), .int .i64 i, .int .u64 u, .string text] 40) := ⟨_, rfl⟩
  have hb1 : Below w.heap.size w W1 := by rw [hW1]; exact (Below.refl _ _).alloc (Nat.le_refl _) _
  have h1 : W1.heap[w.heap.size]? = some (.cells #[.string name, .int .i64 (65), .int .i64 i, .int .u64 u, .string text] 40 (0, 0)) := by rw [hW1]; exact heap_alloc_new w _
  have c1 : W1.cell? ⟨w.heap.size, 1, none⟩ = some (.int .i64 (65)) := by rw [Lib.cell_of_heap h1]; rfl
  have c2 : W1.cell? ⟨w.heap.size, 2, none⟩ = some (.int .i64 i) := by rw [Lib.cell_of_heap h1]; rfl
  have c3 : W1.cell? ⟨w.heap.size, 3, none⟩ = some (.int .u64 u) := by rw [Lib.cell_of_heap h1]; rfl
  have c4 : W1.cell? ⟨w.heap.size, 4, none⟩ = some (.string text) := by rw [Lib.cell_of_heap h1]; rfl
  have HB1 := Lib.hid hb1
  have HW1 := Lib.hid hW1
  have H1 := Lib.hid h1
  clear hb1 hW1 h1
  have HI := Lib.hid (specUint u W1.drew h0)
  have c3d : W1.drew.cell? ⟨w.heap.size, 3, none⟩ = some (.int .u64 u) := c3
  clear c1 c2 c3 c4
  go_enter Tryz.func36, Tryz.ntmps36
  go_upto_region 21 with fail
  rw [← HW1.out]
  go_region_held3 (fun W => W.cell? ⟨w.heap.size, 3, none⟩ = some (.int .u64 u)) (first | exact c3d | exact cellB (w := W1.drew) hb2 c3d) (first | (go_at_call 34; refine (HI.out).mono ?_; rintro e W2 ⟨v2, rfl, hO2, hb2⟩))
  have HBB : Hid (Below w.heap.size w W2) := HB1.out.drew.trans (hb2.mono HB1.out.size)
  have HR : Hid (RetC w (payOf (65) i u text) (.returned (.tuple #[v2, .bool false])) W2) := retC_no (by unfold payOf; rw [if_neg (by omega), if_neg (by omega), if_neg (by omega), if_neg (by omega), if_neg (by omega), if_pos (by omega), if_neg (by omega)])  HBB.out
  have HDC : Hid (decide ((u : Int) < 4294967296) = false) := by unfold Hid; simp; omega
  clear hO2
  go_wp2
  go_ret2
  show RetC w (payOf (65) i u text) (.returned (.tuple #[v2, .bool (decide ((u : Int) < 4294967296))])) W2
  rw [HDC.out]
  exact HR.out
set_option maxHeartbeats 4000000 in
set_option maxRecDepth 100000 in
theorem content_66a (w : World) (name : ByteArray) (i : Int) (u : Nat) (text : ByteArray) (h0 : u < 18446744073709551616) (h1 : u < 4294967296) :
    Calls Tryz.prog 36 #[varV name (66) i u text] w (RetC w (payOf (66) i u text)) := by
  simp only [varV]
  obtain ⟨W1, hW1⟩ : ∃ W1, W1 = w.alloc (.cells #[.string name, .int .i64 (66), .int .i64 i, .int .u64 u, .string text] 40) := ⟨_, rfl⟩
  have hb1 : Below w.heap.size w W1 := by rw [hW1]; exact (Below.refl _ _).alloc (Nat.le_refl _) _
  have h1 : W1.heap[w.heap.size]? = some (.cells #[.string name, .int .i64 (66), .int .i64 i, .int .u64 u, .string text] 40 (0, 0)) := by rw [hW1]; exact heap_alloc_new w _
  have c1 : W1.cell? ⟨w.heap.size, 1, none⟩ = some (.int .i64 (66)) := by rw [Lib.cell_of_heap h1]; rfl
  have c2 : W1.cell? ⟨w.heap.size, 2, none⟩ = some (.int .i64 i) := by rw [Lib.cell_of_heap h1]; rfl
  have c3 : W1.cell? ⟨w.heap.size, 3, none⟩ = some (.int .u64 u) := by rw [Lib.cell_of_heap h1]; rfl
  have c4 : W1.cell? ⟨w.heap.size, 4, none⟩ = some (.string text) := by rw [Lib.cell_of_heap h1]; rfl
  have HB1 := Lib.hid hb1
  have HW1 := Lib.hid hW1
  have H1 := Lib.hid h1
  clear hb1 hW1 h1
  have HI := Lib.hid (specUint u W1.drew h0)
  have c3d : W1.drew.cell? ⟨w.heap.size, 3, none⟩ = some (.int .u64 u) := c3
  clear c1 c2 c3 c4
  go_enter Tryz.func36, Tryz.ntmps36
  go_upto_region 21 with fail
  rw [← HW1.out]
  go_region_held3 (fun W => W.cell? ⟨w.heap.size, 3, none⟩ = some (.int .u64 u)) (first | exact c3d | exact cellB (w := W1.drew) hb2 c3d) (first | (go_at_call 34; refine (HI.out).mono ?_; rintro e W2 ⟨v2, rfl, hO2, hb2⟩))
  have HBB : Hid (Below w.heap.size w W2) := HB1.out.drew.trans (hb2.mono HB1.out.size)
  have HR : Hid (RetC w (payOf (66) i u text) (.returned (.tuple #[v2, .bool true])) W2) := retC_yes (p := .u32 66 u) (by unfold payOf; rw [if_neg (by omega), if_neg (by omega), if_neg (by omega), if_neg (by omega), if_neg (by omega), if_pos (by omega), if_pos (by omega)]; simp) hO2.reads  HBB.out
  have HDC : Hid (decide ((u : Int) < 4294967296) = true) := by unfold Hid; simp; omega
  clear hO2
  go_wp2
  go_ret2
  show RetC w (payOf (66) i u text) (.returned (.tuple #[v2, .bool (decide ((u : Int) < 4294967296))])) W2
  rw [HDC.out]
  exact HR.out
set_option maxHeartbeats 4000000 in
set_option maxRecDepth 100000 in
theorem content_66b (w : World) (name : ByteArray) (i : Int) (u : Nat) (text : ByteArray) (h0 : u < 18446744073709551616) (h1 : ¬ u < 4294967296) :
    Calls Tryz.prog 36 #[varV name (66) i u text] w (RetC w (payOf (66) i u text)) := by
  simp only [varV]
  obtain ⟨W1, hW1⟩ : ∃ W1, W1 = w.alloc (.cells #[.string name, .int .i64 (66), .int .i64 i, .int .u64 u, .string text] 40) := ⟨_, rfl⟩
  have hb1 : Below w.heap.size w W1 := by rw [hW1]; exact (Below.refl _ _).alloc (Nat.le_refl _) _
  have h1 : W1.heap[w.heap.size]? = some (.cells #[.string name, .int .i64 (66), .int .i64 i, .int .u64 u, .string text] 40 (0, 0)) := by rw [hW1]; exact heap_alloc_new w _
  have c1 : W1.cell? ⟨w.heap.size, 1, none⟩ = some (.int .i64 (66)) := by rw [Lib.cell_of_heap h1]; rfl
  have c2 : W1.cell? ⟨w.heap.size, 2, none⟩ = some (.int .i64 i) := by rw [Lib.cell_of_heap h1]; rfl
  have c3 : W1.cell? ⟨w.heap.size, 3, none⟩ = some (.int .u64 u) := by rw [Lib.cell_of_heap h1]; rfl
  have c4 : W1.cell? ⟨w.heap.size, 4, none⟩ = some (.string text) := by rw [Lib.cell_of_heap h1]; rfl
  have HB1 := Lib.hid hb1
  have HW1 := Lib.hid hW1
  have H1 := Lib.hid h1
  clear hb1 hW1 h1
  have HI := Lib.hid (specUint u W1.drew h0)
  have c3d : W1.drew.cell? ⟨w.heap.size, 3, none⟩ = some (.int .u64 u) := c3
  clear c1 c2 c3 c4
  go_enter Tryz.func36, Tryz.ntmps36
  go_upto_region 21 with fail
  rw [← HW1.out]
  go_region_held3 (fun W => W.cell? ⟨w.heap.size, 3, none⟩ = some (.int .u64 u)) (first | exact c3d | exact cellB (w := W1.drew) hb2 c3d) (first | (go_at_call 34; refine (HI.out).mono ?_; rintro e W2 ⟨v2, rfl, hO2, hb2⟩))
  have HBB : Hid (Below w.heap.size w W2) := HB1.out.drew.trans (hb2.mono HB1.out.size)
  have HR : Hid (RetC w (payOf (66) i u text) (.returned (.tuple #[v2, .bool false])) W2) := retC_no (by unfold payOf; rw [if_neg (by omega), if_neg (by omega), if_neg (by omega), if_neg (by omega), if_neg (by omega), if_pos (by omega), if_neg (by omega)])  HBB.out
  have HDC : Hid (decide ((u : Int) < 4294967296) = false) := by unfold Hid; simp; omega
  clear hO2
  go_wp2
  go_ret2
  show RetC w (payOf (66) i u text) (.returned (.tuple #[v2, .bool (decide ((u : Int) < 4294967296))])) W2
  rw [HDC.out]
  exact HR.out
set_option maxHeartbeats 4000000 in
set_option maxRecDepth 100000 in
theorem content_67a (w : World) (name : ByteArray) (i : Int) (u : Nat) (text : ByteArray) (h0 : u < 18446744073709551616) (h1 : u < 4294967296) :
    Calls Tryz.prog 36 #[varV name (67) i u text] w (RetC w (payOf (67) i u text)) := by
  simp only [varV]
  obtain ⟨W1, hW1⟩ : ∃ W1, W1 = w.alloc (.cells #[.string name, .int .i64 (67), .int .i64 i, .int .u64 u, .string text] 40) := ⟨_, rfl⟩
  have hb1 : Below w.heap.size w W1 := by rw [hW1]; exact (Below.refl _ _).alloc (Nat.le_refl _) _
  have h1 : W1.heap[w.heap.size]? = some (.cells #[.string name, .int .i64 (67), .int .i64 i, .int .u64 u, .string text] 40 (0, 0)) := by rw [hW1]; exact heap_alloc_new w _
  have c1 : W1.cell? ⟨w.heap.size, 1, none⟩ = some (.int .i64 (67)) := by rw [Lib.cell_of_heap h1]; rfl
  have c2 : W1.cell? ⟨w.heap.size, 2, none⟩ = some (.int .i64 i) := by rw [Lib.cell_of_heap h1]; rfl
  have c3 : W1.cell? ⟨w.heap.size, 3, none⟩ = some (.int .u64 u) := by rw [Lib.cell_of_heap h1]; rfl
  have c4 : W1.cell? ⟨w.heap.size, 4, none⟩ = some (.string text) := by rw [Lib.cell_of_heap h1]; rfl
  have HB1 := Lib.hid hb1
  have HW1 := Lib.hid hW1
  have H1 := Lib.hid h1
  clear hb1 hW1 h1
  have HI := Lib.hid (specUint u W1.drew h0)
  have c3d : W1.drew.cell? ⟨w.heap.size, 3, none⟩ = some (.int .u64 u) := c3
  clear c1 c2 c3 c4
  go_enter Tryz.func36, Tryz.ntmps36
  go_upto_region 21 with fail
  rw [← HW1.out]
  go_region_held3 (fun W => W.cell? ⟨w.heap.size, 3, none⟩ = some (.int .u64 u)) (first | exact c3d | exact cellB (w := W1.drew) hb2 c3d) (first | (go_at_call 34; refine (HI.out).mono ?_; rintro e W2 ⟨v2, rfl, hO2, hb2⟩))
  have HBB : Hid (Below w.heap.size w W2) := HB1.out.drew.trans (hb2.mono HB1.out.size)
  have HR : Hid (RetC w (payOf (67) i u text) (.returned (.tuple #[v2, .bool true])) W2) := retC_yes (p := .u32 67 u) (by unfold payOf; rw [if_neg (by omega), if_neg (by omega), if_neg (by omega), if_neg (by omega), if_neg (by omega), if_pos (by omega), if_pos (by omega)]; simp) hO2.reads  HBB.out
  have HDC : Hid (decide ((u : Int) < 4294967296) = true) := by unfold Hid; simp; omega
  clear hO2
  go_wp2
  go_ret2
  show RetC w (payOf (67) i u text) (.returned (.tuple #[v2, .bool (decide ((u : Int) < 4294967296))])) W2
  rw [HDC.out]
  exact HR.out
set_option maxHeartbeats 4000000 in
set_option maxRecDepth 100000 in
theorem content_67b (w : World) (name : ByteArray) (i : Int) (u : Nat) (text : ByteArray) (h0 : u < 18446744073709551616) (h1 : ¬ u < 4294967296) :
    Calls Tryz.prog 36 #[varV name (67) i u text] w (RetC w (payOf (67) i u text)) := by
  simp only [varV]
  obtain ⟨W1, hW1⟩ : ∃ W1, W1 = w.alloc (.cells #[.string name, .int .i64 (67), .int .i64 i, .int .u64 u, .string text] 40) := ⟨_, rfl⟩
  have hb1 : Below w.heap.size w W1 := by rw [hW1]; exact (Below.refl _ _).alloc (Nat.le_refl _) _
  have h1 : W1.heap[w.heap.size]? = some (.cells #[.string name, .int .i64 (67), .int .i64 i, .int .u64 u, .string text] 40 (0, 0)) := by rw [hW1]; exact heap_alloc_new w _
  have c1 : W1.cell? ⟨w.heap.size, 1, none⟩ = some (.int .i64 (67)) := by rw [Lib.cell_of_heap h1]; rfl
  have c2 : W1.cell? ⟨w.heap.size, 2, none⟩ = some (.int .i64 i) := by rw [Lib.cell_of_heap h1]; rfl
  have c3 : W1.cell? ⟨w.heap.size, 3, none⟩ = some (.int .u64 u) := by rw [Lib.cell_of_heap h1]; rfl
  have c4 : W1.cell? ⟨w.heap.size, 4, none⟩ = some (.string text) := by rw [Lib.cell_of_heap h1]; rfl
  have HB1 := Lib.hid hb1
  have HW1 := Lib.hid hW1
  have H1 := Lib.hid h1
  clear hb1 hW1 h1
  have HI := Lib.hid (specUint u W1.drew h0)
  have c3d : W1.drew.cell? ⟨w.heap.size, 3, none⟩ = some (.int .u64 u) := c3
  clear c1 c2 c3 c4
  go_enter Tryz.func36, Tryz.ntmps36
  go_upto_region 21 with fail
  rw [← HW1.out]
  go_region_held3 (fun W => W.cell? ⟨w.heap.size, 3, none⟩ = some (.int .u64 u)) (first | exact c3d | exact cellB (w := W1.drew) hb2 c3d) (first | (go_at_call 34; refine (HI.out).mono ?_; rintro e W2 ⟨v2, rfl, hO2, hb2⟩))
  have HBB : Hid (Below w.heap.size w W2) := HB1.out.drew.trans (hb2.mono HB1.out.size)
  have HR : Hid (RetC w (payOf (67) i u text) (.returned (.tuple #[v2, .bool false])) W2) := retC_no (by unfold payOf; rw [if_neg (by omega), if_neg (by omega), if_neg (by omega), if_neg (by omega), if_neg (by omega), if_pos (by omega), if_neg (by omega)])  HBB.out
  have HDC : Hid (decide ((u : Int) < 4294967296) = false) := by unfold Hid; simp; omega
  clear hO2
  go_wp2
  go_ret2
  show RetC w (payOf (67) i u text) (.returned (.tuple #[v2, .bool (decide ((u : Int) < 4294967296))])) W2
  rw [HDC.out]
  exact HR.out
set_option maxHeartbeats 4000000 in
set_option maxRecDepth 100000 in
theorem content_70 (w : World) (name : ByteArray) (i : Int) (u : Nat) (text : ByteArray) (h0 : u < 18446744073709551616) :
    Calls Tryz.prog 36 #[varV name (70) i u text] w (RetC w (payOf (70) i u text)) := by
  simp only [varV]
  obtain ⟨W1, hW1⟩ : ∃ W1, W1 = w.alloc (.cells #[.string name, .int .i64 (70), .int .i64 i, .int .u64 u, .string text] 40) := ⟨_, rfl⟩
  have hb1 : Below w.heap.size w W1 := by rw [hW1]; exact (Below.refl _ _).alloc (Nat.le_refl _) _
  have h1 : W1.heap[w.heap.size]? = some (.cells #[.string name, .int .i64 (70), .int .i64 i, .int .u64 u, .string text] 40 (0, 0)) := by rw [hW1]; exact heap_alloc_new w _
  have c1 : W1.cell? ⟨w.heap.size, 1, none⟩ = some (.int .i64 (70)) := by rw [Lib.cell_of_heap h1]; rfl
  have c2 : W1.cell? ⟨w.heap.size, 2, none⟩ = some (.int .i64 i) := by rw [Lib.cell_of_heap h1]; rfl
  have c3 : W1.cell? ⟨w.heap.size, 3, none⟩ = some (.int .u64 u) := by rw [Lib.cell_of_heap h1]; rfl
  have c4 : W1.cell? ⟨w.heap.size, 4, none⟩ = some (.string text) := by rw [Lib.cell_of_heap h1]; rfl
  have HB1 := Lib.hid hb1
  have HW1 := Lib.hid hW1
  have H1 := Lib.hid h1
  clear hb1 hW1 h1
  have HI := Lib.hid (specUint u W1 h0)
  go_enter Tryz.func36, Tryz.ntmps36
  go_wp2_with (go_at_call 34; rw [← HW1.out]; refine (HI.out).mono ?_; rintro e W2 ⟨v2, rfl, hO2, hb2⟩; refine Hid.out ?_)
  refine Lib.hid ?_
  have HBB : Hid (Below w.heap.size w W2) := HB1.out.trans (hb2.mono HB1.out.size)
  have HR : Hid (RetC w (payOf (70) i u text) (.returned (.tuple #[v2, .bool true])) W2) := retC_yes (p := .u64 u) (by unfold payOf; rw [if_neg (by omega), if_neg (by omega), if_neg (by omega), if_neg (by omega), if_neg (by omega), if_neg (by omega), if_pos rfl]; simp) hO2.reads  HBB.out
  clear hO2
  go_wp2
  go_ret2
  exact HR.out
set_option maxHeartbeats 4000000 in
set_option maxRecDepth 100000 in
theorem content_64 (w : World) (name : ByteArray) (i u : Int) (text : ByteArray) (h0 : text.size ≤ 2147483647) :
    Calls Tryz.prog 36 #[varV name (64) i u text] w (RetC w (payOf (64) i u text)) := by
  simp only [varV]
  obtain ⟨W1, hW1⟩ : ∃ W1, W1 = w.alloc (.cells #[.string name, .int .i64 (64), .int .i64 i, .int .u64 u, .string text] 40) := ⟨_, rfl⟩
  have hb1 : Below w.heap.size w W1 := by rw [hW1]; exact (Below.refl _ _).alloc (Nat.le_refl _) _
  have h1 : W1.heap[w.heap.size]? = some (.cells #[.string name, .int .i64 (64), .int .i64 i, .int .u64 u, .string text] 40 (0, 0)) := by rw [hW1]; exact heap_alloc_new w _
  have c1 : W1.cell? ⟨w.heap.size, 1, none⟩ = some (.int .i64 (64)) := by rw [Lib.cell_of_heap h1]; rfl
  have c2 : W1.cell? ⟨w.heap.size, 2, none⟩ = some (.int .i64 i) := by rw [Lib.cell_of_heap h1]; rfl
  have c3 : W1.cell? ⟨w.heap.size, 3, none⟩ = some (.int .u64 u) := by rw [Lib.cell_of_heap h1]; rfl
  have c4 : W1.cell? ⟨w.heap.size, 4, none⟩ = some (.string text) := by rw [Lib.cell_of_heap h1]; rfl
  have HB1 := Lib.hid hb1
  have HW1 := Lib.hid hW1
  have H1 := Lib.hid h1
  clear hb1 hW1 h1
  have HI := Lib.hid (address text W1 h0)
  go_enter Tryz.func36, Tryz.ntmps36
  go_wp2_with (go_at_call 23; rw [← HW1.out]; refine (HI.out).mono ?_; rintro e W2 ⟨v2, b2, rfl, hbb, hyes, hb2⟩; have HBI := Lib.hid hbb; clear hbb; refine Hid.out ?_)
  refine Lib.hid ?_
  have hbb := HBI.out
  have HBB : Hid (Below w.heap.size w W2) := HB1.out.trans (hb2.mono HB1.out.size)
  have HR : Hid (RetC w (payOf 64 i u text) (.returned (.tuple #[v2, .bool b2])) W2) := by
    have hp : payOf 64 i u text = (ipOf (bytesOf text)).map (fun l => Pay.ip text (l.getD 0 0) (l.getD 1 0) (l.getD 2 0) (l.getD 3 0)) := by
      unfold payOf
      rw [if_neg (by omega), if_neg (by omega), if_neg (by omega), if_neg (by omega), if_pos rfl]
    cases hi : ipOf (bytesOf text) with
    | none =>
      rw [hi] at hbb hp
      obtain rfl : b2 = false := hbb
      exact ⟨v2, false, rfl, by rw [hp]; rfl, (fun p e => by rw [hp] at e; cases e), HBB.out⟩
    | some l =>
      have ho := hyes l hi
      obtain ⟨a, b, c, d, rfl, -⟩ := ipOf_text hi
      rw [hi] at hbb hp
      obtain rfl : b2 = true := hbb
      refine ⟨v2, true, rfl, by rw [hp]; rfl, (fun p e => ?_), HBB.out⟩
      rw [hp] at e
      obtain rfl := Option.some.inj e
      exact ho.reads
  clear hbb hyes hb2
  go_wp2
  go_ret2
  exact HR.out
set_option maxHeartbeats 4000000 in
set_option maxRecDepth 100000 in
theorem content_6 (w : World) (name : ByteArray) (i u : Int) (text : ByteArray) (h0 : text.size ≤ 2147483647) :
    Calls Tryz.prog 36 #[varV name (6) i u text] w (RetC w (payOf (6) i u text)) := by
  simp only [varV]
  obtain ⟨W1, hW1⟩ : ∃ W1, W1 = w.alloc (.cells #[.string name, .int .i64 (6), .int .i64 i, .int .u64 u, .string text] 40) := ⟨_, rfl⟩
  have hb1 : Below w.heap.size w W1 := by rw [hW1]; exact (Below.refl _ _).alloc (Nat.le_refl _) _
  have h1 : W1.heap[w.heap.size]? = some (.cells #[.string name, .int .i64 (6), .int .i64 i, .int .u64 u, .string text] 40 (0, 0)) := by rw [hW1]; exact heap_alloc_new w _
  have c1 : W1.cell? ⟨w.heap.size, 1, none⟩ = some (.int .i64 (6)) := by rw [Lib.cell_of_heap h1]; rfl
  have c2 : W1.cell? ⟨w.heap.size, 2, none⟩ = some (.int .i64 i) := by rw [Lib.cell_of_heap h1]; rfl
  have c3 : W1.cell? ⟨w.heap.size, 3, none⟩ = some (.int .u64 u) := by rw [Lib.cell_of_heap h1]; rfl
  have c4 : W1.cell? ⟨w.heap.size, 4, none⟩ = some (.string text) := by rw [Lib.cell_of_heap h1]; rfl
  have HB1 := Lib.hid hb1
  have HW1 := Lib.hid hW1
  have H1 := Lib.hid h1
  clear hb1 hW1 h1
  have HI := Lib.hid (specArcs text W1 h0)
  have hp : payOf 6 i u text = (arcsOf (bytesOf text)).map (Pay.oid text) := by
    unfold payOf
    rw [if_neg (by omega), if_neg (by omega), if_neg (by omega), if_pos rfl]
  have HPP := Lib.hid hp
  clear hp
  go_enter Tryz.func36, Tryz.ntmps36
  cases hi : arcsOf (bytesOf text) with
  | none =>
    go_wp2_with (go_at_call 22; rw [← HW1.out]; refine (HI.out).mono ?_; rintro e W2 ⟨v2, b2, rfl, hbb, hyes, hb2⟩; rw [hi] at hbb; obtain rfl : b2 = false := hbb; refine Hid.out ?_)
    refine Lib.hid ?_
    have HR : Hid (RetC w (payOf 6 i u text) (.returned (.tuple #[.slice none 0 0, .bool false])) W2) := retC_no (by rw [HPP.out, hi]; rfl) (HB1.out.trans (hb2.mono HB1.out.size))
    clear hyes hb2
    go_wp2
    go_ret2
    exact HR.out
  | some arcs =>
    go_wp2_with (go_at_call 22; rw [← HW1.out]; refine (HI.out).mono ?_; rintro e W2 ⟨v2, b2, rfl, hbb, hyes, hb2⟩; rw [hi] at hbb; obtain rfl : b2 = true := hbb; refine Hid.out ?_)
    refine Lib.hid ?_
    have hg := arcsOf_good hi
    have hO := hyes arcs hi
    obtain ⟨g, cap, rfl, hg1, hg2, hg3, hg4, hcell⟩ := hO.cell64 (by have := hg.two; omega)
    have HN := Lib.hid (specName g arcs.length cap arcs W2 rfl hg.two hg.sixty hg3 hg4 hcell hg.small hg.first hg.second)
    have HBB : Hid (Below w.heap.size w W2) := HB1.out.trans (hb2.mono HB1.out.size)
    clear hyes hb2 hO hg1 hg2 hg3 hg4 hcell
    go_wp2_with (go_at_call 32; refine (HN.out).mono ?_; rintro e W3 ⟨v3, rfl, hO3, hb3⟩; refine Hid.out ?_)
    refine Lib.hid ?_
    have HR : Hid (RetC w (payOf 6 i u text) (.returned (.tuple #[v3, .bool true])) W3) := retC_yes (p := .oid text arcs) (by rw [HPP.out, hi]; rfl) hO3.reads (HBB.out.trans (hb3.mono HBB.out.size))
    clear hO3 hb3 hg
    go_wp2
    go_ret2
    exact HR.out
set_option maxHeartbeats 4000000 in
set_option maxRecDepth 100000 in
theorem content_rest (w : World) (name : ByteArray) (i u : Int) (text : ByteArray) (t : Int) (h2 : t ≠ 2) (h4 : t ≠ 4) (h5 : t ≠ 5) (h128 : t ≠ 128) (h129 : t ≠ 129) (h130 : t ≠ 130) (h6 : t ≠ 6) (h64 : t ≠ 64) (h65 : t ≠ 65) (h66 : t ≠ 66) (h67 : t ≠ 67) (h70 : t ≠ 70) :
    Calls Tryz.prog 36 #[varV name (t) i u text] w (RetC w (payOf (t) i u text)) := by
  simp only [varV]
  have e2 : (t == 2) = false := by simpa using h2
  have e4 : (t == 4) = false := by simpa using h4
  have e5 : (t == 5) = false := by simpa using h5
  have e128 : (t == 128) = false := by simpa using h128
  have e129 : (t == 129) = false := by simpa using h129
  have e130 : (t == 130) = false := by simpa using h130
  have e6 : (t == 6) = false := by simpa using h6
  have e64 : (t == 64) = false := by simpa using h64
  have e65 : (t == 65) = false := by simpa using h65
  have e66 : (t == 66) = false := by simpa using h66
  have e67 : (t == 67) = false := by simpa using h67
  have e70 : (t == 70) = false := by simpa using h70
  have HPP : Hid (payOf t i u text = none) := by
    unfold Hid payOf
    rw [if_neg (by omega), if_neg (by omega), if_neg (by omega), if_neg (by omega), if_neg (by omega), if_neg (by omega), if_neg (by omega)]
  clear h2 h4 h5 h128 h129 h130 h6 h64 h65 h66 h67 h70
  go_enter Tryz.func36, Tryz.ntmps36
  go_wp2
  go_ret2
  refine retC_no HPP.out ?_
  repeat first | exact Below.refl _ _ | refine Below.alloc ?_ (by first | (simp; done) | (simp; omega)) _
end Go.Proofs.YtpfmcdhmboclhaaGreatDoor
