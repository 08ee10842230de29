/- net/netip: an address of version 4 out of its text. internal/byteorder: eight bytes of a number, into a row of sixteen; net/netip: an address as sixteen bytes. net/netip: an address as sixteen bytes; gosnmp: an address out of its text, as four bytes. -/
import Derived.Test.YtpfmcdhmboclhaaGreatDoorG06
set_option linter.unusedVariables false
set_option linter.unusedSimpArgs false
namespace Go.Proofs.YtpfmcdhmboclhaaGreatDoor
open Go.RowKit
set_option maxHeartbeats 4000000 in
set_option maxRecDepth 100000 in
theorem zone (a b c d : Nat) (z : Addr) (w : World) (h : NetLaid w z) :
    Calls Tryz.prog 48 #[ipV z a b c d] w fun e w' => e = .returned (.string ⟨#[]⟩) ∧ Below w.heap.size w w' := by
  have hA : ∀ o, (w.alloc o).cell? ⟨1, 0, none⟩ = some (.pointer none) := fun o => (h.alloc o).z0
  have hC : ∀ o o' o'', (((w.alloc o).alloc o').alloc o'').cell? z = some (.bool false) := fun o o' o'' => (((h.alloc o).alloc o').alloc o'').d0
  have hD : ∀ o o' o'', (((w.alloc o).alloc o').alloc o'').cell? ⟨z.block, z.off + 1, none⟩ = some (.string ⟨#[]⟩) := fun o o' o'' => (((h.alloc o).alloc o').alloc o'').d1
  have hz : ∀ o o' o'' x, (((w.alloc o).alloc o').alloc o'').cell? z = some x → True := fun _ _ _ _ _ => trivial
  have he := eqp_none z
  have hf := field142
  clear h hz
  simp only [ipV]
  go_enter Tryz.func48, Tryz.ntmps48
  go_wp2_with (go_at_call 66; go_in)
  go_ret
  exact ⟨rfl, (((Below.refl _ _).alloc (Nat.le_refl _) _).alloc (by simp) _).alloc (by simp; omega) _⟩
end Go.Proofs.YtpfmcdhmboclhaaGreatDoor
namespace Go.Proofs.YtpfmcdhmboclhaaGreatDoor
open Go.RowKit

set_option maxHeartbeats 4000000 in
set_option maxRecDepth 100000 in
theorem bePut_low (g : Nat) (T : TypeId) (w : World) (h : w.heap[g]? = some (.cells (by8 (List.replicate 16 0)).toArray T (0, 0))) :
    Calls Tryz.prog 67 #[.slice (some ⟨g, 0, none⟩) 8 16, .int .u64 0] w fun e w' => e = .returned (.tuple #[]) ∧ Put w g T (List.replicate 16 0) w' := by
  have c0 : w.cell? ⟨g, 0, none⟩ = some (.int .u8 0) := by rw [Lib.cell_of_heap h]; rfl
  have c1 : w.cell? ⟨g, 1, none⟩ = some (.int .u8 0) := by rw [Lib.cell_of_heap h]; rfl
  have c2 : w.cell? ⟨g, 2, none⟩ = some (.int .u8 0) := by rw [Lib.cell_of_heap h]; rfl
  have c3 : w.cell? ⟨g, 3, none⟩ = some (.int .u8 0) := by rw [Lib.cell_of_heap h]; rfl
  have c4 : w.cell? ⟨g, 4, none⟩ = some (.int .u8 0) := by rw [Lib.cell_of_heap h]; rfl
  have c5 : w.cell? ⟨g, 5, none⟩ = some (.int .u8 0) := by rw [Lib.cell_of_heap h]; rfl
  have c6 : w.cell? ⟨g, 6, none⟩ = some (.int .u8 0) := by rw [Lib.cell_of_heap h]; rfl
  have c7 : w.cell? ⟨g, 7, none⟩ = some (.int .u8 0) := by rw [Lib.cell_of_heap h]; rfl
  have f : ∀ i, w.frozen? ⟨g, i, none⟩ = false := fun i => Lib.frozen_of_heap h i
  have hs := setCells_at (g := g) (T := T) (by8 [0, 0, 0, 0, 0, 0, 0, 0]) 0 w _ h (by simp [by8])
  have HS := Lib.hid hs
  clear hs h
  go_enter Tryz.func67, Tryz.ntmps67
  go_wp2
  go_returns
  refine ⟨rfl, ?_⟩
  obtain ⟨h1, h2⟩ := HS.out
  exact ⟨by simpa [by8, World.setCells] using h1, by simpa [by8, World.setCells] using h2⟩
set_option maxHeartbeats 4000000 in
set_option maxRecDepth 100000 in
theorem bePut_high (g : Nat) (a b c' d : Nat) (ha : a < 256) (hb : b < 256) (hc : c' < 256) (hd : d < 256) (T : TypeId) (w : World) (h : w.heap[g]? = some (.cells (by8 (List.replicate 16 0)).toArray T (0, 0))) :
    Calls Tryz.prog 67 #[.slice (some ⟨g, 8, none⟩) 8 8, .int .u64 (ipNum a b c' d)] w fun e w' => e = .returned (.tuple #[]) ∧ Put w g T ([0, 0, 0, 0, 0, 0, 0, 0, 0, 0, 255, 255, (a : Int), (b : Int), (c' : Int), (d : Int)]) w' := by
  have c0 : w.cell? ⟨g, 8, none⟩ = some (.int .u8 0) := by rw [Lib.cell_of_heap h]; rfl
  have c1 : w.cell? ⟨g, 9, none⟩ = some (.int .u8 0) := by rw [Lib.cell_of_heap h]; rfl
  have c2 : w.cell? ⟨g, 10, none⟩ = some (.int .u8 0) := by rw [Lib.cell_of_heap h]; rfl
  have c3 : w.cell? ⟨g, 11, none⟩ = some (.int .u8 0) := by rw [Lib.cell_of_heap h]; rfl
  have c4 : w.cell? ⟨g, 12, none⟩ = some (.int .u8 0) := by rw [Lib.cell_of_heap h]; rfl
  have c5 : w.cell? ⟨g, 13, none⟩ = some (.int .u8 0) := by rw [Lib.cell_of_heap h]; rfl
  have c6 : w.cell? ⟨g, 14, none⟩ = some (.int .u8 0) := by rw [Lib.cell_of_heap h]; rfl
  have c7 : w.cell? ⟨g, 15, none⟩ = some (.int .u8 0) := by rw [Lib.cell_of_heap h]; rfl
  have f : ∀ i, w.frozen? ⟨g, i, none⟩ = false := fun i => Lib.frozen_of_heap h i
  have hs := setCells_at (g := g) (T := T) (by8 [0, 0, 255, 255, (a : Int), (b : Int), (c' : Int), (d : Int)]) 8 w _ h (by simp [by8])
  have HS := Lib.hid hs
  obtain ⟨N, hN⟩ : ∃ N, N = ipNum a b c' d := ⟨_, rfl⟩
  have hN' := hN
  unfold ipNum at hN'
  have p0 : N / 72057594037927936 % 256 = 0 := by omega
  have p1 : N / 281474976710656 % 256 = 0 := by omega
  have p2 : N / 1099511627776 % 256 = 255 := by omega
  have p3 : N / 4294967296 % 256 = 255 := by omega
  have p4 : N / 16777216 % 256 = a := by omega
  have p5 : N / 65536 % 256 = b := by omega
  have p6 : N / 256 % 256 = c' := by omega
  have p7 : N % 256 = d := by omega
  have r0 : N / 72057594037927936 = 0 := by omega
  have r1 : N / 281474976710656 = 0 := by omega
  have r2 : N / 1099511627776 = 255 := by omega
  have q0 : 0 ≤ N := by omega
  have q1 : N < 18446744073709551616 := by omega
  rw [← hN]
  clear hN hN' ha hb hc hd
  clear hs h
  go_enter Tryz.func67, Tryz.ntmps67
  go_wp2
  go_returns
  refine ⟨rfl, ?_⟩
  obtain ⟨h1, h2⟩ := HS.out
  exact ⟨by simpa [by8, World.setCells] using h1, by simpa [by8, World.setCells] using h2⟩
end Go.Proofs.YtpfmcdhmboclhaaGreatDoor
namespace Go.Proofs.YtpfmcdhmboclhaaGreatDoor
open Go.RowKit

theorem row16 (W : World) (o : Obj) : ((W.alloc o).alloc (.cells #[.int .u8 0, .int .u8 0, .int .u8 0, .int .u8 0, .int .u8 0, .int .u8 0, .int .u8 0, .int .u8 0, .int .u8 0, .int .u8 0, .int .u8 0, .int .u8 0, .int .u8 0, .int .u8 0, .int .u8 0, .int .u8 0] 116)).heap[W.heap.size + 1]? = some (.cells (by8 (List.replicate 16 0)).toArray 116 (0, 0)) := by
  have := heap_alloc_new (W.alloc o) (.cells (by8 (List.replicate 16 0)).toArray 116)
  rw [show (W.alloc o).heap.size = W.heap.size + 1 by simp] at this
  exact this
set_option maxHeartbeats 4000000 in
set_option maxRecDepth 100000 in
theorem as16 (a b c d : Nat) (z : Addr) (w : World) (ha : a < 256) (hb : b < 256) (hc : c < 256) (hd : d < 256) :
    Calls Tryz.prog 49 #[ipV z a b c d] w fun e w' => e = .returned (.agg #[.int .u8 0, .int .u8 0, .int .u8 0, .int .u8 0, .int .u8 0, .int .u8 0, .int .u8 0, .int .u8 0, .int .u8 0, .int .u8 0, .int .u8 255, .int .u8 255, .int .u8 a, .int .u8 b, .int .u8 c, .int .u8 d]) ∧ Below w.heap.size w w' := by
  have HA := Lib.hid ha
  have HB := Lib.hid hb
  have HC := Lib.hid hc
  have HD := Lib.hid hd
  clear ha hb hc hd
  simp only [ipV]
  go_enter Tryz.func49, Tryz.ntmps49
  go_wp2
  go_region_with (
    go_at_call 67
    refine (bePut_low (w.heap.size + 1) 116 _ ?_).mono ?_
    exact row16 w _
    rintro e W1 ⟨rfl, hp, hk⟩)
  have hr : W1.heap[w.heap.size]? = some (.cells #[.int .u64 0, .int .u64 (ipNum a b c d), .pointer (some z)] 112 (0, 0)) := by
    rw [hk.block w.heap.size (by simp [World.drew, -World.drew_eq, -World.alloc_eq, World.alloc]; omega) (by simp)]
    show ((w.alloc _).alloc _).heap[w.heap.size]? = _
    rw [Below.heap_alloc _ _ _ (by simp)]
    exact heap_alloc_new w _
  obtain ⟨-, e1, -, -⟩ := ip_cells hr
  have hB : Below w.heap.size w W1 := ((((Below.refl _ w).alloc (Nat.le_refl _) _).alloc (by simp) _).drew).trans (hk.below (by simp [World.drew, -World.drew_eq, -World.alloc_eq, World.alloc]; omega) (by simp))
  have HP := Lib.hid hp
  have HBB := Lib.hid hB
  clear hr hk hB hp
  go_wp2
  go_region_with (
    go_at_call 67
    refine (bePut_high (w.heap.size + 1) a b c d HA.out HB.out HC.out HD.out 116 _ ?_).mono ?_
    exact HP.out
    rintro e W2 ⟨rfl, hp2, hk2⟩)
  have hB2 : Below w.heap.size w W2 := HBB.out.drew.trans (hk2.below HBB.out.drew.size (by simp))
  have k0 : ∀ i x, (by8 [0, 0, 0, 0, 0, 0, 0, 0, 0, 0, 255, 255, (a : Int), (b : Int), (c : Int), (d : Int)])[i]? = some x → W2.cell? ⟨w.heap.size + 1, i, none⟩ = some x := fun i x hx => by rw [Lib.cell_of_heap hp2]; simpa using hx
  have c0 := k0 0 _ rfl
  have c1 := k0 1 _ rfl
  have c2 := k0 2 _ rfl
  have c3 := k0 3 _ rfl
  have c4 := k0 4 _ rfl
  have c5 := k0 5 _ rfl
  have c6 := k0 6 _ rfl
  have c7 := k0 7 _ rfl
  have c8 := k0 8 _ rfl
  have c9 := k0 9 _ rfl
  have c10 := k0 10 _ rfl
  have c11 := k0 11 _ rfl
  have c12 := k0 12 _ rfl
  have c13 := k0 13 _ rfl
  have c14 := k0 14 _ rfl
  have c15 := k0 15 _ rfl
  have fr : ∀ i, W2.frozen? ⟨w.heap.size + 1, i, none⟩ = false := fun i => Lib.frozen_of_heap hp2 i
  have HB2 := Lib.hid hB2
  clear k0 hk2 hB2 e1
  have hs := setCells_at (g := w.heap.size + 1) (T := 116) (by8 [0, 0, 0, 0, 0, 0, 0, 0, 0, 0, 255, 255, (a : Int), (b : Int), (c : Int), (d : Int)]) 0 W2 _ hp2 (by simp [by8])
  have HS := Lib.hid hs
  clear hs hp2
  go_wp2
  change bodyPost _ _ _ _ _ (W2.setCells (w.heap.size + 1) 0 (by8 [0, 0, 0, 0, 0, 0, 0, 0, 0, 0, 255, 255, (a : Int), (b : Int), (c : Int), (d : Int)]))
  obtain ⟨h1, h2⟩ := HS.out
  generalize W2.setCells (w.heap.size + 1) 0 (by8 [0, 0, 0, 0, 0, 0, 0, 0, 0, 0, 255, 255, (a : Int), (b : Int), (c : Int), (d : Int)]) = W3 at h1 h2 ⊢
  have k0 : ∀ i x, (by8 [0, 0, 0, 0, 0, 0, 0, 0, 0, 0, 255, 255, (a : Int), (b : Int), (c : Int), (d : Int)])[i]? = some x → W3.cell? ⟨w.heap.size + 1, i, none⟩ = some x := fun i x hx => by rw [Lib.cell_of_heap h1]; simpa [by8] using hx
  refine bodyPost_ret (v := .agg #[.int .u8 0, .int .u8 0, .int .u8 0, .int .u8 0, .int .u8 0, .int .u8 0, .int .u8 0, .int .u8 0, .int .u8 0, .int .u8 0, .int .u8 255, .int .u8 255, .int .u8 a, .int .u8 b, .int .u8 c, .int .u8 d]) (by
    simp [results, Tryz.results49, go_sem, k0 0 _ rfl, k0 1 _ rfl, k0 2 _ rfl, k0 3 _ rfl, k0 4 _ rfl, k0 5 _ rfl, k0 6 _ rfl, k0 7 _ rfl, k0 8 _ rfl, k0 9 _ rfl, k0 10 _ rfl, k0 11 _ rfl, k0 12 _ rfl, k0 13 _ rfl, k0 14 _ rfl, k0 15 _ rfl]) rfl ?_
  exact ⟨rfl, HB2.out.trans (h2.below HB2.out.size (by simp))⟩
/-- The sixteen bytes of an address of version 4. -/
def ip16 (a b c d : Nat) : List Int := [0, 0, 0, 0, 0, 0, 0, 0, 0, 0, 255, 255, (a : Int), (b : Int), (c : Int), (d : Int)]
/-- A new row of the sixteen bytes of an address. -/
def Ret16 (w : World) (a b c d : Nat) (e : Ending) (w' : World) : Prop := ∃ g, e = .returned (.slice (some ⟨g, 0, none⟩) 16 16) ∧ w.heap.size ≤ g ∧ w'.heap[g]? = some (.cells (by8 (ip16 a b c d)).toArray 116 (0, 0)) ∧ Below w.heap.size w w'
set_option maxHeartbeats 4000000 in
set_option maxRecDepth 100000 in
theorem zzParse (s : ByteArray) (a b c d : Nat) (z : Addr) (w : World) (h : NetLaid w z) (hip : ipOf (bytesOf s) = some [a, b, c, d]) (hsz : s.size ≤ 2147483647) :
    Calls Tryz.prog 38 #[.string s] w (Ret16 w a b c d) := by
  obtain ⟨a', b', c', d', he, ht, hlt⟩ := ipOf_text hip
  obtain ⟨rfl, rfl, rfl, rfl⟩ : a' = a ∧ b' = b ∧ c' = c ∧ d' = d := by simpa using he.symm
  have H := Lib.hid h
  have HI := Lib.hid hip
  have HD := Lib.hid hlt
  clear h hip hlt he ht
  go_enter Tryz.func38, Tryz.ntmps38
  go_wp2_with (go_at_call 47; refine (parseAddr s a' b' c' d' z _ H.out HI.out hsz).mono ?_; rintro e W1 ⟨rfl, hb1⟩; refine Hid.out ?_)
  refine Lib.hid ?_
  have HN : ∀ o, Hid (NetLaid (W1.alloc o) z) := fun o => (H.out.below hb1).alloc o
  have HB1 := Lib.hid hb1
  clear hb1
  simp only [ipV]
  go_wp2_with (go_at_call 48; refine (zone a' b' c' d' z _ (HN _).out).mono ?_; rintro e W2 ⟨rfl, hb2⟩; refine Hid.out ?_)
  refine Lib.hid ?_
  have hr : W2.heap[W1.heap.size]? = some (.cells #[.int .u64 0, .int .u64 (ipNum a' b' c' d'), .pointer (some z)] 112 (0, 0)) := by
    rw [hb2.block W1.heap.size (by simp)]; exact heap_alloc_new W1 _
  obtain ⟨e0, e1, e2, -⟩ := ip_cells hr
  have HB2 : Hid (Below w.heap.size w W2) := (HB1.out.alloc HB1.out.size _).trans (hb2.mono (by have := HB1.out.size; simp; omega))
  clear hr hb2
  go_wp2_with (go_at_call 49; refine (as16 a' b' c' d' z _ HD.out.1 HD.out.2.1 HD.out.2.2.1 HD.out.2.2.2).mono ?_; rintro e W3 ⟨rfl, hb3⟩; refine Hid.out ?_)
  refine Lib.hid ?_
  have HB3 : Hid (Below w.heap.size w W3) := HB2.out.trans (hb3.mono HB2.out.size)
  clear hb3 e0 e1 e2
  go_wp2
  go_ret
  exact ⟨W3.heap.size, rfl, HB3.out.size, heap_alloc_new W3 _, HB3.out.alloc HB3.out.size _⟩
set_option maxHeartbeats 4000000 in
set_option maxRecDepth 100000 in
theorem ip4bytes (g : Nat) (w : World) : Calls Tryz.prog 93 #[.slice (some ⟨g, 0, none⟩) 16 16] w fun e w' => e = .returned (.slice (some ⟨g, 12, none⟩) 4 4) ∧ w' = w := by
  go_enter Tryz.func93, Tryz.ntmps93
  go_wp2
  go_ret
  exact ⟨rfl, rfl⟩
theorem rd_ip4 {W : World} {g : Nat} {T : TypeId} {a b c d : Nat} (h : W.heap[g]? = some (.cells (by8 (ip16 a b c d)).toArray T (0, 0))) : Rd W (.slice (some ⟨g, 12, none⟩) 4 4) [(a : Int), (b : Int), (c : Int), (d : Int)] :=
  rd_cut h 12 4 rfl (by simp [ip16])
end Go.Proofs.YtpfmcdhmboclhaaGreatDoor
