/- gosnmp: a variable's bytes: the types with a content. gosnmp: a variable's bytes: an address. What a variable holds; gosnmp: a variable's bytes. gosnmp: the bytes of a list of variables. gosnmp: the head of a trap of version 1. gosnmp: the bytes of a message's body. -/
import Derived.Test.YtpfmcdhmboclhaaGreatDoorG07
import Derived.Test.YtpfmcdhmboclhaaGreatDoorG08
set_option linter.unusedVariables false
set_option linter.unusedSimpArgs false
namespace Go.Proofs.YtpfmcdhmboclhaaGreatDoor
open Go.RowKit
set_option maxHeartbeats 4000000 in
set_option maxRecDepth 100000 in
theorem vb_66 (w : World) (b : Nat) (name : ByteArray) (arcs : List Nat) (n : Nat) (h : PduAt w b (.iface 24 (.int .u64 n)) name 66) (hn : Nm name arcs) (hn2 : Hid (n < 4294967296)) :
    Calls Tryz.prog 95 #[.pointer (some ⟨b, 0, none⟩)] w (RetB w (sealB 48 (sealB 6 (nameB arcs) 0 ++ sealB 66 (uintB n) 0) 0)) := by
  have c1 := h.c1
  have hL6 : (sealB 6 (nameB arcs) 0).length ≤ 104 := seal_lt hn.good.bytes (by omega)
  have hcs := uintB_short n (by have := hn2.out; omega)
  have ta1 := ta_24_22
  have ta2 := ta_24_24
  go_enter Tryz.func95, Tryz.ntmps95
  go_wp2_with (go_at_call 91; refine (marshalOID name arcs _ hn.good hn.text hn.size).mono ?_; rintro e W1 ⟨v1, rfl, hr1, hn1, hb1⟩; refine Hid.out ?_)
  refine Lib.hid ?_
  have c2 : ∀ o o', ((W1.alloc o).alloc o').cell? ⟨b, 2, none⟩ = some (.int .u8 66) := fun o o' => (two_alloc (h.more hb1) o o').c2
  have hV := VB.start hr1 hb1 (hr1.lt hn.good.ne)
  clear hb1 hr1 hn1 c1
  go_wp2_with (go_at_call 92; refine (marshalTLV _ _ _ v1 6 [] (nameB arcs) hV.tb hV.ro hV.apart_oid (by have := hn.good.bytes; omega) (by simp)).mono ?_; rintro e W3 ⟨rfl, hw3⟩; refine Hid.out ?_)
  refine Lib.hid ?_
  obtain ⟨v3, hV3⟩ := hV.wrote hw3
  rw [List.nil_append] at hV3
  have c0 := (h.in hV3).c0
  have c2 := (h.in hV3).c2
  clear hV hw3
  go_wp2_with (go_at_call 71; refine (marshalUint32 n _ hn2.out).mono ?_; rintro e W4 ⟨vc, rfl, hr4, hn4, hb4⟩; refine Hid.out ?_)
  refine Lib.hid ?_
  have ha4 := hV3.apart_new hn4
  have hV4 := hV3.more hb4
  have c2 := (h.in hV4).c2
  clear c0 hV3 hn4 hb4
  go_wp2_with (go_at_call 92; refine (marshalTLV _ _ v3 vc 66 (sealB 6 (nameB arcs) 0) (uintB n) hV4.tb hr4 ha4 (by have := hcs; omega) (by omega)).mono ?_; rintro e W5 ⟨rfl, hw5⟩; refine Hid.out ?_)
  refine Lib.hid ?_
  obtain ⟨v5, hV5⟩ := hV4.wrote hw5
  clear c2 hV4 hw5 hr4 ha4
  have hL5 : (sealB 6 (nameB arcs) 0 ++ sealB 66 (uintB n) 0).length ≤ 10000 := by
    have : (sealB 66 (uintB n) 0).length ≤ 9 + 4 := seal_lt hcs (by omega)
    simp; omega
  go_wp2_with (go_at_call 58; refine (bufBytes' hV5.tb).mono ?_; rintro e W6 ⟨rfl, k6, rfl⟩; refine Hid.out ?_)
  refine Lib.hid ?_
  have hV6 := hV5.more (W1 := W5.drewN k6) ⟨rfl, rfl, rfl, Nat.le_refl _, fun _ _ => rfl⟩
  clear hV5
  go_wp2_with (go_at_call 92; refine (marshalTLV _ _ _ _ 48 [] _ hV6.pb hV6.tb.2.1.reads hV6.apart_t (by omega) (by simp)).mono ?_; rintro e W7 ⟨rfl, hw7⟩; refine Hid.out ?_)
  refine Lib.hid ?_
  obtain ⟨vp, hp, hR⟩ := hV6.done hw7
  rw [List.nil_append] at hp hR
  have HR := Lib.hid hR
  clear hV6 hw7 hR
  go_wp2_with (go_at_call 58; refine (bufBytes' hp).mono ?_; rintro e W8 ⟨rfl, k8, rfl⟩; refine Hid.out ?_)
  refine Lib.hid ?_
  clear hp
  go_wp2
  go_ret2
  exact HR.out k8
set_option maxHeartbeats 4000000 in
set_option maxRecDepth 100000 in
theorem vb_67 (w : World) (b : Nat) (name : ByteArray) (arcs : List Nat) (n : Nat) (h : PduAt w b (.iface 24 (.int .u64 n)) name 67) (hn : Nm name arcs) (hn2 : Hid (n < 4294967296)) :
    Calls Tryz.prog 95 #[.pointer (some ⟨b, 0, none⟩)] w (RetB w (sealB 48 (sealB 6 (nameB arcs) 0 ++ sealB 67 (uintB n) 0) 0)) := by
  have c1 := h.c1
  have hL6 : (sealB 6 (nameB arcs) 0).length ≤ 104 := seal_lt hn.good.bytes (by omega)
  have hcs := uintB_short n (by have := hn2.out; omega)
  have ta1 := ta_24_22
  have ta2 := ta_24_24
  go_enter Tryz.func95, Tryz.ntmps95
  go_wp2_with (go_at_call 91; refine (marshalOID name arcs _ hn.good hn.text hn.size).mono ?_; rintro e W1 ⟨v1, rfl, hr1, hn1, hb1⟩; refine Hid.out ?_)
  refine Lib.hid ?_
  have c2 : ∀ o o', ((W1.alloc o).alloc o').cell? ⟨b, 2, none⟩ = some (.int .u8 67) := fun o o' => (two_alloc (h.more hb1) o o').c2
  have hV := VB.start hr1 hb1 (hr1.lt hn.good.ne)
  clear hb1 hr1 hn1 c1
  go_wp2_with (go_at_call 92; refine (marshalTLV _ _ _ v1 6 [] (nameB arcs) hV.tb hV.ro hV.apart_oid (by have := hn.good.bytes; omega) (by simp)).mono ?_; rintro e W3 ⟨rfl, hw3⟩; refine Hid.out ?_)
  refine Lib.hid ?_
  obtain ⟨v3, hV3⟩ := hV.wrote hw3
  rw [List.nil_append] at hV3
  have c0 := (h.in hV3).c0
  have c2 := (h.in hV3).c2
  clear hV hw3
  go_wp2_with (go_at_call 71; refine (marshalUint32 n _ hn2.out).mono ?_; rintro e W4 ⟨vc, rfl, hr4, hn4, hb4⟩; refine Hid.out ?_)
  refine Lib.hid ?_
  have ha4 := hV3.apart_new hn4
  have hV4 := hV3.more hb4
  have c2 := (h.in hV4).c2
  clear c0 hV3 hn4 hb4
  go_wp2_with (go_at_call 92; refine (marshalTLV _ _ v3 vc 67 (sealB 6 (nameB arcs) 0) (uintB n) hV4.tb hr4 ha4 (by have := hcs; omega) (by omega)).mono ?_; rintro e W5 ⟨rfl, hw5⟩; refine Hid.out ?_)
  refine Lib.hid ?_
  obtain ⟨v5, hV5⟩ := hV4.wrote hw5
  clear c2 hV4 hw5 hr4 ha4
  have hL5 : (sealB 6 (nameB arcs) 0 ++ sealB 67 (uintB n) 0).length ≤ 10000 := by
    have : (sealB 67 (uintB n) 0).length ≤ 9 + 4 := seal_lt hcs (by omega)
    simp; omega
  go_wp2_with (go_at_call 58; refine (bufBytes' hV5.tb).mono ?_; rintro e W6 ⟨rfl, k6, rfl⟩; refine Hid.out ?_)
  refine Lib.hid ?_
  have hV6 := hV5.more (W1 := W5.drewN k6) ⟨rfl, rfl, rfl, Nat.le_refl _, fun _ _ => rfl⟩
  clear hV5
  go_wp2_with (go_at_call 92; refine (marshalTLV _ _ _ _ 48 [] _ hV6.pb hV6.tb.2.1.reads hV6.apart_t (by omega) (by simp)).mono ?_; rintro e W7 ⟨rfl, hw7⟩; refine Hid.out ?_)
  refine Lib.hid ?_
  obtain ⟨vp, hp, hR⟩ := hV6.done hw7
  rw [List.nil_append] at hp hR
  have HR := Lib.hid hR
  clear hV6 hw7 hR
  go_wp2_with (go_at_call 58; refine (bufBytes' hp).mono ?_; rintro e W8 ⟨rfl, k8, rfl⟩; refine Hid.out ?_)
  refine Lib.hid ?_
  clear hp
  go_wp2
  go_ret2
  exact HR.out k8
set_option maxHeartbeats 4000000 in
set_option maxRecDepth 100000 in
theorem vb_70 (w : World) (b : Nat) (name : ByteArray) (arcs : List Nat) (n : Nat) (h : PduAt w b (.iface 38 (.int .u64 n)) name 70) (hn : Nm name arcs) (hn2 : Hid (n < 18446744073709551616)) :
    Calls Tryz.prog 95 #[.pointer (some ⟨b, 0, none⟩)] w (RetB w (sealB 48 (sealB 6 (nameB arcs) 0 ++ sealB 70 (uintB n) 0) 0)) := by
  have c1 := h.c1
  have hL6 : (sealB 6 (nameB arcs) 0).length ≤ 104 := seal_lt hn.good.bytes (by omega)
  have hcs := uintB_short n hn2.out
  go_enter Tryz.func95, Tryz.ntmps95
  go_wp2_with (go_at_call 91; refine (marshalOID name arcs _ hn.good hn.text hn.size).mono ?_; rintro e W1 ⟨v1, rfl, hr1, hn1, hb1⟩; refine Hid.out ?_)
  refine Lib.hid ?_
  have c2 : ∀ o o', ((W1.alloc o).alloc o').cell? ⟨b, 2, none⟩ = some (.int .u8 70) := fun o o' => (two_alloc (h.more hb1) o o').c2
  have hV := VB.start hr1 hb1 (hr1.lt hn.good.ne)
  clear hb1 hr1 hn1 c1
  go_wp2_with (go_at_call 92; refine (marshalTLV _ _ _ v1 6 [] (nameB arcs) hV.tb hV.ro hV.apart_oid (by have := hn.good.bytes; omega) (by simp)).mono ?_; rintro e W3 ⟨rfl, hw3⟩; refine Hid.out ?_)
  refine Lib.hid ?_
  obtain ⟨v3, hV3⟩ := hV.wrote hw3
  rw [List.nil_append] at hV3
  have c0 := (h.in hV3).c0
  have c2 := (h.in hV3).c2
  clear hV hw3
  go_wp2_with (go_at_call 111; refine (marshalUint64 n _ hn2.out).mono ?_; rintro e W4 ⟨vc, rfl, hr4, hn4, hb4⟩; refine Hid.out ?_)
  refine Lib.hid ?_
  have ha4 := hV3.apart_new hn4
  have hV4 := hV3.more hb4
  have c2 := (h.in hV4).c2
  clear c0 hV3 hn4 hb4
  go_wp2_with (go_at_call 92; refine (marshalTLV _ _ v3 vc 70 (sealB 6 (nameB arcs) 0) (uintB n) hV4.tb hr4 ha4 (by have := hcs; omega) (by omega)).mono ?_; rintro e W5 ⟨rfl, hw5⟩; refine Hid.out ?_)
  refine Lib.hid ?_
  obtain ⟨v5, hV5⟩ := hV4.wrote hw5
  clear c2 hV4 hw5 hr4 ha4
  have hL5 : (sealB 6 (nameB arcs) 0 ++ sealB 70 (uintB n) 0).length ≤ 10000 := by
    have : (sealB 70 (uintB n) 0).length ≤ 9 + 4 := seal_lt hcs (by omega)
    simp; omega
  go_wp2_with (go_at_call 58; refine (bufBytes' hV5.tb).mono ?_; rintro e W6 ⟨rfl, k6, rfl⟩; refine Hid.out ?_)
  refine Lib.hid ?_
  have hV6 := hV5.more (W1 := W5.drewN k6) ⟨rfl, rfl, rfl, Nat.le_refl _, fun _ _ => rfl⟩
  clear hV5
  go_wp2_with (go_at_call 92; refine (marshalTLV _ _ _ _ 48 [] _ hV6.pb hV6.tb.2.1.reads hV6.apart_t (by omega) (by simp)).mono ?_; rintro e W7 ⟨rfl, hw7⟩; refine Hid.out ?_)
  refine Lib.hid ?_
  obtain ⟨vp, hp, hR⟩ := hV6.done hw7
  rw [List.nil_append] at hp hR
  have HR := Lib.hid hR
  clear hV6 hw7 hR
  go_wp2_with (go_at_call 58; refine (bufBytes' hp).mono ?_; rintro e W8 ⟨rfl, k8, rfl⟩; refine Hid.out ?_)
  refine Lib.hid ?_
  clear hp
  go_wp2
  go_ret2
  exact HR.out k8
set_option maxHeartbeats 4000000 in
set_option maxRecDepth 100000 in
theorem vb_6 (w : World) (b : Nat) (name : ByteArray) (arcs : List Nat) (s : ByteArray) (arcs2 : List Nat) (h : PduAt w b (.iface 9 (.string s)) name 6) (hn : Nm name arcs) (hn2 : Hid (Nm s arcs2)) :
    Calls Tryz.prog 95 #[.pointer (some ⟨b, 0, none⟩)] w (RetB w (sealB 48 (sealB 6 (nameB arcs) 0 ++ sealB 6 (nameB arcs2) 0) 0)) := by
  have c1 := h.c1
  have hL6 : (sealB 6 (nameB arcs) 0).length ≤ 104 := seal_lt hn.good.bytes (by omega)
  have hcs := hn2.out.good.bytes
  have ta1 := ta_9_9f
  go_enter Tryz.func95, Tryz.ntmps95
  go_wp2_with (go_at_call 91; refine (marshalOID name arcs _ hn.good hn.text hn.size).mono ?_; rintro e W1 ⟨v1, rfl, hr1, hn1, hb1⟩; refine Hid.out ?_)
  refine Lib.hid ?_
  have c2 : ∀ o o', ((W1.alloc o).alloc o').cell? ⟨b, 2, none⟩ = some (.int .u8 6) := fun o o' => (two_alloc (h.more hb1) o o').c2
  have hV := VB.start hr1 hb1 (hr1.lt hn.good.ne)
  clear hb1 hr1 hn1 c1
  go_wp2_with (go_at_call 92; refine (marshalTLV _ _ _ v1 6 [] (nameB arcs) hV.tb hV.ro hV.apart_oid (by have := hn.good.bytes; omega) (by simp)).mono ?_; rintro e W3 ⟨rfl, hw3⟩; refine Hid.out ?_)
  refine Lib.hid ?_
  obtain ⟨v3, hV3⟩ := hV.wrote hw3
  rw [List.nil_append] at hV3
  have c0 := (h.in hV3).c0
  have c2 := (h.in hV3).c2
  clear hV hw3
  go_wp2_with (go_at_call 91; refine (marshalOID s arcs2 _ hn2.out.good hn2.out.text hn2.out.size).mono ?_; rintro e W4 ⟨vc, rfl, hr4, hn4, hb4⟩; refine Hid.out ?_)
  refine Lib.hid ?_
  have ha4 := hV3.apart_new hn4
  have hV4 := hV3.more hb4
  have c2 := (h.in hV4).c2
  clear c0 hV3 hn4 hb4
  go_wp2_with (go_at_call 92; refine (marshalTLV _ _ v3 vc 6 (sealB 6 (nameB arcs) 0) (nameB arcs2) hV4.tb hr4 ha4 (by have := hcs; omega) (by omega)).mono ?_; rintro e W5 ⟨rfl, hw5⟩; refine Hid.out ?_)
  refine Lib.hid ?_
  obtain ⟨v5, hV5⟩ := hV4.wrote hw5
  clear c2 hV4 hw5 hr4 ha4
  have hL5 : (sealB 6 (nameB arcs) 0 ++ sealB 6 (nameB arcs2) 0).length ≤ 10000 := by
    have : (sealB 6 (nameB arcs2) 0).length ≤ 100 + 4 := seal_lt hcs (by omega)
    simp; omega
  go_wp2_with (go_at_call 58; refine (bufBytes' hV5.tb).mono ?_; rintro e W6 ⟨rfl, k6, rfl⟩; refine Hid.out ?_)
  refine Lib.hid ?_
  have hV6 := hV5.more (W1 := W5.drewN k6) ⟨rfl, rfl, rfl, Nat.le_refl _, fun _ _ => rfl⟩
  clear hV5
  go_wp2_with (go_at_call 92; refine (marshalTLV _ _ _ _ 48 [] _ hV6.pb hV6.tb.2.1.reads hV6.apart_t (by omega) (by simp)).mono ?_; rintro e W7 ⟨rfl, hw7⟩; refine Hid.out ?_)
  refine Lib.hid ?_
  obtain ⟨vp, hp, hR⟩ := hV6.done hw7
  rw [List.nil_append] at hp hR
  have HR := Lib.hid hR
  clear hV6 hw7 hR
  go_wp2_with (go_at_call 58; refine (bufBytes' hp).mono ?_; rintro e W8 ⟨rfl, k8, rfl⟩; refine Hid.out ?_)
  refine Lib.hid ?_
  clear hp
  go_wp2
  go_ret2
  exact HR.out k8
set_option maxHeartbeats 4000000 in
set_option maxRecDepth 100000 in
theorem vb_4 (w : World) (b : Nat) (name : ByteArray) (arcs : List Nat) (s : ByteArray) (h : PduAt w b (.iface 9 (.string s)) name 4) (hn : Nm name arcs) (hn2 : Hid (s.size ≤ 9000)) :
    Calls Tryz.prog 95 #[.pointer (some ⟨b, 0, none⟩)] w (RetB w (sealB 48 (sealB 6 (nameB arcs) 0 ++ sealB 4 (bytesOf s) 0) 0)) := by
  have c1 := h.c1
  have hL6 : (sealB 6 (nameB arcs) 0).length ≤ 104 := seal_lt hn.good.bytes (by omega)
  have hcs : (bytesOf s).length ≤ 9000 := by rw [bytesOf_length]; exact hn2.out
  have ta1 := ta_9_30
  have ta2 := ta_9_9
  have conv := 0
  go_enter Tryz.func95, Tryz.ntmps95
  go_wp2_with (go_at_call 91; refine (marshalOID name arcs _ hn.good hn.text hn.size).mono ?_; rintro e W1 ⟨v1, rfl, hr1, hn1, hb1⟩; refine Hid.out ?_)
  refine Lib.hid ?_
  have c2 : ∀ o o', ((W1.alloc o).alloc o').cell? ⟨b, 2, none⟩ = some (.int .u8 4) := fun o o' => (two_alloc (h.more hb1) o o').c2
  have hV := VB.start hr1 hb1 (hr1.lt hn.good.ne)
  clear hb1 hr1 hn1 c1
  go_wp2_with (go_at_call 92; refine (marshalTLV _ _ _ v1 6 [] (nameB arcs) hV.tb hV.ro hV.apart_oid (by have := hn.good.bytes; omega) (by simp)).mono ?_; rintro e W3 ⟨rfl, hw3⟩; refine Hid.out ?_)
  refine Lib.hid ?_
  obtain ⟨v3, hV3⟩ := hV.wrote hw3
  rw [List.nil_append] at hV3
  have c0 := (h.in hV3).c0
  have c2 := (h.in hV3).c2
  clear hV hw3
  have hcv := conv_bytes W3
  have hV4 := hV3.more (bytesWorld_below W3 s)
  have c2 := (h.in hV4).c2
  have hr4 := rd_bytes W3 s (by have := hn2.out; simp only [maxLen]; omega)
  have ha4 : apart (.slice (some ⟨W3.heap.size, 0, none⟩) s.size (grownCap W3 s.size 0 5)) (_ :: v3.ownBlock.toList) := hV3.apart_new (by intro a n c e; injection e with e; injection e with e; subst e; exact Nat.le_refl _)
  clear hV3
  go_wp2_with (go_at_call 92; refine (marshalTLV _ _ v3 _ 4 (sealB 6 (nameB arcs) 0) (bytesOf s) hV4.tb hr4 ha4 (by have := hcs; omega) (by omega)).mono ?_; rintro e W5 ⟨rfl, hw5⟩; refine Hid.out ?_)
  refine Lib.hid ?_
  obtain ⟨v5, hV5⟩ := hV4.wrote hw5
  clear c2 hV4 hw5 hr4 ha4
  have hL5 : (sealB 6 (nameB arcs) 0 ++ sealB 4 (bytesOf s) 0).length ≤ 10000 := by
    have : (sealB 4 (bytesOf s) 0).length ≤ 9000 + 4 := seal_lt hcs (by omega)
    simp; omega
  go_wp2_with (go_at_call 58; refine (bufBytes' hV5.tb).mono ?_; rintro e W6 ⟨rfl, k6, rfl⟩; refine Hid.out ?_)
  refine Lib.hid ?_
  have hV6 := hV5.more (W1 := W5.drewN k6) ⟨rfl, rfl, rfl, Nat.le_refl _, fun _ _ => rfl⟩
  clear hV5
  go_wp2_with (go_at_call 92; refine (marshalTLV _ _ _ _ 48 [] _ hV6.pb hV6.tb.2.1.reads hV6.apart_t (by omega) (by simp)).mono ?_; rintro e W7 ⟨rfl, hw7⟩; refine Hid.out ?_)
  refine Lib.hid ?_
  obtain ⟨vp, hp, hR⟩ := hV6.done hw7
  rw [List.nil_append] at hp hR
  have HR := Lib.hid hR
  clear hV6 hw7 hR
  go_wp2_with (go_at_call 58; refine (bufBytes' hp).mono ?_; rintro e W8 ⟨rfl, k8, rfl⟩; refine Hid.out ?_)
  refine Lib.hid ?_
  clear hp
  go_wp2
  go_ret2
  exact HR.out k8
end Go.Proofs.YtpfmcdhmboclhaaGreatDoor
namespace Go.Proofs.YtpfmcdhmboclhaaGreatDoor
open Go.RowKit

set_option maxHeartbeats 4000000 in
set_option maxRecDepth 100000 in
theorem addressOk (s : ByteArray) (a b c d : Nat) (z : Addr) (w : World) (h : NetLaid w z) (hip : ipOf (bytesOf s) = some [a, b, c, d]) (hsz : s.size ≤ 2147483647) :
    Calls Tryz.prog 16 #[.string s] w fun e w' => e = .returned (.bool true) ∧ Below w.heap.size w w' := by
  have H := Lib.hid h
  have HI := Lib.hid hip
  clear h hip
  go_enter Tryz.func16, Tryz.ntmps16
  go_wp2_with (go_at_call 38; refine (zzParse s a b c d z _ H.out HI.out hsz).mono ?_; rintro e W4 ⟨g4, rfl, hg4, hr4, hb4⟩; refine Hid.out ?_)
  refine Lib.hid ?_
  have HB := Lib.hid hb4
  clear hg4 hr4 hb4
  go_wp2
  go_ret
  exact ⟨rfl, HB.out⟩
set_option maxHeartbeats 4000000 in
set_option maxRecDepth 100000 in
theorem vb_64 (w : World) (b : Nat) (name : ByteArray) (arcs : List Nat) (s : ByteArray) (a b' c d : Nat) (z : Addr) (h : PduAt w b (.iface 9 (.string s)) name 64) (hn : Nm name arcs) (hN : Hid (NetLaid w z)) (hn2 : Hid (ipOf (bytesOf s) = some [a, b', c, d] ∧ s.size ≤ 2147483647)) :
    Calls Tryz.prog 95 #[.pointer (some ⟨b, 0, none⟩)] w (RetB w (sealB 48 (sealB 6 (nameB arcs) 0 ++ sealB 64 [(a : Int), (b' : Int), (c : Int), (d : Int)] 0) 0)) := by
  have c1 := h.c1
  have hL6 : (sealB 6 (nameB arcs) 0).length ≤ 104 := seal_lt hn.good.bytes (by omega)
  have hcs : ([(a : Int), (b' : Int), (c : Int), (d : Int)] : List Int).length ≤ 4 := by simp
  have ta1 := ta_9_30
  have ta2 := ta_9_9
  go_enter Tryz.func95, Tryz.ntmps95
  go_wp2_with (go_at_call 91; refine (marshalOID name arcs _ hn.good hn.text hn.size).mono ?_; rintro e W1 ⟨v1, rfl, hr1, hn1, hb1⟩; refine Hid.out ?_)
  refine Lib.hid ?_
  have c2 : ∀ o o', ((W1.alloc o).alloc o').cell? ⟨b, 2, none⟩ = some (.int .u8 64) := fun o o' => (two_alloc (h.more hb1) o o').c2
  have hV := VB.start hr1 hb1 (hr1.lt hn.good.ne)
  clear hb1 hr1 hn1 c1
  go_wp2_with (go_at_call 92; refine (marshalTLV _ _ _ v1 6 [] (nameB arcs) hV.tb hV.ro hV.apart_oid (by have := hn.good.bytes; omega) (by simp)).mono ?_; rintro e W3 ⟨rfl, hw3⟩; refine Hid.out ?_)
  refine Lib.hid ?_
  obtain ⟨v3, hV3⟩ := hV.wrote hw3
  rw [List.nil_append] at hV3
  have c0 := (h.in hV3).c0
  have c2 := (h.in hV3).c2
  clear hV hw3
  have HN := Lib.hid (hN.out.below hV3.below)
  have hs5 : s.size ≤ 2147483647 := hn2.out.2
  go_wp2_with (go_at_call 38; refine (zzParse s a b' c d z _ HN.out hn2.out.1 hs5).mono ?_; rintro e W4 ⟨g4, rfl, hg4, hr4, hb4⟩; refine Hid.out ?_)
  refine Lib.hid ?_
  have ha4 : apart (.slice (some ⟨g4, 12, none⟩) 4 4) (_ :: v3.ownBlock.toList) := hV3.apart_new (by intro a n c e; injection e with e; injection e with e; subst e; exact hg4)
  have hV4 := hV3.more hb4
  have c2 := (h.in hV4).c2
  have hr4 := rd_ip4 hr4
  clear c0 hV3 hg4 hb4
  go_wp2_with (go_at_call 93; refine (ip4bytes g4 _).mono ?_; rintro e W5 ⟨rfl, rfl⟩; refine Hid.out ?_)
  refine Lib.hid ?_
  go_wp2_with (go_at_call 92; refine (marshalTLV _ _ v3 _ 64 (sealB 6 (nameB arcs) 0) [(a : Int), (b' : Int), (c : Int), (d : Int)] hV4.tb hr4 ha4 (by have := hcs; simp) (by omega)).mono ?_; rintro e W6 ⟨rfl, hw6⟩; refine Hid.out ?_)
  refine Lib.hid ?_
  obtain ⟨v5, hV5⟩ := hV4.wrote hw6
  clear c2 hV4 hw6 hr4 ha4
  have hL5 : (sealB 6 (nameB arcs) 0 ++ sealB 64 [(a : Int), (b' : Int), (c : Int), (d : Int)] 0).length ≤ 10000 := by
    have : (sealB 64 [(a : Int), (b' : Int), (c : Int), (d : Int)] 0).length ≤ 4 + 4 := seal_lt hcs (by omega)
    simp; omega
  go_wp2_with (go_at_call 58; refine (bufBytes' hV5.tb).mono ?_; rintro e W7 ⟨rfl, k7, rfl⟩; refine Hid.out ?_)
  refine Lib.hid ?_
  have hVv := hV5.more (W1 := W6.drewN k7) ⟨rfl, rfl, rfl, Nat.le_refl _, fun _ _ => rfl⟩
  clear hV5
  go_wp2_with (go_at_call 92; refine (marshalTLV _ _ _ _ 48 [] _ hVv.pb hVv.tb.2.1.reads hVv.apart_t (by omega) (by simp)).mono ?_; rintro e W9 ⟨rfl, hw9⟩; refine Hid.out ?_)
  refine Lib.hid ?_
  obtain ⟨vp, hp, hR⟩ := hVv.done hw9
  rw [List.nil_append] at hp hR
  have HR := Lib.hid hR
  clear hVv hw9 hR
  go_wp2_with (go_at_call 58; refine (bufBytes' hp).mono ?_; rintro e W8 ⟨rfl, k8, rfl⟩; refine Hid.out ?_)
  refine Lib.hid ?_
  clear hp
  go_wp2
  go_ret2
  exact HR.out k8
end Go.Proofs.YtpfmcdhmboclhaaGreatDoor
namespace Go.Proofs.YtpfmcdhmboclhaaGreatDoor
open Go.RowKit

/-- What a variable holds. -/
inductive Pay where
  | nul (t : Nat)
  | int (n : Int)
  | str (s : ByteArray)
  | oid (s : ByteArray) (arcs : List Nat)
  | ip (s : ByteArray) (a b c d : Nat)
  | u32 (t n : Nat)
  | u64 (n : Nat)
def Pay.typ : Pay → Int
  | .nul t => t
  | .int _ => 2
  | .str _ => 4
  | .oid _ _ => 6
  | .ip _ _ _ _ _ => 64
  | .u32 t _ => t
  | .u64 _ => 70
/-- As gosnmp's value. -/
def Pay.val : Pay → Value
  | .nul _ => .nilIface
  | .int n => .iface 3 (.int .i64 n)
  | .str s => .iface 9 (.string s)
  | .oid s _ => .iface 9 (.string s)
  | .ip s _ _ _ _ => .iface 9 (.string s)
  | .u32 _ n => .iface 24 (.int .u64 n)
  | .u64 n => .iface 38 (.int .u64 n)
/-- Its content. -/
def Pay.con : Pay → List Int
  | .nul _ => []
  | .int n => intB n
  | .str s => bytesOf s
  | .oid _ arcs => nameB arcs
  | .ip _ a b c d => [(a : Int), (b : Int), (c : Int), (d : Int)]
  | .u32 _ n => uintB n
  | .u64 n => uintB n
def Pay.Ok : Pay → Prop
  | .nul t => t = 5 ∨ t = 128 ∨ t = 129 ∨ t = 130
  | .int n => -2147483648 ≤ n ∧ n ≤ 2147483647
  | .str s => s.size ≤ 500
  | .oid s arcs => Nm s arcs
  | .ip s a b c d => ipOf (bytesOf s) = some [a, b, c, d] ∧ s.size ≤ 2147483647
  | .u32 t n => (t = 65 ∨ t = 66 ∨ t = 67) ∧ n < 4294967296
  | .u64 n => n < 18446744073709551616
theorem Pay.con_len {p : Pay} (h : p.Ok) : p.con.length ≤ 500 := by
  cases p with
  | nul t => exact Nat.zero_le _
  | int n => exact Nat.le_trans (intB_le n h) (by omega)
  | str s => show (bytesOf s).length ≤ 500; rw [bytesOf_length]; exact h
  | oid s arcs => exact Nat.le_trans (Nm.good h).bytes (by omega)
  | ip s a b c d => show [(a : Int), (b : Int), (c : Int), (d : Int)].length ≤ 500; simp
  | u32 t n => exact Nat.le_trans (uintB_short n (by have : n < 4294967296 := h.2; omega)) (by omega)
  | u64 n => exact Nat.le_trans (uintB_short n h) (by omega)
/-- A variable's bytes. -/
def varB (arcs : List Nat) (p : Pay) (w : Nat) : List Int := sealB 48 (sealB 6 (nameB arcs) w ++ sealB p.typ p.con w) w
theorem marshalVarbind (w : World) (b : Nat) (name : ByteArray) (arcs : List Nat) (p : Pay) (z : Addr) (hz : NetLaid w z) (hp : p.Ok) (h : PduAt w b p.val name p.typ) (hn : Nm name arcs) :
    Calls Tryz.prog 95 #[.pointer (some ⟨b, 0, none⟩)] w (RetB w (varB arcs p 0)) := by
  cases p with
  | nul t =>
    have e : varB arcs (.nul t) 0 = sealB 48 (sealB 6 (nameB arcs) 0 ++ [(t : Int), 0]) 0 := by simp [varB, Pay.typ, Pay.con, sealB, lenB]
    rw [e]
    rcases hp with rfl | rfl | rfl | rfl
    · exact vb_5 w b name arcs _ h hn
    · exact vb_128 w b name arcs _ h hn
    · exact vb_129 w b name arcs _ h hn
    · exact vb_130 w b name arcs _ h hn
  | int n => exact vb_2 w b name arcs n h hn (Lib.hid hp)
  | str s => exact vb_4 w b name arcs s h hn (Lib.hid (Nat.le_trans hp (by omega)))
  | oid s arcs2 => exact vb_6 w b name arcs s arcs2 h hn (Lib.hid hp)
  | ip s a b' c d => exact vb_64 w b name arcs s a b' c d z h hn (Lib.hid hz) (Lib.hid hp)
  | u32 t n =>
    rcases hp with ⟨rfl | rfl | rfl, hp⟩
    · exact vb_65 w b name arcs n h hn (Lib.hid hp)
    · exact vb_66 w b name arcs n h hn (Lib.hid hp)
    · exact vb_67 w b name arcs n h hn (Lib.hid hp)
  | u64 n => exact vb_70 w b name arcs n h hn (Lib.hid hp)
theorem sealB_length (t : Int) (l : List Int) (w : Nat) (h : l.length < 65536) : (sealB t l w).length ≤ l.length + 4 + w := by
  have := lenB_length l.length w h
  unfold sealB
  simp only [List.length_cons, List.length_append]
  omega
theorem varB_length (arcs : List Nat) (p : Pay) (w : Nat) (hg : GoodArcs arcs) (hp : p.Ok) (hw : w ≤ 2) : (varB arcs p w).length ≤ 618 := by
  have h1 := hg.bytes
  have h2 := p.con_len hp
  have h3 := sealB_length 6 (nameB arcs) w (by omega)
  have h4 := sealB_length p.typ p.con w (by omega)
  have h5 := sealB_length 48 (sealB 6 (nameB arcs) w ++ sealB p.typ p.con w) w (by rw [List.length_append]; omega)
  rw [List.length_append] at h5
  unfold varB
  omega
/-- The state: one buffer t. -/
structure OB (w : World) (t : Nat) (vt : Value) (lt : List Int) (W : World) : Prop where
  below : Below w.heap.size w W
  tb : Buf W t vt lt
  wt : w.heap.size ≤ t
  own : ∀ k, vt.ownBlock = some k → w.heap.size ≤ k
theorem OB.start {w W : World} (hb : Below w.heap.size w W) : OB w W.heap.size (.slice none 0 0) [] (W.alloc (.cells #[.slice none 0 0, .int .i64 0, .int .i8 0] 122)) :=
  ⟨hb.alloc hb.size _, fresh_buf W, hb.size, by simp [Value.ownBlock]⟩
end Go.Proofs.YtpfmcdhmboclhaaGreatDoor
namespace Go.Proofs.YtpfmcdhmboclhaaGreatDoor
section
open Go.RowKit
variable {w W W1 W2 : World} {t : Nat} {vt c : Value} {lt l' : List Int}
theorem OB.more (h : OB w t vt lt W) (hb : Below W.heap.size W W1) : OB w t vt lt W1 := ⟨h.below.trans (hb.mono h.below.size), h.tb.keptBelow hb, h.wt, h.own⟩
theorem OB.wrote (h : OB w t vt lt W) (hw : Wrote W t vt l' W2) : ∃ vt', OB w t vt' l' W2 := by
  obtain ⟨v', h1, h2, h3⟩ := hw
  refine ⟨v', h.below.trans (h3.below h.below.size (fun k hk => ?_)), h1, h.wt, ?_⟩
  · rcases List.mem_cons.1 hk with rfl | hk
    · exact h.wt
    · exact h.own k (by simpa using hk)
  · intro k hk
    rcases h2 with h2 | ⟨g, h2, h4⟩
    · exact h.own k (h2 ▸ hk)
    · rw [h2] at hk
      injection hk with hk
      have := h.below.size
      omega
theorem OB.apart_new (h : OB w t vt lt W) (hn : newer c W.heap.size) : apart c (t :: vt.ownBlock.toList) := hn.apart h.tb.old
theorem OB.slice (h : OB w t vt lt W) : ∀ a n k, vt = .slice (some a) n k → w.heap.size ≤ a.block := by
  intro a n k e
  exact h.own _ (by rw [e]; rfl)
theorem OB.ret (h : OB w t vt lt W) : RetB w lt (.returned (.tuple #[vt, .nilIface])) W := ⟨vt, rfl, h.tb.2.1.reads, h.slice, h.below⟩
end
end Go.Proofs.YtpfmcdhmboclhaaGreatDoor
namespace Go.Proofs.YtpfmcdhmboclhaaGreatDoor
open Go.RowKit

/-- A variable, as it came in. -/
structure AV where
  name : ByteArray
  arcs : List Nat
  pay : Pay
structure AV.Ok (x : AV) : Prop where
  nm : Nm x.name x.arcs
  pay : x.pay.Ok
/-- The bytes of variables. -/
def varsB (l : List AV) (w : Nat) : List Int := l.flatMap fun x => varB x.arcs x.pay w
theorem varsB_length (l : List AV) (w : Nat) (hw : w ≤ 2) (h : ∀ x ∈ l, x.Ok) : (varsB l w).length ≤ 618 * l.length := by
  induction l with
  | nil => simp [varsB]
  | cons x r ih =>
    have h1 := varB_length x.arcs x.pay w (h x (by simp)).nm.good (h x (by simp)).pay hw
    have h2 := ih (fun y hy => h y (by simp [hy]))
    simp only [varsB, List.flatMap_cons, List.length_append, List.length_cons] at h1 h2 ⊢
    omega
theorem varsB_snoc (l : List AV) (x : AV) (w : Nat) : varsB (l ++ [x]) w = varsB l w ++ varB x.arcs x.pay w := by simp [varsB]
theorem Pay.one (p : Pay) : p.val.oneCell' = true := by cases p <;> rfl
/-- A row of the package's variables. -/
def PduRow (w : World) (v : Value) (l : List AV) : Prop :=
  ∃ A c, v = .slice A l.length c ∧ ∀ (i : Nat) (x : AV), l[i]? = some x → ∃ g, A = some ⟨g, 0, none⟩ ∧ w.cell? ⟨g, i * 3, none⟩ = some x.pay.val ∧ w.cell? ⟨g, i * 3 + 1, none⟩ = some (.string x.name) ∧ w.cell? ⟨g, i * 3 + 2, none⟩ = some (.int .u8 x.pay.typ)
set_option maxHeartbeats 4000000 in
set_option maxRecDepth 100000 in
theorem marshalVBL (w : World) (P : Nat) (v : Value) (l : List AV) (z : Addr) (hz : NetLaid w z) (hv : w.cell? ⟨P, 10, none⟩ = some v) (h : PduRow w v l) (hok : ∀ x ∈ l, x.Ok) (hl : l.length ≤ 20) :
    Calls Tryz.prog 73 #[.pointer (some ⟨P, 0, none⟩)] w (RetB w (sealB 48 (varsB l 0) 0)) := by
  have hlen := varsB_length l 0 (by omega) hok
  obtain ⟨A, c, rfl, hA⟩ := h
  have HA := Lib.hid hA
  have HZ := Lib.hid hz
  have HOK := Lib.hid hok
  have HLEN := Lib.hid hlen
  have hlt := lt_of_cell hv
  have hv1 : ∀ o, (w.alloc o).cell? ⟨P, 10, none⟩ = some (.slice A l.length c) := fun o => by rw [World.cell?_of_block (w := w) (((Below.refl _ w).alloc (Nat.le_refl _) o).block P hlt)]; exact hv
  clear hA hz hok hlen hlt hv
  go_enter Tryz.func73, Tryz.ntmps73
  go_wp2
  go_loopw [19] (fun i wr => ∃ (k : Nat) (vt : Value), i = .int .i64 k ∧ k ≤ l.length ∧ OB w w.heap.size vt (varsB (l.take k) 0) wr) (fun i _ => l.length - (intOf i).toNat)
  case atStart => exact ⟨0, _, rfl, Nat.zero_le _, OB.start (Below.refl _ _)⟩
  case round =>
    obtain ⟨k, vt, rfl, hk, hO⟩ := hrel
    obtain ⟨wo, rfl⟩ : ∃ wo : World, wo = wr := ⟨_, rfl⟩
    have HO := Lib.hid hO
    clear hO hv1
    by_cases hkl : k < l.length
    · obtain ⟨x, hx⟩ : ∃ x, l[k]? = some x := ⟨_, List.getElem?_eq_getElem hkl⟩
      have HX := Lib.hid hx
      have HXO := Lib.hid (HOK.out x (List.mem_of_getElem? hx))
      obtain ⟨g, rfl, e0, e1, e2⟩ := HA.out k x hx
      clear hx
      have f0 : wo.cell? ⟨g, k * 3, none⟩ = some x.pay.val := by rw [World.cell?_of_block (w := w) (HO.out.below.block g (lt_of_cell e0))]; exact e0
      have f1 : wo.cell? ⟨g, k * 3 + 1, none⟩ = some (.string x.name) := by rw [World.cell?_of_block (w := w) (HO.out.below.block g (lt_of_cell e0))]; exact e1
      have f2 : wo.cell? ⟨g, k * 3 + 2, none⟩ = some (.int .u8 x.pay.typ) := by rw [World.cell?_of_block (w := w) (HO.out.below.block g (lt_of_cell e0))]; exact e2
      obtain ⟨xv, hxv⟩ : ∃ xv, xv = x.pay.val := ⟨_, rfl⟩
      obtain ⟨xn, hxn⟩ : ∃ xn, xn = x.name := ⟨_, rfl⟩
      obtain ⟨xt, hxt⟩ : ∃ xt, xt = x.pay.typ := ⟨_, rfl⟩
      have HP : Hid (PduAt (wo.alloc (.cells #[xv, .string xn, .int .u8 xt] 56)) wo.heap.size x.pay.val x.name x.pay.typ) := by
        rw [hxv, hxn, hxt]; exact heap_alloc_new wo _
      have HO1 : Hid (OB w w.heap.size vt (varsB (l.take k) 0) (wo.alloc (.cells #[xv, .string xn, .int .u8 xt] 56))) := HO.out.more ((Below.refl _ _).alloc (Nat.le_refl _) _)
      have HZ1 : Hid (NetLaid (wo.alloc (.cells #[xv, .string xn, .int .u8 xt] 56)) z) := HZ.out.below HO1.out.below
      have hst : ∀ (W : World) (q : Addr) (m : Mode), (store q xv m).run Tryz.prog W = stored Tryz.prog W q xv m := fun W q m => run_store _ W q xv m (by rw [hxv]; exact x.pay.one)
      rw [← hxv] at f0
      rw [← hxn] at f1
      rw [← hxt] at f2
      clear e0 e1 e2 hxv hxn hxt
      go_wp2_with (go_at_call 95; refine (marshalVarbind _ wo.heap.size x.name x.arcs x.pay z HZ1.out HXO.out.pay HP.out HXO.out.nm).mono ?_; rintro e W2 ⟨v2, rfl, hr2, hn2, hb2⟩; refine Hid.out ?_)
      refine Lib.hid ?_
      have hO2 := HO1.out.more hb2
      have hap := (HO1.out.apart_new hn2).mono (Y := [w.heap.size]) (by simp)
      have HO2 := Lib.hid hO2
      have HR2 := Lib.hid hr2
      have HAP := Lib.hid hap
      have hvl := varB_length x.arcs x.pay 0 HXO.out.nm.good HXO.out.pay (by omega)
      have htl : (varsB (l.take k) 0).length ≤ 618 * k := by
        have := varsB_length (l.take k) 0 (by omega) (fun y hy => HOK.out y (List.mem_of_mem_take hy))
        rw [List.length_take] at this
        exact Nat.le_trans this (Nat.mul_le_mul_left _ (Nat.min_le_left _ _))
      have HVL := Lib.hid hvl
      have HTL := Lib.hid htl
      clear hb2 hn2 hr2 hO2 hap f0 f1 f2 hvl htl
      go_wp2_with (go_at_call 50; refine (write _ w.heap.size vt v2 _ _ HO2.out.tb HR2.out HAP.out (by right; simp [varB, sealB]) (by have := HVL.out; have := HTL.out; omega)).mono ?_; rintro e W3 ⟨rfl, hw3⟩; refine Hid.out ?_)
      refine Lib.hid ?_
      obtain ⟨vt3, hO3⟩ := HO2.out.wrote hw3
      have HO3 := Lib.hid hO3
      clear hw3 hO3
      go_wp2
      go_roundw
      case rel => exact ⟨k + 1, vt3, by go_num, hkl, by
        have := HO3.out
        rw [← varsB_snoc] at this
        rwa [List.take_add_one, HX.out]⟩
      case measure => simp [intOf]; omega
    · obtain rfl : k = l.length := by omega
      have hO := HO.out
      rw [List.take_length] at hO
      obtain ⟨L, hL⟩ : ∃ L, L = varsB l 0 := ⟨_, rfl⟩
      rw [← hL] at hO ⊢
      have hll : L.length < 13000 := by rw [hL]; have := HLEN.out; omega
      have HLL := Lib.hid hll
      have HO := Lib.hid hO
      have HQ := Lib.hid hL
      clear HLEN hL hO hll HA HOK hkl hk
      go_wp2_with (go_at_call 58; refine (bufBytes' HO.out.tb).mono ?_; rintro e W6 ⟨rfl, k6, rfl⟩; refine Hid.out ?_)
      refine Lib.hid ?_
      have hO6 := HO.out.more (W1 := wo.drewN k6) ⟨rfl, rfl, rfl, Nat.le_refl _, fun _ _ => rfl⟩
      have hlen := hO6.tb.2.1.len L.length rfl
      have HO6 := Lib.hid hO6
      clear hO6
      go_wp2_with (go_at_call 55; refine (marshalLength L.length _ (by have := HLL.out; omega)).mono ?_; rintro e W7 ⟨v7, rfl, hr7, hn7, hb7⟩; refine Hid.out ?_)
      refine Lib.hid ?_
      have hO7 := HO6.out.more hb7
      have HO7 := Lib.hid hO7
      have HR7 := Lib.hid (hr7.keptBelow ((Below.refl _ _).alloc (Nat.le_refl _) (.cells #[.int .u8 48] 5)))
      have HL7 := lenB_length L.length 0 (by have := HLL.out; omega)
      clear hr7 hn7 hb7 hO7
      go_wp2_with (at_builtin; refine wpList_append8 _ rfl _ _ rfl w.heap.size _ _ [48] (lenB L.length 0) rfl rfl (by exact Own.lit W7 w.heap.size [48] HO7.out.below.size (by simp [maxLen])) (by exact HR7.out) (by have := HO7.out.below.size; simp; omega) (by simp; omega) ?_)
      intro v8 w8 hO8 hg8 hor8
      have hb8 : Below W7.heap.size W7 w8 := ((Below.refl _ _).alloc (Nat.le_refl _) _).grown hg8 (by simp) (fun k e => by simp [Value.ownBlock] at e; omega)
      have HO8 := Lib.hid hO8
      have HB8 := Lib.hid (HO7.out.more hb8)
      clear hO8 hg8 hor8 hb8
      go_wp2_with (at_builtin; refine wpList_append8 _ rfl _ _ rfl w.heap.size _ _ ([48] ++ lenB L.length 0) L rfl rfl (by exact HO8.out) (by exact HB8.out.tb.2.1.reads) (by exact HB8.out.below.size) (by have := HLL.out; simp; omega) ?_)
      intro v9 w9 hO9 hg9 hor9
      have hb9 : Below w.heap.size w w9 := HB8.out.below.grown hg9 HB8.out.below.size (fun k e => (HO8.out.lt e).1)
      have HR : Hid (RetB w (sealB 48 (varsB l 0) 0) (.returned (.tuple #[v9, .nilIface])) w9) := by
        have := retB_own hO9 hb9
        rw [← HQ.out]
        exact Lib.hid (by simpa [sealB] using this)
      clear hO9 hg9 hor9 hb9
      go_wp2
      go_ret2
      exact HR.out
end Go.Proofs.YtpfmcdhmboclhaaGreatDoor
namespace Go.Proofs.YtpfmcdhmboclhaaGreatDoor
open Go.RowKit

theorem cellB {w W : World} (hb : Below w.heap.size w W) {p : Addr} {x : Value} (h : w.cell? p = some x) : W.cell? p = some x := by
  rw [World.cell?_of_block (w := w) (hb.block p.block (lt_of_cell h))]; exact h
theorem seal2 (tag : Int) (cs : List Int) (h : cs.length < 128) : sealB tag cs 0 = [tag, (cs.length : Int)] ++ cs := by simp [sealB, lenB, h]
theorem Rd.len {w : World} {v : Value} {l : List Int} (h : Rd w v l) (n : Nat) (hn : n = l.length) (W : World) : (Builtin.len_ #[30] 3 #[v]).run Tryz.prog W = .ok (.int .i64 (n : Int)) W := by
  obtain ⟨A, c, rfl, -⟩ := h
  subst hn
  simp [Builtin.len_, run_underlying Tryz.underlying30, goInt]
section
variable {w W W2 : World} {t : Nat} {vt c : Value} {lt l' cs : List Int}
/-- Two bytes more are laid. -/
theorem OB.two (h : OB w t vt lt W) (x y : Int) : OB w t vt lt (W.alloc (.cells #[.int .u8 x, .int .u8 y] 5)) ∧ Rd (W.alloc (.cells #[.int .u8 x, .int .u8 y] 5)) (.slice (some ⟨W.heap.size, 0, none⟩) 2 2) [x, y] ∧ apart (.slice (some ⟨W.heap.size, 0, none⟩) 2 2) [t] := by
  refine ⟨h.more ((Below.refl _ _).alloc (Nat.le_refl _) _), (Own.lit W 0 [x, y] (Nat.zero_le _) (by simp [maxLen])).reads, ?_⟩
  intro a n k e hm
  injection e with e; injection e with e
  subst e
  have := h.tb.lt
  simp at hm; omega
theorem OB.keeps (h : OB w t vt lt W) (hw : Wrote W t vt l' W2) (hr : Rd W c cs) (ha : apart c (t :: vt.ownBlock.toList)) : Rd W2 c cs := by
  obtain ⟨v', h1, h2, h3⟩ := hw
  exact hr.keptKp h3 ha
theorem OB.head (ha : apart c (t :: vt.ownBlock.toList)) : apart c [t] := ha.mono (by simp)
theorem RetB.of_eq {l l' : List Int} {e : Ending} {w' : World} (h : RetB w l e w') (he : l = l') : RetB w l' e w' := he ▸ h
end
end Go.Proofs.YtpfmcdhmboclhaaGreatDoor
namespace Go.Proofs.YtpfmcdhmboclhaaGreatDoor
open Go.RowKit

/-- Two buffers: b, whose bytes are whole, and the newer t. -/
structure TB (w : World) (b : Nat) (vb : Value) (lb : List Int) (t : Nat) (vt : Value) (lt : List Int) (W : World) : Prop where
  o1 : OB w b vb lb W
  o2 : OB w t vt lt W
  old : ∀ k ∈ b :: vb.ownBlock.toList, k < t
  new : ∀ k, vt.ownBlock = some k → t < k
section
variable {w W W1 W2 : World} {b t : Nat} {vb vt c : Value} {lb lt l' : List Int}
theorem TB.start (h : OB w b vb lb W) : TB w b vb lb W.heap.size (.slice none 0 0) [] (W.alloc (.cells #[.slice none 0 0, .int .i64 0, .int .i8 0] 122)) :=
  ⟨h.more ((Below.refl _ _).alloc (Nat.le_refl _) _), OB.start h.below, h.tb.old, by simp [Value.ownBlock]⟩
theorem TB.more (h : TB w b vb lb t vt lt W) (hb : Below W.heap.size W W1) : TB w b vb lb t vt lt W1 := ⟨h.o1.more hb, h.o2.more hb, h.old, h.new⟩
theorem TB.wrote (h : TB w b vb lb t vt lt W) (hw : Wrote W t vt l' W2) : ∃ vt', TB w b vb lb t vt' l' W2 := by
  obtain ⟨v', h1, h2, h3⟩ := hw
  have hlt : t < W.heap.size := h.o2.tb.lt
  have hold := h.old
  have hin : ∀ k ∈ t :: vt.ownBlock.toList, t ≤ k := by
    intro k hk
    rcases List.mem_cons.1 hk with rfl | hk
    · exact Nat.le_refl _
    · exact Nat.le_of_lt (h.new k (by simpa using hk))
  have hb' : Below w.heap.size w W2 := h.o1.below.trans (h3.below h.o1.below.size (fun k hk => Nat.le_trans h.o2.wt (hin k hk)))
  refine ⟨v', ⟨hb', ?_, h.o1.wt, h.o1.own⟩, ⟨hb', h1, h.o2.wt, ?_⟩, hold, ?_⟩
  · refine h.o1.tb.keptKp h3 (fun hm => ?_) (fun k hk hm => ?_)
    · have := hold b (by simp); have := hin b hm; omega
    · have := hold k (by simp [hk]); have := hin k hm; omega
  · intro k hk
    rcases h2 with h2 | ⟨g, h2, h4⟩
    · exact h.o2.own k (h2 ▸ hk)
    · rw [h2] at hk
      injection hk with hk
      have := h.o1.below.size
      omega
  · intro k hk
    rcases h2 with h2 | ⟨g, h2, h4⟩
    · exact h.new k (h2 ▸ hk)
    · rw [h2] at hk
      injection hk with hk
      omega
theorem TB.moved (h : TB w b vb lb t vt lt W) (hm : Moved W b t vt l' W2) : ∃ vt', OB w t vt' l' W2 := by
  obtain ⟨v', h1, h2, h3⟩ := hm
  refine ⟨v', h.o1.below.trans (h3.below h.o1.below.size (fun k hk => ?_)), h1, h.o2.wt, ?_⟩
  · rcases List.mem_cons.1 hk with rfl | hk
    · exact h.o1.wt
    · rcases List.mem_cons.1 hk with rfl | hk
      · exact h.o2.wt
      · exact h.o2.own k (by simpa using hk)
  · intro k hk
    rcases h2 with h2 | ⟨g, h2, h4⟩
    · exact h.o2.own k (h2 ▸ hk)
    · rw [h2] at hk
      injection hk with hk
      have := h.o1.below.size
      omega
theorem TB.ne (h : TB w b vb lb t vt lt W) : b ≠ t ∧ vb.ownBlock ≠ some t ∧ vt.ownBlock ≠ some b := by
  refine ⟨?_, fun e => ?_, fun e => ?_⟩
  · have := h.old b (by simp); omega
  · have := h.old t (by simp [e]); omega
  · have := h.new b e; have := h.old b (by simp); omega
end
theorem bufLen' {b : Nat} {v : Value} {l : List Int} {w : World} (h : Buf w b v l) : Calls Tryz.prog 56 #[.pointer (some ⟨b, 0, none⟩)] w fun e w' => e = .returned (.int .i64 l.length) ∧ ∃ n, w' = w.drewN n := by
  obtain ⟨⟨lr, hb⟩, ho, -, -⟩ := h
  rcases ho.form with ⟨rfl, rfl⟩ | ⟨g, cap, cur, rfl, h2, h3, h4, h5, h6, h7⟩
  · exact bufLen b 0 0 none w hb.c0 hb.c1 (Nat.le_refl _) (Nat.zero_le _)
  · exact bufLen b l.length cap _ w hb.c0 hb.c1 h4 h5
theorem intB_small (n : Nat) (h : n < 128) : [(n : Int)] = intB n := by rw [intB_1 _ (by omega)]; congr 1; omega
theorem drewN_below (w : World) (k : Nat) : Below w.heap.size w (w.drewN k) := ⟨rfl, rfl, rfl, Nat.le_refl _, fun _ _ => rfl⟩
end Go.Proofs.YtpfmcdhmboclhaaGreatDoor
