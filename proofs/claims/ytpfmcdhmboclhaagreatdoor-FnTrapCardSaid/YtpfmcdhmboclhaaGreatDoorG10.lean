/- gosnmp: the bytes of a message's body. gosnmp: the bytes of a message; slices.Clone of bytes. impl: a variable, as the package's. append(v, x) over rows whose elements have several cells: v a row of one's own, x a new row of one element. impl: Encode. -/
import Derived.Test.YtpfmcdhmboclhaaGreatDoorG09
set_option linter.unusedVariables false
set_option linter.unusedSimpArgs false
namespace Go.Proofs.YtpfmcdhmboclhaaGreatDoor
open Go.RowKit
/-- The body of a message. -/
def bodyB (id s i : Nat) (l : List AV) (w : Nat) : List Int := sealB 2 (intB id) w ++ sealB 2 (intB s) w ++ sealB 2 (intB i) w ++ sealB 48 (varsB l w) w
theorem PduRow.below {w W : World} {v : Value} {l : List AV} (h : PduRow w v l) (hb : Below w.heap.size w W) : PduRow W v l := by
  obtain ⟨A, c, rfl, h2⟩ := h
  refine ⟨A, c, rfl, fun i x hx => ?_⟩
  obtain ⟨g, h3, h4, h5, h6⟩ := h2 i x hx
  exact ⟨g, h3, cellB hb h4, cellB hb h5, cellB hb h6⟩
end Go.Proofs.YtpfmcdhmboclhaaGreatDoor
namespace Go.Proofs.YtpfmcdhmboclhaaGreatDoor
open Go.RowKit

/-- A message's bytes, of its body's. -/
def msgB (ver : Int) (com : ByteArray) (body : List Int) (w : Nat) : List Int := sealB 48 (sealB 2 (intB ver) w ++ sealB 4 (bytesOf com) w ++ body) w
section
variable {w W W2 : World} {t : Nat} {vt c : Value} {lt l' cs : List Int}
theorem OB.three (h : OB w t vt lt W) (x y z : Int) : OB w t vt lt (W.alloc (.cells #[.int .u8 x, .int .u8 y, .int .u8 z] 5)) ∧ Rd (W.alloc (.cells #[.int .u8 x, .int .u8 y, .int .u8 z] 5)) (.slice (some ⟨W.heap.size, 0, none⟩) 3 3) [x, y, z] ∧ apart (.slice (some ⟨W.heap.size, 0, none⟩) 3 3) [t] := by
  refine ⟨h.more ((Below.refl _ _).alloc (Nat.le_refl _) _), (Own.lit W 0 [x, y, z] (Nat.zero_le _) (by simp [maxLen])).reads, ?_⟩
  intro a n k e hm
  injection e with e; injection e with e
  subst e
  have := h.tb.lt
  simp at hm; omega
end

set_option maxHeartbeats 8000000 in
set_option maxRecDepth 100000 in
theorem marshalMsg (w : World) (P : Nat) (ver : Nat) (com : ByteArray) (body : List Int) (h0 : w.cell? ⟨P, 0, none⟩ = some (.int .u8 ver)) (h1 : w.cell? ⟨P, 1, none⟩ = some (.string com)) (hv : ver ≤ 1) (hc : com.size ≤ 127) (hbl : body.length ≤ 13100) (hbn : body ≠ [])
    (hbody : ∀ W, Below w.heap.size w W → Calls Tryz.prog 53 #[.pointer (some ⟨P, 0, none⟩)] W (RetB W body)) :
    Calls Tryz.prog 39 #[.pointer (some ⟨P, 0, none⟩)] w (RetB w (msgB ver com body 0)) := by
  have HO0 := Lib.hid (OB.start (Below.refl w.heap.size w))
  have H0 := Lib.hid h0
  have H1 := Lib.hid h1
  have HC := Lib.hid hc
  have HV := Lib.hid hv
  have HBL := Lib.hid hbl
  have HBN := Lib.hid hbn
  have HBODY := Lib.hid hbody
  have hT := HO0.out.three 2 1 ver
  rw [show (w.alloc (.cells #[.slice none 0 0, .int .i64 0, .int .i8 0] 122)).heap.size = w.heap.size + 1 by simp] at hT
  have HT := Lib.hid hT
  have c0 := cellB HO0.out.below h0
  have hv3 : ((ver : Int) == 3) = false := by simp; omega
  clear h0 h1 hv hc hbl hbn hbody HO0 hT
  go_enter Tryz.func39, Tryz.ntmps39
  go_wp2_with (go_at_call 50; refine (write _ w.heap.size _ _ [] [2, 1, (ver : Int)] (by exact HT.out.1.tb) (by exact HT.out.2.1) (by exact HT.out.2.2) (by right; simp) (by simp)).mono ?_; rintro e W1 ⟨rfl, hw⟩; refine Hid.out ?_)
  refine Lib.hid ?_
  obtain ⟨vt1, hO⟩ := HT.out.1.wrote hw
  have HO1 := Lib.hid hO
  have c0 := cellB HO1.out.below H0.out
  have c1 := cellB HO1.out.below H1.out
  have HTT := Lib.hid (HO1.out.two 4 (com.size : Int))
  have hcs : com.size ≤ 127 := HC.out
  clear hw hO HT HO1
  go_wp2_with (go_at_call 50; refine (write _ w.heap.size _ _ _ [4, (com.size : Int)] (by exact HTT.out.1.tb) (by exact HTT.out.2.1) (by exact HTT.out.2.2) (by right; simp) (by simp)).mono ?_; rintro e W2 ⟨rfl, hw⟩; refine Hid.out ?_)
  refine Lib.hid ?_
  obtain ⟨vt2, hO⟩ := HTT.out.1.wrote hw
  have HO2 := Lib.hid hO
  have c1 := cellB HO2.out.below H1.out
  clear hw hO HTT hcs c0
  go_wp2_with (go_at_call 52; refine (writeString _ w.heap.size _ _ com (by exact HO2.out.tb) (by simp) (by have := HC.out; simp; omega)).mono ?_; rintro e W3 ⟨rfl, hw⟩; refine Hid.out ?_)
  refine Lib.hid ?_
  obtain ⟨vt3, hO⟩ := HO2.out.wrote hw
  obtain ⟨l3, hl⟩ : ∃ l', l' = [] ++ [2, 1, (ver : Int)] ++ [4, (com.size : Int)] ++ bytesOf com := ⟨_, rfl⟩
  rw [← hl] at hO
  have HO3 := Lib.hid hO
  have HL3 : Hid (l3.length ≤ 140) := by show l3.length ≤ 140; rw [hl]; have := HC.out; simp [bytesOf_length]; omega
  have HE3 := Lib.hid hl
  have HCB := Lib.hid (HBODY.out W3 HO3.out.below)
  clear hw hO hl HO2 c1
  go_wp2_with (go_at_call 53; refine (HCB.out).mono ?_; rintro e V1 ⟨u1, rfl, hr, hn, hb⟩; refine Hid.out ?_)
  refine Lib.hid ?_
  have HA := Lib.hid (OB.head (HO3.out.apart_new hn))
  have HB := Lib.hid (HO3.out.more hb)
  have HR := Lib.hid hr
  clear hr hn hb HO3 HCB
  go_wp2_with (go_at_call 50; refine (write _ w.heap.size _ _ _ _ (by exact HB.out.tb) HR.out HA.out (by right; exact HBN.out) (by have := HL3.out; have := HBL.out; omega)).mono ?_; rintro e V2 ⟨rfl, hw⟩; refine Hid.out ?_)
  refine Lib.hid ?_
  obtain ⟨u2, hO⟩ := HB.out.wrote hw
  obtain ⟨L, hl⟩ : ∃ l', l' = l3 ++ body := ⟨_, rfl⟩
  rw [← hl] at hO
  have hLL : L.length ≤ 13300 := by rw [hl]; have := HL3.out; have := HBL.out; simp; omega
  have hne : L ≠ [] := by rw [hl, HE3.out]; simp
  have HQ := Lib.hid hl
  have HLL := Lib.hid hLL
  have HNE := Lib.hid hne
  have HO := Lib.hid (TB.start hO)
  clear hw hO hl hLL hne HB HR HA HL3
  go_wp2_with (go_at_call 54; refine (writeByte _ _ _ [] 48 (by exact HO.out.o2.tb) (by simp)).mono ?_; rintro e V5 ⟨rfl, hw⟩; refine Hid.out ?_)
  refine Lib.hid ?_
  obtain ⟨u5, hO⟩ := HO.out.wrote hw
  have HO5 := Lib.hid hO
  have HC5 := Lib.hid (bufLen' HO5.out.o1.tb)
  clear hw hO HO
  go_wp2_with (go_at_call 56; refine (HC5.out).mono ?_; rintro e V3 ⟨rfl, k3, rfl⟩; refine Hid.out ?_)
  refine Lib.hid ?_
  have HO3 := Lib.hid (HO5.out.more (drewN_below _ k3))
  clear HC5 HO5
  go_wp2_with (go_at_call 55; refine (marshalLength L.length _ (by have := HLL.out; omega)).mono ?_; rintro e V4 ⟨u4, rfl, hr, hn, hb⟩; refine Hid.out ?_)
  refine Lib.hid ?_
  have HA4 := Lib.hid (OB.head (HO3.out.o2.apart_new hn))
  have HO4 := Lib.hid (HO3.out.more hb)
  have HR4 := Lib.hid hr
  have hl7 := lenB_length L.length 0 (by have := HLL.out; omega)
  have HL7 := Lib.hid hl7
  clear hr hn hb HO3 hl7
  go_wp2_with (go_at_call 50; refine (write _ _ _ _ _ _ (by exact HO4.out.o2.tb) HR4.out HA4.out (by left; simp) (by have := HL7.out; simp; omega)).mono ?_; rintro e V6 ⟨rfl, hw⟩; refine Hid.out ?_)
  refine Lib.hid ?_
  obtain ⟨u6, hO⟩ := HO4.out.wrote hw
  have HO6 := Lib.hid hO
  clear hw hO HO4 HR4 HA4
  go_wp2_with (go_at_call 57; refine (writeTo _ _ _ _ _ _ _ (by exact HO6.out.o1.tb) (by exact HO6.out.o2.tb) HO6.out.ne.1 HNE.out HO6.out.ne.2.1 HO6.out.ne.2.2 (by have := HL7.out; have := HLL.out; simp; omega)).mono ?_; rintro e V7 ⟨rfl, hm⟩; refine Hid.out ?_)
  refine Lib.hid ?_
  obtain ⟨u7, hO⟩ := HO6.out.moved hm
  have HO7 := Lib.hid hO
  clear hm hO HO6
  have HRET : Hid (∀ k, RetB w (msgB ver com body 0) (.returned (.tuple #[u7, .nilIface])) (V7.drewN k)) := by
    intro k
    refine (HO7.out.more (drewN_below _ k)).ret.of_eq ?_
    have e1 : intB (ver : Int) = [(ver : Int)] := by rw [intB_small ver (by have := HV.out; omega)]
    rw [HQ.out, HE3.out, msgB, seal2 4 (bytesOf com) (by rw [bytesOf_length]; have := HC.out; omega), e1, seal2 2 [(ver : Int)] (by simp), bytesOf_length, sealB]
    simp [bytesOf_length]
    done
  go_wp2_with (go_at_call 58; refine (bufBytes' HO7.out.tb).mono ?_; rintro e V8 ⟨rfl, k8, rfl⟩; refine Hid.out ?_)
  refine Lib.hid ?_
  go_wp2
  go_ret2
  exact HRET.out k8
set_option maxHeartbeats 8000000 in
set_option maxRecDepth 100000 in
theorem marshalMsg2 (w : World) (P : Nat) (L : List Int) (h : Calls Tryz.prog 39 #[.pointer (some ⟨P, 0, none⟩)] w (RetB w L)) :
    Calls Tryz.prog 18 #[.pointer (some ⟨P, 0, none⟩)] w (RetB w L) := by
  have H := Lib.hid h
  clear h
  go_enter Tryz.func18, Tryz.ntmps18
  go_wp2_with (go_at_call 39; refine (H.out).mono ?_; rintro e V1 ⟨u1, rfl, hr, hn, hb⟩; refine Hid.out ?_)
  refine Lib.hid ?_
  have HR : Hid (RetB w L (.returned (.tuple #[u1, .nilIface])) V1) := ⟨_, rfl, hr, hn, hb⟩
  clear hr hn hb
  go_wp2
  go_ret2
  exact HR.out
theorem eq_nil (a : Addr) (n c : Nat) (W : World) : (binOp .eql 30 (.slice (some a) n c) (.slice none 0 0)).run Tryz.prog W = .ok (.bool false) W := by kernel_rfl
set_option maxHeartbeats 8000000 in
set_option maxRecDepth 100000 in
theorem cloneBytes (w : World) (v : Value) (l : List Int) (h : Rd w v l) (hne : l ≠ []) (hl : l.length ≤ 1000000) : Calls Tryz.prog 19 #[v] w (RetO w l) := by
  have HR : Hid (Rd (w.alloc (.cells #[] 5)) v l) := h.keptBelow ((Below.refl _ _).alloc (Nat.le_refl _) _)
  have H := h
  obtain ⟨A, c, rfl, h1, h2, h3⟩ := h
  obtain ⟨b, o, rfl, -⟩ := h3 (List.length_pos_iff.2 hne)
  have HL := Lib.hid hl
  have he := eq_nil ⟨b, o, none⟩ l.length c
  clear H h1 h2 h3 hl
  go_enter Tryz.func19, Tryz.ntmps19
  go_wp2_with (at_builtin; refine wpList_append8 _ rfl _ _ rfl w.heap.size _ _ [] l rfl rfl (by exact Own.lit w w.heap.size [] (Nat.le_refl _) (by simp [maxLen])) (by exact HR.out) (by simp) (by have := HL.out; simp; omega) ?_)
  intro v1 w1 hO1 hg _
  have hb1 : Below w.heap.size w w1 := ((Below.refl _ _).alloc (Nat.le_refl _) _).grown hg (by simp) (fun k e => by simp [Value.ownBlock] at e; omega)
  have HR1 : Hid (RetO w l (.returned v1) w1) := ⟨v1, rfl, by simpa using hO1, hb1⟩
  clear hO1 hg hb1
  go_wp2
  go_ret
  exact HR1.out
end Go.Proofs.YtpfmcdhmboclhaaGreatDoor
namespace Go.Proofs.YtpfmcdhmboclhaaGreatDoor
open Go.RowKit

/-- A variable as a value of impl's. -/
def varV (name : ByteArray) (t i u : Int) (text : ByteArray) : Value := .agg #[.string name, .int .i64 t, .int .i64 i, .int .u64 u, .string text]
/-- What pdu returns. -/
def RetP (w : World) (val : Value) (name : ByteArray) (t : Int) (e : Ending) (w' : World) : Prop := e = .returned (.tuple #[.agg #[val, .string name, .int .u8 t], .bool true]) ∧ Below w.heap.size w w'
set_option maxHeartbeats 4000000 in
set_option maxRecDepth 100000 in
theorem pdu_2 (w : World) (name : ByteArray) (i u : Int) (text : ByteArray) (hn : name.size ≤ 1000) (ht : text.size ≤ 500) :
    Calls Tryz.prog 17 #[varV name 2 i u text] w (RetP w (.iface 3 (.int .i64 i)) name 2) := by
  simp only [varV]
  go_enter Tryz.func17, Tryz.ntmps17
  go_wp2
  go_returns
  exact ⟨rfl, by repeat first | exact Below.refl _ _ | refine Below.alloc ?_ (by first | (simp; done) | (simp; omega)) _⟩
set_option maxHeartbeats 4000000 in
set_option maxRecDepth 100000 in
theorem pdu_65 (w : World) (name : ByteArray) (i u : Int) (text : ByteArray) (hn : name.size ≤ 1000) (ht : text.size ≤ 500) (hu : 0 ≤ u) (hu2 : u < 4294967296) :
    Calls Tryz.prog 17 #[varV name 65 i u text] w (RetP w (.iface 24 (.int .u64 u)) name 65) := by
  simp only [varV]
  go_enter Tryz.func17, Tryz.ntmps17
  go_wp2
  go_returns
  exact ⟨rfl, by repeat first | exact Below.refl _ _ | refine Below.alloc ?_ (by first | (simp; done) | (simp; omega)) _⟩
set_option maxHeartbeats 4000000 in
set_option maxRecDepth 100000 in
theorem pdu_66 (w : World) (name : ByteArray) (i u : Int) (text : ByteArray) (hn : name.size ≤ 1000) (ht : text.size ≤ 500) (hu : 0 ≤ u) (hu2 : u < 4294967296) :
    Calls Tryz.prog 17 #[varV name 66 i u text] w (RetP w (.iface 24 (.int .u64 u)) name 66) := by
  simp only [varV]
  go_enter Tryz.func17, Tryz.ntmps17
  go_wp2
  go_returns
  exact ⟨rfl, by repeat first | exact Below.refl _ _ | refine Below.alloc ?_ (by first | (simp; done) | (simp; omega)) _⟩
set_option maxHeartbeats 4000000 in
set_option maxRecDepth 100000 in
theorem pdu_67 (w : World) (name : ByteArray) (i u : Int) (text : ByteArray) (hn : name.size ≤ 1000) (ht : text.size ≤ 500) (hu : 0 ≤ u) (hu2 : u < 4294967296) :
    Calls Tryz.prog 17 #[varV name 67 i u text] w (RetP w (.iface 24 (.int .u64 u)) name 67) := by
  simp only [varV]
  go_enter Tryz.func17, Tryz.ntmps17
  go_wp2
  go_returns
  exact ⟨rfl, by repeat first | exact Below.refl _ _ | refine Below.alloc ?_ (by first | (simp; done) | (simp; omega)) _⟩
set_option maxHeartbeats 4000000 in
set_option maxRecDepth 100000 in
theorem pdu_70 (w : World) (name : ByteArray) (i u : Int) (text : ByteArray) (hn : name.size ≤ 1000) (ht : text.size ≤ 500) :
    Calls Tryz.prog 17 #[varV name 70 i u text] w (RetP w (.iface 38 (.int .u64 u)) name 70) := by
  simp only [varV]
  go_enter Tryz.func17, Tryz.ntmps17
  go_wp2
  go_returns
  exact ⟨rfl, by repeat first | exact Below.refl _ _ | refine Below.alloc ?_ (by first | (simp; done) | (simp; omega)) _⟩
set_option maxHeartbeats 4000000 in
set_option maxRecDepth 100000 in
theorem pdu_4 (w : World) (name : ByteArray) (i u : Int) (text : ByteArray) (hn : name.size ≤ 1000) (ht : text.size ≤ 500) :
    Calls Tryz.prog 17 #[varV name 4 i u text] w (RetP w (.iface 9 (.string text)) name 4) := by
  simp only [varV]
  go_enter Tryz.func17, Tryz.ntmps17
  go_wp2
  go_returns
  exact ⟨rfl, by repeat first | exact Below.refl _ _ | refine Below.alloc ?_ (by first | (simp; done) | (simp; omega)) _⟩
set_option maxHeartbeats 4000000 in
set_option maxRecDepth 100000 in
theorem pdu_6 (w : World) (name : ByteArray) (i u : Int) (text : ByteArray) (hn : name.size ≤ 1000) (ht : text.size ≤ 500) :
    Calls Tryz.prog 17 #[varV name 6 i u text] w (RetP w (.iface 9 (.string text)) name 6) := by
  simp only [varV]
  go_enter Tryz.func17, Tryz.ntmps17
  go_wp2
  go_returns
  exact ⟨rfl, by repeat first | exact Below.refl _ _ | refine Below.alloc ?_ (by first | (simp; done) | (simp; omega)) _⟩
set_option maxHeartbeats 4000000 in
set_option maxRecDepth 100000 in
theorem pdu_5 (w : World) (name : ByteArray) (i u : Int) (text : ByteArray) (hn : name.size ≤ 1000) (ht : text.size ≤ 500) :
    Calls Tryz.prog 17 #[varV name 5 i u text] w (RetP w .nilIface name 5) := by
  simp only [varV]
  go_enter Tryz.func17, Tryz.ntmps17
  go_wp2
  go_returns
  exact ⟨rfl, by repeat first | exact Below.refl _ _ | refine Below.alloc ?_ (by first | (simp; done) | (simp; omega)) _⟩
set_option maxHeartbeats 4000000 in
set_option maxRecDepth 100000 in
theorem pdu_128 (w : World) (name : ByteArray) (i u : Int) (text : ByteArray) (hn : name.size ≤ 1000) (ht : text.size ≤ 500) :
    Calls Tryz.prog 17 #[varV name 128 i u text] w (RetP w .nilIface name 128) := by
  simp only [varV]
  go_enter Tryz.func17, Tryz.ntmps17
  go_wp2
  go_returns
  exact ⟨rfl, by repeat first | exact Below.refl _ _ | refine Below.alloc ?_ (by first | (simp; done) | (simp; omega)) _⟩
set_option maxHeartbeats 4000000 in
set_option maxRecDepth 100000 in
theorem pdu_129 (w : World) (name : ByteArray) (i u : Int) (text : ByteArray) (hn : name.size ≤ 1000) (ht : text.size ≤ 500) :
    Calls Tryz.prog 17 #[varV name 129 i u text] w (RetP w .nilIface name 129) := by
  simp only [varV]
  go_enter Tryz.func17, Tryz.ntmps17
  go_wp2
  go_returns
  exact ⟨rfl, by repeat first | exact Below.refl _ _ | refine Below.alloc ?_ (by first | (simp; done) | (simp; omega)) _⟩
set_option maxHeartbeats 4000000 in
set_option maxRecDepth 100000 in
theorem pdu_130 (w : World) (name : ByteArray) (i u : Int) (text : ByteArray) (hn : name.size ≤ 1000) (ht : text.size ≤ 500) :
    Calls Tryz.prog 17 #[varV name 130 i u text] w (RetP w .nilIface name 130) := by
  simp only [varV]
  go_enter Tryz.func17, Tryz.ntmps17
  go_wp2
  go_returns
  exact ⟨rfl, by repeat first | exact Below.refl _ _ | refine Below.alloc ?_ (by first | (simp; done) | (simp; omega)) _⟩
set_option maxHeartbeats 4000000 in
set_option maxRecDepth 100000 in
theorem pdu_64 (w : World) (name : ByteArray) (i u : Int) (text : ByteArray) (a b c d : Nat) (z : Addr) (hn : name.size ≤ 1000) (ht : text.size ≤ 500) (hz : NetLaid w z) (hip : ipOf (bytesOf text) = some [a, b, c, d]) :
    Calls Tryz.prog 17 #[varV name 64 i u text] w (RetP w (.iface 9 (.string text)) name 64) := by
  simp only [varV]
  obtain ⟨X, hX⟩ : ∃ X, X = ((w.alloc (.cells #[.string name, .int .i64 64, .int .i64 i, .int .u64 u, .string text] 40)).alloc (.cells #[.nilIface, .string ⟨#[]⟩, .int .u8 0] 56)).alloc (.cells #[.nilIface, .string name, .int .u8 64] 56) := ⟨_, rfl⟩
  have x0 : X.heap[w.heap.size]? = some (.cells #[.string name, .int .i64 64, .int .i64 i, .int .u64 u, .string text] 40 (0, 0)) := by
    rw [hX, Below.heap_alloc _ _ _ (by simp; omega), Below.heap_alloc _ _ _ (by simp)]; exact heap_alloc_new w _
  have x1 : X.heap[w.heap.size + 1]? = some (.cells #[.nilIface, .string ⟨#[]⟩, .int .u8 0] 56 (0, 0)) := by
    rw [hX, Below.heap_alloc _ _ _ (by simp)]
    have := heap_alloc_new (w.alloc (.cells #[.string name, .int .i64 64, .int .i64 i, .int .u64 u, .string text] 40)) (.cells #[.nilIface, .string ⟨#[]⟩, .int .u8 0] 56)
    rwa [show (w.alloc (.cells #[.string name, .int .i64 64, .int .i64 i, .int .u64 u, .string text] 40)).heap.size = w.heap.size + 1 by simp] at this
  have x2 : X.heap[w.heap.size + 2]? = some (.cells #[.nilIface, .string name, .int .u8 64] 56 (0, 0)) := by
    rw [hX]
    have := heap_alloc_new ((w.alloc (.cells #[.string name, .int .i64 64, .int .i64 i, .int .u64 u, .string text] 40)).alloc (.cells #[.nilIface, .string ⟨#[]⟩, .int .u8 0] 56)) (.cells #[.nilIface, .string name, .int .u8 64] 56)
    rwa [show ((w.alloc (.cells #[.string name, .int .i64 64, .int .i64 i, .int .u64 u, .string text] 40)).alloc (.cells #[.nilIface, .string ⟨#[]⟩, .int .u8 0] 56)).heap.size = w.heap.size + 2 by simp] at this
  have hBX : Below w.heap.size w X := by
    rw [hX]
    repeat first | exact Below.refl _ _ | refine Below.alloc ?_ (by first | (simp; done) | (simp; omega)) _
  have HZ := Lib.hid (hz.below hBX)
  have HC := Lib.hid (addressOk text a b c d z X HZ.out hip (by omega))
  have HX := Lib.hid hX
  have HX0 := Lib.hid x0
  have HX1 := Lib.hid x1
  have HX2 := Lib.hid x2
  have HBX := Lib.hid hBX
  rw [hX] at HC
  clear hX x0 x1 x2 hBX hz hip
  go_enter Tryz.func17, Tryz.ntmps17
  go_wp2_with (go_at_call 16; refine (HC.out).mono ?_; rintro e W1 ⟨rfl, hb⟩; refine Hid.out ?_)
  refine Lib.hid ?_
  rw [← HX.out] at hb
  have y0 := (hb.block w.heap.size (Lib.lt_of_heap HX0.out)).trans HX0.out
  have y1 := (hb.block (w.heap.size + 1) (Lib.lt_of_heap HX1.out)).trans HX1.out
  have y2 := (hb.block (w.heap.size + 2) (Lib.lt_of_heap HX2.out)).trans HX2.out
  have e4 : W1.cell? ⟨w.heap.size, 4, none⟩ = some (.string text) := by rw [Lib.cell_of_heap y0]; rfl
  have f0 : W1.cell? ⟨w.heap.size + 2, 0, none⟩ = some .nilIface := by rw [Lib.cell_of_heap y2]; rfl
  have f1 : W1.cell? ⟨w.heap.size + 2, 1, none⟩ = some (.string name) := by rw [Lib.cell_of_heap y2]; rfl
  have f2 : W1.cell? ⟨w.heap.size + 2, 2, none⟩ = some (.int .u8 64) := by rw [Lib.cell_of_heap y2]; rfl
  have g0 : W1.cell? ⟨w.heap.size + 1, 0, none⟩ = some .nilIface := by rw [Lib.cell_of_heap y1]; rfl
  have g1 : W1.cell? ⟨w.heap.size + 1, 1, none⟩ = some (.string ⟨#[]⟩) := by rw [Lib.cell_of_heap y1]; rfl
  have g2 : W1.cell? ⟨w.heap.size + 1, 2, none⟩ = some (.int .u8 0) := by rw [Lib.cell_of_heap y1]; rfl
  have fr1 : ∀ i, W1.frozen? ⟨w.heap.size + 1, i, none⟩ = false := fun i => Lib.frozen_of_heap y1 i
  have fr2 : ∀ i, W1.frozen? ⟨w.heap.size + 2, i, none⟩ = false := fun i => Lib.frozen_of_heap y2 i
  have HB := Lib.hid (HBX.out.trans (hb.mono HBX.out.size))
  have HY1 := Lib.hid y1
  clear hb y0 y1 y2
  have hr0 : (W1.setCell ⟨w.heap.size + 1 + 1, 0, none⟩ (.iface 9 (.string text))).heap[w.heap.size + 1]? = some (.cells #[.nilIface, .string ⟨#[]⟩, .int .u8 0] 56 (0, 0)) := (Below.heap_setCell _ _ _ _ (by simp)).trans HY1.out
  have hr3 := Lib.heap_setCell_same (i := 2) (Lib.heap_setCell_same (i := 1) (Lib.heap_setCell_same (i := 0) hr0 (.iface 9 (.string text))) (.string name)) (.int .u8 64)
  obtain ⟨W3, hW3⟩ : ∃ W3, W3 = (((W1.setCell ⟨w.heap.size + 1 + 1, 0, none⟩ (.iface 9 (.string text))).setCell ⟨w.heap.size + 1, 0, none⟩ (.iface 9 (.string text))).setCell ⟨w.heap.size + 1, 1, none⟩ (.string name)).setCell ⟨w.heap.size + 1, 2, none⟩ (.int .u8 64) := ⟨_, rfl⟩
  rw [← hW3] at hr3
  have k0 : W3.cell? ⟨w.heap.size + 1, 0, none⟩ = some (.iface 9 (.string text)) := by rw [Lib.cell_of_heap hr3]; rfl
  have k1 : W3.cell? ⟨w.heap.size + 1, 1, none⟩ = some (.string name) := by rw [Lib.cell_of_heap hr3]; rfl
  have k2 : W3.cell? ⟨w.heap.size + 1, 2, none⟩ = some (.int .u8 64) := by rw [Lib.cell_of_heap hr3]; rfl
  have HW3 := Lib.hid hW3
  clear hr0 hr3 hW3
  go_wp2
  rw [← HW3.out]
  refine bodyPost_ret (v := .tuple #[.agg #[.iface 9 (.string text), .string name, .int .u8 64], .bool true]) (by simp [results, Tryz.results17, go_sem, k0, k1, k2]) rfl ?_
  refine ⟨rfl, ?_⟩
  rw [HW3.out]
  exact (((HB.out.setCell (by simp; omega) _).setCell (by simp) _).setCell (by simp) _).setCell (by simp) _
/-- A variable that came in holds p. -/
def IsVar (p : Pay) (t i u : Int) (text : ByteArray) : Prop :=
  t = p.typ ∧ text.size ≤ 500 ∧ match p with
  | .nul _ => True
  | .int n => i = n
  | .str s => text = s
  | .oid s _ => text = s
  | .ip s _ _ _ _ => text = s
  | .u32 _ n => u = n
  | .u64 n => u = n
theorem pdu (w : World) (name : ByteArray) (t i u : Int) (text : ByteArray) (p : Pay) (z : Addr) (hz : NetLaid w z) (hn : name.size ≤ 1000) (hp : p.Ok) (h : IsVar p t i u text) : Calls Tryz.prog 17 #[varV name t i u text] w (RetP w p.val name p.typ) := by
  obtain ⟨rfl, ht, h⟩ := h
  cases p with
  | nul t =>
    rcases hp with rfl | rfl | rfl | rfl
    · exact pdu_5 w name i u text hn ht
    · exact pdu_128 w name i u text hn ht
    · exact pdu_129 w name i u text hn ht
    · exact pdu_130 w name i u text hn ht
  | int n => obtain rfl := h; exact pdu_2 w name i u text hn ht
  | str s => obtain rfl := h; exact pdu_4 w name i u text hn ht
  | oid s arcs => obtain rfl := h; exact pdu_6 w name i u text hn ht
  | ip s a b c d => obtain rfl := h; exact pdu_64 w name i u text a b c d z hn ht hz hp.1
  | u32 t n =>
    obtain ⟨h1, h2⟩ := hp
    obtain rfl := h
    rcases h1 with rfl | rfl | rfl
    · exact pdu_65 w name i n text hn ht (by omega) (by omega)
    · exact pdu_66 w name i n text hn ht (by omega) (by omega)
    · exact pdu_67 w name i n text hn ht (by omega) (by omega)
  | u64 n => obtain rfl := h; exact pdu_70 w name i n text hn ht
end Go.Proofs.YtpfmcdhmboclhaaGreatDoor
namespace Go.Proofs.YtpfmcdhmboclhaaGreatDoor
open Go.RowKit

/-- A row of one's own: n elements of type e, size cells each. -/
def OwnC (e : TypeId) (size : Nat) (w : World) (base : Nat) (v : Value) (n : Nat) (cs : List Value) : Prop := w.ownsRow base e size v n cs
section
variable {e : TypeId} {size : Nat} {w w' : World} {base base' : Nat} {v : Value} {n : Nat} {cs : List Value}
theorem OwnC.form (h : OwnC e size w base v n cs) : (v = .slice none 0 0 ∧ n = 0 ∧ cs = []) ∨ ∃ g cap cur, v = .slice (some ⟨g, 0, none⟩) n cap ∧ base ≤ g ∧ w.heap[g]? = some (.cells cur e (0, 0)) ∧ n ≤ cap ∧ cap ≤ maxLen ∧ cur.size = cap * size ∧ cur.toList.take (n * size) = cs := by
  rcases h.2 with ⟨h1, h2⟩ | h
  · left
    refine ⟨h1, h2, List.eq_nil_of_length_eq_zero ?_⟩
    rw [h.1, h2]; simp
  · exact .inr h
theorem OwnC.len (h : OwnC e size w base v n cs) : cs.length = n * size := h.1
theorem OwnC.kept (h : OwnC e size w base v n cs) (hk : ∀ k, v.ownBlock = some k → w'.heap[k]? = w.heap[k]?) : OwnC e size w' base v n cs := by
  rcases h.form with ⟨rfl, rfl, rfl⟩ | ⟨g, cap, cur, rfl, h2, h3, h4⟩
  · exact World.ownsRow_nil _ _ _ _
  · exact ⟨h.1, .inr ⟨g, cap, cur, rfl, h2, (hk g rfl).trans h3, h4⟩⟩
theorem OwnC.lt (h : OwnC e size w base v n cs) {k : Nat} (hk : v.ownBlock = some k) : base ≤ k ∧ k < w.heap.size := World.ownsRow.lt h k hk
theorem OwnC.below (h : OwnC e size w base v n cs) (hb : Below w.heap.size w w') : OwnC e size w' base v n cs := h.kept fun k hk => hb.block k (h.lt hk).2
theorem OwnC.alloc (h : OwnC e size w base v n cs) (o : Obj) : OwnC e size (w.alloc o) base v n cs := h.below ((Below.refl _ _).alloc (Nat.le_refl _) _)
theorem OwnC.cell (h : OwnC e size w base v n cs) (hn : 0 < n) : ∃ g cap, v = .slice (some ⟨g, 0, none⟩) n cap ∧ base ≤ g ∧ ∀ (j : Nat) x, cs[j]? = some x → w.cell? ⟨g, j, none⟩ = some x := by
  rcases h.form with ⟨rfl, rfl, rfl⟩ | ⟨g, cap, cur, rfl, h2, h3, h4, h5, h6, h7⟩
  · omega
  · refine ⟨g, cap, rfl, h2, fun j x hx => ?_⟩
    rw [Lib.cell_of_heap h3]
    rw [← h7] at hx
    have hj := (List.getElem?_eq_some_iff.1 hx).1
    rw [List.getElem?_take_of_lt (by rw [List.length_take] at hj; omega)] at hx
    simpa using hx
theorem OwnC.shape (h : OwnC e size w base v n cs) : ∃ A cap, v = .slice A n cap := by
  rcases h.form with ⟨rfl, rfl, rfl⟩ | ⟨g, cap, cur, rfl, h2, h3⟩
  · exact ⟨_, _, rfl⟩
  · exact ⟨_, _, rfl⟩
theorem OwnC.rebase (h : OwnC e size w base v n cs) (hb : base' ≤ base) : OwnC e size w base' v n cs := by
  rcases h.form with ⟨rfl, rfl, rfl⟩ | ⟨g, cap, cur, rfl, h2, h3⟩
  · exact World.ownsRow_nil _ _ _ _
  · exact ⟨h.1, .inr ⟨g, cap, cur, rfl, by omega, h3⟩⟩
end
theorem OwnC.nil (e : TypeId) (size : Nat) (w : World) (base : Nat) : OwnC e size w base (.slice none 0 0) 0 [] := World.ownsRow_nil _ _ _ _
/-- What is known of an element's type. -/
structure Elem (t e : TypeId) (size bytes : Nat) : Prop where
  under : Tryz.prog.underlying t = some (.slice e)
  info : ∃ (i : TypeInfo) (z : Value), Tryz.prog.info? e = some i ∧ i.zero = some z ∧ i.size = size ∧ i.bytes = bytes ∧ z.cells.size = size
  pos : 0 < size
section
variable {ops : Array Oper} {rest : List Oper} {o : Oper} {a : Act} {Q : Exit → Act → World → Prop}
theorem wpList_appendC {t e : TypeId} {size bytes : Nat} (E : Elem t e size bytes) (hb40 : bytes ≤ 100) (w : World) (hgd : o.guard = none) (s x : Operand) (ho : o.op = .call { callee := .builtin .append, args := #[s, x], argTypes := #[t, t] })
    (base : Nat) (v : Value) (n : Nat) (cs news : List Value) (g c : Nat) (hs : a.eval s = v) (hx : a.eval x = .slice (some ⟨g, 0, none⟩) 1 c) (hO : OwnC e size w base v n cs)
    (hnl : news.length = size) (hR : ∀ (j : Nat) u, news[j]? = some u → w.cell? ⟨g, j, none⟩ = some u) (h1 : ∀ u ∈ news, u.oneCell' = true) (hbase : base ≤ w.heap.size) (hl : n ≤ 1000000)
    (h : ∀ v' w', OwnC e size w' base v' (n + 1) (cs ++ news) → w.grownBy w' v.ownBlock → (v'.ownBlock = v.ownBlock ∨ v'.ownBlock = some w.heap.size) → wpList Tryz.prog ops Q rest (a.put o.dst v') w') :
    wpList Tryz.prog ops Q (o :: rest) a w := by
  obtain ⟨i0, z, hi, hz, hz1, hz2, hz3⟩ := E.info
  have hcells : ∀ j u, news[j]? = some u → w.cell? ((⟨g, 0, none⟩ : Addr).add j) = some u := by
    intro j u hu
    rw [addr_add, Nat.zero_add]
    exact hR j u hu
  obtain ⟨v1, w1, hr, h4, h5, _, h6⟩ := run_append_own_at (P := Tryz.prog) w base t o.type e i0 z size bytes E.under hi hz hz1 hz2 hz3 E.pos v n cs hO ⟨g, 0, none⟩ 1 c news (by rw [hnl, Nat.one_mul]) hcells h1
    (by unfold maxLen; omega) (by have : (n + 1) * bytes ≤ 1000001 * 100 := Nat.mul_le_mul (by omega) hb40; omega) hbase
  refine wpList_plain hgd fun K hK => ?_
  unfold Oper.wp execOp
  simp only [ho, resolve, invoke, builtin, Sem.run_bind, Sem.run_pure, Result.andThen_ok, List.map_toArray, List.map_cons, List.map_nil, hs, hx, hr]
  exact hK _ _ (h v1 w1 h4 h5 h6)
end

theorem elem46 : Elem 46 56 3 40 := by
  refine ⟨by kernel_rfl, ?_, by omega⟩
  have h : (Tryz.prog.info? 56).map (fun i => (i.zero, i.size, i.bytes, (i.zero.getD .nilIface).cells.size)) = some (some (.agg #[.nilIface, .string ⟨#[]⟩, .int .u8 0]), 3, 40, 3) := by kernel_rfl
  cases hi : Tryz.prog.info? 56 with
  | none => rw [hi] at h; cases h
  | some i =>
    rw [hi] at h
    simp at h
    obtain ⟨h1, h2, h3, h4⟩ := h
    exact ⟨i, _, rfl, h1, h2, h3, by rw [h1] at h4; simpa using h4⟩
end Go.Proofs.YtpfmcdhmboclhaaGreatDoor
namespace Go.Proofs.YtpfmcdhmboclhaaGreatDoor
open Go.RowKit

/-- A message as a value of impl's. -/
def msgV (ver : Int) (com : ByteArray) (kind id st ix : Int) (vars : Value) (ent agent : ByteArray) (gen spec time : Int) : Value :=
  .agg #[.int .i64 ver, .string com, .int .i64 kind, .int .u32 id, .int .i64 st, .int .i64 ix, vars, .string ent, .string agent, .int .i64 gen, .int .i64 spec, .int .u64 time]
/-- A variable that came in, as it lies in memory. -/
structure Raw where
  name : ByteArray
  t : Int
  i : Int
  u : Int
  text : ByteArray
/-- A row of such. -/
def RawRow (w : World) (A : Option Addr) (l : List Raw) : Prop :=
  ∀ (k : Nat) (x : Raw), l[k]? = some x → ∃ g o, A = some ⟨g, o, none⟩ ∧ w.cell? ⟨g, o + k * 5, none⟩ = some (.string x.name) ∧ w.cell? ⟨g, o + k * 5 + 1, none⟩ = some (.int .i64 x.t) ∧ w.cell? ⟨g, o + k * 5 + 2, none⟩ = some (.int .i64 x.i) ∧
    w.cell? ⟨g, o + k * 5 + 3, none⟩ = some (.int .u64 x.u) ∧ w.cell? ⟨g, o + k * 5 + 4, none⟩ = some (.string x.text)
/-- The variables that came in are these. -/
structure Same (rs : List Raw) (l : List AV) : Prop where
  len : l.length = rs.length
  each : ∀ (k : Nat) (x : Raw), rs[k]? = some x → ∃ y, l[k]? = some y ∧ x.name = y.name ∧ x.name.size ≤ 1000 ∧ IsVar y.pay x.t x.i x.u x.text
def pduCells (l : List AV) : List Value := l.flatMap fun x => [x.pay.val, .string x.name, .int .u8 x.pay.typ]
theorem pduCells_snoc (l : List AV) (x : AV) : pduCells (l ++ [x]) = pduCells l ++ [x.pay.val, .string x.name, .int .u8 x.pay.typ] := by simp [pduCells]
theorem pduCells_at : ∀ (l : List AV) (i : Nat) (x : AV), l[i]? = some x → (pduCells l)[i * 3]? = some x.pay.val ∧ (pduCells l)[i * 3 + 1]? = some (.string x.name) ∧ (pduCells l)[i * 3 + 2]? = some (.int .u8 x.pay.typ)
  | y :: r, 0, x, h => by
    obtain rfl : y = x := by simpa using h
    simp [pduCells]
  | y :: r, i + 1, x, h => by
    have := pduCells_at r i x (by simpa using h)
    rw [show (i + 1) * 3 = i * 3 + 3 by omega]
    simpa [pduCells] using this
theorem pduRow_of {W : World} {base : Nat} {v : Value} {l : List AV} (h : OwnC 56 3 W base v l.length (pduCells l)) : PduRow W v l := by
  obtain ⟨A, cap, hv⟩ := h.shape
  refine ⟨A, cap, hv, fun i x hx => ?_⟩
  have hlt := (List.getElem?_eq_some_iff.1 hx).1
  obtain ⟨g, cap2, hv2, -, hc⟩ := h.cell (by omega)
  rw [hv] at hv2
  injection hv2 with e1 e2 e3
  obtain ⟨h1, h2, h3⟩ := pduCells_at l i x hx
  exact ⟨g, e1, hc _ _ h1, hc _ _ h2, hc _ _ h3⟩
theorem bodyB_length (kind : Int) (id st ix : Nat) (l : List AV) (hid : id < 2147483648) (hst : st ≤ 127) (hix : ix ≤ 127) (hok : ∀ x ∈ l, x.Ok) (hl : l.length ≤ 20) : (sealB kind (bodyB id st ix l 0) 0).length ≤ 13100 := by
  have g1 := varsB_length l 0 (by omega) hok
  have g2 := intB_short id hid
  have g3 := intB_short st (by omega)
  have g4 := intB_short ix (by omega)
  have g5 := sealB_length 2 (intB id) 0 (by omega)
  have g6 := sealB_length 2 (intB st) 0 (by omega)
  have g7 := sealB_length 2 (intB ix) 0 (by omega)
  have g8 := sealB_length 48 (varsB l 0) 0 (by omega)
  have g9 : (bodyB id st ix l 0).length ≤ 13000 := by simp only [bodyB, List.length_append]; omega
  have := sealB_length kind (bodyB id st ix l 0) 0 (by omega)
  omega
/-- What Encode returns. -/
def RetE (w : World) (l : List Int) (e : Ending) (w' : World) : Prop := ∃ v, e = .returned (.tuple #[v, .bool true]) ∧ Own w' w.heap.size v l ∧ Below w.heap.size w w'
theorem OwnC.setCell {e : TypeId} {size : Nat} {w : World} {base : Nat} {v : Value} {n : Nat} {cs : List Value} (h : OwnC e size w base v n cs) {P i : Nat} (hP : P < base) (u : Value) : OwnC e size (w.setCell ⟨P, i, none⟩ u) base v n cs :=
  h.kept fun q hq => Below.heap_setCell _ _ _ _ (by have h9 := (h.lt hq).1; simp; omega)
/-- The state of Encode's loop. -/
structure EncAt (w : World) (l : List AV) (pk : Value → Array Value) (k : Nat) (vp : Value) (wr : World) : Prop where
  le : k ≤ l.length
  pkt : wr.heap[w.heap.size + 1]? = some (.cells (pk vp) 52 (0, 0))
  own : OwnC 56 3 wr (w.heap.size + 2) vp k (pduCells (l.take k))
  below : Below w.heap.size w wr
  size : w.heap.size + 2 ≤ wr.heap.size
end Go.Proofs.YtpfmcdhmboclhaaGreatDoor
