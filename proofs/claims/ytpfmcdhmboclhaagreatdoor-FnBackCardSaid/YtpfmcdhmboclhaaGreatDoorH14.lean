/- laws: a message there and back. laws: FnAgain and FnBack, walked. -/
import Derived.Test.YtpfmcdhmboclhaaGreatDoorH01
import Derived.Test.YtpfmcdhmboclhaaGreatDoorH05
import Derived.Test.YtpfmcdhmboclhaaGreatDoorH06
import Derived.Test.YtpfmcdhmboclhaaGreatDoorH12
import Derived.Test.YtpfmcdhmboclhaaGreatDoorH13
set_option linter.unusedVariables false
set_option linter.unusedSimpArgs false
namespace Go.Proofs.YtpfmcdhmboclhaaGreatDoor
open Go.RowKit
theorem nm_dot {arcs : List Nat} (h : GoodArcs arcs) : Nm (dot arcs) arcs := ⟨h, .inl (bytesOf_dot arcs), by have := dot_short h; omega⟩
theorem ip_txt {s : ByteArray} {a b c d : Nat} (h : ipOf (bytesOf s) = some [a, b, c, d]) : s = txt (ipT a b c d) := by
  obtain ⟨a', b', c', d', he, htx, -⟩ := ipOf_text h
  refine bytesOf_inj ?_
  rw [bytesOf_txt _ (ipT_range a b c d), htx]
  simp [ipT, text]
/-- A value as it is told and taken again. -/
def Pay.told : Pay → Pay
  | .oid _ arcs => .oid (dot arcs) arcs
  | .ip _ a b c d => .ip (txt (ipT a b c d)) a b c d
  | p => p
theorem Pay.told_con (p : Pay) : p.told.con = p.con ∧ p.told.typ = p.typ := by cases p <;> exact ⟨rfl, rfl⟩
theorem Pay.told_ok {p : Pay} (h : p.Ok) : p.told.Ok := by
  cases p with
  | oid s arcs => exact nm_dot h.good
  | ip s a b c d =>
    have := ip_txt h.1
    simp only [Pay.told, Pay.Ok]
    rw [← this]
    exact h
  | nul t => exact h
  | int n => exact h
  | str s => exact h
  | u32 t n => exact h
  | u64 n => exact h
theorem Pay.told_is {p : Pay} (h : p.Ok) : IsVar p.told p.typ (toldI p) (toldU p) (toldT p) := by
  cases p with
  | oid s arcs => exact ⟨rfl, dot_short h.good, rfl⟩
  | ip s a b c d =>
    refine ⟨rfl, ?_, rfl⟩
    obtain ⟨a', b', c', d', he, htx, h1, h2, h3, h4⟩ := ipOf_text h.1
    injection he with e1 he
    injection he with e2 he
    injection he with e3 he
    injection he with e4 he
    subst e1; subst e2; subst e3; subst e4
    show (txt (ipT a b c d)).size ≤ 500
    rw [txt_size]
    have := figs_byte a h1
    have := figs_byte b h2
    have := figs_byte c h3
    have := figs_byte d h4
    simp only [ipT, List.length_append, List.length_singleton]
    omega
  | nul t => exact ⟨rfl, Nat.zero_le _, trivial⟩
  | int n => exact ⟨rfl, Nat.zero_le _, rfl⟩
  | str s => exact ⟨rfl, h, rfl⟩
  | u32 t n => exact ⟨rfl, Nat.zero_le _, rfl⟩
  | u64 n => exact ⟨rfl, Nat.zero_le _, rfl⟩
/-- Variables as they are told and taken again. -/
def toldL (l : List AV) : List AV := l.map fun y => ⟨dot y.arcs, y.arcs, y.pay.told⟩
def toldR (l : List AV) : List Raw := l.map fun y => ⟨dot y.arcs, y.pay.typ, toldI y.pay, toldU y.pay, toldT y.pay⟩
theorem toldL_bytes (l : List AV) (w : Nat) : varsB (toldL l) w = varsB l w := by
  induction l with
  | nil => rfl
  | cons y r ih =>
    have e : toldL (y :: r) = ⟨dot y.arcs, y.arcs, y.pay.told⟩ :: toldL r := rfl
    rw [e, varsB_cons, varsB_cons, ih]
    unfold varB
    rw [(Pay.told_con y.pay).1, (Pay.told_con y.pay).2]
theorem toldL_ok {l : List AV} (h : ∀ x ∈ l, x.Ok) : ∀ x ∈ toldL l, x.Ok := by
  intro x hx
  obtain ⟨y, hy, rfl⟩ := List.mem_map.1 hx
  exact ⟨nm_dot (h y hy).nm.good, Pay.told_ok (h y hy).pay⟩
theorem toldL_same {l : List AV} (h : ∀ x ∈ l, x.Ok) : Same (toldR l) (toldL l) := by
  refine ⟨by simp [toldR, toldL], fun k x hx => ?_⟩
  obtain ⟨y, hy, rfl⟩ : ∃ y, l[k]? = some y ∧ (⟨dot y.arcs, y.pay.typ, toldI y.pay, toldU y.pay, toldT y.pay⟩ : Raw) = x := by simpa [toldR] using hx
  have hyo := h y (List.mem_of_getElem? hy)
  exact ⟨⟨dot y.arcs, y.arcs, y.pay.told⟩, by simp [toldL, hy], rfl, by have := dot_short hyo.nm.good; show (dot y.arcs).size ≤ 1000; omega, Pay.told_is hyo.pay⟩
theorem RdT.raw {w : World} {A : Option Addr} {n c : Nat} {l : List AV} (h : RdT w (.slice A n c) l) : RawRow w A (toldR l) := by
  obtain ⟨A', c', e, h⟩ := h
  injection e with e1 e2 e3
  subst e1
  intro k x hx
  obtain ⟨y, hy, rfl⟩ : ∃ y, l[k]? = some y ∧ (⟨dot y.arcs, y.pay.typ, toldI y.pay, toldU y.pay, toldT y.pay⟩ : Raw) = x := by simpa [toldR] using hx
  obtain ⟨g, e, h0, h1, h2, h3, h4⟩ := h k y hy
  refine ⟨g, 0, e, ?_⟩
  rw [Nat.zero_add]
  exact ⟨h0, h1, h2, h3, h4⟩
/-- impl.Encode of a message that is no trap. -/
theorem encodeMsg (w : World) (ver : Nat) (com : ByteArray) (kind : Int) (id st ix : Nat) (A : Option Addr) (n c : Nat) (rs : List Raw) (l : List AV) (z : Addr) (hz : NetLaid w z)
    (hv1 : ver ≤ 1) (hk0 : 160 ≤ kind) (hk1 : kind ≤ 168) (hk4 : kind ≠ 164) (hid : id < 2147483648) (hn : rs.length = n) (hn2 : n ≤ 20) (hc : com.size ≤ 127) (hst : st ≤ 127) (hix : ix ≤ 127) (hrow : RawRow w A rs) (hsame : Same rs l) (hok : ∀ x ∈ l, x.Ok) :
    Calls Tryz.prog 8 #[msgV ver com kind id st ix (.slice A n c) ⟨#[]⟩ ⟨#[]⟩ 0 0 0] w (RetE w (msgB ver com (sealB kind (bodyB id st ix l 0) 0) 0)) := by
  have he : (ByteArray.mk #[]).size ≤ 1000 := Nat.zero_le _
  by_cases h5 : kind = 165
  · subst h5
    exact encode_bulk w ver com id st ix ⟨#[]⟩ ⟨#[]⟩ 0 0 0 A n c rs l z hz hv1 hid hn hn2 hc he hst hix hrow hsame hok
  · exact encode_plain w ver com kind id st ix ⟨#[]⟩ ⟨#[]⟩ 0 0 0 A n c rs l z hz hv1 hk0 hk1 (by simpa using hk4) (by simpa using h5) hid hn hn2 hc he hst hix hrow hsame hok
/-- impl.Decode of a message that is no trap. -/
theorem decodeMsg (w : World) (vb : Value) (ver : Nat) (com : ByteArray) (kind : Int) (id st ix : Nat) (l : List AV) (z : Addr) (hz : NetLaid w z) (ht : Tab w) (ha : AsnLaid w)
    (hv1 : ver ≤ 1) (hk0 : 160 ≤ kind) (hk1 : kind ≤ 168) (hk4 : kind ≠ 164) (hid : id < 2147483648) (hl : l.length ≤ 20) (hc : com.size ≤ 127) (hst : st ≤ 127) (hix : ix ≤ 127) (hok : ∀ x ∈ l, x.Ok) (hrd : Rd w vb (msgB ver com (sealB kind (bodyB id st ix l 0) 0) 0)) :
    Calls Tryz.prog 9 #[vb] w (RetDec w (fun vo => msgV ver com kind id st ix vo ⟨#[]⟩ ⟨#[]⟩ 0 0 0) l) := by
  have hlen : (msgB ver com (sealB kind (bodyB id st ix l 0) 0) 0).length ≤ 13400 := msgB_short ver com _ hv1 hc (bodyB_length kind id st ix l hid hst hix hok hl) 0 (by omega)
  have hne := msgB_ne ver com (sealB kind (bodyB id st ix l 0) 0) 0
  simp only [msgV]
  by_cases h160 : kind = 160
  · subst h160
    exact decode_plain w vb _ com ver 160 id st ix _ _ _ _ _ _ _ _ _ _ _ l z (by omega) (by omega) (by omega) (by omega) (by omega) (by omega) (by omega) hl hok hrd hne (by omega) hz ht ha (fun W b o n c g hz ht ha hn hnc hcc hg hat => packet_160 W b o n c g 0 ver com id st ix l z hv1 hc hid hst hix hl hok (by omega) hn (by omega) hnc hcc hz ht ha hg hat)
  by_cases h161 : kind = 161
  · subst h161
    exact decode_plain w vb _ com ver 161 id st ix _ _ _ _ _ _ _ _ _ _ _ l z (by omega) (by omega) (by omega) (by omega) (by omega) (by omega) (by omega) hl hok hrd hne (by omega) hz ht ha (fun W b o n c g hz ht ha hn hnc hcc hg hat => packet_161 W b o n c g 0 ver com id st ix l z hv1 hc hid hst hix hl hok (by omega) hn (by omega) hnc hcc hz ht ha hg hat)
  by_cases h162 : kind = 162
  · subst h162
    exact decode_plain w vb _ com ver 162 id st ix _ _ _ _ _ _ _ _ _ _ _ l z (by omega) (by omega) (by omega) (by omega) (by omega) (by omega) (by omega) hl hok hrd hne (by omega) hz ht ha (fun W b o n c g hz ht ha hn hnc hcc hg hat => packet_162 W b o n c g 0 ver com id st ix l z hv1 hc hid hst hix hl hok (by omega) hn (by omega) hnc hcc hz ht ha hg hat)
  by_cases h163 : kind = 163
  · subst h163
    exact decode_plain w vb _ com ver 163 id st ix _ _ _ _ _ _ _ _ _ _ _ l z (by omega) (by omega) (by omega) (by omega) (by omega) (by omega) (by omega) hl hok hrd hne (by omega) hz ht ha (fun W b o n c g hz ht ha hn hnc hcc hg hat => packet_163 W b o n c g 0 ver com id st ix l z hv1 hc hid hst hix hl hok (by omega) hn (by omega) hnc hcc hz ht ha hg hat)
  by_cases h166 : kind = 166
  · subst h166
    exact decode_plain w vb _ com ver 166 id st ix _ _ _ _ _ _ _ _ _ _ _ l z (by omega) (by omega) (by omega) (by omega) (by omega) (by omega) (by omega) hl hok hrd hne (by omega) hz ht ha (fun W b o n c g hz ht ha hn hnc hcc hg hat => packet_166 W b o n c g 0 ver com id st ix l z hv1 hc hid hst hix hl hok (by omega) hn (by omega) hnc hcc hz ht ha hg hat)
  by_cases h167 : kind = 167
  · subst h167
    exact decode_plain w vb _ com ver 167 id st ix _ _ _ _ _ _ _ _ _ _ _ l z (by omega) (by omega) (by omega) (by omega) (by omega) (by omega) (by omega) hl hok hrd hne (by omega) hz ht ha (fun W b o n c g hz ht ha hn hnc hcc hg hat => packet_167 W b o n c g 0 ver com id st ix l z hv1 hc hid hst hix hl hok (by omega) hn (by omega) hnc hcc hz ht ha hg hat)
  by_cases h168 : kind = 168
  · subst h168
    exact decode_plain w vb _ com ver 168 id st ix _ _ _ _ _ _ _ _ _ _ _ l z (by omega) (by omega) (by omega) (by omega) (by omega) (by omega) (by omega) hl hok hrd hne (by omega) hz ht ha (fun W b o n c g hz ht ha hn hnc hcc hg hat => packet_168 W b o n c g 0 ver com id st ix l z hv1 hc hid hst hix hl hok (by omega) hn (by omega) hnc hcc hz ht ha hg hat)
  obtain rfl : kind = 165 := by omega
  exact decode_bulk w vb _ com ver id st ix _ _ _ _ _ _ _ _ _ _ _ l z (by omega) (by omega) (by omega) (by omega) hl hok hrd hne (by omega) hz ht ha (fun W b o n c g hz ht ha hn hnc hcc hg hat => packet_165 W b o n c g 0 ver com id st ix l z hv1 hc hid hst hix hl hok (by omega) hn (by omega) hnc hcc hz ht ha hg hat)
end Go.Proofs.YtpfmcdhmboclhaaGreatDoor
namespace Go.Proofs.YtpfmcdhmboclhaaGreatDoor
open Go.RowKit
theorem bodyB_told (id s i : Nat) (l : List AV) (w : Nat) : bodyB id s i (toldL l) w = bodyB id s i l w := by unfold bodyB; rw [toldL_bytes]
/-- What Told returns, laid out. -/
theorem RetTold.flat {w w' : World} {ver : Int} {com : ByteArray} {kind id st ix : Int} {n : Nat} {rs : List Raw} {ent agent : ByteArray} {gen spec time : Int} {e : Ending} (h : RetTold w ver com kind id st ix n rs ent agent gen spec time e w') :
    ∃ m0 m1 m2 m3 m4 m5 A6 n6 c6 m7 m8 m9 m10 m11 b, e = .returned (.tuple #[.agg #[.int .i64 m0, .string m1, .int .i64 m2, .int .u32 m3, .int .i64 m4, .int .i64 m5, .slice A6 n6 c6, .string m7, .string m8, .int .i64 m9, .int .i64 m10, .int .u64 m11], .bool b]) ∧
      (b = true → ver = m0 ∧ com = m1 ∧ kind = m2 ∧ id = m3 ∧ st = m4 ∧ ix = m5 ∧ m7 = ⟨#[]⟩ ∧ m8 = ⟨#[]⟩ ∧ m9 = 0 ∧ m10 = 0 ∧ m11 = 0 ∧ TolOk ver com kind id st ix n ent agent gen spec time ∧ ∃ l, AVs rs l ∧ n6 = l.length ∧ OwnC 40 5 w' w.heap.size (.slice A6 n6 c6) l.length (toldC l)) ∧ Below w.heap.size w w' := by
  obtain ⟨h, hb⟩ := h
  rcases h with rfl | ⟨vo, l, rfl, hok, havs, hown⟩
  · exact ⟨_, _, _, _, _, _, _, _, _, _, _, _, _, _, false, rfl, (fun e => by cases e), hb⟩
  · obtain ⟨A, c, rfl⟩ := hown.shape
    exact ⟨_, _, _, _, _, _, _, _, _, _, _, _, _, _, true, rfl, (fun _ => ⟨rfl, rfl, rfl, rfl, rfl, rfl, rfl, rfl, rfl, rfl, rfl, hok, l, havs, rfl, hown⟩), hb⟩
set_option maxHeartbeats 16000000 in
set_option maxRecDepth 100000 in
theorem fnAgain_any (w : World) (ver : Int) (com : ByteArray) (kind id st ix : Int) (ent agent : ByteArray) (gen spec time : Int) (A : Option Addr) (n c : Nat) (rs : List Raw) (z : Addr) (hG : Given w com ent agent id time A n rs z) :
    Calls Tryz.prog 3 #[msgV ver com kind id st ix (.slice A n c) ent agent gen spec time] w fun e w' => e = .returned (.bool true) ∧ Below w.heap.size w w' := by
  have HG := Lib.hid hG
  obtain ⟨W1, hW1⟩ : ∃ W1, W1 = w.alloc (.cells #[.int .i64 ver, .string com, .int .i64 kind, .int .u32 id, .int .i64 st, .int .i64 ix, .slice A n c, .string ent, .string agent, .int .i64 gen, .int .i64 spec, .int .u64 time] 26) := ⟨_, rfl⟩
  have hb1 : Below w.heap.size w W1 := by rw [hW1]; exact (Below.refl _ _).alloc (Nat.le_refl _) _
  have h1 : W1.heap[w.heap.size]? = some (.cells #[.int .i64 ver, .string com, .int .i64 kind, .int .u32 id, .int .i64 st, .int .i64 ix, .slice A n c, .string ent, .string agent, .int .i64 gen, .int .i64 spec, .int .u64 time] 26 (0, 0)) := by rw [hW1]; exact heap_alloc_new w _
  have HF := Lib.hid (fits2 W1 ver com kind id st ix ent agent gen spec time A n c rs hG.cnt hG.n63 (hG.row.below hb1) hG.far hG.com hG.ent hG.agent)
  have HB1 := Lib.hid hb1
  have HW1 := Lib.hid hW1
  have H1 := Lib.hid h1
  clear hG hb1 hW1 h1
  simp only [msgV]
  simp only [msgV] at HF
  go_enter Tryz.func3, Tryz.ntmps3
  go_wp2_with (go_at_call 6; rw [← HW1.out]; refine (HF.out).mono ?_; rintro e W2 ⟨b, rfl, hyes, hb2⟩; refine Hid.out ?_)
  refine Lib.hid ?_
  have HB2 : Hid (Below w.heap.size w W2) := HB1.out.trans (hb2.mono HB1.out.size)
  have H2 := Lib.hid ((hb2.block _ (Lib.lt_of_heap H1.out)).trans H1.out)
  clear hb2 HF
  cases b with
  | false =>
    clear hyes
    go_wp2
    go_ret
    exact ⟨rfl, HB2.out⟩
  | true =>
    have HFIT := Lib.hid (hyes (by first | rfl | trivial))
    clear hyes
    have HT := Lib.hid (specTold W2 ver com kind id st ix ent agent gen spec time A n c rs HG.out.cnt HFIT.out.n (HG.out.row.below HB2.out) HG.out.wf HFIT.out.vars HFIT.out.com)
    simp only [msgV] at HT
    obtain ⟨e0, e1, e2, e3, e4, e5, e6, e7, e8, e9, e10, e11⟩ := twelve H2.out
    go_wp2_with (go_at_call 7; refine (HT.out).mono ?_; rintro e W3 hret; obtain ⟨m0, m1, m2, m3, m4, m5, A3, nl, c3, m7, m8, m9, m10, m11, b, rfl, hyes, hb3⟩ := hret.flat; clear hret; refine Hid.out ?_)
    cases b with
    | false =>
      refine Lib.hid ?_
      have HB3 : Hid (Below w.heap.size w W3) := HB2.out.trans (hb3.mono HB2.out.size)
      clear hb3 HT hyes e0 e1 e2 e3 e4 e5 e6 e7 e8 e9 e10 e11
      go_wp2
      go_ret
      exact ⟨rfl, HB3.out.alloc HB3.out.size _⟩
    | true =>
      obtain ⟨rfl, rfl, rfl, rfl, rfl, rfl, rfl, rfl, rfl, rfl, rfl, hok, l, havs, hnl, hown⟩ := hyes (by first | rfl | trivial)
      obtain ⟨h_ver0, h_ver1, h_com, h_kind0, h_kind1, h_kind4, h_st0, h_st1, h_ix0, h_ix1, h_n, h_id, rfl, rfl, rfl, rfl, rfl⟩ := hok
      obtain ⟨ver, rfl⟩ : ∃ v : Nat, ver = (v : Int) := ⟨ver.toNat, by omega⟩
      obtain ⟨st, rfl⟩ : ∃ v : Nat, st = (v : Int) := ⟨st.toNat, by omega⟩
      obtain ⟨ix, rfl⟩ : ∃ v : Nat, ix = (v : Int) := ⟨ix.toNat, by omega⟩
      obtain ⟨id, rfl⟩ : ∃ v : Nat, id = (v : Int) := ⟨id.toNat, by have := HG.out.id; omega⟩
      obtain ⟨hsame, hoks⟩ := havs.same HG.out.wf HFIT.out.vars
      have hl20 : l.length ≤ 20 := by rw [havs.len, HG.out.cnt]; exact h_n
      have HB3 : Hid (Below w.heap.size w W3) := HB2.out.trans (hb3.mono HB2.out.size)
      have H3 := Lib.hid ((hb3.block _ (Lib.lt_of_heap H2.out)).trans H2.out)
      obtain ⟨BB, hBB⟩ : ∃ BB, BB = msgB ver com (sealB kind (bodyB id st ix l 0) 0) 0 := ⟨_, rfl⟩
      have HE : Hid (∀ W, Below w.heap.size w W → Calls Tryz.prog 8 #[msgV ver com kind id st ix (.slice A n c) ⟨#[]⟩ ⟨#[]⟩ 0 0 0] W (RetE W BB)) := fun W hW => by
        rw [hBB]
        exact encodeMsg W ver com kind id st ix A n c rs l z (HG.out.net.below hW) (by omega) h_kind0 h_kind1 h_kind4 (by omega) HG.out.cnt h_n h_com (by omega) (by omega) (HG.out.row.below hW) hsame hoks
      have HD : Hid (∀ W v, Below w.heap.size w W → Rd W v BB → Calls Tryz.prog 9 #[v] W (RetDec W (fun vo => msgV ver com kind id st ix vo ⟨#[]⟩ ⟨#[]⟩ 0 0 0) l)) := fun W v hW hv => by
        rw [hBB] at hv
        exact decodeMsg W v ver com kind id st ix l z (HG.out.net.below hW) (HG.out.tab.below hW) (HG.out.asn.below hW) (by omega) h_kind0 h_kind1 h_kind4 (by omega) hl20 h_com (by omega) (by omega) hoks hv
      have HE2 : Hid (∀ W A2 c2, Below w.heap.size w W → RdT W (.slice A2 l.length c2) l → Calls Tryz.prog 8 #[msgV ver com kind id st ix (.slice A2 l.length c2) ⟨#[]⟩ ⟨#[]⟩ 0 0 0] W (RetE W BB)) := fun W A2 c2 hW hv => by
        rw [hBB, ← bodyB_told]
        exact encodeMsg W ver com kind id st ix A2 l.length c2 (toldR l) (toldL l) z (HG.out.net.below hW) (by omega) h_kind0 h_kind1 h_kind4 (by omega) (by simp [toldR]) hl20 h_com (by omega) (by omega) hv.raw (toldL_same hoks) (toldL_ok hoks)
      have HBN : Hid (BB ≠ [] ∧ BB.length ≤ 13400) := by
        rw [hBB]
        exact ⟨msgB_ne _ _ _ _, msgB_short ver com _ (by omega) h_com (bodyB_length kind id st ix l (by omega) (by omega) (by omega) hoks hl20) 0 (by omega)⟩
      have HL20 := Lib.hid hl20
      have HOWN := Lib.hid hown
      simp only [msgV] at HE HE2 HD
      clear hb3 HT hyes e0 e1 e2 e3 e4 e5 e6 e7 e8 e9 e10 e11 hsame hoks havs hBB hl20 h_ver0 h_ver1 h_com h_kind0 h_kind1 h_kind4 h_st0 h_st1 h_ix0 h_ix1 h_n h_id hown
      rw [← hnl] at HE2 HL20 HOWN
      have HNL := Lib.hid hnl
      clear hnl
      refine Lib.hid ?_
      obtain ⟨X3, hX3⟩ : ∃ X3, X3 = W3.alloc (.cells #[.int .i64 ver, .string com, .int .i64 kind, .int .u32 id, .int .i64 st, .int .i64 ix, .slice A3 nl c3, .string ⟨#[]⟩, .string ⟨#[]⟩, .int .i64 0, .int .i64 0, .int .u64 0] 26) := ⟨_, rfl⟩
      have hbx : Below W3.heap.size W3 X3 := by rw [hX3]; exact (Below.refl _ _).alloc (Nat.le_refl _) _
      have HBX : Hid (Below w.heap.size w X3) := HB3.out.trans (hbx.mono HB3.out.size)
      have HX3 := Lib.hid hX3
      have hy3 : X3.heap[w.heap.size]? = _ := (hbx.block _ (Lib.lt_of_heap H3.out)).trans H3.out
      rw [hX3] at hy3
      obtain ⟨e0, e1, e2, e3, e4, e5, e6, e7, e8, e9, e10, e11⟩ := twelve hy3
      clear hy3
      have HM3 : Hid (X3.heap[W3.heap.size]? = some (.cells #[.int .i64 ver, .string com, .int .i64 kind, .int .u32 id, .int .i64 st, .int .i64 ix, .slice A3 nl c3, .string ⟨#[]⟩, .string ⟨#[]⟩, .int .i64 0, .int .i64 0, .int .u64 0] 26 (0, 0))) := by unfold Hid; rw [hX3]; exact heap_alloc_new W3 _
      have HT3 : Hid (RdT X3 (.slice A3 nl c3) l) := by
        have h := (RdT.of_own (l := l) (by rw [← HNL.out]; exact HOWN.out.below hbx))
        exact h
      have HE1 := Lib.hid (HE.out X3 HBX.out)
      clear hX3 hbx HE
      go_wp2_with (go_at_call 8; rw [← HX3.out]; refine (HE1.out).mono ?_; rintro e W4 ⟨v4, rfl, hO4, hb4⟩; refine Hid.out ?_)
      refine Lib.hid ?_
      have HB4 : Hid (Below w.heap.size w W4) := HBX.out.trans (hb4.mono HBX.out.size)
      have HM4 := Lib.hid ((hb4.block _ (Lib.lt_of_heap HM3.out)).trans HM3.out)
      have HT4 := Lib.hid (HT3.out.below hb4)
      have HO4 := Lib.hid hO4
      have HD1 := Lib.hid (HD.out W4 v4 HB4.out hO4.reads)
      clear hb4 hO4 HE1 HD e0 e1 e2 e3 e4 e5 e6 e7 e8 e9 e10 e11
      go_wp2_with (go_at_call 9; refine (HD1.out).mono ?_; rintro e W5 ⟨v5, rfl, hO5, hb5⟩; refine Hid.out ?_)
      obtain ⟨A5, c5, rfl⟩ := hO5.shape
      have HRT5 := Lib.hid (RdT.of_own hO5)
      rw [← HNL.out] at HRT5
      simp only [← HNL.out]
      refine Lib.hid ?_
      have HB5 : Hid (Below w.heap.size w W5) := HB4.out.trans (hb5.mono HB4.out.size)
      have HO5 := Lib.hid (HO4.out.keptBelow hb5)
      have HM5 := Lib.hid ((hb5.block _ (Lib.lt_of_heap HM4.out)).trans HM4.out)
      have HT5 := Lib.hid (HT4.out.below hb5)
      clear hO5 hb5 HD1 HO4
      obtain ⟨X5, hX5⟩ : ∃ X5, X5 = W5.alloc (.cells #[.int .i64 ver, .string com, .int .i64 kind, .int .u32 id, .int .i64 st, .int .i64 ix, .slice A5 nl c5, .string ⟨#[]⟩, .string ⟨#[]⟩, .int .i64 0, .int .i64 0, .int .u64 0] 26) := ⟨_, rfl⟩
      have hbx5 : Below W5.heap.size W5 X5 := by rw [hX5]; exact (Below.refl _ _).alloc (Nat.le_refl _) _
      have HBX5 : Hid (Below w.heap.size w X5) := HB5.out.trans (hbx5.mono HB5.out.size)
      have HX5 := Lib.hid hX5
      have HOX5 := Lib.hid (HO5.out.keptBelow hbx5)
      have HRX5 := Lib.hid (HRT5.out.below hbx5)
      have HTX5 := Lib.hid (HT5.out.below hbx5)
      have HMX5 := Lib.hid ((hbx5.block _ (Lib.lt_of_heap HM5.out)).trans HM5.out)
      have HE5 := Lib.hid (HE2.out X5 A5 c5 HBX5.out HRX5.out)
      clear hX5 hbx5 HE2
      go_wp2_with (go_at_call 8; rw [← HX5.out]; refine (HE5.out).mono ?_; rintro e W6 ⟨v6, rfl, hO6, hb6⟩; refine Hid.out ?_)
      refine Lib.hid ?_
      have HB6 : Hid (Below w.heap.size w W6) := HBX5.out.trans (hb6.mono HBX5.out.size)
      have hO4' := HOX5.out.keptBelow hb6
      obtain ⟨L, hL⟩ : ∃ L, L = BB.length := ⟨_, rfl⟩
      have hL0 : 0 < L := by rw [hL]; exact List.length_pos_iff.2 HBN.out.1
      have hL1 : L ≤ 13400 := by rw [hL]; exact HBN.out.2
      have hlen := hO4'.len L hL.symm
      have hcv4 : ∀ W, Below W6.heap.size W6 W → (convert 30 9 v4).run Tryz.prog W = .ok (.string (txt BB)) W := fun W hW => conv_txt _ _ _ (hO4'.reads.keptBelow hW)
      have hcv6 : ∀ W, Below W6.heap.size W6 W → (convert 30 9 v6).run Tryz.prog W = .ok (.string (txt BB)) W := fun W hW => conv_txt _ _ _ (hO6.reads.keptBelow hW)
      have hcv4' := hcv4 W6 (Below.refl _ _)
      have hcv6' := hcv6 W6 (Below.refl _ _)
      clear hO4' hO6 hb6 hL hcv4 hcv6 HE5
      go_wp2
      go_ret
      refine ⟨?_, HB6.out⟩
      first
        | rfl
        | (simp; done)
        | (simp; omega)
set_option maxHeartbeats 16000000 in
set_option maxRecDepth 100000 in
theorem fnBack_any (w : World) (ver : Int) (com : ByteArray) (kind id st ix : Int) (ent agent : ByteArray) (gen spec time : Int) (A : Option Addr) (n c : Nat) (rs : List Raw) (z : Addr) (hG : Given w com ent agent id time A n rs z) :
    Calls Tryz.prog 4 #[msgV ver com kind id st ix (.slice A n c) ent agent gen spec time] w fun e w' => e = .returned (.bool true) ∧ Below w.heap.size w w' := by
  have HG := Lib.hid hG
  obtain ⟨W1, hW1⟩ : ∃ W1, W1 = w.alloc (.cells #[.int .i64 ver, .string com, .int .i64 kind, .int .u32 id, .int .i64 st, .int .i64 ix, .slice A n c, .string ent, .string agent, .int .i64 gen, .int .i64 spec, .int .u64 time] 26) := ⟨_, rfl⟩
  have hb1 : Below w.heap.size w W1 := by rw [hW1]; exact (Below.refl _ _).alloc (Nat.le_refl _) _
  have h1 : W1.heap[w.heap.size]? = some (.cells #[.int .i64 ver, .string com, .int .i64 kind, .int .u32 id, .int .i64 st, .int .i64 ix, .slice A n c, .string ent, .string agent, .int .i64 gen, .int .i64 spec, .int .u64 time] 26 (0, 0)) := by rw [hW1]; exact heap_alloc_new w _
  have HF := Lib.hid (fits2 W1 ver com kind id st ix ent agent gen spec time A n c rs hG.cnt hG.n63 (hG.row.below hb1) hG.far hG.com hG.ent hG.agent)
  have HB1 := Lib.hid hb1
  have HW1 := Lib.hid hW1
  have H1 := Lib.hid h1
  clear hG hb1 hW1 h1
  simp only [msgV]
  simp only [msgV] at HF
  go_enter Tryz.func4, Tryz.ntmps4
  go_wp2_with (go_at_call 6; rw [← HW1.out]; refine (HF.out).mono ?_; rintro e W2 ⟨b, rfl, hyes, hb2⟩; refine Hid.out ?_)
  refine Lib.hid ?_
  have HB2 : Hid (Below w.heap.size w W2) := HB1.out.trans (hb2.mono HB1.out.size)
  have H2 := Lib.hid ((hb2.block _ (Lib.lt_of_heap H1.out)).trans H1.out)
  clear hb2 HF
  cases b with
  | false =>
    clear hyes
    go_wp2
    go_ret
    exact ⟨rfl, HB2.out⟩
  | true =>
    have HFIT := Lib.hid (hyes (by first | rfl | trivial))
    clear hyes
    have HT := Lib.hid (specTold W2 ver com kind id st ix ent agent gen spec time A n c rs HG.out.cnt HFIT.out.n (HG.out.row.below HB2.out) HG.out.wf HFIT.out.vars HFIT.out.com)
    simp only [msgV] at HT
    obtain ⟨e0, e1, e2, e3, e4, e5, e6, e7, e8, e9, e10, e11⟩ := twelve H2.out
    go_wp2_with (go_at_call 7; refine (HT.out).mono ?_; rintro e W3 hret; obtain ⟨m0, m1, m2, m3, m4, m5, A3, nl, c3, m7, m8, m9, m10, m11, b, rfl, hyes, hb3⟩ := hret.flat; clear hret; refine Hid.out ?_)
    cases b with
    | false =>
      refine Lib.hid ?_
      have HB3 : Hid (Below w.heap.size w W3) := HB2.out.trans (hb3.mono HB2.out.size)
      clear hb3 HT hyes e0 e1 e2 e3 e4 e5 e6 e7 e8 e9 e10 e11
      go_wp2
      go_ret
      exact ⟨rfl, HB3.out.alloc HB3.out.size _⟩
    | true =>
      obtain ⟨rfl, rfl, rfl, rfl, rfl, rfl, rfl, rfl, rfl, rfl, rfl, hok, l, havs, hnl, hown⟩ := hyes (by first | rfl | trivial)
      obtain ⟨h_ver0, h_ver1, h_com, h_kind0, h_kind1, h_kind4, h_st0, h_st1, h_ix0, h_ix1, h_n, h_id, rfl, rfl, rfl, rfl, rfl⟩ := hok
      obtain ⟨ver, rfl⟩ : ∃ v : Nat, ver = (v : Int) := ⟨ver.toNat, by omega⟩
      obtain ⟨st, rfl⟩ : ∃ v : Nat, st = (v : Int) := ⟨st.toNat, by omega⟩
      obtain ⟨ix, rfl⟩ : ∃ v : Nat, ix = (v : Int) := ⟨ix.toNat, by omega⟩
      obtain ⟨id, rfl⟩ : ∃ v : Nat, id = (v : Int) := ⟨id.toNat, by have := HG.out.id; omega⟩
      obtain ⟨hsame, hoks⟩ := havs.same HG.out.wf HFIT.out.vars
      have hl20 : l.length ≤ 20 := by rw [havs.len, HG.out.cnt]; exact h_n
      have HB3 : Hid (Below w.heap.size w W3) := HB2.out.trans (hb3.mono HB2.out.size)
      have H3 := Lib.hid ((hb3.block _ (Lib.lt_of_heap H2.out)).trans H2.out)
      obtain ⟨BB, hBB⟩ : ∃ BB, BB = msgB ver com (sealB kind (bodyB id st ix l 0) 0) 0 := ⟨_, rfl⟩
      have HE : Hid (∀ W, Below w.heap.size w W → Calls Tryz.prog 8 #[msgV ver com kind id st ix (.slice A n c) ⟨#[]⟩ ⟨#[]⟩ 0 0 0] W (RetE W BB)) := fun W hW => by
        rw [hBB]
        exact encodeMsg W ver com kind id st ix A n c rs l z (HG.out.net.below hW) (by omega) h_kind0 h_kind1 h_kind4 (by omega) HG.out.cnt h_n h_com (by omega) (by omega) (HG.out.row.below hW) hsame hoks
      have HD : Hid (∀ W v, Below w.heap.size w W → Rd W v BB → Calls Tryz.prog 9 #[v] W (RetDec W (fun vo => msgV ver com kind id st ix vo ⟨#[]⟩ ⟨#[]⟩ 0 0 0) l)) := fun W v hW hv => by
        rw [hBB] at hv
        exact decodeMsg W v ver com kind id st ix l z (HG.out.net.below hW) (HG.out.tab.below hW) (HG.out.asn.below hW) (by omega) h_kind0 h_kind1 h_kind4 (by omega) hl20 h_com (by omega) (by omega) hoks hv
      have HE2 : Hid (∀ W A2 c2, Below w.heap.size w W → RdT W (.slice A2 l.length c2) l → Calls Tryz.prog 8 #[msgV ver com kind id st ix (.slice A2 l.length c2) ⟨#[]⟩ ⟨#[]⟩ 0 0 0] W (RetE W BB)) := fun W A2 c2 hW hv => by
        rw [hBB, ← bodyB_told]
        exact encodeMsg W ver com kind id st ix A2 l.length c2 (toldR l) (toldL l) z (HG.out.net.below hW) (by omega) h_kind0 h_kind1 h_kind4 (by omega) (by simp [toldR]) hl20 h_com (by omega) (by omega) hv.raw (toldL_same hoks) (toldL_ok hoks)
      have HBN : Hid (BB ≠ [] ∧ BB.length ≤ 13400) := by
        rw [hBB]
        exact ⟨msgB_ne _ _ _ _, msgB_short ver com _ (by omega) h_com (bodyB_length kind id st ix l (by omega) (by omega) (by omega) hoks hl20) 0 (by omega)⟩
      have HL20 := Lib.hid hl20
      have HOWN := Lib.hid hown
      simp only [msgV] at HE HE2 HD
      clear hb3 HT hyes e0 e1 e2 e3 e4 e5 e6 e7 e8 e9 e10 e11 hsame hoks havs hBB hl20 h_ver0 h_ver1 h_com h_kind0 h_kind1 h_kind4 h_st0 h_st1 h_ix0 h_ix1 h_n h_id hown
      rw [← hnl] at HE2 HL20 HOWN
      have HNL := Lib.hid hnl
      clear hnl
      refine Lib.hid ?_
      obtain ⟨X3, hX3⟩ : ∃ X3, X3 = W3.alloc (.cells #[.int .i64 ver, .string com, .int .i64 kind, .int .u32 id, .int .i64 st, .int .i64 ix, .slice A3 nl c3, .string ⟨#[]⟩, .string ⟨#[]⟩, .int .i64 0, .int .i64 0, .int .u64 0] 26) := ⟨_, rfl⟩
      have hbx : Below W3.heap.size W3 X3 := by rw [hX3]; exact (Below.refl _ _).alloc (Nat.le_refl _) _
      have HBX : Hid (Below w.heap.size w X3) := HB3.out.trans (hbx.mono HB3.out.size)
      have HX3 := Lib.hid hX3
      have hy3 : X3.heap[w.heap.size]? = _ := (hbx.block _ (Lib.lt_of_heap H3.out)).trans H3.out
      rw [hX3] at hy3
      obtain ⟨e0, e1, e2, e3, e4, e5, e6, e7, e8, e9, e10, e11⟩ := twelve hy3
      clear hy3
      have HM3 : Hid (X3.heap[W3.heap.size]? = some (.cells #[.int .i64 ver, .string com, .int .i64 kind, .int .u32 id, .int .i64 st, .int .i64 ix, .slice A3 nl c3, .string ⟨#[]⟩, .string ⟨#[]⟩, .int .i64 0, .int .i64 0, .int .u64 0] 26 (0, 0))) := by unfold Hid; rw [hX3]; exact heap_alloc_new W3 _
      have HT3 : Hid (RdT X3 (.slice A3 nl c3) l) := by
        have h := (RdT.of_own (l := l) (by rw [← HNL.out]; exact HOWN.out.below hbx))
        exact h
      have HE1 := Lib.hid (HE.out X3 HBX.out)
      clear hX3 hbx HE
      go_wp2_with (go_at_call 8; rw [← HX3.out]; refine (HE1.out).mono ?_; rintro e W4 ⟨v4, rfl, hO4, hb4⟩; refine Hid.out ?_)
      refine Lib.hid ?_
      have HB4 : Hid (Below w.heap.size w W4) := HBX.out.trans (hb4.mono HBX.out.size)
      have HM4 := Lib.hid ((hb4.block _ (Lib.lt_of_heap HM3.out)).trans HM3.out)
      have HT4 := Lib.hid (HT3.out.below hb4)
      have HO4 := Lib.hid hO4
      have HD1 := Lib.hid (HD.out W4 v4 HB4.out hO4.reads)
      clear hb4 hO4 HE1 HD e0 e1 e2 e3 e4 e5 e6 e7 e8 e9 e10 e11
      go_wp2_with (go_at_call 9; refine (HD1.out).mono ?_; rintro e W5 ⟨v5, rfl, hO5, hb5⟩; refine Hid.out ?_)
      obtain ⟨A5, c5, rfl⟩ := hO5.shape
      have HRT5 := Lib.hid (RdT.of_own hO5)
      rw [← HNL.out] at HRT5
      simp only [← HNL.out]
      refine Lib.hid ?_
      have HB5 : Hid (Below w.heap.size w W5) := HB4.out.trans (hb5.mono HB4.out.size)
      have HO5 := Lib.hid (HO4.out.keptBelow hb5)
      have HM5 := Lib.hid ((hb5.block _ (Lib.lt_of_heap HM4.out)).trans HM4.out)
      have HT5 := Lib.hid (HT4.out.below hb5)
      clear hO5 hb5 HD1 HO4
      obtain ⟨X5, hX5⟩ : ∃ X5, X5 = W5.alloc (.cells #[.int .i64 ver, .string com, .int .i64 kind, .int .u32 id, .int .i64 st, .int .i64 ix, .slice A5 nl c5, .string ⟨#[]⟩, .string ⟨#[]⟩, .int .i64 0, .int .i64 0, .int .u64 0] 26) := ⟨_, rfl⟩
      have hbx5 : Below W5.heap.size W5 X5 := by rw [hX5]; exact (Below.refl _ _).alloc (Nat.le_refl _) _
      have HBX5 : Hid (Below w.heap.size w X5) := HB5.out.trans (hbx5.mono HB5.out.size)
      have HX5 := Lib.hid hX5
      have HOX5 := Lib.hid (HO5.out.keptBelow hbx5)
      have HRX5 := Lib.hid (HRT5.out.below hbx5)
      have HTX5 := Lib.hid (HT5.out.below hbx5)
      have HMX5 := Lib.hid ((hbx5.block _ (Lib.lt_of_heap HM5.out)).trans HM5.out)
      have hs := same_eq X5 ver com kind id st ix ⟨#[]⟩ ⟨#[]⟩ 0 0 0 (.slice A5 nl c5) (.slice A3 nl c3) l HRX5.out HTX5.out (by rw [← HNL.out]; exact HL20.out)
      simp only [msgV] at hs
      have HS := Lib.hid hs
      have hy5 := HMX5.out
      rw [hX5] at hy5
      obtain ⟨m0, m1, m2, m3, m4, m5, m6, m7, m8, m9, m10, m11⟩ := twelve hy5
      clear hX5 hbx5 HE2 hs hy5
      go_wp2_with (go_at_call 10; rw [← HX5.out]; refine (HS.out).mono ?_; rintro e W6 ⟨rfl, hb6⟩; refine Hid.out ?_)
      refine Lib.hid ?_
      have HB6 : Hid (Below w.heap.size w W6) := HBX5.out.trans (hb6.mono HBX5.out.size)
      clear hb6 HS m0 m1 m2 m3 m4 m5 m6 m7 m8 m9 m10 m11
      go_wp2
      go_ret
      exact ⟨rfl, HB6.out⟩
end Go.Proofs.YtpfmcdhmboclhaaGreatDoor
