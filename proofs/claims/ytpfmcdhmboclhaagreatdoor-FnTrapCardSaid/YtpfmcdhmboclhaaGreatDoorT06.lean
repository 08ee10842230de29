/- spec: a name out of its content. spec: a variable out of its bytes. -/
import Derived.Test.YtpfmcdhmboclhaaGreatDoorG17
import Derived.Test.YtpfmcdhmboclhaaGreatDoorG21
import Derived.Test.YtpfmcdhmboclhaaGreatDoorT05
set_option linter.unusedVariables false
set_option linter.unusedSimpArgs false
namespace Go.Proofs.YtpfmcdhmboclhaaGreatDoor
open Go.RowKit
set_option maxHeartbeats 8000000 in
set_option maxRecDepth 100000 in
theorem specOfName (v : Value) (w : World) (a b : Nat) (r : List Nat) (ha : a ≤ 2) (hb : b < 40) (hl : r.length ≤ 58) (h32 : ∀ x ∈ r, x < 4294967296) (hr : Rd w v (nameB (a :: b :: r))) (hsz : (nameB (a :: b :: r)).length ≤ 300) :
    Calls Tryz.prog 27 #[v] w (RetName w (a :: b :: r)) := by
  obtain ⟨B, hB⟩ : ∃ B : Nat, B = 40 * a + b := ⟨_, rfl⟩
  obtain ⟨ys, hys⟩ : ∃ ys, ys = r.flatMap b128 := ⟨_, rfl⟩
  have e : nameB (a :: b :: r) = (B : Int) :: ys := by rw [nameB_rest, hys, hB]; rfl
  rw [e] at hr hsz
  obtain ⟨k, hk⟩ : ∃ k, k = ((B : Int) :: ys).length := ⟨_, rfl⟩
  have hL := hr.lenAt k hk
  obtain ⟨a0, i0, k0⟩ := rd_idx hr 0 B rfl
  have c0 := k0 w hr
  have i0' : ∀ W, (Instr.indexAt 30 v (.int .i64 0)).run Tryz.prog W = .ok (.pointer (some a0)) W := i0
  obtain ⟨s1, -, r1, q1⟩ := rd_sub hr 1 k (by simp at hk; omega) (by omega)
  have r1 := r1 hk
  have r1' : ∀ W, (Instr.slice 30 v (some (.int .i64 1)) none none).run Tryz.prog W = .ok s1 W := r1
  have e1 : (((B : Int) :: ys).drop 1).take (k - 1) = ys := by
    show ys.take (k - 1) = ys
    exact List.take_of_length_le (by simp at hk; omega)
  rw [e1] at q1
  obtain ⟨ky, hky⟩ : ∃ ky, ky = ys.length := ⟨_, rfl⟩
  have hkk : k = ky + 1 := by rw [hk, hky]; rfl
  have hk300 : k ≤ 300 := by rw [hk]; exact hsz
  have hLy : ∀ W, (Builtin.len_ #[30] 3 #[s1]).run Tryz.prog W = .ok (.int .i64 (ky : Int)) W := (q1 w hr).lenAt ky hky
  have hky300 : ky ≤ 300 := by rw [hkk] at hk300; omega
  have hk0 : ((k : Int) == 0) = false := by simp; omega
  have hk3 : ¬ 300 < (k : Int) := by omega
  have hBa : (B : Int) / 40 = a := by omega
  have hBb : (B : Int) % 40 = b := by omega
  have hB120 : ¬ 120 ≤ (B : Int) := by omega
  have hBlt : (B : Int) < 120 := by omega
  have hwB : IntKind.u64.wrap (B : Int) = B := by rw [IntKind.wrap_u64]; omega
  have HR := Lib.hid hr
  have HQ := Lib.hid q1
  have HYS := Lib.hid hys
  have HKY := Lib.hid hky
  have H32 := Lib.hid h32
  have HLR := Lib.hid hl
  clear hr hsz k0 i0 r1 q1 e e1 hk hys hky h32 hB hl hkk
  go_enter Tryz.func27, Tryz.ntmps27
  go_wp2
  go_region
  go_wp2
  try simp only [hBa]
  try simp only [hBb]
  clear hBa hBb
  go_loopw [4, 5, 6, 37] (fun out n op i wr => NmAt a b r ys w out n op i wr) (fun _ _ _ i _ => ys.length - (intOf i).toNat)
  case atStart =>
    refine ⟨0, [], [], rfl, rfl, rfl, ?_, ?_, Nat.zero_le _, .inl ⟨rfl, r, rfl, HYS.out⟩⟩
    · exact (own2 w a b).below (Below.refl _ _).drew
    · exact ((Below.refl _ _).alloc (Nat.le_refl _) _).drew
  case round =>
    obtain ⟨j, done, p, rfl, rfl, rfl, hO, hb', hj, hpos⟩ := hrel
    obtain ⟨wo, rfl⟩ : ∃ wo : World, wo = wr := ⟨_, rfl⟩
    have HO := Lib.hid hO
    have HB := Lib.hid hb'
    have HS1 := Lib.hid (HQ.out wo (HR.out.keptBelow hb'))
    clear hO hb'
    rcases hd : ys.drop j with _ | ⟨x, T⟩
    · rw [hd] at hpos
      obtain ⟨rfl, rfl⟩ := nmPos_end hpos
      have hjk : j = ky := by
        have h1 := congrArg List.length hd
        rw [List.length_drop] at h1
        have := HKY.out
        simp at h1
        omega
      have hlen : ((a :: b :: r).length : Int) ≤ 60 := by have := HLR.out; simp; omega
      have hLo : ∀ W, (Builtin.len_ #[71] 3 #[u4]).run Tryz.prog W = .ok (.int .i64 ((a :: b :: r).length : Int)) W := HO.out.len71
      obtain ⟨lr, hlr⟩ : ∃ lr, lr = (a :: b :: r).length := ⟨_, rfl⟩
      rw [← hlr] at hlen hLo
      have HRET : Hid (RetName w (a :: b :: r) (.returned (.tuple #[u4, .bool true])) wo) := ⟨u4, rfl, HO.out, HB.out⟩
      subst hjk
      clear hpos hd hlr hj
      go_wp2
      refine bodyPost_ret (v := .tuple #[u4, .bool true]) (by simp [results, Tryz.results27, go_sem]) rfl ?_
      exact HRET.out
    · rw [hd] at hpos
      obtain ⟨cur, rest, q, hb1, hT, hrd⟩ := nmPos_step hpos
      obtain ⟨hx0, hx1, hsm, hbig⟩ := b128_split cur p x q hb1
      have hcur : cur < 4294967296 := H32.out cur (by rw [hrd]; simp)
      have hjk : j < ky := by
        have h1 := congrArg List.length hd
        rw [List.length_drop] at h1
        have := HKY.out
        simp at h1
        omega
      have hx : ys[j]? = some x := by
        have h1 := congrArg (fun l => l[0]?) hd
        simpa using h1
      have hdT : ys.drop (j + 1) = T := by rw [← List.drop_drop, hd]; rfl
      obtain ⟨aj, ij, kj⟩ := rd_idx HS1.out j x hx
      have cj := kj wo HS1.out
      obtain ⟨m, hm⟩ : ∃ m, m = val128 p := ⟨_, rfl⟩
      obtain ⟨D, hD⟩ : ∃ D : Int, D = x % 128 := ⟨_, rfl⟩
      obtain ⟨NN, hNN⟩ : ∃ NN : Nat, NN = 128 * m + D.toNat := ⟨_, rfl⟩
      have hNv : NN = val128 (p ++ [x]) := by rw [val128_snoc, hNN, hm]; omega
      have hNle : NN ≤ cur := by
        have h1 := val128_mono q (p ++ [x])
        rw [← hNv, List.append_assoc, List.singleton_append, ← hb1, val128_b128] at h1
        exact h1
      have hm25 : m < 33554432 := by omega
      have hand : bits .and .u8 x 127 = D := by rw [hD]; exact band127 x ⟨hx0, hx1⟩
      have hor : bits .or .u64 ((m : Int) * 128) D = (NN : Int) := by rw [hNN]; exact or7u m D (by omega) (by omega)
      have hD0 : 0 ≤ D := by omega
      have hD1 : D < 128 := by omega
      have hwD : IntKind.u64.wrap D = D := by rw [IntKind.wrap_u64]; omega
      have hwm : IntKind.u64.wrap ((m : Int) * 128) = (m : Int) * 128 := by rw [IntKind.wrap_u64]; omega
      have hm25' : ¬ 33554432 ≤ (m : Int) := by omega
      have hdl : done.length ≤ 57 := by
        have := HLR.out
        rw [hrd] at this
        simp at this
        omega
      have HDL := Lib.hid hdl
      have HNV := Lib.hid hNv
      have HDT := Lib.hid hdT
      have HRD := Lib.hid hrd
      have HT := Lib.hid hT
      have HB1 := Lib.hid hb1
      rw [← hm]
      clear hx kj hd hT hrd hdT hdl hpos hNN hj
      by_cases hsmall : x < 128
      · have hq : q = [] := by
          rcases q with _ | ⟨z, q⟩
          · rfl
          · have := hbig (by simp); omega
        subst hq
        have hNc : NN = cur := by
          have h1 := val128_b128 cur
          rw [HB1.out, ← HNV.out] at h1
          exact h1
        have hne : (x == 128) = false := by simp; omega
        have h127 : ¬ 127 < x := by omega
        subst hNc
        clear hsm hbig hm hNv hb1 hD hNle
        have HPOS : Hid (NmPos r (done ++ [NN]) [] (ys.drop (j + 1))) := .inl ⟨rfl, rest, by rw [HRD.out]; simp, by rw [HDT.out, HT.out]; rfl⟩
        rcases p with _ | ⟨p0, p⟩
        · simp only [List.isEmpty_nil, Bool.not_true]
          go_wp2_with (at_builtin; refine wpList_append64 elem71 _ rfl _ _ rfl w.heap.size _ (a :: b :: done).length (by64 (a :: b :: done)) [.int .u64 NN] wo.heap.size 1 rfl rfl (by exact HO.out.alloc _) rfl (by exact one64 wo NN) (by simp [Value.oneCell']) (by have := HB.out.size; simp; omega) (by have := HDL.out; simp; omega) ?_)
          intro v1 w1 hO1 hg _
          have HB2 : Hid (Below w.heap.size w w1) := (HB.out.alloc HB.out.size _).grown hg (by have := HB.out.size; simp; omega) (fun k e => (HO.out.lt e).1)
          have HO1 : Hid (OwnC 38 1 w1 w.heap.size v1 (a :: b :: (done ++ [NN])).length (by64 (a :: b :: (done ++ [NN])))) := by
            have e1 : a :: b :: (done ++ [NN]) = (a :: b :: done) ++ [NN] := rfl
            rw [e1, by64_append, List.length_append]; exact hO1
          clear hO1 hg
          go_wp2
          go_roundw
          case rel =>
            exact ⟨j + 1, done ++ [NN], [], by go_num, rfl, rfl, HO1.out, HB2.out, by have := HKY.out; omega, HPOS.out⟩
          case measure => have := HKY.out; simp [intOf]; omega
        · simp only [List.isEmpty_cons, Bool.not_false]
          go_wp2_with (at_builtin; refine wpList_append64 elem71 _ rfl _ _ rfl w.heap.size _ (a :: b :: done).length (by64 (a :: b :: done)) [.int .u64 NN] wo.heap.size 1 rfl rfl (by exact HO.out.alloc _) rfl (by exact one64 wo NN) (by simp [Value.oneCell']) (by have := HB.out.size; simp; omega) (by have := HDL.out; simp; omega) ?_)
          intro v1 w1 hO1 hg _
          have HB2 : Hid (Below w.heap.size w w1) := (HB.out.alloc HB.out.size _).grown hg (by have := HB.out.size; simp; omega) (fun k e => (HO.out.lt e).1)
          have HO1 : Hid (OwnC 38 1 w1 w.heap.size v1 (a :: b :: (done ++ [NN])).length (by64 (a :: b :: (done ++ [NN])))) := by
            have e1 : a :: b :: (done ++ [NN]) = (a :: b :: done) ++ [NN] := rfl
            rw [e1, by64_append, List.length_append]; exact hO1
          clear hO1 hg
          go_wp2
          go_roundw
          case rel =>
            exact ⟨j + 1, done ++ [NN], [], by go_num, rfl, rfl, HO1.out, HB2.out, by have := HKY.out; omega, HPOS.out⟩
          case measure => have := HKY.out; simp [intOf]; omega
      · have hq : q ≠ [] := fun h => hsmall (hsm h)
        have h127 : 127 < x := by omega
        have hne : p = [] → (x == 128) = false := fun h => by
          subst h
          have := b128_head cur x q hb1
          simpa using this
        clear hsm hbig hm hNv hb1 hD hNle
        have HPOS : Hid (NmPos r done (p ++ [x]) (ys.drop (j + 1))) := .inr ⟨by simp, cur, rest, q, hq, HRD.out, by rw [HB1.out]; simp, by rw [HDT.out, HT.out]⟩
        rcases p with _ | ⟨p0, p⟩
        · have hne := hne rfl
          simp only [List.isEmpty_nil, Bool.not_true]
          go_wp2
          go_roundw
          case rel => exact ⟨j + 1, done, _, by go_num, by rw [← HNV.out], by simp, HO.out, HB.out, by have := HKY.out; omega, HPOS.out⟩
          case measure => have := HKY.out; simp [intOf]; omega
        · clear hne
          simp only [List.isEmpty_cons, Bool.not_false]
          go_wp2
          go_roundw
          case rel => exact ⟨j + 1, done, _, by go_num, by rw [← HNV.out], by simp, HO.out, HB.out, by have := HKY.out; omega, HPOS.out⟩
          case measure => have := HKY.out; simp [intOf]; omega
end Go.Proofs.YtpfmcdhmboclhaaGreatDoor
namespace Go.Proofs.YtpfmcdhmboclhaaGreatDoor
open Go.RowKit

theorem sealB_short (t : Int) (c : List Int) (h : c.length < 65536) : (sealB t c 0).length ≤ 4 + c.length := by
  have := lenB_length c.length 0 h
  simp only [sealB, List.length_cons, List.length_append]
  omega
/-- What OfVar returns. -/
def RetVar (w : World) (nm : ByteArray) (p : Pay) (rest : List Int) (e : Ending) (w' : World) : Prop :=
  ∃ v2, e = .returned (.tuple #[toldV nm p, v2, .bool true]) ∧ Rd w' v2 rest ∧ Below w.heap.size w w'
theorem ofName_of {v : Value} {w : World} {arcs : List Nat} (hg : GoodArcs arcs) (h32 : ∀ x ∈ arcs, x < 4294967296) (hr : Rd w v (nameB arcs)) : Calls Tryz.prog 27 #[v] w (RetName w arcs) := by
  have h2 := hg.two
  obtain ⟨a, b, r, rfl⟩ : ∃ a b r, arcs = a :: b :: r := by
    match arcs, h2 with
    | a :: b :: r, _ => exact ⟨a, b, r, rfl⟩
    | [a], h => simp at h
    | [], h => simp at h
  have h60 := hg.sixty
  have hb := hg.bytes
  have h0 := hg.first
  have h1 := hg.second
  refine specOfName v w a b r (by simpa using h0) (by simpa using h1) (by simp at h60; omega) (fun x hx => h32 x (by simp [hx])) hr (by omega)
theorem Rd.offCell {w W : World} {v : Value} {l : List Int} {g : Nat} {T : TypeId} {cs : Array Value} (h : Rd w v l) (hg : w.heap[g]? = some (.cells cs T (0, 0))) (hcs : ∀ (j : Nat) (x : Int), cs[j]? ≠ some (.int .u8 x)) (k : Kp [g] w W) : Rd W v l := by
  obtain ⟨A, c, rfl, h1, h2, hcell⟩ := h
  refine ⟨A, c, rfl, h1, h2, fun hn => ?_⟩
  obtain ⟨b, o, rfl, hc⟩ := hcell hn
  refine ⟨b, o, rfl, fun j hj => ?_⟩
  have hx := hc j hj
  have hne : b ≠ g := by rintro rfl; rw [Lib.cell_of_heap hg] at hx; exact hcs _ _ hx
  have hlt : b < w.heap.size := by
    rcases Nat.lt_or_ge b w.heap.size with h | h
    · exact h
    · simp [World.cell?, Array.getElem?_eq_none h] at hx
  rw [k.cell hlt (by simpa using hne)]; exact hx
theorem z40_no (j : Nat) (x : Int) : (#[.string ⟨#[]⟩, .int .i64 0, .int .i64 0, .int .u64 0, .string ⟨#[]⟩] : Array Value)[j]? ≠ some (.int .u8 x) := by
  rcases j with _ | _ | _ | _ | _ | j <;> simp
/-- A row of numbers of whatever age. -/
def OwnCSome (W : World) (v : Value) (arcs : List Nat) : Prop := ∃ B, OwnC 38 1 W B v arcs.length (by64 arcs)
set_option maxHeartbeats 8000000 in
set_option maxRecDepth 100000 in
theorem ofVar_5 (v : Value) (w : World) (arcs : List Nat) (rest : List Int) (hg : GoodArcs arcs) (hsz : rest.length ≤ 100000) (hr : Rd w v (varB arcs (.nul 5) 0 ++ rest)) :
    Calls Tryz.prog 30 #[v] w (RetVar w (dot arcs) (.nul 5) rest) := by
  obtain ⟨W1, hW1⟩ : ∃ W1, W1 = w.alloc (.cells #[.string ⟨#[]⟩, .int .i64 0, .int .i64 0, .int .u64 0, .string ⟨#[]⟩] 40) := ⟨_, rfl⟩
  have hb1 : Below w.heap.size w W1 := by rw [hW1]; exact (Below.refl _ _).alloc (Nat.le_refl _) _
  have hz1 : W1.heap[w.heap.size]? = some (.cells #[.string ⟨#[]⟩, .int .i64 0, .int .i64 0, .int .u64 0, .string ⟨#[]⟩] 40 (0, 0)) := by rw [hW1]; exact heap_alloc_new w _
  have HG := Lib.hid hg
  have hcl : (([] : List Int)).length ≤ 500 := Pay.con_len (p := .nul 5) (by exact .inl rfl)
  have hnl : (nameB arcs).length ≤ 100 := hg.bytes
  have l1 := sealB_short 6 (nameB arcs) (by omega)
  have l2 := sealB_short (5) (([] : List Int)) (by omega)
  have HO1 := Lib.hid (specNext v W1 48 (sealB 6 (nameB arcs) 0 ++ sealB (5) (([] : List Int)) 0) rest (hr.keptBelow hb1) (by omega) (by rw [List.length_append]; omega) hsz)
  have HO2 : Hid (∀ W u, Rd W u (sealB 6 (nameB arcs) 0 ++ sealB (5) (([] : List Int)) 0) → Calls Tryz.prog 25 #[u, .int .i64 6] W (RetNext W (nameB arcs) (sealB (5) (([] : List Int)) 0))) := fun W u h => specNext u W 6 _ _ h (by omega) (by omega) (by omega)
  have HO3 : Hid (∀ W u, Rd W u (nameB arcs) → Calls Tryz.prog 27 #[u] W (RetName W arcs)) := fun W u h => ofName_of HG.out HG.out.small h
  have HO4 : Hid (∀ W u, Rd W u (sealB (5) (([] : List Int)) 0) → Calls Tryz.prog 44 #[u] W (RetOpen W (5) (([] : List Int)) [])) := fun W u h => specOpen u W (5) _ [] (by rw [List.append_nil]; exact h) (by omega) (by omega) (by simp)
  have HO5 : Hid (∀ W u, OwnCSome W u arcs → Calls Tryz.prog 24 #[u] W fun e w' => e = .returned (.string (dot arcs)) ∧ Below W.heap.size W w') := fun W u ⟨B, h⟩ => dotted u arcs W (RdN.of_own h) HG.out.small HG.out.sixty
  have HB1 := Lib.hid hb1
  have HW1 := Lib.hid hW1
  have HZ1 := Lib.hid hz1
  clear hb1 hW1 hz1 hr hcl hnl l1 l2 hg
  go_enter Tryz.func30, Tryz.ntmps30
  go_wp2_with (go_at_call 25; rw [← HW1.out]; refine (HO1.out).mono ?_; rintro e W2 ⟨v1, vr, rfl, h1, h2, hb2⟩; refine Hid.out ?_)
  refine Lib.hid ?_
  have HB2 : Hid (Below w.heap.size w W2) := HB1.out.trans (hb2.mono HB1.out.size)
  have HZ2 := Lib.hid ((hb2.block _ (Lib.lt_of_heap HZ1.out)).trans HZ1.out)
  have HV2 := Lib.hid h2
  have HC2 := Lib.hid (HO2.out W2 v1 h1)
  clear h1 h2 hb2 HO1 HO2 HW1 HZ1 HB1
  go_wp2_with (go_at_call 25; refine (HC2.out).mono ?_; rintro e W3 ⟨vn, vi, rfl, h1, h2, hb3⟩; refine Hid.out ?_)
  refine Lib.hid ?_
  have HB3 : Hid (Below w.heap.size w W3) := HB2.out.trans (hb3.mono HB2.out.size)
  have HZ3 := Lib.hid ((hb3.block _ (Lib.lt_of_heap HZ2.out)).trans HZ2.out)
  have HV3 := Lib.hid (HV2.out.keptBelow hb3)
  have HI3 := Lib.hid h2
  have HC3 := Lib.hid (HO3.out W3 vn h1)
  clear h1 h2 hb3 HC2 HZ2 HB2 HV2
  go_wp2_with (go_at_call 27; refine (HC3.out).mono ?_; rintro e W4 ⟨va, rfl, h1, hb4⟩; refine Hid.out ?_)
  refine Lib.hid ?_
  have HB4 : Hid (Below w.heap.size w W4) := HB3.out.trans (hb4.mono HB3.out.size)
  have HZ4 := Lib.hid ((hb4.block _ (Lib.lt_of_heap HZ3.out)).trans HZ3.out)
  have HV4 := Lib.hid (HV3.out.keptBelow hb4)
  have HA4 := Lib.hid h1
  have HC4 := Lib.hid (HO4.out W4 vi (HI3.out.keptBelow hb4))
  clear h1 hb4 HC3 HZ3 HB3 HV3 HI3
  go_wp2_with (go_at_call 44; refine (HC4.out).mono ?_; rintro e W5 ⟨vc, vl, rfl, h1, h2, hb5⟩; refine Hid.out ?_)
  refine Lib.hid ?_
  have HB5 : Hid (Below w.heap.size w W5) := HB4.out.trans (hb5.mono HB4.out.size)
  have HZ5 := Lib.hid ((hb5.block _ (Lib.lt_of_heap HZ4.out)).trans HZ4.out)
  have HV5 := Lib.hid (HV4.out.keptBelow hb5)
  have HC5 := Lib.hid (HO5.out W5 va ⟨_, HA4.out.below hb5⟩)
  have HCON5 := Lib.hid h1
  have hLl : ∀ W, (Builtin.len_ #[30] 3 #[vl]).run Tryz.prog W = .ok (.int .i64 0) W := h2.lenAt 0 rfl
  clear h1 h2 hb5 HC4 HZ4 HB4 HV4 HA4
  go_wp2_with (go_at_call 24; refine (HC5.out).mono ?_; rintro e W6 ⟨rfl, hb6⟩; refine Hid.out ?_)
  refine Lib.hid ?_
  have HB6 : Hid (Below w.heap.size w W6) := HB5.out.trans (hb6.mono HB5.out.size)
  have HZ6 := Lib.hid ((hb6.block _ (Lib.lt_of_heap HZ5.out)).trans HZ5.out)
  have HV6 := Lib.hid (HV5.out.keptBelow hb6)
  have HCON6 := Lib.hid (HCON5.out.keptBelow hb6)
  clear hb6 HC5 HZ5 HB5 HV5 HCON5
  clear HO3 HO4 HO5
  have hLc : ∀ W, (Builtin.len_ #[30] 3 #[vc]).run Tryz.prog W = .ok (.int .i64 0) W := HCON6.out.lenAt 0 rfl
  go_upto_region 38 with fail
  obtain ⟨W7, hW7⟩ : ∃ W7, W7 = W6.alloc (.cells #[.string (dot arcs), .int .i64 5, .int .i64 0, .int .u64 0, .string ⟨#[]⟩] 40) := ⟨_, rfl⟩
  rw [← hW7]
  have hb67 : Below W6.heap.size W6 W7 := by rw [hW7]; exact (Below.refl _ _).alloc (Nat.le_refl _) _
  have HQ7 : Hid (W7.heap[W6.heap.size]? = some (.cells #[.string (dot arcs), .int .i64 5, .int .i64 0, .int .u64 0, .string ⟨#[]⟩] 40 (0, 0))) := by unfold Hid; rw [hW7]; exact heap_alloc_new W6 _
  have HZ7 := Lib.hid ((hb67.block _ (Lib.lt_of_heap HZ6.out)).trans HZ6.out)
  have HB7 : Hid (Below w.heap.size w W7) := HB6.out.trans (hb67.mono HB6.out.size)
  have HV7 := Lib.hid (HV6.out.keptBelow hb67)
  have HCON7 := Lib.hid (HCON6.out.keptBelow hb67)
  clear hb67 hW7 HZ6 HB6 HV6 HCON6
  have e0 : W7.cell? ⟨W6.heap.size, 0, none⟩ = some (.string (dot arcs)) := by rw [Lib.cell_of_heap HQ7.out]; rfl
  have e1 : W7.cell? ⟨W6.heap.size, 1, none⟩ = some (.int .i64 5) := by rw [Lib.cell_of_heap HQ7.out]; rfl
  have e2 : W7.cell? ⟨W6.heap.size, 2, none⟩ = some (.int .i64 0) := by rw [Lib.cell_of_heap HQ7.out]; rfl
  have e3 : W7.cell? ⟨W6.heap.size, 3, none⟩ = some (.int .u64 0) := by rw [Lib.cell_of_heap HQ7.out]; rfl
  have e4 : W7.cell? ⟨W6.heap.size, 4, none⟩ = some (.string ⟨#[]⟩) := by rw [Lib.cell_of_heap HQ7.out]; rfl
  have s0 : W7.cell? ⟨w.heap.size, 0, none⟩ = some (.string ⟨#[]⟩) := by rw [Lib.cell_of_heap HZ7.out]; rfl
  have s1 : W7.cell? ⟨w.heap.size, 1, none⟩ = some (.int .i64 0) := by rw [Lib.cell_of_heap HZ7.out]; rfl
  have s2 : W7.cell? ⟨w.heap.size, 2, none⟩ = some (.int .i64 0) := by rw [Lib.cell_of_heap HZ7.out]; rfl
  have s3 : W7.cell? ⟨w.heap.size, 3, none⟩ = some (.int .u64 0) := by rw [Lib.cell_of_heap HZ7.out]; rfl
  have s4 : W7.cell? ⟨w.heap.size, 4, none⟩ = some (.string ⟨#[]⟩) := by rw [Lib.cell_of_heap HZ7.out]; rfl
  have sf : ∀ i, W7.frozen? ⟨w.heap.size, i, none⟩ = false := fun i => Lib.frozen_of_heap HZ7.out i
  have HS := Lib.hid (setCells_at (g := w.heap.size) (T := 40) [(.string (dot arcs)), (.int .i64 5), (.int .i64 0), (.int .u64 0), (.string ⟨#[]⟩)] 0 W7 _ HZ7.out (by simp))
  go_wp2
  change bodyPost _ _ _ _ _ (W7.setCells w.heap.size 0 [(.string (dot arcs)), (.int .i64 5), (.int .i64 0), (.int .u64 0), (.string ⟨#[]⟩)])
  obtain ⟨z1, z2⟩ := HS.out
  have HVF : Hid (Rd (W7.setCells w.heap.size 0 [(.string (dot arcs)), (.int .i64 5), (.int .i64 0), (.int .u64 0), (.string ⟨#[]⟩)]) vr rest) := HV7.out.offCell HZ7.out z40_no z2
  have HBF : Hid (Below w.heap.size w (W7.setCells w.heap.size 0 [(.string (dot arcs)), (.int .i64 5), (.int .i64 0), (.int .u64 0), (.string ⟨#[]⟩)])) := HB7.out.trans (z2.below HB7.out.size (by simp))
  generalize W7.setCells w.heap.size 0 [(.string (dot arcs)), (.int .i64 5), (.int .i64 0), (.int .u64 0), (.string ⟨#[]⟩)] = WF at z1 z2 HVF HBF ⊢
  have k0 : WF.cell? ⟨w.heap.size, 0, none⟩ = some (.string (dot arcs)) := by rw [Lib.cell_of_heap z1]; rfl
  have k1 : WF.cell? ⟨w.heap.size, 1, none⟩ = some (.int .i64 5) := by rw [Lib.cell_of_heap z1]; rfl
  have k2 : WF.cell? ⟨w.heap.size, 2, none⟩ = some (.int .i64 0) := by rw [Lib.cell_of_heap z1]; rfl
  have k3 : WF.cell? ⟨w.heap.size, 3, none⟩ = some (.int .u64 0) := by rw [Lib.cell_of_heap z1]; rfl
  have k4 : WF.cell? ⟨w.heap.size, 4, none⟩ = some (.string ⟨#[]⟩) := by rw [Lib.cell_of_heap z1]; rfl
  try simp only [Exit.inBlock, Exit.then]
  refine bodyPost_ret (v := .tuple #[.agg #[.string (dot arcs), .int .i64 5, .int .i64 0, .int .u64 0, .string ⟨#[]⟩], vr, .bool true]) (by simp [results, Tryz.results30, go_sem, k0, k1, k2, k3, k4]) rfl ?_
  exact ⟨vr, rfl, HVF.out, HBF.out⟩
set_option maxHeartbeats 8000000 in
set_option maxRecDepth 100000 in
theorem ofVar_128 (v : Value) (w : World) (arcs : List Nat) (rest : List Int) (hg : GoodArcs arcs) (hsz : rest.length ≤ 100000) (hr : Rd w v (varB arcs (.nul 128) 0 ++ rest)) :
    Calls Tryz.prog 30 #[v] w (RetVar w (dot arcs) (.nul 128) rest) := by
  obtain ⟨W1, hW1⟩ : ∃ W1, W1 = w.alloc (.cells #[.string ⟨#[]⟩, .int .i64 0, .int .i64 0, .int .u64 0, .string ⟨#[]⟩] 40) := ⟨_, rfl⟩
  have hb1 : Below w.heap.size w W1 := by rw [hW1]; exact (Below.refl _ _).alloc (Nat.le_refl _) _
  have hz1 : W1.heap[w.heap.size]? = some (.cells #[.string ⟨#[]⟩, .int .i64 0, .int .i64 0, .int .u64 0, .string ⟨#[]⟩] 40 (0, 0)) := by rw [hW1]; exact heap_alloc_new w _
  have HG := Lib.hid hg
  have hcl : (([] : List Int)).length ≤ 500 := Pay.con_len (p := .nul 128) (by exact .inr (.inl rfl))
  have hnl : (nameB arcs).length ≤ 100 := hg.bytes
  have l1 := sealB_short 6 (nameB arcs) (by omega)
  have l2 := sealB_short (128) (([] : List Int)) (by omega)
  have HO1 := Lib.hid (specNext v W1 48 (sealB 6 (nameB arcs) 0 ++ sealB (128) (([] : List Int)) 0) rest (hr.keptBelow hb1) (by omega) (by rw [List.length_append]; omega) hsz)
  have HO2 : Hid (∀ W u, Rd W u (sealB 6 (nameB arcs) 0 ++ sealB (128) (([] : List Int)) 0) → Calls Tryz.prog 25 #[u, .int .i64 6] W (RetNext W (nameB arcs) (sealB (128) (([] : List Int)) 0))) := fun W u h => specNext u W 6 _ _ h (by omega) (by omega) (by omega)
  have HO3 : Hid (∀ W u, Rd W u (nameB arcs) → Calls Tryz.prog 27 #[u] W (RetName W arcs)) := fun W u h => ofName_of HG.out HG.out.small h
  have HO4 : Hid (∀ W u, Rd W u (sealB (128) (([] : List Int)) 0) → Calls Tryz.prog 44 #[u] W (RetOpen W (128) (([] : List Int)) [])) := fun W u h => specOpen u W (128) _ [] (by rw [List.append_nil]; exact h) (by omega) (by omega) (by simp)
  have HO5 : Hid (∀ W u, OwnCSome W u arcs → Calls Tryz.prog 24 #[u] W fun e w' => e = .returned (.string (dot arcs)) ∧ Below W.heap.size W w') := fun W u ⟨B, h⟩ => dotted u arcs W (RdN.of_own h) HG.out.small HG.out.sixty
  have HB1 := Lib.hid hb1
  have HW1 := Lib.hid hW1
  have HZ1 := Lib.hid hz1
  clear hb1 hW1 hz1 hr hcl hnl l1 l2 hg
  go_enter Tryz.func30, Tryz.ntmps30
  go_wp2_with (go_at_call 25; rw [← HW1.out]; refine (HO1.out).mono ?_; rintro e W2 ⟨v1, vr, rfl, h1, h2, hb2⟩; refine Hid.out ?_)
  refine Lib.hid ?_
  have HB2 : Hid (Below w.heap.size w W2) := HB1.out.trans (hb2.mono HB1.out.size)
  have HZ2 := Lib.hid ((hb2.block _ (Lib.lt_of_heap HZ1.out)).trans HZ1.out)
  have HV2 := Lib.hid h2
  have HC2 := Lib.hid (HO2.out W2 v1 h1)
  clear h1 h2 hb2 HO1 HO2 HW1 HZ1 HB1
  go_wp2_with (go_at_call 25; refine (HC2.out).mono ?_; rintro e W3 ⟨vn, vi, rfl, h1, h2, hb3⟩; refine Hid.out ?_)
  refine Lib.hid ?_
  have HB3 : Hid (Below w.heap.size w W3) := HB2.out.trans (hb3.mono HB2.out.size)
  have HZ3 := Lib.hid ((hb3.block _ (Lib.lt_of_heap HZ2.out)).trans HZ2.out)
  have HV3 := Lib.hid (HV2.out.keptBelow hb3)
  have HI3 := Lib.hid h2
  have HC3 := Lib.hid (HO3.out W3 vn h1)
  clear h1 h2 hb3 HC2 HZ2 HB2 HV2
  go_wp2_with (go_at_call 27; refine (HC3.out).mono ?_; rintro e W4 ⟨va, rfl, h1, hb4⟩; refine Hid.out ?_)
  refine Lib.hid ?_
  have HB4 : Hid (Below w.heap.size w W4) := HB3.out.trans (hb4.mono HB3.out.size)
  have HZ4 := Lib.hid ((hb4.block _ (Lib.lt_of_heap HZ3.out)).trans HZ3.out)
  have HV4 := Lib.hid (HV3.out.keptBelow hb4)
  have HA4 := Lib.hid h1
  have HC4 := Lib.hid (HO4.out W4 vi (HI3.out.keptBelow hb4))
  clear h1 hb4 HC3 HZ3 HB3 HV3 HI3
  go_wp2_with (go_at_call 44; refine (HC4.out).mono ?_; rintro e W5 ⟨vc, vl, rfl, h1, h2, hb5⟩; refine Hid.out ?_)
  refine Lib.hid ?_
  have HB5 : Hid (Below w.heap.size w W5) := HB4.out.trans (hb5.mono HB4.out.size)
  have HZ5 := Lib.hid ((hb5.block _ (Lib.lt_of_heap HZ4.out)).trans HZ4.out)
  have HV5 := Lib.hid (HV4.out.keptBelow hb5)
  have HC5 := Lib.hid (HO5.out W5 va ⟨_, HA4.out.below hb5⟩)
  have HCON5 := Lib.hid h1
  have hLl : ∀ W, (Builtin.len_ #[30] 3 #[vl]).run Tryz.prog W = .ok (.int .i64 0) W := h2.lenAt 0 rfl
  clear h1 h2 hb5 HC4 HZ4 HB4 HV4 HA4
  go_wp2_with (go_at_call 24; refine (HC5.out).mono ?_; rintro e W6 ⟨rfl, hb6⟩; refine Hid.out ?_)
  refine Lib.hid ?_
  have HB6 : Hid (Below w.heap.size w W6) := HB5.out.trans (hb6.mono HB5.out.size)
  have HZ6 := Lib.hid ((hb6.block _ (Lib.lt_of_heap HZ5.out)).trans HZ5.out)
  have HV6 := Lib.hid (HV5.out.keptBelow hb6)
  have HCON6 := Lib.hid (HCON5.out.keptBelow hb6)
  clear hb6 HC5 HZ5 HB5 HV5 HCON5
  clear HO3 HO4 HO5
  have hLc : ∀ W, (Builtin.len_ #[30] 3 #[vc]).run Tryz.prog W = .ok (.int .i64 0) W := HCON6.out.lenAt 0 rfl
  go_upto_region 38 with fail
  obtain ⟨W7, hW7⟩ : ∃ W7, W7 = W6.alloc (.cells #[.string (dot arcs), .int .i64 128, .int .i64 0, .int .u64 0, .string ⟨#[]⟩] 40) := ⟨_, rfl⟩
  rw [← hW7]
  have hb67 : Below W6.heap.size W6 W7 := by rw [hW7]; exact (Below.refl _ _).alloc (Nat.le_refl _) _
  have HQ7 : Hid (W7.heap[W6.heap.size]? = some (.cells #[.string (dot arcs), .int .i64 128, .int .i64 0, .int .u64 0, .string ⟨#[]⟩] 40 (0, 0))) := by unfold Hid; rw [hW7]; exact heap_alloc_new W6 _
  have HZ7 := Lib.hid ((hb67.block _ (Lib.lt_of_heap HZ6.out)).trans HZ6.out)
  have HB7 : Hid (Below w.heap.size w W7) := HB6.out.trans (hb67.mono HB6.out.size)
  have HV7 := Lib.hid (HV6.out.keptBelow hb67)
  have HCON7 := Lib.hid (HCON6.out.keptBelow hb67)
  clear hb67 hW7 HZ6 HB6 HV6 HCON6
  have e0 : W7.cell? ⟨W6.heap.size, 0, none⟩ = some (.string (dot arcs)) := by rw [Lib.cell_of_heap HQ7.out]; rfl
  have e1 : W7.cell? ⟨W6.heap.size, 1, none⟩ = some (.int .i64 128) := by rw [Lib.cell_of_heap HQ7.out]; rfl
  have e2 : W7.cell? ⟨W6.heap.size, 2, none⟩ = some (.int .i64 0) := by rw [Lib.cell_of_heap HQ7.out]; rfl
  have e3 : W7.cell? ⟨W6.heap.size, 3, none⟩ = some (.int .u64 0) := by rw [Lib.cell_of_heap HQ7.out]; rfl
  have e4 : W7.cell? ⟨W6.heap.size, 4, none⟩ = some (.string ⟨#[]⟩) := by rw [Lib.cell_of_heap HQ7.out]; rfl
  have s0 : W7.cell? ⟨w.heap.size, 0, none⟩ = some (.string ⟨#[]⟩) := by rw [Lib.cell_of_heap HZ7.out]; rfl
  have s1 : W7.cell? ⟨w.heap.size, 1, none⟩ = some (.int .i64 0) := by rw [Lib.cell_of_heap HZ7.out]; rfl
  have s2 : W7.cell? ⟨w.heap.size, 2, none⟩ = some (.int .i64 0) := by rw [Lib.cell_of_heap HZ7.out]; rfl
  have s3 : W7.cell? ⟨w.heap.size, 3, none⟩ = some (.int .u64 0) := by rw [Lib.cell_of_heap HZ7.out]; rfl
  have s4 : W7.cell? ⟨w.heap.size, 4, none⟩ = some (.string ⟨#[]⟩) := by rw [Lib.cell_of_heap HZ7.out]; rfl
  have sf : ∀ i, W7.frozen? ⟨w.heap.size, i, none⟩ = false := fun i => Lib.frozen_of_heap HZ7.out i
  have HS := Lib.hid (setCells_at (g := w.heap.size) (T := 40) [(.string (dot arcs)), (.int .i64 128), (.int .i64 0), (.int .u64 0), (.string ⟨#[]⟩)] 0 W7 _ HZ7.out (by simp))
  go_wp2
  change bodyPost _ _ _ _ _ (W7.setCells w.heap.size 0 [(.string (dot arcs)), (.int .i64 128), (.int .i64 0), (.int .u64 0), (.string ⟨#[]⟩)])
  obtain ⟨z1, z2⟩ := HS.out
  have HVF : Hid (Rd (W7.setCells w.heap.size 0 [(.string (dot arcs)), (.int .i64 128), (.int .i64 0), (.int .u64 0), (.string ⟨#[]⟩)]) vr rest) := HV7.out.offCell HZ7.out z40_no z2
  have HBF : Hid (Below w.heap.size w (W7.setCells w.heap.size 0 [(.string (dot arcs)), (.int .i64 128), (.int .i64 0), (.int .u64 0), (.string ⟨#[]⟩)])) := HB7.out.trans (z2.below HB7.out.size (by simp))
  generalize W7.setCells w.heap.size 0 [(.string (dot arcs)), (.int .i64 128), (.int .i64 0), (.int .u64 0), (.string ⟨#[]⟩)] = WF at z1 z2 HVF HBF ⊢
  have k0 : WF.cell? ⟨w.heap.size, 0, none⟩ = some (.string (dot arcs)) := by rw [Lib.cell_of_heap z1]; rfl
  have k1 : WF.cell? ⟨w.heap.size, 1, none⟩ = some (.int .i64 128) := by rw [Lib.cell_of_heap z1]; rfl
  have k2 : WF.cell? ⟨w.heap.size, 2, none⟩ = some (.int .i64 0) := by rw [Lib.cell_of_heap z1]; rfl
  have k3 : WF.cell? ⟨w.heap.size, 3, none⟩ = some (.int .u64 0) := by rw [Lib.cell_of_heap z1]; rfl
  have k4 : WF.cell? ⟨w.heap.size, 4, none⟩ = some (.string ⟨#[]⟩) := by rw [Lib.cell_of_heap z1]; rfl
  try simp only [Exit.inBlock, Exit.then]
  refine bodyPost_ret (v := .tuple #[.agg #[.string (dot arcs), .int .i64 128, .int .i64 0, .int .u64 0, .string ⟨#[]⟩], vr, .bool true]) (by simp [results, Tryz.results30, go_sem, k0, k1, k2, k3, k4]) rfl ?_
  exact ⟨vr, rfl, HVF.out, HBF.out⟩
set_option maxHeartbeats 8000000 in
set_option maxRecDepth 100000 in
theorem ofVar_129 (v : Value) (w : World) (arcs : List Nat) (rest : List Int) (hg : GoodArcs arcs) (hsz : rest.length ≤ 100000) (hr : Rd w v (varB arcs (.nul 129) 0 ++ rest)) :
    Calls Tryz.prog 30 #[v] w (RetVar w (dot arcs) (.nul 129) rest) := by
  obtain ⟨W1, hW1⟩ : ∃ W1, W1 = w.alloc (.cells #[.string ⟨#[]⟩, .int .i64 0, .int .i64 0, .int .u64 0, .string ⟨#[]⟩] 40) := ⟨_, rfl⟩
  have hb1 : Below w.heap.size w W1 := by rw [hW1]; exact (Below.refl _ _).alloc (Nat.le_refl _) _
  have hz1 : W1.heap[w.heap.size]? = some (.cells #[.string ⟨#[]⟩, .int .i64 0, .int .i64 0, .int .u64 0, .string ⟨#[]⟩] 40 (0, 0)) := by rw [hW1]; exact heap_alloc_new w _
  have HG := Lib.hid hg
  have hcl : (([] : List Int)).length ≤ 500 := Pay.con_len (p := .nul 129) (by exact .inr (.inr (.inl rfl)))
  have hnl : (nameB arcs).length ≤ 100 := hg.bytes
  have l1 := sealB_short 6 (nameB arcs) (by omega)
  have l2 := sealB_short (129) (([] : List Int)) (by omega)
  have HO1 := Lib.hid (specNext v W1 48 (sealB 6 (nameB arcs) 0 ++ sealB (129) (([] : List Int)) 0) rest (hr.keptBelow hb1) (by omega) (by rw [List.length_append]; omega) hsz)
  have HO2 : Hid (∀ W u, Rd W u (sealB 6 (nameB arcs) 0 ++ sealB (129) (([] : List Int)) 0) → Calls Tryz.prog 25 #[u, .int .i64 6] W (RetNext W (nameB arcs) (sealB (129) (([] : List Int)) 0))) := fun W u h => specNext u W 6 _ _ h (by omega) (by omega) (by omega)
  have HO3 : Hid (∀ W u, Rd W u (nameB arcs) → Calls Tryz.prog 27 #[u] W (RetName W arcs)) := fun W u h => ofName_of HG.out HG.out.small h
  have HO4 : Hid (∀ W u, Rd W u (sealB (129) (([] : List Int)) 0) → Calls Tryz.prog 44 #[u] W (RetOpen W (129) (([] : List Int)) [])) := fun W u h => specOpen u W (129) _ [] (by rw [List.append_nil]; exact h) (by omega) (by omega) (by simp)
  have HO5 : Hid (∀ W u, OwnCSome W u arcs → Calls Tryz.prog 24 #[u] W fun e w' => e = .returned (.string (dot arcs)) ∧ Below W.heap.size W w') := fun W u ⟨B, h⟩ => dotted u arcs W (RdN.of_own h) HG.out.small HG.out.sixty
  have HB1 := Lib.hid hb1
  have HW1 := Lib.hid hW1
  have HZ1 := Lib.hid hz1
  clear hb1 hW1 hz1 hr hcl hnl l1 l2 hg
  go_enter Tryz.func30, Tryz.ntmps30
  go_wp2_with (go_at_call 25; rw [← HW1.out]; refine (HO1.out).mono ?_; rintro e W2 ⟨v1, vr, rfl, h1, h2, hb2⟩; refine Hid.out ?_)
  refine Lib.hid ?_
  have HB2 : Hid (Below w.heap.size w W2) := HB1.out.trans (hb2.mono HB1.out.size)
  have HZ2 := Lib.hid ((hb2.block _ (Lib.lt_of_heap HZ1.out)).trans HZ1.out)
  have HV2 := Lib.hid h2
  have HC2 := Lib.hid (HO2.out W2 v1 h1)
  clear h1 h2 hb2 HO1 HO2 HW1 HZ1 HB1
  go_wp2_with (go_at_call 25; refine (HC2.out).mono ?_; rintro e W3 ⟨vn, vi, rfl, h1, h2, hb3⟩; refine Hid.out ?_)
  refine Lib.hid ?_
  have HB3 : Hid (Below w.heap.size w W3) := HB2.out.trans (hb3.mono HB2.out.size)
  have HZ3 := Lib.hid ((hb3.block _ (Lib.lt_of_heap HZ2.out)).trans HZ2.out)
  have HV3 := Lib.hid (HV2.out.keptBelow hb3)
  have HI3 := Lib.hid h2
  have HC3 := Lib.hid (HO3.out W3 vn h1)
  clear h1 h2 hb3 HC2 HZ2 HB2 HV2
  go_wp2_with (go_at_call 27; refine (HC3.out).mono ?_; rintro e W4 ⟨va, rfl, h1, hb4⟩; refine Hid.out ?_)
  refine Lib.hid ?_
  have HB4 : Hid (Below w.heap.size w W4) := HB3.out.trans (hb4.mono HB3.out.size)
  have HZ4 := Lib.hid ((hb4.block _ (Lib.lt_of_heap HZ3.out)).trans HZ3.out)
  have HV4 := Lib.hid (HV3.out.keptBelow hb4)
  have HA4 := Lib.hid h1
  have HC4 := Lib.hid (HO4.out W4 vi (HI3.out.keptBelow hb4))
  clear h1 hb4 HC3 HZ3 HB3 HV3 HI3
  go_wp2_with (go_at_call 44; refine (HC4.out).mono ?_; rintro e W5 ⟨vc, vl, rfl, h1, h2, hb5⟩; refine Hid.out ?_)
  refine Lib.hid ?_
  have HB5 : Hid (Below w.heap.size w W5) := HB4.out.trans (hb5.mono HB4.out.size)
  have HZ5 := Lib.hid ((hb5.block _ (Lib.lt_of_heap HZ4.out)).trans HZ4.out)
  have HV5 := Lib.hid (HV4.out.keptBelow hb5)
  have HC5 := Lib.hid (HO5.out W5 va ⟨_, HA4.out.below hb5⟩)
  have HCON5 := Lib.hid h1
  have hLl : ∀ W, (Builtin.len_ #[30] 3 #[vl]).run Tryz.prog W = .ok (.int .i64 0) W := h2.lenAt 0 rfl
  clear h1 h2 hb5 HC4 HZ4 HB4 HV4 HA4
  go_wp2_with (go_at_call 24; refine (HC5.out).mono ?_; rintro e W6 ⟨rfl, hb6⟩; refine Hid.out ?_)
  refine Lib.hid ?_
  have HB6 : Hid (Below w.heap.size w W6) := HB5.out.trans (hb6.mono HB5.out.size)
  have HZ6 := Lib.hid ((hb6.block _ (Lib.lt_of_heap HZ5.out)).trans HZ5.out)
  have HV6 := Lib.hid (HV5.out.keptBelow hb6)
  have HCON6 := Lib.hid (HCON5.out.keptBelow hb6)
  clear hb6 HC5 HZ5 HB5 HV5 HCON5
  clear HO3 HO4 HO5
  have hLc : ∀ W, (Builtin.len_ #[30] 3 #[vc]).run Tryz.prog W = .ok (.int .i64 0) W := HCON6.out.lenAt 0 rfl
  go_upto_region 38 with fail
  obtain ⟨W7, hW7⟩ : ∃ W7, W7 = W6.alloc (.cells #[.string (dot arcs), .int .i64 129, .int .i64 0, .int .u64 0, .string ⟨#[]⟩] 40) := ⟨_, rfl⟩
  rw [← hW7]
  have hb67 : Below W6.heap.size W6 W7 := by rw [hW7]; exact (Below.refl _ _).alloc (Nat.le_refl _) _
  have HQ7 : Hid (W7.heap[W6.heap.size]? = some (.cells #[.string (dot arcs), .int .i64 129, .int .i64 0, .int .u64 0, .string ⟨#[]⟩] 40 (0, 0))) := by unfold Hid; rw [hW7]; exact heap_alloc_new W6 _
  have HZ7 := Lib.hid ((hb67.block _ (Lib.lt_of_heap HZ6.out)).trans HZ6.out)
  have HB7 : Hid (Below w.heap.size w W7) := HB6.out.trans (hb67.mono HB6.out.size)
  have HV7 := Lib.hid (HV6.out.keptBelow hb67)
  have HCON7 := Lib.hid (HCON6.out.keptBelow hb67)
  clear hb67 hW7 HZ6 HB6 HV6 HCON6
  have e0 : W7.cell? ⟨W6.heap.size, 0, none⟩ = some (.string (dot arcs)) := by rw [Lib.cell_of_heap HQ7.out]; rfl
  have e1 : W7.cell? ⟨W6.heap.size, 1, none⟩ = some (.int .i64 129) := by rw [Lib.cell_of_heap HQ7.out]; rfl
  have e2 : W7.cell? ⟨W6.heap.size, 2, none⟩ = some (.int .i64 0) := by rw [Lib.cell_of_heap HQ7.out]; rfl
  have e3 : W7.cell? ⟨W6.heap.size, 3, none⟩ = some (.int .u64 0) := by rw [Lib.cell_of_heap HQ7.out]; rfl
  have e4 : W7.cell? ⟨W6.heap.size, 4, none⟩ = some (.string ⟨#[]⟩) := by rw [Lib.cell_of_heap HQ7.out]; rfl
  have s0 : W7.cell? ⟨w.heap.size, 0, none⟩ = some (.string ⟨#[]⟩) := by rw [Lib.cell_of_heap HZ7.out]; rfl
  have s1 : W7.cell? ⟨w.heap.size, 1, none⟩ = some (.int .i64 0) := by rw [Lib.cell_of_heap HZ7.out]; rfl
  have s2 : W7.cell? ⟨w.heap.size, 2, none⟩ = some (.int .i64 0) := by rw [Lib.cell_of_heap HZ7.out]; rfl
  have s3 : W7.cell? ⟨w.heap.size, 3, none⟩ = some (.int .u64 0) := by rw [Lib.cell_of_heap HZ7.out]; rfl
  have s4 : W7.cell? ⟨w.heap.size, 4, none⟩ = some (.string ⟨#[]⟩) := by rw [Lib.cell_of_heap HZ7.out]; rfl
  have sf : ∀ i, W7.frozen? ⟨w.heap.size, i, none⟩ = false := fun i => Lib.frozen_of_heap HZ7.out i
  have HS := Lib.hid (setCells_at (g := w.heap.size) (T := 40) [(.string (dot arcs)), (.int .i64 129), (.int .i64 0), (.int .u64 0), (.string ⟨#[]⟩)] 0 W7 _ HZ7.out (by simp))
  go_wp2
  change bodyPost _ _ _ _ _ (W7.setCells w.heap.size 0 [(.string (dot arcs)), (.int .i64 129), (.int .i64 0), (.int .u64 0), (.string ⟨#[]⟩)])
  obtain ⟨z1, z2⟩ := HS.out
  have HVF : Hid (Rd (W7.setCells w.heap.size 0 [(.string (dot arcs)), (.int .i64 129), (.int .i64 0), (.int .u64 0), (.string ⟨#[]⟩)]) vr rest) := HV7.out.offCell HZ7.out z40_no z2
  have HBF : Hid (Below w.heap.size w (W7.setCells w.heap.size 0 [(.string (dot arcs)), (.int .i64 129), (.int .i64 0), (.int .u64 0), (.string ⟨#[]⟩)])) := HB7.out.trans (z2.below HB7.out.size (by simp))
  generalize W7.setCells w.heap.size 0 [(.string (dot arcs)), (.int .i64 129), (.int .i64 0), (.int .u64 0), (.string ⟨#[]⟩)] = WF at z1 z2 HVF HBF ⊢
  have k0 : WF.cell? ⟨w.heap.size, 0, none⟩ = some (.string (dot arcs)) := by rw [Lib.cell_of_heap z1]; rfl
  have k1 : WF.cell? ⟨w.heap.size, 1, none⟩ = some (.int .i64 129) := by rw [Lib.cell_of_heap z1]; rfl
  have k2 : WF.cell? ⟨w.heap.size, 2, none⟩ = some (.int .i64 0) := by rw [Lib.cell_of_heap z1]; rfl
  have k3 : WF.cell? ⟨w.heap.size, 3, none⟩ = some (.int .u64 0) := by rw [Lib.cell_of_heap z1]; rfl
  have k4 : WF.cell? ⟨w.heap.size, 4, none⟩ = some (.string ⟨#[]⟩) := by rw [Lib.cell_of_heap z1]; rfl
  try simp only [Exit.inBlock, Exit.then]
  refine bodyPost_ret (v := .tuple #[.agg #[.string (dot arcs), .int .i64 129, .int .i64 0, .int .u64 0, .string ⟨#[]⟩], vr, .bool true]) (by simp [results, Tryz.results30, go_sem, k0, k1, k2, k3, k4]) rfl ?_
  exact ⟨vr, rfl, HVF.out, HBF.out⟩
end Go.Proofs.YtpfmcdhmboclhaaGreatDoor
