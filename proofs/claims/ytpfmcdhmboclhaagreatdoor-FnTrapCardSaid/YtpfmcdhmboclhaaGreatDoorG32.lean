/- laws: a message as it comes in. laws: what the listed variables hold. laws: what the rows of FnAgain and FnBack share. -/
import Derived.ProofKit
import Derived.OpenShut
import Derived.Deep.Slices
import Derived.Test.YtpfmcdhmboclhaaGreatDoorRows
import Derived.LaidMore
import Derived.OpenVars
import Derived.MakeChecks
import Derived.Lib.LaidTab
import Derived.Stop.Joined
import Derived.Test.YtpfmcdhmboclhaaGreatDoorG31
set_option linter.unusedVariables false
set_option linter.unusedSimpArgs false
namespace Go.Proofs.YtpfmcdhmboclhaaGreatDoor
open Go.ChangeShapes Go.WideShapes Go.ChangeAt Go.RowKit

theorem list_of {α : Type} {p : Nat → α → Prop} : ∀ (n : Nat), (∀ i, i < n → ∃ x, p i x) → ∃ l : List α, l.length = n ∧ ∀ (k : Nat) (x : α), l[k]? = some x → p k x
  | 0, _ => ⟨[], rfl, fun k x h => by simp at h⟩
  | n + 1, h => by
    obtain ⟨l, hl, hp⟩ := list_of n (fun i hi => h i (by omega))
    obtain ⟨x, hx⟩ := h n (by omega)
    refine ⟨l ++ [x], by simp [hl], fun k y hy => ?_⟩
    by_cases hk : k < n
    · rw [List.getElem?_append_left (by omega)] at hy
      exact hp k y hy
    · have hlt := (List.getElem?_eq_some_iff.1 hy).1
      simp [hl] at hlt
      obtain rfl : k = n := by omega
      rw [List.getElem?_append_right (by omega), hl, Nat.sub_self] at hy
      obtain rfl : x = y := by simpa using hy
      exact hx
/-- A variable, opened. -/
def VarAt (W : World) (A : Addr) (k : Nat) (x : Raw) : Prop := (∃ g o, A = ⟨g, o, none⟩ ∧ W.cell? ⟨g, o + k * 5, none⟩ = some (.string x.name) ∧ W.cell? ⟨g, o + k * 5 + 1, none⟩ = some (.int .i64 x.t) ∧ W.cell? ⟨g, o + k * 5 + 2, none⟩ = some (.int .i64 x.i) ∧
    W.cell? ⟨g, o + k * 5 + 3, none⟩ = some (.int .u64 x.u) ∧ W.cell? ⟨g, o + k * 5 + 4, none⟩ = some (.string x.text)) ∧ FarV x ∧ WfV x
/-- What a message that came in is. -/
structure Came (W : World) (com ent agent : ByteArray) (id time : Int) (A : Option Addr) (n : Nat) (rs : List Raw) : Prop where
  cnt : rs.length = n
  n63 : n ≤ 9223372036854775807
  row : RawRow W A rs
  far : ∀ x ∈ rs, FarV x
  wf : ∀ x ∈ rs, WfV x
  com : com.size ≤ 9223372036854775807
  ent : ent.size ≤ 9223372036854775807
  agent : agent.size ≤ 9223372036854775807
  id : 0 ≤ id ∧ id < 4294967296
  time : 0 ≤ time ∧ time < 18446744073709551616
section
variable {H : Type} {enc : TypeId × Value → H} {W : World} {base : Nat} {sp : Nat → Bool} {hd : Bool}
set_option maxRecDepth 100000 in
theorem open_var {b : Nat} {g o k n : Nat} {cs : List Value} {x : DataW H × List MemPlace} (hc : W.cells? b (Addr.add ⟨g, o, none⟩ (k * 5)) 5 = some cs) (h : DataW.trod enc Tryz.prog W base sp hd n 40 cs = some x) : ∃ x, VarAt W ⟨g, o, none⟩ k x := by
  have k2 : Tryz.prog.cellsOf 2 = 1 := by kernel_rfl
  have k3 : Tryz.prog.cellsOf 3 = 1 := by kernel_rfl
  have k9 : Tryz.prog.cellsOf 9 = 1 := by kernel_rfl
  have k38 : Tryz.prog.cellsOf 38 = 1 := by kernel_rfl
  obtain ⟨-, hlen, hcell⟩ := World.cells?_some hc
  obtain ⟨xs, m, -, -, -, hx5, hfl⟩ := DataW.trod_struct Tryz.underlying40 h
  rw [addr_add] at hcell
  match cs, hlen, xs, hx5 with
  | [c0, c1, c2, c3, c4], _, [y0, y1, y2, y3, y4], _ =>
    have f0 : DataW.trod enc Tryz.prog W base sp hd m 9 [c0] = some y0 := by have := hfl 0 _ rfl; simpa [k9] using this
    obtain ⟨xn, e0, -, w0⟩ := DataW.trod_string Tryz.underlying9 f0
    obtain rfl := (List.cons.inj e0).1
    have f1 : DataW.trod enc Tryz.prog W base sp hd m 3 [c1] = some y1 := by have := hfl 1 _ rfl; simpa [k3] using this
    obtain ⟨xt, e1, -, w1⟩ := DataW.trod_int Tryz.underlying3 f1
    obtain rfl := (List.cons.inj e1).1
    have f2 : DataW.trod enc Tryz.prog W base sp hd m 2 [c2] = some y2 := by have := hfl 2 _ rfl; simpa [k2] using this
    obtain ⟨xi, e2, -, w2⟩ := DataW.trod_int Tryz.underlying2 f2
    obtain rfl := (List.cons.inj e2).1
    have f3 : DataW.trod enc Tryz.prog W base sp hd m 38 [c3] = some y3 := by have := hfl 3 _ rfl; simpa [k38] using this
    obtain ⟨xu, e3, -, w3⟩ := DataW.trod_int Tryz.underlying38 f3
    obtain rfl := (List.cons.inj e3).1
    have f4 : DataW.trod enc Tryz.prog W base sp hd m 9 [c4] = some y4 := by have := hfl 4 _ rfl; simpa [k9] using this
    obtain ⟨xx, e4, -, w4⟩ := DataW.trod_string Tryz.underlying9 f4
    obtain rfl := (List.cons.inj e4).1
    have q0 := hcell 0 (by omega)
    have q1 := hcell 1 (by omega)
    have q2 := hcell 2 (by omega)
    have q3 := hcell 3 (by omega)
    have q4 := hcell 4 (by omega)
    rw [addr_add] at q0 q1 q2 q3 q4
    have b2 := bounds_i64 w2
    have b3 := bounds_u64 w3
    unfold maxLen at w0 w4
    exact ⟨⟨xn, xt, xi, xu, xx⟩, ⟨g, o, rfl, q0, q1, q2, q3, q4⟩, ⟨by simpa using w0, by simpa using w4⟩, ⟨⟨b2.1, b2.2⟩, b3.1, (show xu < 18446744073709551616 by omega)⟩⟩
set_option maxRecDepth 100000 in
theorem open_vars {n : Nat} {c : Value} {x : DataW H × List MemPlace} (h : DataW.trod enc Tryz.prog W base sp hd n 23 [c] = some x) :
    ∃ A len cap rs, c = .slice A len cap ∧ rs.length = len ∧ len ≤ 9223372036854775807 ∧ RawRow W A rs ∧ (∀ x ∈ rs, FarV x) ∧ (∀ x ∈ rs, WfV x) := by
  have k40 : Tryz.prog.cellsOf 40 = 5 := by kernel_rfl
  rcases Deep.open_slice Tryz.underlying23 h with ⟨hcs, -⟩ | ⟨a, len, cap, m, n', D, Pl, hcs, -, hl, hm, hmm, -, hx⟩
  · obtain rfl := (List.cons.inj hcs).1
    exact ⟨none, 0, 0, [], rfl, rfl, by omega, (fun k x h => by simp at h), (fun x h => by cases h), (fun x h => by cases h)⟩
  · obtain rfl := (List.cons.inj hcs).1
    have hlm : len ≤ m := by rw [hmm]; split <;> omega
    have each : ∀ i, i < len → ∃ x, VarAt W a i x := by
      intro i hi
      obtain ⟨cs0, h01, -⟩ := hx 0 (by omega)
      obtain ⟨cs', h1, h2⟩ := hx i (by omega)
      rw [k40] at h1 h01
      obtain ⟨g, o, spot⟩ := a
      cases spot with
      | none => exact open_var h1 h2
      | some s =>
        exfalso
        obtain ⟨-, hlen, hcell⟩ := World.cells?_some h01
        have h0 := hcell 0 (by omega)
        match cs0, hlen with
        | c0 :: _, _ =>
          have := World.cell?_spot h0
          simp [Addr.add] at this
    obtain ⟨rs, hrs, hp⟩ := list_of len each
    unfold maxLen at hm
    refine ⟨some a, len, cap, rs, rfl, hrs, by omega, ?_, ?_, ?_⟩
    · intro k x hx
      obtain ⟨⟨g, o, e, q0, q1, q2, q3, q4⟩, -, -⟩ := hp k x hx
      exact ⟨g, o, by rw [e], q0, q1, q2, q3, q4⟩
    · intro x hx
      obtain ⟨k, hk⟩ := List.getElem?_of_mem hx
      exact (hp k x hk).2.1
    · intro x hx
      obtain ⟨k, hk⟩ := List.getElem?_of_mem hx
      exact (hp k x hk).2.2
set_option maxRecDepth 100000 in
theorem open_msg {v : Value} {d : DataW H} {p : List MemPlace} {b : Nat} (hv : Value.okWide Tryz.prog W .any b 26 v) (h : DataW.Trod enc Tryz.prog W base sp hd 26 v d p) :
    ∃ ver com kind id st ix A n c ent agent gen spec time rs, v = msgV ver com kind id st ix (.slice A n c) ent agent gen spec time ∧ Came W com ent agent id time A n rs := by
  have k3 : Tryz.prog.cellsOf 3 = 1 := by kernel_rfl
  have k9 : Tryz.prog.cellsOf 9 = 1 := by kernel_rfl
  have k22 : Tryz.prog.cellsOf 22 = 1 := by kernel_rfl
  have k23 : Tryz.prog.cellsOf 23 = 1 := by kernel_rfl
  have k24 : Tryz.prog.cellsOf 24 = 1 := by kernel_rfl
  have k26 : Tryz.prog.cellsOf 26 = 12 := by kernel_rfl
  obtain ⟨cs, rfl, hsz⟩ := okWide_struct Tryz.underlying26 hv
  rw [k26] at hsz
  obtain ⟨fuel, hf⟩ := h
  obtain ⟨xs, m, -, -, -, hx12, hfl⟩ := DataW.trod_struct Tryz.underlying26 hf
  obtain ⟨l⟩ := cs
  match l, hsz, xs, hx12 with
  | [c0, c1, c2, c3, c4, c5, c6, c7, c8, c9, c10, c11], _, [y0, y1, y2, y3, y4, y5, y6, y7, y8, y9, y10, y11], _ =>
    have f0 : DataW.trod enc Tryz.prog W base sp hd m 3 [c0] = some y0 := by have := hfl 0 _ rfl; simpa [Value.cells, k3] using this
    obtain ⟨ver, e0, -, w0⟩ := DataW.trod_int Tryz.underlying3 f0
    obtain rfl := (List.cons.inj e0).1
    have f1 : DataW.trod enc Tryz.prog W base sp hd m 9 [c1] = some y1 := by have := hfl 1 _ rfl; simpa [Value.cells, k9] using this
    obtain ⟨com, e1, -, w1⟩ := DataW.trod_string Tryz.underlying9 f1
    obtain rfl := (List.cons.inj e1).1
    have f2 : DataW.trod enc Tryz.prog W base sp hd m 3 [c2] = some y2 := by have := hfl 2 _ rfl; simpa [Value.cells, k3] using this
    obtain ⟨kind, e2, -, w2⟩ := DataW.trod_int Tryz.underlying3 f2
    obtain rfl := (List.cons.inj e2).1
    have f3 : DataW.trod enc Tryz.prog W base sp hd m 22 [c3] = some y3 := by have := hfl 3 _ rfl; simpa [Value.cells, k22] using this
    obtain ⟨id, e3, -, w3⟩ := DataW.trod_int Tryz.underlying22 f3
    obtain rfl := (List.cons.inj e3).1
    have f4 : DataW.trod enc Tryz.prog W base sp hd m 3 [c4] = some y4 := by have := hfl 4 _ rfl; simpa [Value.cells, k3] using this
    obtain ⟨st, e4, -, w4⟩ := DataW.trod_int Tryz.underlying3 f4
    obtain rfl := (List.cons.inj e4).1
    have f5 : DataW.trod enc Tryz.prog W base sp hd m 3 [c5] = some y5 := by have := hfl 5 _ rfl; simpa [Value.cells, k3] using this
    obtain ⟨ix, e5, -, w5⟩ := DataW.trod_int Tryz.underlying3 f5
    obtain rfl := (List.cons.inj e5).1
    have f6 : DataW.trod enc Tryz.prog W base sp hd m 23 [c6] = some y6 := by have := hfl 6 _ rfl; simpa [Value.cells, k23] using this
    obtain ⟨A, n, c, rs, rfl, g1, g2, g3, g4, g5⟩ := open_vars f6
    have f7 : DataW.trod enc Tryz.prog W base sp hd m 9 [c7] = some y7 := by have := hfl 7 _ rfl; simpa [Value.cells, k9] using this
    obtain ⟨ent, e7, -, w7⟩ := DataW.trod_string Tryz.underlying9 f7
    obtain rfl := (List.cons.inj e7).1
    have f8 : DataW.trod enc Tryz.prog W base sp hd m 9 [c8] = some y8 := by have := hfl 8 _ rfl; simpa [Value.cells, k9] using this
    obtain ⟨agent, e8, -, w8⟩ := DataW.trod_string Tryz.underlying9 f8
    obtain rfl := (List.cons.inj e8).1
    have f9 : DataW.trod enc Tryz.prog W base sp hd m 3 [c9] = some y9 := by have := hfl 9 _ rfl; simpa [Value.cells, k3] using this
    obtain ⟨gen, e9, -, w9⟩ := DataW.trod_int Tryz.underlying3 f9
    obtain rfl := (List.cons.inj e9).1
    have f10 : DataW.trod enc Tryz.prog W base sp hd m 3 [c10] = some y10 := by have := hfl 10 _ rfl; simpa [Value.cells, k3] using this
    obtain ⟨spec, e10, -, w10⟩ := DataW.trod_int Tryz.underlying3 f10
    obtain rfl := (List.cons.inj e10).1
    have f11 : DataW.trod enc Tryz.prog W base sp hd m 24 [c11] = some y11 := by have := hfl 11 _ rfl; simpa [Value.cells, k24] using this
    obtain ⟨time, e11, -, w11⟩ := DataW.trod_int Tryz.underlying24 f11
    obtain rfl := (List.cons.inj e11).1
    unfold maxLen at w1 w7 w8
    have b3 := bounds_u32 w3
    have b11 := bounds_u64 w11
    exact ⟨ver, com, kind, id, st, ix, A, n, c, ent, agent, gen, spec, time, rs, rfl, g1, g2, g3, g4, g5, by simpa using w1, by simpa using w7, by simpa using w8, by omega, by omega⟩
end
end Go.Proofs.YtpfmcdhmboclhaaGreatDoor
namespace Go.Proofs.YtpfmcdhmboclhaaGreatDoor
open Go.ChangeShapes Go.WideShapes Go.ChangeAt Go.RowKit

theorem laid_at {P : Program} {w : World} : ∀ {l : List (String × DataW Unit)} {ps : List MemPlace}, DataW.LaidVars P w l ps → ∀ {n : String} {d : DataW Unit}, (n, d) ∈ l →
    ∃ g t cs fuel p, P.globalNamed n = some g ∧ (P.globals[g]?).map (·.type) = some t ∧ w.var? P n = some cs ∧ DataW.trod (fun _ => ()) P w 0 (fun _ => true) false fuel t cs.toList = some (d, p)
  | [], _, _, n, d, hm => by cases hm
  | (n', d') :: r, ps, h, n, d, hm => by
    obtain ⟨g, t, cs, fuel, p, q, h1, h2, h3, h4, h5, -⟩ := h
    rcases List.mem_cons.1 hm with e | hm
    · injection e with e1 e2
      subst e1; subst e2
      exact ⟨g, t, cs, fuel, p, h1, h2, h3, h4⟩
    · exact laid_at h5 hm
theorem gZ0 : Tryz.prog.globalNamed "net/netip.z0" = some 1 := by kernel_rfl
theorem gZ4 : Tryz.prog.globalNamed "net/netip.z4" = some 7 := by kernel_rfl
theorem gA0 : Tryz.prog.globalNamed "loop.example/pub-g03261/pub/snmp._Asn1BER_index_0" = some 14 := by kernel_rfl
theorem gPow : Tryz.prog.globalNamed "internal/strconv.uint64pow10" = some 18 := by kernel_rfl
theorem tZ0 : (Tryz.prog.globals[1]?).map (·.type) = some 110 := by kernel_rfl
theorem tZ4 : (Tryz.prog.globals[7]?).map (·.type) = some 110 := by kernel_rfl
theorem tA0 : (Tryz.prog.globals[14]?).map (·.type) = some 212 := by kernel_rfl
theorem tPow : (Tryz.prog.globals[18]?).map (·.type) = some 220 := by kernel_rfl
theorem c110 : Tryz.prog.cellsOf 110 = 1 := by kernel_rfl
theorem c108 : Tryz.prog.cellsOf 108 = 1 := by kernel_rfl
theorem c142 : Tryz.prog.cellsOf 142 = 2 := by kernel_rfl
theorem c4 : Tryz.prog.cellsOf 4 = 1 := by kernel_rfl
theorem c9 : Tryz.prog.cellsOf 9 = 1 := by kernel_rfl
set_option maxRecDepth 100000 in
/-- What the condition gives the walks. -/
theorem of_laid {W : World} {l : List (String × DataW Unit)} (hp : (l.all fun x => x.2.handleName?.isNone) = true) (h : laidMetH Tryz.prog l W)
    (m0 : ("net/netip.z0", Rows.laid_net_netip_z0) ∈ l) (m4 : ("net/netip.z4", Rows.laid_net_netip_z4) ∈ l) (ma : ("loop.example/pub-g03261/pub/snmp._Asn1BER_index_0", Rows.laid_loop_example_pub_g03261_pub_snmp_Asn1BER_index_0) ∈ l)
    (mp : ("internal/strconv.uint64pow10", Rows.laid_internal_strconv_uint64pow10) ∈ l) : (∃ z, NetLaid W z) ∧ Tab W ∧ AsnLaid W := by
  rw [MakeChecks.laidMetH_plain _ _ _ hp] at h
  obtain ⟨ps, hl, -, -⟩ := h
  refine ⟨?_, ?_, ?_⟩
  · -- z0
    obtain ⟨g0, t0, cs0, f0, p0, hg0, ht0, hv0, hd0⟩ := laid_at hl m0
    obtain rfl := Option.some.inj (gZ0.symm.trans hg0)
    obtain rfl := Option.some.inj (tZ0.symm.trans ht0)
    obtain ⟨xs, m, -, hx, hlen, hn, hfl⟩ := DataW.trod_struct Tryz.underlying110 hd0
    rw [c110] at hlen
    obtain ⟨l0⟩ := cs0
    match l0, hlen, xs, hn with
    | [c0], _, [y0], _ =>
      have q0 : DataW.trod (fun _ => ()) Tryz.prog W 0 (fun _ => true) false m 108 [c0] = some y0 := by have := hfl 0 _ rfl; simpa [c108] using this
      rcases DataW.trod_pointer Tryz.underlying108 q0 with ⟨e0, -⟩ | ⟨a, cs', y, n, -, -, rfl, -⟩
      · obtain rfl := (List.cons.inj e0).1
        have hz0 : W.cell? ⟨1, 0, none⟩ = some (.pointer none) := by have := World.var?_cell gZ0 hv0 0; simpa using this
        -- z4
        obtain ⟨g4, t4, cs4, f4, p4, hg4, ht4, hv4, hd4⟩ := laid_at hl m4
        obtain rfl := Option.some.inj (gZ4.symm.trans hg4)
        obtain rfl := Option.some.inj (tZ4.symm.trans ht4)
        obtain ⟨xs4, m4', -, hx4, hlen4, hn4, hfl4⟩ := DataW.trod_struct Tryz.underlying110 hd4
        rw [c110] at hlen4
        obtain ⟨l4⟩ := cs4
        match l4, hlen4, xs4, hn4 with
        | [c40], _, [y40], _ =>
          have q4 : DataW.trod (fun _ => ()) Tryz.prog W 0 (fun _ => true) false m4' 108 [c40] = some y40 := by have := hfl4 0 _ rfl; simpa [c108] using this
          rcases DataW.trod_pointer Tryz.underlying108 q4 with ⟨-, rfl⟩ | ⟨a, cs', y, n, -, e4, rfl, hc, hd⟩
          · exfalso
            simp [Rows.laid_net_netip_z4] at hx4
          · obtain rfl := (List.cons.inj e4).1
            have hz4 : W.cell? ⟨7, 0, none⟩ = some (.pointer (some a)) := by have := World.var?_cell gZ4 hv4 0; simpa using this
            obtain ⟨-, hcl, hcells⟩ := World.cells?_some hc
            rw [c142] at hcl hcells
            obtain ⟨xs5, m5, -, hx5, -, hn5, hfl5⟩ := DataW.trod_struct Tryz.underlying142 hd
            match cs', hcl, xs5, hn5 with
            | [d0, d1], _, [z0, z1], _ =>
              have r0 : DataW.trod (fun _ => ()) Tryz.prog W 0 (fun _ => true) false m5 4 [d0] = some z0 := by have := hfl5 0 _ rfl; simpa [c4] using this
              have r1 : DataW.trod (fun _ => ()) Tryz.prog W 0 (fun _ => true) false m5 9 [d1] = some z1 := by have := hfl5 1 _ rfl; simpa [c9] using this
              obtain ⟨bv, eb, rfl⟩ := DataW.trod_bool Tryz.underlying4 r0
              obtain ⟨sv, es, rfl, -⟩ := DataW.trod_string Tryz.underlying9 r1
              obtain rfl := (List.cons.inj eb).1
              obtain rfl := (List.cons.inj es).1
              subst hx5
              simp [Rows.laid_net_netip_z4] at hx4
              have k0 := hcells 0 (by omega)
              have k1 := hcells 1 (by omega)
              have hsp : a.spot = none := by
                have := World.cell?_spot k0
                simpa [Addr.add] using this
              obtain ⟨ab, ao, asp⟩ := a
              simp only at hsp
              subst hsp
              rw [addr_add] at k0 k1
              obtain ⟨⟨hb, hs⟩, -⟩ := hx4
              refine ⟨⟨ab, ao, none⟩, hz0, hz4, ?_, ?_⟩
              · first | (rw [← hb] at k0; exact k0) | (rw [hb] at k0; exact k0) | (simpa [← hb] using k0) | (simpa [hb] using k0)
              · have : sv = ⟨#[]⟩ := by
                  cases sv with
                  | mk dd => exact congrArg ByteArray.mk (Array.toList_inj.1 (by simpa using hs))
                rw [← this]; exact k1
      · exfalso
        simp [Rows.laid_net_netip_z0] at hx
  · obtain ⟨g, t, cs, f, p, hg, ht, hv, hd⟩ := laid_at hl mp
    obtain rfl := Option.some.inj (gPow.symm.trans hg)
    obtain rfl := Option.some.inj (tPow.symm.trans ht)
    have hc := Lib.cells_of_tab (k := .u64) (zs := Lib.pow10Tab) Tryz.underlying220 Tryz.underlying38 (by kernel_rfl) (by kernel_rfl) (show DataW.trod _ Tryz.prog W 0 _ false f 220 cs.toList = some (Lib.tabData .u64 Lib.pow10Tab, p) from hd)
    unfold Tab Lib.TabIs
    rw [hv, ← hc]
  · obtain ⟨g, t, cs, f, p, hg, ht, hv, hd⟩ := laid_at hl ma
    obtain rfl := Option.some.inj (gA0.symm.trans hg)
    obtain rfl := Option.some.inj (tA0.symm.trans ht)
    have hc := Lib.cells_of_tab (k := .u8) (zs := [0, 13, 20, 27, 36, 47, 51, 67, 84]) Tryz.underlying212 Tryz.underlying5 (by kernel_rfl) (by kernel_rfl) (show DataW.trod _ Tryz.prog W 0 _ false f 212 cs.toList = some (Lib.tabData .u8 [0, 13, 20, 27, 36, 47, 51, 67, 84], p) from hd)
    have hv' : W.var? Tryz.prog "loop.example/pub-g03261/pub/snmp._Asn1BER_index_0" = some ([0, 13, 20, 27, 36, 47, 51, 67, 84].map fun z : Int => Value.int .u8 z).toArray := by rw [hv, ← hc]
    exact ⟨by have := World.var?_cell gA0 hv' 2; simpa using this, by have := World.var?_cell gA0 hv' 3; simpa using this⟩
end Go.Proofs.YtpfmcdhmboclhaaGreatDoor
namespace Go.Proofs.YtpfmcdhmboclhaaGreatDoor
open Go.ChangeShapes Go.WideShapes Go.ChangeAt Go.RowKit

theorem Tryz.own : ownKnob Tryz.prog.godebug = none := by kernel_rfl
theorem Tryz.laidOut : laidOutB Tryz.prog = true := by kernel_rfl
theorem trodVars_len {H : Type} {enc : TypeId × Value → H} {P : Program} {w : World} {sp : Nat → Bool} : ∀ {ns : List String} {gs : List (DataW H)} {ps : List MemPlace}, DataW.TrodVars enc P w sp ns gs ps → gs.length = ns.length
  | [], [], _, _ => rfl
  | [], _ :: _, _, h => h.elim
  | _ :: _, [], _, h => h.elim
  | _ :: _, _ :: _, _, h => by
    obtain ⟨g, t, cs, fuel, p, q, -, -, -, -, hs, -⟩ := h
    simp [trodVars_len hs]
theorem twelveL {α : Type} {l : List α} (h : l.length = 12) : ∃ a b c d e f g i j k m n, l = [a, b, c, d, e, f, g, i, j, k, m, n] := by
  match l, h with
  | [a, b, c, d, e, f, g, i, j, k, m, n], _ => exact ⟨a, b, c, d, e, f, g, i, j, k, m, n, rfl⟩
/-- The heap that the door's own run leaves, but for the table of handles (block 24), which stands as it began. -/
noncomputable def startWorld (os : Os) : World :=
  { World.doorLaid Tryz.prog 246 os with heap := ((World.doorLaid Tryz.prog 246 os).heap.toList.take 24 ++ ((begin Tryz.prog (fun _ _ => 0) default).world.heap[24]?).toList ++ (World.doorLaid Tryz.prog 246 os).heap.toList.drop 25).toArray }
set_option maxRecDepth 100000 in
/-- .. meets the condition. -/
theorem door_met (os : Os) (args : Array Value) : laidMetH Tryz.prog Rows.fnAgainRow.laid ((startWorld os).forCall (fun _ _ => 0) ⟨#[], args, []⟩).memory :=
  laidMetH_of_parts3 (fuel := 8) (laidMet_of_run' 8 (by kernel_rfl) (by kernel_rfl)) (by kernel_rfl) (by kernel_rfl)
theorem Came.given {W : World} {com ent agent : ByteArray} {id time : Int} {A : Option Addr} {n : Nat} {rs : List Raw} {z : Addr} (h : Came W com ent agent id time A n rs) (hz : NetLaid W z) (ht : Tab W) (ha : AsnLaid W) : Given W com ent agent id time A n rs z :=
  ⟨h.cnt, h.n63, h.row, h.far, h.wf, h.com, h.ent, h.agent, h.id, hz, ht, ha⟩
theorem varsRow : varsRowed Tryz.prog Rows.fnAgainSpec.vars = true := by kernel_rfl
end Go.Proofs.YtpfmcdhmboclhaaGreatDoor
