/- PROVED: whatever message comes in, the law FnBack returns true: a message is the same behind encoding and decoding. Conditions: the listed package-level variables hold what the text of the program lays (the card ties them); no bound on sizes of ours. -/
import Derived.Test.YtpfmcdhmboclhaaGreatDoorTie
import Derived.Test.YtpfmcdhmboclhaaGreatDoorCards
import Derived.SevenTiedAt
import Derived.Test.YtpfmcdhmboclhaaGreatDoorG32
import Derived.Test.YtpfmcdhmboclhaaGreatDoorH14
set_option linter.unusedVariables false
set_option linter.unusedSimpArgs false
namespace Go.Proofs.YtpfmcdhmboclhaaGreatDoor
open Go.ChangeShapes Go.WideShapes Go.ChangeAt Go.RowKit

set_option maxRecDepth 100000 in
theorem fnBack_lifted (os : Os) (started : os.Started) (H : Type) (enc : TypeId × Value → H) :
    ReturnsInHanded {} Tryz.checked os 4 .any (fun w args => (Rows.fnBackSpec.pre enc Tryz.prog Tryz.f4 [] false w args ∧ laidMetH Tryz.prog Rows.fnBackRow.laid w) ∧ sizedMet enc Tryz.prog Tryz.f4 (OpenSpec.ofChange Rows.fnBackSpec) false w args)
      (Rows.fnBackSpec.post enc Tryz.prog Tryz.f4 false true false false) := by
  refine returnsInHanded_of_change_and (C := Tryz.checked) (X := fun w _ => laidMetH Tryz.prog Rows.fnBackRow.laid w) (fun _ _ _ hh h => h.of_heap hh) Tryz.own started (by kernel_rfl) Tryz.func4
    (ChangeSpec.witness_shaped (enc := enc) (C := Tryz.checked) (os := os) (X := fun w _ => laidMetH Tryz.prog Rows.fnBackRow.laid w) false (startWorld os) #[.agg #[.int .i64 0, .string ⟨#[]⟩, .int .i64 0, .int .u32 0, .int .i64 0, .int .i64 0, .slice none 0 0, .string ⟨#[]⟩, .string ⟨#[]⟩, .int .i64 0, .int .i64 0, .int .u64 0]] 8 rfl (World.shaped_of_RefB (by kernel_rfl) (by kernel_rfl)) (by kernel_rfl) (by kernel_rfl) (by kernel_rfl) (door_met os _)) ?_
  intro W base args ds gs before hval0 hW _ _ hL _
  have hval : ∀ (j : Nat) t v, Tryz.f4.params[j]? = some t → args[j]? = some v → Value.okWide Tryz.prog W .any base t v := hval0
  have hW' := hW
  obtain ⟨p, q, hA0, hV, rfl, hfz, hnd⟩ := hW
  have hA : DataW.TrodAll enc Tryz.prog W 0 (fun _ => true) true Tryz.f4.params.toList args.toList ds p := hA0
  rw [Tryz.params4] at hA hval
  obtain ⟨v0, d0, rfl, rfl, h0⟩ := trodAll_one hA
  obtain ⟨g1, g2, g3, g4, g5, g6, g7, g8, g9, g10, g11, g12, rfl⟩ := twelveL (trodVars_len hV)
  have k0 := h0
  have lt0 : ∀ x ∈ p, x.block < W.heap.size := by obtain ⟨m, hm⟩ := k0; exact DataW.trod_lt m _ _ _ hm
  obtain ⟨ver, com, kind, id, st, ix, A, n, c, ent, agent, gen, spec, time, rs, rfl, hcame⟩ := open_msg (hval 0 26 v0 rfl rfl) h0
  obtain ⟨⟨z, hz⟩, ht, ha⟩ := of_laid (by kernel_rfl) hL (by simp [Rows.fnBackRow]) (by simp [Rows.fnBackRow]) (by simp [Rows.fnBackRow]) (by simp [Rows.fnBackRow])
  clear hA0 hval0
  refine (fnBack_any W ver com kind id st ix ent agent gen spec time A n c rs z (hcame.given hz ht ha)).mono fun e W' ⟨he, bel⟩ => ?_
  subst he
  exact ⟨_, rfl, _, _, _, [], _, _, hW', trodAll_mk1 (shut_bool Tryz.underlying4 _), trodAll_mk1 (Below.trod Tryz.laidOut (by kernel_rfl) (of_decide_eq_true (by kernel_rfl)) k0 bel lt0), Below.trodVars Tryz.laidOut bel varsRow hV, bel.frame _, fun h => by cases h⟩
theorem fnBack_holds : Rows.FnBackSaid :=
  OpenClaim.holds_of_wide 4 Tryz.f4 rfl rfl rfl rfl rfl rfl rfl ⟨rfl, rfl, rfl, rfl, rfl⟩ rfl rfl rfl rfl rfl (by kernel_rfl) Tryz.func4 (by kernel_rfl)
    (of_decide_eq_true (by kernel_rfl)) (by unfold Func.isWrapper; first | (rw [if_pos (by decide +kernel)]; kernel_rfl) | (rw [if_neg (by decide +kernel)]; exact ⟨rfl, rfl⟩))
    (fun os started H enc _ => fnBack_lifted os started H enc)
/-- THE TIED CARD. -/
theorem fnBack_card_holds : Rows.FnBackCardSaid :=
  Claim7.holds_tied_plain_at .later [] [.data, .data, .data, .sentinel, .sentinel, .called, .called, .data, .data, .data, .data, .sentinel, .sentinel, .sentinel, .sentinel, .sentinel, .sentinel, .sentinel, .sentinel, .zero] true (true, "44c5f23ea8fde6f034b276db62c07fb3af9f06af28ba3a0eefc0621ec085ae62") true
    fnBack_holds (fun _ h => by cases h) (by kernel_rfl) (fun _ h => by cases h) fnBack_row_tie rfl ⟨rfl, rfl⟩ (by kernel_rfl) rfl
    (fun f fn hf hfn => by
      obtain rfl : f = 4 := Option.some.inj ((show Tryz.prog.funcNamed "loop.example/pub-g03261/laws.FnBack" = some 4 by kernel_rfl).symm.trans hf) |>.symm
      obtain rfl : fn = Tryz.f4 := (Option.some.inj (Tryz.func4.symm.trans hfn)).symm
      exact ⟨by kernel_rfl, fun j t ht => by
        rw [Tryz.params4] at ht
        have h3 : t = 26 := by
          rcases j with _ | j
          · simpa using ht.symm
          · simp at ht
        subst h3
        exact (show Tryz.prog.wantsStandIn 26 = false by kernel_rfl)⟩)
    (by kernel_rfl)
end Go.Proofs.YtpfmcdhmboclhaaGreatDoor
