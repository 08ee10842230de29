/-
  PROVED: whatever message and number come in, the law FnTrap returns true: the bytes of a trap of version 1 are read as this trap, and bytes of it are told as it.
  Conditions: the listed package-level variables hold what the text of the program lays (the card ties them); no bound on sizes of ours.
-/
import Derived.Test.YtpfmcdhmboclhaaGreatDoorG32
import Derived.Test.YtpfmcdhmboclhaaGreatDoorY3
import Derived.Test.YtpfmcdhmboclhaaGreatDoorTie
import Derived.Test.YtpfmcdhmboclhaaGreatDoorCards
import Derived.SevenTiedAt
set_option linter.unusedVariables false
set_option linter.unusedSimpArgs false
namespace Go.Proofs.YtpfmcdhmboclhaaGreatDoor
open Go.ChangeShapes Go.WideShapes Go.ChangeAt Go.RowKit

set_option maxRecDepth 100000 in
theorem fnTrap_lifted (os : Os) (started : os.Started) (H : Type) (enc : TypeId × Value → H) :
    ReturnsInHanded {} Tryz.checked os 5 .any (fun w args => (Rows.fnTrapSpec.pre enc Tryz.prog Tryz.f5 [] false w args ∧ laidMetH Tryz.prog Rows.fnTrapRow.laid w) ∧ sizedMet enc Tryz.prog Tryz.f5 (OpenSpec.ofChange Rows.fnTrapSpec) false w args)
      (Rows.fnTrapSpec.post enc Tryz.prog Tryz.f5 false true false false) := by
  refine returnsInHanded_of_change_and (C := Tryz.checked) (X := fun w _ => laidMetH Tryz.prog Rows.fnTrapRow.laid w) (fun _ _ _ hh h => h.of_heap hh) Tryz.own started (by kernel_rfl) Tryz.func5
    (ChangeSpec.witness_shaped (enc := enc) (C := Tryz.checked) (os := os) (X := fun w _ => laidMetH Tryz.prog Rows.fnTrapRow.laid w) false (startWorld os) #[.agg #[.int .i64 0, .string ⟨#[]⟩, .int .i64 0, .int .u32 0, .int .i64 0, .int .i64 0, .slice none 0 0, .string ⟨#[]⟩, .string ⟨#[]⟩, .int .i64 0, .int .i64 0, .int .u64 0], .int .u8 0] 8 rfl (World.shaped_of_RefB (by kernel_rfl) (by kernel_rfl)) (by kernel_rfl) (by kernel_rfl) (by kernel_rfl) (door_met os _)) ?_
  intro W base args ds gs before hval0 hW _ _ hL _
  have hval : ∀ (j : Nat) t v, Tryz.f5.params[j]? = some t → args[j]? = some v → Value.okWide Tryz.prog W .any base t v := hval0
  have hW' := hW
  obtain ⟨p, q, hA0, hV, rfl, hfz, hnd⟩ := hW
  have hA : DataW.TrodAll enc Tryz.prog W 0 (fun _ => true) true Tryz.f5.params.toList args.toList ds p := hA0
  rw [Tryz.params5] at hA hval
  obtain ⟨v0, v1, d0, d1, p, p1, rfl, rfl, rfl, h0, hu⟩ := trodAll_two hA
  obtain ⟨g1, g2, g3, g4, g5, g6, g7, g8, g9, g10, g11, g12, rfl⟩ := twelveL (trodVars_len hV)
  have k0 := h0
  have lt0 : ∀ x ∈ p, x.block < W.heap.size := by obtain ⟨m, hm⟩ := k0; exact DataW.trod_lt m _ _ _ hm
  obtain ⟨ver, com, kind, id, st, ix, A, n, c, ent, agent, gen, spec, time, rs, rfl, hcame⟩ := open_msg (hval 0 26 v0 rfl rfl) h0
  obtain ⟨u, rfl, rfl, rfl, hwf⟩ := open_int Tryz.underlying5 (hval 1 5 v1 rfl rfl) hu
  have hwf0 := hwf
  obtain ⟨wide, rfl, hw256⟩ : ∃ m : Nat, u = (m : Int) ∧ m < 256 := by
    simp only [Lit.wf, Bool.and_eq_true, decide_eq_true_eq] at hwf
    have h1 : (0 : Int) ≤ u := hwf.1
    have h2 : u ≤ 255 := hwf.2
    exact ⟨u.toNat, by omega, by omega⟩
  obtain ⟨⟨z, hz⟩, ht, ha⟩ := of_laid (by kernel_rfl) hL (by simp [Rows.fnTrapRow]) (by simp [Rows.fnTrapRow]) (by simp [Rows.fnTrapRow]) (by simp [Rows.fnTrapRow])
  clear hA0 hval0
  refine (fnTrap_any W ver com kind id st ix ent agent gen spec time A n c rs z wide (hcame.given hz ht ha) hcame.time.1 hw256).mono fun e W' ⟨he, bel⟩ => ?_
  subst he
  exact ⟨_, rfl, _, _, _, [], _, _, hW', trodAll_mk1 (shut_bool Tryz.underlying4 _), trodAll_mk2 (Below.trod Tryz.laidOut (by kernel_rfl) (of_decide_eq_true (by kernel_rfl)) k0 bel lt0) (shut_int Tryz.underlying5 hwf0), Below.trodVars Tryz.laidOut bel varsRow hV, bel.frame _, fun h => by cases h⟩

theorem fnTrap_holds : Rows.FnTrapSaid :=
  OpenClaim.holds_of_wide 5 Tryz.f5 rfl rfl rfl rfl rfl rfl rfl ⟨rfl, rfl, rfl, rfl, rfl⟩ rfl rfl rfl rfl rfl (by kernel_rfl) Tryz.func5 (by kernel_rfl)
    (of_decide_eq_true (by kernel_rfl)) (by unfold Func.isWrapper; first | (rw [if_pos (by decide +kernel)]; kernel_rfl) | (rw [if_neg (by decide +kernel)]; exact ⟨rfl, rfl⟩))
    (fun os started H enc _ => fnTrap_lifted os started H enc)

/-- THE TIED CARD. -/
theorem fnTrap_card_holds : Rows.FnTrapCardSaid :=
  Claim7.holds_tied_plain_at .later [] [.data, .data, .data, .sentinel, .sentinel, .called, .called, .data, .data, .data, .data, .sentinel, .sentinel, .sentinel, .sentinel, .sentinel, .sentinel, .sentinel, .sentinel, .zero] true (true, "44c5f23ea8fde6f034b276db62c07fb3af9f06af28ba3a0eefc0621ec085ae62") true
    fnTrap_holds (fun _ h => by cases h) (by kernel_rfl) (fun _ h => by cases h) fnTrap_row_tie rfl ⟨rfl, rfl⟩ (by kernel_rfl) rfl
    (fun f fn hf hfn => by
      obtain rfl : f = 5 := Option.some.inj ((show Tryz.prog.funcNamed "loop.example/pub-g03261/laws.FnTrap" = some 5 by kernel_rfl).symm.trans hf) |>.symm
      obtain rfl : fn = Tryz.f5 := (Option.some.inj (Tryz.func5.symm.trans hfn)).symm
      exact ⟨by kernel_rfl, fun j t ht => by
        rw [Tryz.params5] at ht
        have h3 : t = 26 ∨ t = 5 := by
          rcases j with _ | _ | j
          · exact .inl (by simpa using ht.symm)
          · exact .inr (by simpa using ht.symm)
          · simp at ht
        rcases h3 with rfl | rfl
        · exact (show Tryz.prog.wantsStandIn 26 = false by kernel_rfl)
        · exact (show Tryz.prog.wantsStandIn 5 = false by kernel_rfl)⟩)
    (by kernel_rfl)
#print axioms fnTrap_card_holds
end Go.Proofs.YtpfmcdhmboclhaaGreatDoor
