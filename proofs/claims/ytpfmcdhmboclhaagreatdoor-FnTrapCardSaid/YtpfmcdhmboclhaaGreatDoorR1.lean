/- spec: a variable out of its bytes, of whatever kind. -/
import Derived.Test.YtpfmcdhmboclhaaGreatDoorT07
import Derived.Test.YtpfmcdhmboclhaaGreatDoorT08
import Derived.Test.YtpfmcdhmboclhaaGreatDoorQ9
set_option linter.unusedVariables false
set_option linter.unusedSimpArgs false
namespace Go.Proofs.YtpfmcdhmboclhaaGreatDoor
open Go.RowKit

/-- spec.OfVar. -/
theorem specOfVar (v : Value) (w : World) (arcs : List Nat) (p : Pay) (rest : List Int) (hg : GoodArcs arcs) (hp : p.Ok) (hsz : rest.length ≤ 100000) (hr : Rd w v (varB arcs p 0 ++ rest)) :
    Calls Tryz.prog 30 #[v] w (RetVar w (dot arcs) p rest) := by
  cases p with
  | nul t =>
    rcases hp with rfl | rfl | rfl | rfl
    · exact ofVar_5 v w arcs rest hg hsz hr
    · exact ofVar_128 v w arcs rest hg hsz hr
    · exact ofVar_129 v w arcs rest hg hsz hr
    · exact ofVar_130 v w arcs rest hg hsz hr
  | int n => exact ofVar_2 v w arcs n rest hg hp hsz hr
  | str s => exact ofVar_4 v w arcs s rest hg hp hsz hr
  | oid s a => exact ofVar_6 v w arcs s a rest hg hp hsz hr
  | ip s a b c d =>
    obtain ⟨hip, hss⟩ := hp
    obtain ⟨a', b', c', d', he, -, h1, h2, h3, h4⟩ := ipOf_text hip
    injection he with e1 he
    injection he with e2 he
    injection he with e3 he
    injection he with e4 he
    subst e1; subst e2; subst e3; subst e4
    exact ofVar_64 v w arcs s a b c d rest hg hip hss h1 h2 h3 h4 hsz hr
  | u32 t n =>
    obtain ⟨ht, hn⟩ := hp
    rcases ht with rfl | rfl | rfl
    · exact ofVar_65 v w arcs n rest hg hn hsz hr
    · exact ofVar_66 v w arcs n rest hg hn hsz hr
    · exact ofVar_67 v w arcs n rest hg hn hsz hr
  | u64 n => exact ofVar_70 v w arcs n rest hg hp hsz hr
end Go.Proofs.YtpfmcdhmboclhaaGreatDoor
