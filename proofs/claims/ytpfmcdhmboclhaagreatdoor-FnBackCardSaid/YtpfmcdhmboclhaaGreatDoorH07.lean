/- spec: a message as it is told. -/
import Derived.Test.YtpfmcdhmboclhaaGreatDoorG31
set_option linter.unusedVariables false
set_option linter.unusedSimpArgs false
namespace Go.Proofs.YtpfmcdhmboclhaaGreatDoor
open Go.RowKit
/-- What Told takes. -/
structure TolOk (ver : Int) (com : ByteArray) (kind id st ix : Int) (n : Nat) (ent agent : ByteArray) (gen spec time : Int) : Prop where
  ver0 : 0 ≤ ver
  ver1 : ver ≤ 1
  com : com.size ≤ 127
  kind0 : 160 ≤ kind
  kind1 : kind ≤ 168
  kind4 : kind ≠ 164
  st0 : 0 ≤ st
  st1 : st ≤ 127
  ix0 : 0 ≤ ix
  ix1 : ix ≤ 127
  n : n ≤ 20
  id : id < 2147483648
  ent : ent = ⟨#[]⟩
  agent : agent = ⟨#[]⟩
  gen : gen = 0
  spec : spec = 0
  time : time = 0
/-- What Told returns. -/
def RetTold (w : World) (ver : Int) (com : ByteArray) (kind id st ix : Int) (n : Nat) (rs : List Raw) (ent agent : ByteArray) (gen spec time : Int) (e : Ending) (w' : World) : Prop :=
  (e = .returned (.tuple #[noMsg, .bool false]) ∨ ∃ vo l, e = .returned (.tuple #[msgV ver com kind id st ix vo ⟨#[]⟩ ⟨#[]⟩ 0 0 0, .bool true]) ∧ TolOk ver com kind id st ix n ent agent gen spec time ∧ AVs rs l ∧ OwnC 40 5 w' w.heap.size vo l.length (toldC l)) ∧ Below w.heap.size w w'
end Go.Proofs.YtpfmcdhmboclhaaGreatDoor
