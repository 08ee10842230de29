/- gosnmp: a packet is read. -/
import Derived.Test.YtpfmcdhmboclhaaGreatDoorG17
import Derived.Test.YtpfmcdhmboclhaaGreatDoorT02
set_option linter.unusedVariables false
set_option linter.unusedSimpArgs false
namespace Go.Proofs.YtpfmcdhmboclhaaGreatDoor
open Go.RowKit
theorem packet_164 (w : World) (b o n c g wd ver : Nat) (com : ByteArray) (arcs : List Nat) (a1 a2 a3 a4 : Nat) (gen spec : Int) (time : Nat) (l : List AV) (z : Addr) (hver : ver ≤ 1) (hcom : com.size ≤ 127) (hgd : GoodArcs arcs) (hip : a1 < 256 ∧ a2 < 256 ∧ a3 < 256 ∧ a4 < 256) (hgen : -2147483648 ≤ gen ∧ gen ≤ 2147483647) (hspec : -2147483648 ≤ spec ∧ spec ≤ 2147483647) (htime : time < 4294967296) (hl : l.length ≤ 20) (hok : ∀ x ∈ l, x.Ok) (hwd : wd ≤ 2) (hn : (msgB ver com (sealB 164 (trapHead arcs a1 a2 a3 a4 gen spec time wd ++ sealB 48 (varsB l wd) wd) wd) wd).length = n) (hn16 : n ≤ 60000) (hnc : n ≤ c) (hc : c ≤ 9223372036854775807 ∧ n ≤ 1000000)
    (hz : NetLaid w z) (ht : Tab w) (ha : AsnLaid w) (hg : w.heap[g]? = some (.cells #[] 68 (0, 0))) (hat : At w b o (msgB ver com (sealB 164 (trapHead arcs a1 a2 a3 a4 gen spec time wd ++ sealB 48 (varsB l wd) wd) wd) wd)) :
    Calls Tryz.prog 20 #[.pointer (some ⟨g, 0, none⟩), .slice (some ⟨b, o, none⟩) n c] w (RetPkt w (fun v => #[.int .u8 ver, .string com, .int .u8 164, .int .u32 0, .int .u32 0, .int .u32 0, .int .u8 0, .int .u8 0, .int .u8 0, .int .u32 0, v, .slice none 0 0, .bool false, .string (dot arcs), .string (txt (ipT a1 a2 a3 a4)), .int .i64 gen, .int .i64 spec, .int .u64 time]) l) := by
  have hlen : (sealB 164 (trapHead arcs a1 a2 a3 a4 gen spec time wd ++ sealB 48 (varsB l wd) wd) wd).length ≤ n := by
    rw [← hn]; exact msgB_len _ _ _ _
  refine packet w b o n c g wd ver com (sealB 164 (trapHead arcs a1 a2 a3 a4 gen spec time wd ++ sealB 48 (varsB l wd) wd) wd) (fun v => #[.int .u8 ver, .string com, .int .u8 164, .int .u32 0, .int .u32 0, .int .u32 0, .int .u8 0, .int .u8 0, .int .u8 0, .int .u32 0, v, .slice none 0 0, .bool false, .string (dot arcs), .string (txt (ipT a1 a2 a3 a4)), .int .i64 gen, .int .i64 spec, .int .u64 time]) l z hver hcom (by rw [sealB_len]; have := hdr_ge (trapHead arcs a1 a2 a3 a4 gen spec time wd ++ sealB 48 (varsB l wd) wd).length wd; omega) (by omega) hwd hn hnc hc hg hat ?_
  intro X base vp0 W k0 hk0 hX hpb hbw hO0 hinv hG hatG hpk
  exact payload_164 (fun W => Below w.heap.size w W) X base vp0 (.int .u8 ver) (.string com) (.int .u8 0) (.int .u32 0) (.int .u32 0) (.int .u32 0) (.int .u8 0) (.int .u8 0) (.int .u8 0) (.int .u32 0) (.slice none 0 0) (.bool false) (.string ⟨#[]⟩) (.string ⟨#[]⟩) (.int .i64 0) (.int .i64 0) (.int .u64 0) W b o n c g w.heap.size wd k0 arcs a1 a2 a3 a4 gen spec time l z hgd hip hgen hspec htime hl hok hwd hk0 hnc hc hX hpb hbw hO0 hinv hG (fun W h => hz.below h) (fun W h => ht.below h) (fun W h => ha.below h) (fun W h => (h.block g (Lib.lt_of_heap hg)).trans hg) hatG hpk
end Go.Proofs.YtpfmcdhmboclhaaGreatDoor
