/- spec: a message as it is told. -/
import Derived.Test.YtpfmcdhmboclhaaGreatDoorH07
set_option linter.unusedVariables false
set_option linter.unusedSimpArgs false
namespace Go.Proofs.YtpfmcdhmboclhaaGreatDoor
open Go.RowKit

set_option maxHeartbeats 16000000 in
set_option maxRecDepth 100000 in
theorem told_kind4 (w : World) (ver : Int) (com : ByteArray) (kind id st ix : Int) (ent agent : ByteArray) (gen spec time : Int) (A : Option Addr) (n c : Nat) (rs : List Raw) (hcom : com.size ≤ 2147483647) (hn63 : n ≤ 2147483647) (h_ver0 : 0 ≤ ver) (h_ver1 : ver ≤ 1) (h_com : com.size ≤ 127) (h_kind0 : 160 ≤ kind) (h_kind1 : kind ≤ 168) (h_kind4 : kind = 164) :
    Calls Tryz.prog 7 #[msgV ver com kind id st ix (.slice A n c) ent agent gen spec time] w (RetTold w ver com kind id st ix n rs ent agent gen spec time) := by
  subst h_kind4
  simp only [msgV]
  go_enter Tryz.func7, Tryz.ntmps7
  go_wp2
  go_returns
  exact ⟨.inl rfl, by repeat first | exact Below.refl _ _ | refine Below.alloc ?_ (by first | (simp; done) | (simp; omega)) _⟩
set_option maxHeartbeats 16000000 in
set_option maxRecDepth 100000 in
theorem told_st0 (w : World) (ver : Int) (com : ByteArray) (kind id st ix : Int) (ent agent : ByteArray) (gen spec time : Int) (A : Option Addr) (n c : Nat) (rs : List Raw) (hcom : com.size ≤ 2147483647) (hn63 : n ≤ 2147483647) (h_ver0 : 0 ≤ ver) (h_ver1 : ver ≤ 1) (h_com : com.size ≤ 127) (h_kind0 : 160 ≤ kind) (h_kind1 : kind ≤ 168) (h_kind4 : kind ≠ 164) (h_st0 : st < 0) :
    Calls Tryz.prog 7 #[msgV ver com kind id st ix (.slice A n c) ent agent gen spec time] w (RetTold w ver com kind id st ix n rs ent agent gen spec time) := by
  have z_kind4 : (kind == 164) = false := by simpa using h_kind4
  simp only [msgV]
  go_enter Tryz.func7, Tryz.ntmps7
  go_wp2
  go_returns
  exact ⟨.inl rfl, by repeat first | exact Below.refl _ _ | refine Below.alloc ?_ (by first | (simp; done) | (simp; omega)) _⟩
set_option maxHeartbeats 16000000 in
set_option maxRecDepth 100000 in
theorem told_st1 (w : World) (ver : Int) (com : ByteArray) (kind id st ix : Int) (ent agent : ByteArray) (gen spec time : Int) (A : Option Addr) (n c : Nat) (rs : List Raw) (hcom : com.size ≤ 2147483647) (hn63 : n ≤ 2147483647) (h_ver0 : 0 ≤ ver) (h_ver1 : ver ≤ 1) (h_com : com.size ≤ 127) (h_kind0 : 160 ≤ kind) (h_kind1 : kind ≤ 168) (h_kind4 : kind ≠ 164) (h_st0 : 0 ≤ st) (h_st1 : 127 < st) :
    Calls Tryz.prog 7 #[msgV ver com kind id st ix (.slice A n c) ent agent gen spec time] w (RetTold w ver com kind id st ix n rs ent agent gen spec time) := by
  have z_kind4 : (kind == 164) = false := by simpa using h_kind4
  simp only [msgV]
  go_enter Tryz.func7, Tryz.ntmps7
  go_wp2
  go_returns
  exact ⟨.inl rfl, by repeat first | exact Below.refl _ _ | refine Below.alloc ?_ (by first | (simp; done) | (simp; omega)) _⟩
set_option maxHeartbeats 16000000 in
set_option maxRecDepth 100000 in
theorem told_ix0 (w : World) (ver : Int) (com : ByteArray) (kind id st ix : Int) (ent agent : ByteArray) (gen spec time : Int) (A : Option Addr) (n c : Nat) (rs : List Raw) (hcom : com.size ≤ 2147483647) (hn63 : n ≤ 2147483647) (h_ver0 : 0 ≤ ver) (h_ver1 : ver ≤ 1) (h_com : com.size ≤ 127) (h_kind0 : 160 ≤ kind) (h_kind1 : kind ≤ 168) (h_kind4 : kind ≠ 164) (h_st0 : 0 ≤ st) (h_st1 : st ≤ 127) (h_ix0 : ix < 0) :
    Calls Tryz.prog 7 #[msgV ver com kind id st ix (.slice A n c) ent agent gen spec time] w (RetTold w ver com kind id st ix n rs ent agent gen spec time) := by
  have z_kind4 : (kind == 164) = false := by simpa using h_kind4
  simp only [msgV]
  go_enter Tryz.func7, Tryz.ntmps7
  go_wp2
  go_returns
  exact ⟨.inl rfl, by repeat first | exact Below.refl _ _ | refine Below.alloc ?_ (by first | (simp; done) | (simp; omega)) _⟩
set_option maxHeartbeats 16000000 in
set_option maxRecDepth 100000 in
theorem told_ix1 (w : World) (ver : Int) (com : ByteArray) (kind id st ix : Int) (ent agent : ByteArray) (gen spec time : Int) (A : Option Addr) (n c : Nat) (rs : List Raw) (hcom : com.size ≤ 2147483647) (hn63 : n ≤ 2147483647) (h_ver0 : 0 ≤ ver) (h_ver1 : ver ≤ 1) (h_com : com.size ≤ 127) (h_kind0 : 160 ≤ kind) (h_kind1 : kind ≤ 168) (h_kind4 : kind ≠ 164) (h_st0 : 0 ≤ st) (h_st1 : st ≤ 127) (h_ix0 : 0 ≤ ix) (h_ix1 : 127 < ix) :
    Calls Tryz.prog 7 #[msgV ver com kind id st ix (.slice A n c) ent agent gen spec time] w (RetTold w ver com kind id st ix n rs ent agent gen spec time) := by
  have z_kind4 : (kind == 164) = false := by simpa using h_kind4
  simp only [msgV]
  go_enter Tryz.func7, Tryz.ntmps7
  go_wp2
  go_returns
  exact ⟨.inl rfl, by repeat first | exact Below.refl _ _ | refine Below.alloc ?_ (by first | (simp; done) | (simp; omega)) _⟩
end Go.Proofs.YtpfmcdhmboclhaaGreatDoor
