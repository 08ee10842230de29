/- bytes.Buffer, ONLY WRITTEN: Write, WriteByte, WriteString. bytes.Buffer, ONLY WRITTEN: WriteString; WriteTo a second one. bytes.Buffer: WriteTo a second buffer. -/
import Derived.Test.YtpfmcdhmboclhaaGreatDoorG00
set_option linter.unusedVariables false
set_option linter.unusedSimpArgs false
namespace Go.Proofs.YtpfmcdhmboclhaaGreatDoor
open Go.RowKit
/-- Nothing is laid. -/
theorem wrote_none {w W : World} {b g cap : Nat} {v : Value} {l : List Int} {cur : Array Value} (h : Ready w b v l 0 g cap cur W) (hne : l ≠ []) : Wrote w b v l W := by
  obtain ⟨⟨lr, h1⟩, h2, h3, h4, h5, h6, h7, h8, h9⟩ := h
  refine ⟨.slice (some ⟨g, 0, none⟩) (l.length + 0) cap, ⟨⟨lr, h1⟩, ?_, by simp [Value.ownBlock, h7], .inr (by simp [hne])⟩, ?_, ?_⟩
  · exact Own.mk (Nat.zero_le g) h2 h5 h6 h3 h4
  · rcases h8 with h8 | h8
    · exact .inl (by rw [h8]; rfl)
    · exact .inr ⟨g, rfl, h8⟩
  · exact h9.mono (fun k _ hk => List.mem_cons.2 (.inl (List.mem_singleton.1 hk)))
def NoRoom (v : Value) (n : Nat) : Prop := ∃ A len cap, v = .slice A len cap ∧ len ≤ cap ∧ cap ≤ maxLen ∧ cap - len < n
theorem grow_any (w : World) (b n : Nat) (v : Value) (l : List Int) (h : Buf w b v l) (hr : NoRoom v n) (hlim : l.length + n ≤ 1000000000000) :
    Calls Tryz.prog 69 #[.pointer (some ⟨b, 0, none⟩), .int .i64 n] w fun e w' => e = .returned (.int .i64 l.length) ∧ ∃ g cap cur, Ready w b v l n g cap cur w' := by
  obtain ⟨⟨lr, hb⟩, hown, hne, hl⟩ := h
  rcases hown.form with ⟨rfl, rfl⟩ | ⟨g, cap, cur, rfl, h2, h3, h4, h5, h6, h7⟩
  · obtain ⟨A, len, cap, he, h1, _, h2⟩ := hr
    injection he with _ he1 he2
    subst he1 he2
    by_cases h64 : n ≤ 64
    · exact (grow_nil_small b n lr w hb (by omega) h64).mono fun e w' ⟨he, hg⟩ => ⟨he, ready_of_grew hb.lt hg⟩
    · exact (grow_nil_big b n lr w hb (by omega) (by simpa using hlim)).mono fun e w' ⟨he, hg⟩ => ⟨he, ready_of_grew hb.lt hg⟩
  · obtain ⟨A, len, cap', he, h1, _, h8⟩ := hr
    injection he with _ he1 he2
    subst he1 he2
    have hl1 : l ≠ [] := by rcases hl with hl | hl; cases hl; exact hl
    exact (grow_row b g l.length cap n lr cur (by8 l) w hb h3 (List.length_pos_iff.2 hl1) h4 h5 h6 h7 (by8_one l) (by omega) h8 hlim).mono fun e w' ⟨he, hg⟩ => ⟨he, ready_of_grew hb.lt hg⟩
theorem Buf.set2 {w : World} {b : Nat} {v : Value} {l : List Int} (h : Buf w b v l) : Buf (w.setCell ⟨b, 2, none⟩ (.int .i8 0)) b v l := by
  obtain ⟨⟨lr, hb⟩, hown, hne, hl⟩ := h
  refine ⟨⟨0, hb.set2 0⟩, hown.kept (fun k hk => Below.heap_setCell _ _ _ _ ?_), hne, hl⟩
  rintro rfl
  exact hne hk
theorem Ready.set2 {w W : World} {b n g cap : Nat} {v : Value} {l : List Int} {cur : Array Value} (h : Ready (w.setCell ⟨b, 2, none⟩ (.int .i8 0)) b v l n g cap cur W) : Ready w b v l n g cap cur W := by
  obtain ⟨h1, h2, h3, h4, h5, h6, h7, h8, h9⟩ := h
  refine ⟨h1, h2, h3, h4, h5, h6, h7, ?_, ?_⟩
  · simpa [World.setCell] using h8
  · exact ((Kp.refl [b] w).setCell (.inl (List.mem_singleton.2 rfl)) _).trans h9
set_option maxHeartbeats 1000000 in
theorem writeByte_room (w : World) (b g cap : Nat) (l : List Int) (x : Int) (cur : Array Value) (lr : Int) (hb : BufAt w b (.slice (some ⟨g, 0, none⟩) l.length cap) lr) (hg : w.heap[g]? = some (.cells cur 5 (0, 0))) (h1 : cur.size = cap) (h2 : cur.toList.take l.length = by8 l)
    (h3 : l.length + 1 ≤ cap) (h4 : cap ≤ maxLen) (h5 : g ≠ b) :
    Calls Tryz.prog 54 #[.pointer (some ⟨b, 0, none⟩), .int .u8 x] w fun e w' => e = .returned .nilIface ∧ Wrote w b (.slice (some ⟨g, 0, none⟩) l.length cap) (l ++ [x]) w' := by
  have c2 := hb.c2
  have f2 := hb.f 2
  have h4' := h4
  unfold maxLen at h4'
  go_enter Tryz.func54, Tryz.ntmps54
  go_wp2_with (go_at_call 68; refine (tryGrow_yes b 1 l.length cap ⟨g, 0, none⟩ _ (hb.set2 0).c0 ((hb.set2 0).f 0) (by omega) h4 (by omega)).mono ?_)
  rintro e W1 ⟨rfl, hW⟩
  have hR := ready_room hb hg h1 h2 h3 h4 h5 rfl hW
  have HR := Lib.hid hR
  obtain ⟨⟨lr1, q1⟩, q2, _⟩ := hR
  have d0 := q1.c0
  have e2 : W1.cell? ⟨g, l.length, none⟩ = some (cur[l.length]'(by omega)) := by rw [Lib.cell_of_heap q2]; simp
  have e3 : W1.frozen? ⟨g, l.length, none⟩ = false := Lib.frozen_of_heap q2 _
  clear hW hb hg q1 q2
  go_wp2
  go_ret
  exact ⟨rfl, wrote_cell HR.out⟩
theorem noRoom_buf {w : World} {b n : Nat} {v : Value} {lr : Int} (hb : BufAt w b v lr) (hr : NoRoom v n) :
    Calls Tryz.prog 68 #[.pointer (some ⟨b, 0, none⟩), .int .i64 n] (w.setCell ⟨b, 2, none⟩ (.int .i8 0)) fun e w' => e = .returned (.tuple #[.int .i64 0, .bool false]) ∧ w.setCell ⟨b, 2, none⟩ (.int .i8 0) = w' := by
  obtain ⟨A, len, cap, rfl, h1, h2, h3⟩ := hr
  exact tryGrow_no b n len cap A _ (hb.set2 0).c0 h1 h2 h3
set_option maxHeartbeats 1000000 in
theorem writeByte_grow (w : World) (b : Nat) (v : Value) (l : List Int) (x : Int) (h : Buf w b v l) (hr : NoRoom v 1) (hlim : l.length + 1 ≤ 1000000000000) :
    Calls Tryz.prog 54 #[.pointer (some ⟨b, 0, none⟩), .int .u8 x] w fun e w' => e = .returned .nilIface ∧ Wrote w b v (l ++ [x]) w' := by
  have h' := h.set2
  obtain ⟨⟨lr, hb⟩, -⟩ := h
  have c2 := hb.c2
  have f2 := hb.f 2
  go_enter Tryz.func54, Tryz.ntmps54
  go_wp2_with (go_at_call 68; refine (noRoom_buf (n := 1) hb hr).mono ?_; rintro e w' ⟨rfl, rfl⟩)
  refine (grow_any _ b 1 v l h' hr hlim).mono ?_
  rintro e W1 ⟨rfl, g, cap, cur, hR0⟩
  have hR := hR0.set2
  have HR := Lib.hid hR
  clear hR0
  obtain ⟨⟨lr1, q1⟩, q2, q3, q4, q5, q6, q7, -⟩ := hR
  have d0 := q1.c0
  have e2 : W1.cell? ⟨g, l.length, none⟩ = some (cur[l.length]'(by omega)) := by rw [Lib.cell_of_heap q2]; simp
  have e3 : W1.frozen? ⟨g, l.length, none⟩ = false := Lib.frozen_of_heap q2 _
  unfold maxLen at q6
  clear h' hb q1 q2 q4
  go_wp2
  go_ret
  exact ⟨rfl, wrote_cell HR.out⟩
/-- What a way with room gives: a row, room. -/
theorem room_of {w : World} {b n : Nat} {v : Value} {l : List Int} (h : Buf w b v l) (hr : ¬ NoRoom v n) (hn : l ≠ [] ∨ 0 < n) : ∃ g cap cur lr, v = .slice (some ⟨g, 0, none⟩) l.length cap ∧ BufAt w b v lr ∧ w.heap[g]? = some (.cells cur 5 (0, 0)) ∧ cur.size = cap ∧ cur.toList.take l.length = by8 l ∧ l.length + n ≤ cap ∧ cap ≤ maxLen ∧ g ≠ b := by
  obtain ⟨⟨lr, hb⟩, hown, hne, hl⟩ := h
  rcases hown.form with ⟨rfl, rfl⟩ | ⟨g, cap, cur, rfl, h2, h3, h4, h5, h6, h7⟩
  · exact absurd ⟨none, 0, 0, rfl, Nat.le_refl _, Nat.zero_le _, by rcases hn with hn | hn; exact absurd rfl hn; omega⟩ hr
  · refine ⟨g, cap, cur, lr, rfl, hb, h3, h6, h7, ?_, h5, fun e => hne (by simp [Value.ownBlock, e])⟩
    rcases Nat.lt_or_ge (cap - l.length) n with h8 | h8
    · exact absurd ⟨_, _, _, rfl, h4, h5, h8⟩ hr
    · omega
theorem writeByte (w : World) (b : Nat) (v : Value) (l : List Int) (x : Int) (h : Buf w b v l) (hlim : l.length + 1 ≤ 1000000000000) :
    Calls Tryz.prog 54 #[.pointer (some ⟨b, 0, none⟩), .int .u8 x] w fun e w' => e = .returned .nilIface ∧ Wrote w b v (l ++ [x]) w' := by
  by_cases hr : NoRoom v 1
  · exact writeByte_grow w b v l x h hr hlim
  · obtain ⟨g, cap, cur, lr, rfl, h1, h2, h3, h4, h5, h6, h7⟩ := room_of h hr (.inr (by omega))
    exact writeByte_room w b g cap l x cur lr h1 h2 h3 h4 h5 h6 h7
theorem info5s : (Tryz.prog.info? 5).map (·.size) = some 1 := by
  obtain ⟨i0, hi, -, hz1, -⟩ := info_parts info5
  rw [hi]; simp [hz1]
/-- The source, in the world in which it is copied. -/
theorem rd_src {w W : World} {b : Nat} {a : Addr} {c : Nat} {cs : List Int} (hs : Rd w (.slice (some a) cs.length c) cs) (hk : Kp [b] w W) (hab : a.block ≠ b) : ∀ j v, (by8 cs)[j]? = some v → W.cell? (a.add j) = some v := by
  obtain ⟨A, c', he, h1, h2, h3⟩ := hs
  injection he with he _ _
  subst he
  intro j v hj
  have hlt : j < cs.length := by
    rcases Nat.lt_or_ge j cs.length with h | h
    · exact h
    · rw [List.getElem?_eq_none (by rw [by8_length]; exact h)] at hj; cases hj
  obtain ⟨b', o, he, hc⟩ := h3 (by omega)
  injection he with he
  subst he
  rw [by8_get _ _ hlt] at hj
  injection hj with hj
  subst hj
  rw [addr_add]
  have := hc j hlt
  rw [← this]
  exact hk.cell (p := ⟨b', o + j, none⟩) (lt_of_cell this) (by simpa using hab)
set_option maxHeartbeats 1000000 in
theorem write_room (w : World) (b g cap : Nat) (l cs : List Int) (a : Addr) (c : Nat) (cur : Array Value) (lr : Int) (hb : BufAt w b (.slice (some ⟨g, 0, none⟩) l.length cap) lr) (hg : w.heap[g]? = some (.cells cur 5 (0, 0))) (h1 : cur.size = cap) (h2 : cur.toList.take l.length = by8 l)
    (h3 : l.length + cs.length ≤ cap) (h4 : cap ≤ maxLen) (h5 : g ≠ b) (hs : Rd w (.slice (some a) cs.length c) cs) (hab : a.block ≠ b) (hne : cs ≠ []) :
    Calls Tryz.prog 50 #[.pointer (some ⟨b, 0, none⟩), .slice (some a) cs.length c] w fun e w' => e = .returned (.tuple #[.int .i64 cs.length, .nilIface]) ∧ Wrote w b (.slice (some ⟨g, 0, none⟩) l.length cap) (l ++ cs) w' := by
  have c2 := hb.c2
  have f2 := hb.f 2
  have h4' := h4
  unfold maxLen at h4'
  have hpos := List.length_pos_iff.2 hne
  go_enter Tryz.func50, Tryz.ntmps50
  go_wp2_with (go_at_call 68; refine (tryGrow_yes b cs.length l.length cap ⟨g, 0, none⟩ _ (hb.set2 0).c0 ((hb.set2 0).f 0) (by omega) h4 (by omega)).mono ?_)
  rintro e W1 ⟨rfl, hW⟩
  have hR := ready_room hb hg h1 h2 h3 h4 h5 rfl hW
  have HR := Lib.hid hR
  obtain ⟨⟨lr1, q1⟩, q2, _, _, _, _, _, _, q9⟩ := hR
  have d0 := q1.c0
  have hcap : ¬ cap = l.length := by omega
  have hcp := run_copy_row (P := Tryz.prog) W1 30 30 3 5 g l.length cs.length (cap - l.length) a cs.length c cur 5 (by8 cs) Tryz.underlying30 info5s q2 (by rw [by8_length]; exact (Nat.min_self _).symm) (rd_src hs q9 hab) (by rw [by8_length]; omega) (by8_one cs)
  rw [by8_length, h2, List.append_assoc] at hcp
  clear hW hb hg q1 q2 hs q9 h1 h2
  go_wp2
  go_ret2
  exact ⟨rfl, wrote_row HR.out hne⟩
set_option maxHeartbeats 1000000 in
theorem write_grow (w : World) (b : Nat) (v : Value) (l cs : List Int) (a : Addr) (c : Nat) (h : Buf w b v l) (hr : NoRoom v cs.length) (hs : Rd w (.slice (some a) cs.length c) cs) (hab : a.block ≠ b) (hne : cs ≠ []) (hlim : l.length + cs.length ≤ 1000000000000) :
    Calls Tryz.prog 50 #[.pointer (some ⟨b, 0, none⟩), .slice (some a) cs.length c] w fun e w' => e = .returned (.tuple #[.int .i64 cs.length, .nilIface]) ∧ Wrote w b v (l ++ cs) w' := by
  have h' := h.set2
  obtain ⟨⟨lr, hb⟩, -⟩ := h
  have c2 := hb.c2
  have f2 := hb.f 2
  have hpos := List.length_pos_iff.2 hne
  go_enter Tryz.func50, Tryz.ntmps50
  go_wp2_with (go_at_call 68; refine (noRoom_buf (n := cs.length) hb hr).mono ?_; rintro e w' ⟨rfl, rfl⟩)
  refine (grow_any _ b cs.length v l h' hr hlim).mono ?_
  rintro e W1 ⟨rfl, g, cap, cur, hR0⟩
  have hR := hR0.set2
  have HR := Lib.hid hR
  clear hR0
  obtain ⟨⟨lr1, q1⟩, q2, q3, q4, q5, q6, q7, _, q9⟩ := hR
  have d0 := q1.c0
  have hcap : ¬ cap = l.length := by omega
  have hcp := run_copy_row (P := Tryz.prog) W1 30 30 3 5 g l.length cs.length (cap - l.length) a cs.length c cur 5 (by8 cs) Tryz.underlying30 info5s q2 (by rw [by8_length]; exact (Nat.min_self _).symm) (rd_src hs q9 hab) (by rw [by8_length]; omega) (by8_one cs)
  rw [by8_length, q4, List.append_assoc] at hcp
  unfold maxLen at q6
  clear h' hb q1 q2 q3 q4 hs q9
  go_wp2
  go_ret2
  exact ⟨rfl, wrote_row HR.out hne⟩
set_option maxHeartbeats 1000000 in
theorem write_none (w : World) (b g cap : Nat) (l : List Int) (A : Option Addr) (c : Nat) (cur : Array Value) (lr : Int) (hb : BufAt w b (.slice (some ⟨g, 0, none⟩) l.length cap) lr) (hg : w.heap[g]? = some (.cells cur 5 (0, 0))) (h1 : cur.size = cap) (h2 : cur.toList.take l.length = by8 l)
    (h3 : l.length ≤ cap) (h4 : cap ≤ maxLen) (h5 : g ≠ b) (hne : l ≠ []) :
    Calls Tryz.prog 50 #[.pointer (some ⟨b, 0, none⟩), .slice A 0 c] w fun e w' => e = .returned (.tuple #[.int .i64 0, .nilIface]) ∧ Wrote w b (.slice (some ⟨g, 0, none⟩) l.length cap) l w' := by
  have c2 := hb.c2
  have f2 := hb.f 2
  have h4' := h4
  unfold maxLen at h4'
  have hce : ∀ d dLen dCap W, (Builtin.copy_ #[30, 30] 3 #[.slice d dLen dCap, .slice A 0 c]).run Tryz.prog W = .ok (goInt 0) W := fun d dLen dCap W => run_copy_none W 30 30 3 5 d A dLen dCap 0 c Tryz.underlying30 info5s (by simp)
  go_enter Tryz.func50, Tryz.ntmps50
  go_wp2_with (go_at_call 68; refine (tryGrow_yes b 0 l.length cap ⟨g, 0, none⟩ _ (hb.set2 0).c0 ((hb.set2 0).f 0) (by omega) h4 (by omega)).mono ?_)
  rintro e W1 ⟨rfl, hW⟩
  have hR := ready_room (n := 0) hb hg h1 h2 (by omega) h4 h5 rfl hW
  have HR := Lib.hid hR
  obtain ⟨⟨lr1, q1⟩, _⟩ := hR
  have d0 := q1.c0
  rw [Nat.add_zero] at d0
  clear hW hb hg q1 h1 h2
  go_wp2
  all_goals (go_ret2; first | exact ⟨rfl, wrote_none HR.out hne⟩ | (have hc : cap = l.length := by assumption
                                                                    subst hc
                                                                    exact ⟨rfl, wrote_none HR.out hne⟩))
/-- Write, of bytes that lie elsewhere than in the buffer's struct. -/
theorem write (w : World) (b : Nat) (v p : Value) (l cs : List Int) (h : Buf w b v l) (hs : Rd w p cs) (hab : apart p [b]) (hn : l ≠ [] ∨ cs ≠ []) (hlim : l.length + cs.length ≤ 1000000000000) :
    Calls Tryz.prog 50 #[.pointer (some ⟨b, 0, none⟩), p] w fun e w' => e = .returned (.tuple #[.int .i64 cs.length, .nilIface]) ∧ Wrote w b v (l ++ cs) w' := by
  have hs' := hs
  obtain ⟨A, c, rfl, h1, h2, h3⟩ := hs
  by_cases hne : cs = []
  · subst hne
    have hl : l ≠ [] := hn.resolve_right (fun h => h rfl)
    by_cases hr : NoRoom v 0
    · obtain ⟨_, _, _, _, _, _, h⟩ := hr; omega
    · obtain ⟨g, cap, cur, lr, rfl, q1, q2, q3, q4, q5, q6, q7⟩ := room_of h hr (.inl hl)
      rw [List.append_nil]
      exact write_none w b g cap l A c cur lr q1 q2 q3 q4 (by omega) q6 q7 hl
  · obtain ⟨b', o, rfl, -⟩ := h3 (List.length_pos_iff.2 hne)
    have hab' : b' ≠ b := fun e => hab _ _ _ rfl (by simp [e])
    by_cases hr : NoRoom v cs.length
    · exact write_grow w b v l cs _ c h hr hs' hab' hne hlim
    · obtain ⟨g, cap, cur, lr, rfl, q1, q2, q3, q4, q5, q6, q7⟩ := room_of h hr (.inr (List.length_pos_iff.2 hne))
      exact write_room w b g cap l cs _ c cur lr q1 q2 q3 q4 q5 q6 q7 hs' hab' hne
end Go.Proofs.YtpfmcdhmboclhaaGreatDoor
namespace Go.Proofs.YtpfmcdhmboclhaaGreatDoor
open Go.RowKit

theorem by8_bytesOf (s : ByteArray) : Lib.byteCells s.data.toList = by8 (bytesOf s) := by simp [Lib.byteCells, by8, bytesOf, List.map_map, Function.comp_def]
set_option maxHeartbeats 1000000 in
theorem writeString_room (w : World) (b g cap : Nat) (l : List Int) (s : ByteArray) (cur : Array Value) (lr : Int) (hb : BufAt w b (.slice (some ⟨g, 0, none⟩) l.length cap) lr) (hg : w.heap[g]? = some (.cells cur 5 (0, 0))) (h1 : cur.size = cap) (h2 : cur.toList.take l.length = by8 l)
    (h3 : l.length + (bytesOf s).length ≤ cap) (h4 : cap ≤ maxLen) (h5 : g ≠ b) (hne : bytesOf s ≠ []) :
    Calls Tryz.prog 52 #[.pointer (some ⟨b, 0, none⟩), .string s] w fun e w' => e = .returned (.tuple #[.int .i64 s.size, .nilIface]) ∧ Wrote w b (.slice (some ⟨g, 0, none⟩) l.length cap) (l ++ bytesOf s) w' := by
  have c2 := hb.c2
  have f2 := hb.f 2
  have h4' := h4
  unfold maxLen at h4'
  have hpos := List.length_pos_iff.2 hne
  have hsz := bytesOf_length s
  rw [hsz] at hpos h3
  go_enter Tryz.func52, Tryz.ntmps52
  go_wp2_with (go_at_call 68; refine (tryGrow_yes b s.size l.length cap ⟨g, 0, none⟩ _ (hb.set2 0).c0 ((hb.set2 0).f 0) (by omega) h4 (by omega)).mono ?_)
  rintro e W1 ⟨rfl, hW⟩
  have hR := ready_room hb hg h1 h2 h3 h4 h5 rfl hW
  have hR' := hR
  obtain ⟨⟨lr1, q1⟩, q2, _, _, _, _, _, _, q9⟩ := hR'
  have HR : Hid (Ready w b (.slice (some ⟨g, 0, none⟩) l.length cap) l (bytesOf s).length g cap cur W1) := by rw [hsz]; exact hR
  have d0 := q1.c0
  have hcap : ¬ cap = l.length := by omega
  have hcp := Lib.run_copy_row_string (P := Tryz.prog) W1 30 9 3 5 g l.length s.size (cap - l.length) s cur 5 Tryz.underlying30 info5s q2 (Nat.le_refl _) (by omega)
  rw [h2, by8_bytesOf, List.append_assoc] at hcp
  have HS := Lib.hid hsz
  clear hW hb hg q1 q2 q9 h1 h2 hsz hR
  go_wp2
  go_ret2
  refine ⟨rfl, ?_⟩
  have := wrote_row HR.out hne
  rw [HS.out] at this
  exact this
set_option maxHeartbeats 1000000 in
theorem writeString_grow (w : World) (b : Nat) (v : Value) (l : List Int) (s : ByteArray) (h : Buf w b v l) (hr : NoRoom v s.size) (hne : bytesOf s ≠ []) (hlim : l.length + s.size ≤ 1000000000000) :
    Calls Tryz.prog 52 #[.pointer (some ⟨b, 0, none⟩), .string s] w fun e w' => e = .returned (.tuple #[.int .i64 s.size, .nilIface]) ∧ Wrote w b v (l ++ bytesOf s) w' := by
  have h' := h.set2
  obtain ⟨⟨lr, hb⟩, -⟩ := h
  have c2 := hb.c2
  have f2 := hb.f 2
  have hpos := List.length_pos_iff.2 hne
  have hsz := bytesOf_length s
  rw [hsz] at hpos
  go_enter Tryz.func52, Tryz.ntmps52
  go_wp2_with (go_at_call 68; refine (noRoom_buf (n := s.size) hb hr).mono ?_; rintro e w' ⟨rfl, rfl⟩)
  refine (grow_any _ b s.size v l h' hr hlim).mono ?_
  rintro e W1 ⟨rfl, g, cap, cur, hR0⟩
  have hR := hR0.set2
  clear hR0
  have hR' := hR
  obtain ⟨⟨lr1, q1⟩, q2, q3, q4, q5, q6, q7, _, q9⟩ := hR'
  have HR : Hid (Ready w b v l (bytesOf s).length g cap cur W1) := by rw [hsz]; exact hR
  have d0 := q1.c0
  have hcap : ¬ cap = l.length := by omega
  have hcp := Lib.run_copy_row_string (P := Tryz.prog) W1 30 9 3 5 g l.length s.size (cap - l.length) s cur 5 Tryz.underlying30 info5s q2 (Nat.le_refl _) (by omega)
  rw [q4, by8_bytesOf, List.append_assoc] at hcp
  unfold maxLen at q6
  have HS := Lib.hid hsz
  clear h' hb q1 q2 q3 q4 q9 hsz hR
  go_wp2
  go_ret2
  refine ⟨rfl, ?_⟩
  have := wrote_row HR.out hne
  rw [HS.out] at this
  exact this
set_option maxHeartbeats 1000000 in
theorem writeString_none (w : World) (b g cap : Nat) (l : List Int) (s : ByteArray) (cur : Array Value) (lr : Int) (hb : BufAt w b (.slice (some ⟨g, 0, none⟩) l.length cap) lr) (hg : w.heap[g]? = some (.cells cur 5 (0, 0))) (h1 : cur.size = cap) (h2 : cur.toList.take l.length = by8 l)
    (h3 : l.length ≤ cap) (h4 : cap ≤ maxLen) (h5 : g ≠ b) (hne : l ≠ []) (hs : s.size = 0) :
    Calls Tryz.prog 52 #[.pointer (some ⟨b, 0, none⟩), .string s] w fun e w' => e = .returned (.tuple #[.int .i64 0, .nilIface]) ∧ Wrote w b (.slice (some ⟨g, 0, none⟩) l.length cap) l w' := by
  have c2 := hb.c2
  have f2 := hb.f 2
  have h4' := h4
  unfold maxLen at h4'
  have hce : ∀ d dLen dCap W, (Builtin.copy_ #[30, 9] 3 #[.slice d dLen dCap, .string s]).run Tryz.prog W = .ok (goInt 0) W := fun d dLen dCap W => Lib.run_copy_empty_string W 30 9 3 5 d dLen dCap s Tryz.underlying30 (by rw [info5s]; rfl) hs
  go_enter Tryz.func52, Tryz.ntmps52
  go_wp2_with (go_at_call 68; refine (tryGrow_yes b 0 l.length cap ⟨g, 0, none⟩ _ (hb.set2 0).c0 ((hb.set2 0).f 0) (by omega) h4 (by omega)).mono ?_)
  rintro e W1 ⟨rfl, hW⟩
  have hR := ready_room (n := 0) hb hg h1 h2 (by omega) h4 h5 rfl hW
  have HR := Lib.hid hR
  obtain ⟨⟨lr1, q1⟩, _⟩ := hR
  have d0 := q1.c0
  rw [Nat.add_zero] at d0
  clear hW hb hg q1 h1 h2
  go_wp2
  all_goals (go_ret2; first | exact ⟨rfl, wrote_none HR.out hne⟩ | (have hc : cap = l.length := by assumption
                                                                    subst hc
                                                                    exact ⟨rfl, wrote_none HR.out hne⟩))
theorem writeString (w : World) (b : Nat) (v : Value) (l : List Int) (s : ByteArray) (h : Buf w b v l) (hl : l ≠ []) (hlim : l.length + s.size ≤ 1000000000000) :
    Calls Tryz.prog 52 #[.pointer (some ⟨b, 0, none⟩), .string s] w fun e w' => e = .returned (.tuple #[.int .i64 s.size, .nilIface]) ∧ Wrote w b v (l ++ bytesOf s) w' := by
  by_cases hs : s.size = 0
  · have hb0 : bytesOf s = [] := List.eq_nil_of_length_eq_zero (by rw [bytesOf_length, hs])
    rw [hb0, List.append_nil, hs]
    by_cases hr : NoRoom v 0
    · obtain ⟨_, _, _, _, _, _, h⟩ := hr; omega
    · obtain ⟨g, cap, cur, lr, rfl, q1, q2, q3, q4, q5, q6, q7⟩ := room_of h hr (.inl hl)
      exact writeString_none w b g cap l s cur lr q1 q2 q3 q4 (by omega) q6 q7 hl hs
  · have hne : bytesOf s ≠ [] := fun e => hs (by rw [← bytesOf_length, e]; rfl)
    by_cases hr : NoRoom v s.size
    · exact writeString_grow w b v l s h hr hne hlim
    · obtain ⟨g, cap, cur, lr, rfl, q1, q2, q3, q4, q5, q6, q7⟩ := room_of h hr (.inl hl)
      exact writeString_room w b g cap l s cur lr q1 q2 q3 q4 (by rw [bytesOf_length]; exact q5) q6 q7 hne
end Go.Proofs.YtpfmcdhmboclhaaGreatDoor
namespace Go.Proofs.YtpfmcdhmboclhaaGreatDoor
open Go.RowKit

theorem BufAt.drewN {w : World} {b : Nat} {v : Value} {lr : Int} (h : BufAt w b v lr) (n : Nat) : BufAt (w.drewN n) b v lr := h
theorem Own.drewN {w : World} {base : Nat} {v : Value} {l : List Int} (h : Own w base v l) (n : Nat) : Own (w.drewN n) base v l := h.kept fun _ _ => rfl
theorem Own.drew {w : World} {base : Nat} {v : Value} {l : List Int} (h : Own w base v l) : Own w.drew base v l := h.kept fun _ _ => rfl
theorem Buf.drewN {w : World} {b : Nat} {v : Value} {l : List Int} (h : Buf w b v l) (n : Nat) : Buf (w.drewN n) b v l := ⟨h.1, h.2.1.drewN n, h.2.2⟩
theorem Buf.drew {w : World} {b : Nat} {v : Value} {l : List Int} (h : Buf w b v l) : Buf w.drew b v l := ⟨h.1, h.2.1.drew, h.2.2⟩
/-- A buffer stands where its two blocks stand. -/
theorem Buf.kept {w w' : World} {b : Nat} {v : Value} {l : List Int} (h : Buf w b v l) (h1 : w'.heap[b]? = w.heap[b]?) (h2 : ∀ k, v.ownBlock = some k → w'.heap[k]? = w.heap[k]?) : Buf w' b v l := by
  obtain ⟨⟨lr, hb⟩, ho, r⟩ := h
  exact ⟨⟨lr, hb.of h1⟩, ho.kept h2, r⟩
theorem Buf.lt {w : World} {b : Nat} {v : Value} {l : List Int} (h : Buf w b v l) : b < w.heap.size := by obtain ⟨⟨lr, hb⟩, _⟩ := h; exact hb.lt
theorem Buf.keptKp {w w' : World} {b : Nat} {X : List Nat} {v : Value} {l : List Int} (h : Buf w b v l) (hk : Kp X w w') (h1 : b ∉ X) (h2 : ∀ k, v.ownBlock = some k → k ∉ X) : Buf w' b v l :=
  h.kept (hk.block b h.lt h1) (fun k e => hk.block k (h.2.1.lt e).2 (h2 k e))
/-- What WriteTo leaves. -/
def Moved (w : World) (b m : Nat) (vm : Value) (l : List Int) (w' : World) : Prop :=
  ∃ v', Buf w' m v' l ∧ (v'.ownBlock = vm.ownBlock ∨ ∃ g, v'.ownBlock = some g ∧ w.heap.size ≤ g) ∧ Kp (b :: m :: vm.ownBlock.toList) w w'
theorem moved_end {w W : World} {b m k : Nat} {vm : Value} {l : List Int} (hbw : b < w.heap.size) (hbm : b ≠ m) (hmv : vm.ownBlock ≠ some b) {v2 : Value} (u0 u1 u2 u3 : Value)
    (h : Wrote ((w.setCell ⟨b, 2, none⟩ u0).drewN k).drew m vm l W) : Moved w b m vm l ((((W.setCell ⟨b, 1, none⟩ v2).setCell ⟨b, 0, none⟩ u1).setCell ⟨b, 1, none⟩ u2).setCell ⟨b, 2, none⟩ u3) := by
  obtain ⟨v', h1, h2, h3⟩ := h
  have hs : ((w.setCell ⟨b, 2, none⟩ u0).drewN k).drew.heap.size = w.heap.size := by simp [World.setCell]
  have hne : ∀ q, v'.ownBlock = some q → q ≠ b := by
    rintro q hq rfl
    rcases h2 with h2 | ⟨g, h2, h4⟩
    · exact hmv (h2 ▸ hq)
    · rw [h2] at hq
      injection hq with hq
      omega
  refine ⟨v', h1.kept ?_ ?_, ?_, ?_⟩
  · rw [Below.heap_setCell _ _ _ _ (Ne.symm hbm), Below.heap_setCell _ _ _ _ (Ne.symm hbm), Below.heap_setCell _ _ _ _ (Ne.symm hbm), Below.heap_setCell _ _ _ _ (Ne.symm hbm)]
  · intro q hq
    have := hne q hq
    rw [Below.heap_setCell _ _ _ _ this, Below.heap_setCell _ _ _ _ this, Below.heap_setCell _ _ _ _ this, Below.heap_setCell _ _ _ _ this]
  · rcases h2 with h2 | ⟨g, h2, h4⟩
    · exact .inl h2
    · exact .inr ⟨g, h2, by omega⟩
  · have hb : b ∈ b :: m :: vm.ownBlock.toList := List.mem_cons_self
    have k0 : Kp (b :: m :: vm.ownBlock.toList) w ((w.setCell ⟨b, 2, none⟩ u0).drewN k).drew := (((Kp.refl _ w).setCell (.inl hb) _).drewN k).drew
    exact ((((k0.trans (h3.mono fun q _ hq => List.mem_cons_of_mem _ hq)).setCell (.inl hb) _).setCell (.inl hb) _).setCell (.inl hb) _).setCell (.inl hb) _
theorem bufReset' (b len cap : Nat) (g : Addr) (w : World) (off lr : Int) (hb : w.heap[b]? = some (.cells #[.slice (some g) len cap, .int .i64 off, .int .i8 lr] 122 (0, 0))) (hl : len ≤ cap) (hm : cap ≤ maxLen) :
    Calls Tryz.prog 75 #[.pointer (some ⟨b, 0, none⟩)] w fun e w' => e = .returned (.tuple #[]) ∧ ((w.setCell ⟨b, 0, none⟩ (.slice (some g) 0 cap)).setCell ⟨b, 1, none⟩ (.int .i64 0)).setCell ⟨b, 2, none⟩ (.int .i8 0) = w' :=
  bufReset b len cap g w off lr (by rw [Lib.cell_of_heap hb]; rfl) (by rw [Lib.cell_of_heap hb]; rfl) (by rw [Lib.cell_of_heap hb]; rfl) (Lib.frozen_of_heap hb 0) (Lib.frozen_of_heap hb 1) (Lib.frozen_of_heap hb 2) hl hm
theorem nil_ahead (a : Addr) (w : World) : (nilAhead 348 118 (.pointer (some a)) "Write").run Tryz.prog w = .ok (some false) w := by kernel_rfl
theorem method_write (a : Addr) (w : World) : (method 348 118 (.pointer (some a)) "Write").run Tryz.prog w = .ok (50, .pointer (some a)) w := by kernel_rfl
theorem apart_one {g n c m : Nat} (h : (Value.slice (some ⟨g, 0, none⟩) n c).ownBlock ≠ some m) : apart (Value.slice (some ⟨g, 0, none⟩) n c) [m] := by
  intro a k c' e
  injection e with e _ _
  injection e with e
  subst e
  simp only [List.mem_singleton]
  rintro rfl
  exact h rfl
set_option maxHeartbeats 1000000 in
set_option maxRecDepth 100000 in
theorem writeTo (w : World) (b m : Nat) (v vm : Value) (l lm : List Int) (hb : Buf w b v l) (hm : Buf w m vm lm) (hbm : b ≠ m) (hne : l ≠ []) (hvm : v.ownBlock ≠ some m) (hmv : vm.ownBlock ≠ some b)
    (hlim : lm.length + l.length ≤ 1000000000000) :
    Calls Tryz.prog 57 #[.pointer (some ⟨b, 0, none⟩), .iface 118 (.pointer (some ⟨m, 0, none⟩))] w fun e w' => e = .returned (.tuple #[.int .i64 l.length, .nilIface]) ∧ Moved w b m vm (lm ++ l) w' := by
  have hb' := hb.set2
  have hm' : Buf (w.setCell ⟨b, 2, none⟩ (.int .i8 0)) m vm lm := hm.kept (Below.heap_setCell _ _ _ _ (Ne.symm hbm)) (fun k e => Below.heap_setCell _ _ _ _ (by rintro rfl; exact hmv e))
  have hbw := hb.lt
  have hpos := List.length_pos_iff.2 hne
  obtain ⟨g, cap, cur, rfl, -, -, h4, h5, -⟩ := hb.2.1.form.resolve_left (fun h => hne h.2)
  have hr := hb'.2.1.reads
  obtain ⟨⟨lr, hba⟩, -⟩ := hb
  have c2 := hba.c2
  have f2 := hba.f 2
  have d0 := (hba.set2 0).c0
  have d1 := (hba.set2 0).c1
  have h5' := h5
  unfold maxLen at h5'
  have hnil := nil_ahead
  have hmeth := method_write
  go_enter Tryz.func57, Tryz.ntmps57
  go_wp2_with (go_at_call 56; refine (bufLen b l.length cap _ _ d0 d1 h4 h5).mono ?_)
  rintro e W0 ⟨rfl, k, hW0⟩
  have hb0 : BufAt W0 b (.slice (some ⟨g, 0, none⟩) l.length cap) 0 := by rw [hW0]; exact hba.set2 0
  have hr0 : Rd W0 (.slice (some ⟨g, 0, none⟩) l.length cap) l := by rw [hW0]; exact hr
  have hm0 : Buf W0 m vm lm := by rw [hW0]; exact hm'.drewN k
  have c0 := hb0.c0
  have c1 := hb0.c1
  have HW0 := Lib.hid hW0
  have HM := Lib.hid hm0
  have HR := Lib.hid hr0
  have HB := Lib.hid hb0
  clear hW0 hm0 hr0 hb0 hb' hm' hr hba c2 f2 d0 d1 hm
  go_wp2
  go_region_with (
    go_at_call 50
    refine (write _ m vm _ lm l ?_ ?_ ?_ ?_ ?_).mono ?_
    exact HM.out.drew
    exact HR.out
    exact apart_one hvm
    exact .inr hne
    exact hlim
    rintro e W1 ⟨rfl, hwr⟩)
  all_goals (
    have HWR := Lib.hid hwr
    have hb1 : BufAt W1 b (.slice (some ⟨g, 0, none⟩) l.length cap) 0 := by
      obtain ⟨_, _, _, k3⟩ := hwr
      exact HB.out.of (k3.block b HB.out.lt (by simp only [List.mem_cons, Option.mem_toList, not_or]; exact ⟨hbm, fun h => hmv h⟩))
    clear hwr
    have e0 := hb1.c0
    have e1 := hb1.c1
    have e2 := hb1.c2
    have g0 := hb1.f 0
    have g1 := hb1.f 1
    have g2 := hb1.f 2
    have hlw : IntKind.i64.wrap (l.length : Int) = l.length := by rw [IntKind.wrap_i64]; omega
    go_wp2_with (go_at_call 75; refine (bufReset' b l.length cap ⟨g, 0, none⟩ _ l.length 0 ?_ h4 h5).mono ?_)
    · exact Lib.heap_setCell_same (i := 1) hb1 _
    rintro e w' ⟨rfl, rfl⟩
    go_wp2
    go_ret2
    have hw := HWR.out
    rw [HW0.out] at hw
    exact ⟨rfl, moved_end (v2 := .int .i64 ↑l.length) hbw hbm hmv _ _ _ _ hw⟩)
end Go.Proofs.YtpfmcdhmboclhaaGreatDoor
