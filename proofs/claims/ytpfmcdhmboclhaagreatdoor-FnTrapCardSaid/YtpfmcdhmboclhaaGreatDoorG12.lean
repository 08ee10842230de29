/- gosnmp: a number to the base 128 is read; strconv: decimal figures are appended. gosnmp: a name is read. net/netip: an address of version 4 as text; gosnmp: an address is read. -/
import Derived.Laws.BytesArg
import Derived.LaidEql
import Derived.Test.YtpfmcdhmboclhaaGreatDoorG06
import Derived.Test.YtpfmcdhmboclhaaGreatDoorG11
set_option linter.unusedVariables false
set_option linter.unusedSimpArgs false
namespace Go.Proofs.YtpfmcdhmboclhaaGreatDoor
open Go.RowKit
theorem appUint0 (w : World) (B u : Nat) (v : Value) (l : List Int) (hu : u < 18446744073709551616) (hO : Own w B v l) (hB : B ≤ w.heap.size) (hl : l.length ≤ 1000000000) (ht : Tab w) :
    Calls Tryz.prog 112 #[v, .int .u64 u, .int .i64 10] w (fun e w' => ∃ v', e = .returned v' ∧ Own w' B v' (l ++ figs u) ∧ Below B w w') := by
  have key : ∀ e w', (∃ v', e = Ending.returned v' ∧ w'.ownsRow B 5 1 v' (l.length + (Lib.decDigits u).length) (by8 l ++ Lib.byteCells (Lib.decDigits u)) ∧ Below B w w' ∧ Lib.OthersKept 5 none w w') → ∃ v', e = Ending.returned v' ∧ Own w' B v' (l ++ figs u) ∧ Below B w w' := by
    rintro e w' ⟨v', rfl, h1, h2, h3⟩
    refine ⟨v', rfl, ?_, h2⟩
    unfold Own
    rw [List.length_append, figs_len, by8_append, ← byteCells_figs]
    exact h1
  by_cases h : u < 100
  · exact (Tryz.internal_strconv_AppendUint_10_small B l.length u h v (by8 l) w hO hB (by omega)).mono key
  · exact (Tryz.internal_strconv_AppendUint_10_big B l.length u (by omega) hu v (by8 l) w hO hB (by omega) ht).mono key
set_option maxHeartbeats 4000000 in
theorem appUint (w : World) (B u : Nat) (v : Value) (l : List Int) (hu : u < 18446744073709551616) (hO : Own w B v l) (hB : B ≤ w.heap.size) (hl : l.length ≤ 1000000000) (ht : Tab w) :
    Calls Tryz.prog 98 #[v, .int .u64 u, .int .i64 10] w (fun e w' => ∃ v', e = .returned v' ∧ Own w' B v' (l ++ figs u) ∧ Below B w w') := by
  have HC := Lib.hid (appUint0 w B u v l hu hO hB hl ht)
  clear hO hB hl ht
  go_enter Tryz.func98, Tryz.ntmps98
  go_wp2_with (go_at_call 112; refine (HC.out).mono ?_; rintro e W1 ⟨v', rfl, h1, h2⟩; refine Hid.out ?_)
  refine Lib.hid ?_
  have H1 := Lib.hid h1
  have H2 := Lib.hid h2
  clear h1 h2
  go_wp2
  go_ret
  exact ⟨_, rfl, H1.out, H2.out⟩
end Go.Proofs.YtpfmcdhmboclhaaGreatDoor
namespace Go.Proofs.YtpfmcdhmboclhaaGreatDoor
open Go.RowKit

/-- Bytes as a text. -/
def txt (l : List Int) : ByteArray := strOfNums l
theorem bytesOf_txt (l : List Int) (h : ∀ x ∈ l, 0 ≤ x ∧ x < 256) : bytesOf (txt l) = l := by
  unfold bytesOf txt
  rw [strOfNums_data, List.map_map]
  have : ∀ x ∈ l, ((fun b : UInt8 => (b.toNat : Int)) ∘ fun n => UInt8.ofNat n.toNat) x = x := by
    intro x hx
    have := h x hx
    show (((UInt8.ofNat x.toNat).toNat : Nat) : Int) = x
    have e : (UInt8.ofNat x.toNat).toNat = x.toNat := by simp; omega
    rw [e]; omega
  exact (List.map_congr_left this).trans (List.map_id _)
theorem txt_size (l : List Int) : (txt l).size = l.length := strOfNums_size l
theorem conv_txt (w : World) (v : Value) (l : List Int) (h : Rd w v l) : (convert 30 9 v).run Tryz.prog w = .ok (.string (txt l)) w := by
  obtain ⟨A, c, rfl, h1, h2, h3⟩ := h
  by_cases hl : 0 < l.length
  · obtain ⟨b, o, rfl, hc⟩ := h3 hl
    refine run_convert_bytes_arg w 30 5 Tryz.underlying30 Tryz.underlying5 b o l.length c l rfl (fun i hi => ?_) 9 Tryz.underlying9
    rw [hc i hi]
    simp [List.getD, List.getElem?_eq_getElem hi]
  · have e : l = [] := List.eq_nil_of_length_eq_zero (by omega)
    subst e
    match A with
    | none => exact run_convert_bytes_nil w 30 5 Tryz.underlying30 Tryz.underlying5 _ c 9 Tryz.underlying9
    | some ⟨b, o, x⟩ =>
      match x with
      | none => exact run_convert_bytes_arg w 30 5 Tryz.underlying30 Tryz.underlying5 b o 0 c [] rfl (fun i hi => absurd hi (by omega)) 9 Tryz.underlying9
      | some y =>
        rw [run_convert_bytes_string w 30 9 5 _ _ _ Tryz.underlying30 Tryz.underlying5 Tryz.underlying9]
        have hl : (loadCells ⟨b, o, some y⟩ 0).run Tryz.prog w = .ok (([] : List Int).map (Value.int .u8)).toArray w := run_loadCells_list (P := Tryz.prog) w ⟨b, o, some y⟩ [] (fun j v hj => by simp at hj)
        exact run_bytesToString w _ 0 c [] hl
theorem text_range (arcs : List Nat) : ∀ c ∈ text arcs, 0 ≤ c ∧ c < 256 := by
  induction arcs with
  | nil => intro c hc; cases hc
  | cons a r ih =>
    intro c hc
    rw [text_cons] at hc
    rcases List.mem_cons.1 hc with rfl | hc
    · omega
    · rcases List.mem_append.1 hc with hc | hc
      · have := figs_range a c hc; omega
      · exact ih c hc
/-- The text of a name, a point ahead. -/
def dot (arcs : List Nat) : ByteArray := txt (text arcs)
theorem bytesOf_dot (arcs : List Nat) : bytesOf (dot arcs) = text arcs := bytesOf_txt _ (text_range arcs)
theorem figs_short (n : Nat) (h : n < 10000000000) : (figs n).length ≤ 10 := by
  have key : ∀ k n, n < 10 ^ (k + 1) → (figs n).length ≤ k + 1 := by
    intro k
    induction k with
    | zero => intro n h; rw [figs_1 n (by simpa using h)]; simp
    | succ k ih =>
      intro n h
      by_cases h0 : n < 10
      · rw [figs_1 n h0]; simp
      · rw [figs_step n (by omega), List.length_append]
        have := ih (n / 10) (by rw [Nat.pow_succ] at h; omega)
        simp; omega
  exact key 9 n h
theorem text_short (arcs : List Nat) (h : ∀ x ∈ arcs, x < 4294967296) : (text arcs).length ≤ 11 * arcs.length := by
  induction arcs with
  | nil => simp [text]
  | cons a r ih =>
    have h1 := ih (fun x hx => h x (List.mem_cons_of_mem _ hx))
    have h2 := figs_short a (by have := h a List.mem_cons_self; omega)
    rw [text_cons]
    simp
    omega
/-- The reader of names. -/
structure NameAt (w : World) (arcs : List Nat) (out off : Value) (wr : World) (done rest : List Nat) : Prop where
  split : arcs = done ++ rest
  two : 2 ≤ done.length
  off : off = .int .i64 ((nameB done).length : Nat)
  own : Own wr w.heap.size out (text done)
  below : Below w.heap.size w wr
theorem own_text {w : World} {base : Nat} {v : Value} {l : List Int} (h : Own w base v l) {l' : List Int} (e : l = l') : Own w base v l' := e ▸ h
set_option maxHeartbeats 16000000 in
set_option maxRecDepth 100000 in
theorem parseOID (w : World) (b o n c : Nat) (arcs : List Nat) (hg : GoodArcs arcs) (hn : (nameB arcs).length = n) (hnc : n ≤ c) (hc : c ≤ 9223372036854775807 ∧ n ≤ 1000000) (hat : At w b o (nameB arcs)) (ht : Tab w) :
    Calls Tryz.prog 78 #[.slice (some ⟨b, o, none⟩) n c] w (fun e w' => e = .returned (.tuple #[.string (dot arcs), .nilIface]) ∧ Below w.heap.size w w') := by
  obtain ⟨hg1, hg2, hg3, hg4, hg5, hg6⟩ := hg
  match arcs, hg1 with
  | a1 :: a2 :: r, _ =>
  have ha1 : a1 ≤ 2 := by simpa using hg3
  have ha2 : a2 < 40 := by simpa using hg4
  have hn1 : 1 ≤ n := by rw [← hn]; simp [nameB]
  have hn100 : n ≤ 100 := by rw [← hn]; exact hg6
  obtain ⟨cells, hmk, hcells⟩ := run_make_room (n * 4 + 1) (by omega) w
  have hb0 : Below w.heap.size w (w.alloc (.cells cells 5)) := (Below.refl _ _).alloc (Nat.le_refl _) _
  have HO0 : Hid (Own (w.alloc (.cells cells 5)) w.heap.size (.slice (some ⟨w.heap.size, 0, none⟩) 0 (n * 4 + 1)) []) :=
    Own.mk (l := []) (Nat.le_refl _) (heap_alloc_new w _) (Nat.zero_le _) (by unfold maxLen; omega) hcells rfl
  obtain ⟨V, hV⟩ : ∃ V, V = 40 * a1 + a2 := ⟨_, rfl⟩
  have hV128 : V < 128 := by omega
  have HC0 := Lib.hid (base128 (w.alloc (.cells cells 5)) b o n c 0 V (nameB (a1 :: a2 :: r)) (r.flatMap b128) hn (by omega) (by rw [b128_1 V hV128, hV]; rfl) hnc hc (hat.below hb0))
  rw [b128_1 V hV128] at HC0
  have HB0 := Lib.hid hb0
  have HT := Lib.hid ht
  have HAT := Lib.hid hat
  have HN := Lib.hid hn
  have HG5 := Lib.hid hg5
  have HG2 := Lib.hid hg2
  have hmk' : (Instr.makeSlice 30 (.int .i64 0) (.int .i64 ((n : Int) * 4 + 1))).run Tryz.prog w = .ok (.slice (some ⟨w.heap.size, 0, none⟩) 0 (n * 4 + 1)) (w.alloc (.cells cells 5)) := by
    rw [← hmk]; congr 2
  have HA1 := Lib.hid ha1
  have HV := Lib.hid hV
  have h80 : (V < 80 ∧ a1 < 2) ∨ (80 ≤ V ∧ a1 = 2 ∧ V - 80 = a2) := by omega
  have hq : V < 80 → ((V : Int) / 40 = (a1 : Int) ∧ (V : Int) % 40 = (a2 : Int)) := by omega
  have hs : 80 ≤ V → (V : Int) - 80 = (a2 : Int) := by omega
  have hz : w.heap.size ≤ (w.alloc (.cells cells 5)).heap.size := by simp
  have HZ := Lib.hid hz
  have HA2 := Lib.hid ha2
  clear hcells hg1 hg2 hg3 hg4 hg5 hg6 hn hat ht hb0 hmk ha1 hV ha2 hz
  obtain ⟨WA, hWA⟩ : ∃ WA, WA = w.alloc (.cells cells 5) := ⟨_, rfl⟩
  rw [← hWA] at HC0 HO0 HB0 HZ hmk'
  clear hWA
  go_enter Tryz.func78, Tryz.ntmps78
  go_wp2_with (go_at_call 97; refine (HC0.out).mono ?_; rintro e W1 ⟨rfl, rfl⟩; refine Hid.out ?_)
  refine Lib.hid ?_
  go_wp2_with (at_builtin; refine wpList_append8 _ rfl _ _ rfl w.heap.size _ _ [] [46] rfl rfl (by exact HO0.out.alloc _) (by exact rd_one _ _) (by have := HZ.out; simp; omega) (by simp) ?_)
  intro v1 w1 hO1 hg1 _
  have HB1 := Lib.hid (app_below HO0.out HB0.out (Nat.le_refl _) hg1)
  have HO1 := Lib.hid hO1
  clear hO1 hg1
  rcases h80 with ⟨h80, ha⟩ | ⟨h80, rfl, hV2⟩
  · obtain ⟨hq1, hq2⟩ := hq h80
    have HC1 := Lib.hid (appUint w1 w.heap.size a1 v1 ([] ++ [46]) (by omega) HO1.out HB1.out.size (by simp) (HT.out.below HB1.out))
    clear hq hs
    go_wp2_with (go_at_call 98; refine (HC1.out).mono ?_; rintro e W2 ⟨v2, rfl, hO2, hB2⟩; refine Hid.out ?_)
    refine Lib.hid ?_
    have HO2 := Lib.hid hO2
    have HB2 := Lib.hid (HB1.out.trans hB2)
    have hl2 : ([] ++ [46] ++ figs a1).length ≤ 100 := by have := figs_short a1 (by omega); simp; omega
    have HL2 := Lib.hid hl2
    clear hO2 hB2 hl2
    go_wp2_with (at_builtin; refine wpList_append8 _ rfl _ _ rfl w.heap.size _ _ ([] ++ [46] ++ figs a1) [46] rfl rfl (by exact HO2.out.alloc _) (by exact rd_one _ _) (by have := HB2.out.size; simp; omega) (by have := HL2.out; simp at this ⊢; omega) ?_)
    intro v3 w3 hO3 hg3 _
    have HB3 := Lib.hid (app_below HO2.out HB2.out (Nat.le_refl _) hg3)
    have HO3 := Lib.hid hO3
    have HC3 := Lib.hid (appUint w3 w.heap.size a2 v3 ([] ++ [46] ++ figs a1 ++ [46]) (by have := HA2.out; omega) HO3.out HB3.out.size (by have := HL2.out; simp at this ⊢; omega) (HT.out.below HB3.out))
    clear hO3 hg3
    go_wp2_with (go_at_call 98; refine (HC3.out).mono ?_; rintro e WL ⟨vL, rfl, hO4, hB4⟩; refine Hid.out ?_)
    refine Lib.hid ?_
    have HOL := Lib.hid hO4
    have HBL := Lib.hid (HB3.out.trans hB4)
    clear hO4 hB4
    have hown : Hid (Own WL w.heap.size vL (text ([a1, a2] ++ []))) := own_text HOL.out (by rw [List.append_nil, text_cons, text_cons, text_nil]; simp)
    go_wp2
    go_loopw [4, 6] (fun out off wr => ∃ done rest, NameAt w (a1 :: a2 :: r) out off wr done rest) (fun _ off _ => n - (intOf off).toNat)
    case atStart => exact ⟨[a1, a2], r, rfl, by simp, by simp [nameB], by simpa using hown.out, HBL.out⟩
    case round =>
      obtain ⟨done, rest, h1, h2, rfl, h4, h5⟩ := hrel
      obtain ⟨wo, rfl⟩ : ∃ wo : World, wo = wr := ⟨_, rfl⟩
      have HO := Lib.hid h4
      have HB := Lib.hid h5
      have H1 := Lib.hid h1
      have H2 := Lib.hid h2
      obtain ⟨k, hk⟩ : ∃ k, k = (nameB done).length := ⟨_, rfl⟩
      rw [← hk]
      have HK := Lib.hid hk
      clear h1 h2 h4 h5 hk
      rcases rest with _ | ⟨x, q⟩
      · have e : done = a1 :: a2 :: r := by rw [H1.out]; simp
        have hkn : k = n := by rw [HK.out, e, HN.out]
        have HCV := conv_txt wo u4 _ HO.out.reads
        rw [e] at HCV
        have HBB := Lib.hid HB.out
        clear e
        go_wp2
        go_ret2
        exact ⟨rfl, HBB.out⟩
      · have hx : x < 4294967296 := HG5.out x (by rw [H1.out]; simp)
        have hsn : nameB (done ++ [x]) = nameB done ++ b128 x := nameB_snoc done x H2.out
        have hall : nameB (a1 :: a2 :: r) = nameB done ++ (b128 x ++ q.flatMap b128) := by
          have hgen : ∀ (d : List Nat) (q : List Nat), 2 ≤ d.length → nameB (d ++ q) = nameB d ++ q.flatMap b128 := by
            intro d q hd
            match d, hd with
            | y1 :: y2 :: d, _ => simp [nameB]
          rw [H1.out, hgen done (x :: q) H2.out]; simp
        have hkl : k < n := by
          have := congrArg List.length hall
          rw [HN.out] at this
          have h0 : 0 < (b128 x).length := List.length_pos_iff.2 (b128_ne x)
          simp at this
          have := HK.out
          omega
        have hdl : (text done).length ≤ 660 := by
          have h1 := text_short done (fun y hy => HG5.out y (by rw [H1.out]; simp [hy]))
          have h2 := HG2.out
          rw [H1.out] at h2
          simp at h2
          omega
        have HDL := Lib.hid hdl
        have HX := Lib.hid hx
        have HSN := Lib.hid hsn
        have HALL := Lib.hid hall
        have hsz : w.heap.size ≤ wo.heap.size := HB.out.size
        have HSZ := Lib.hid hsz
        clear hx hsn hall hdl hsz
        go_wp2_with (at_builtin; refine wpList_append8 _ rfl _ _ rfl w.heap.size _ _ (text done) [46] rfl rfl (by exact HO.out.alloc _) (by exact rd_one _ _) (by have := HSZ.out; simp; omega) (by have := HDL.out; simp; omega) ?_)
        intro v5 w5 hO5 hg5 _
        have HB5 := Lib.hid (app_below HO.out HB.out (Nat.le_refl _) hg5)
        have HO5 := Lib.hid hO5
        have HC5 := Lib.hid (base128 w5 b o n c k x (nameB (a1 :: a2 :: r)) (q.flatMap b128) HN.out HX.out (by rw [HALL.out, HK.out, List.drop_left]) hnc hc (HAT.out.below HB5.out))
        have HC6 := Lib.hid (appUint w5 w.heap.size x v5 (text done ++ [46]) (by have := HX.out; omega) HO5.out HB5.out.size (by have := HDL.out; simp; omega) (HT.out.below HB5.out))
        have hx32 := HX.out
        clear hO5 hg5
        go_wp2_with (go_at_call 97; refine (HC5.out).mono ?_; rintro e W1 ⟨rfl, rfl⟩; refine Hid.out ?_)
        refine Lib.hid ?_
        go_wp2_with (go_at_call 98; refine (HC6.out).mono ?_; rintro e W1 ⟨v7, rfl, hO7, hB7⟩; refine Hid.out ?_)
        refine Lib.hid ?_
        have HO7 := Lib.hid hO7
        have HB7 := Lib.hid hB7
        clear hO7 hB7
        go_wp2
        go_roundw
        case rel =>
          refine ⟨done ++ [x], q, by rw [H1.out]; simp, by have := H2.out; simp; omega, ?_, own_text HO7.out (by rw [text_append, text_cons, text_nil]; simp), HB5.out.trans HB7.out⟩
          rw [HSN.out, HK.out]; simp
        case measure =>
          have := List.length_pos_iff.2 (b128_ne x)
          simp [intOf]; omega
  · have hs1 := hs h80
    clear hq hs
    go_wp2_with (at_builtin; refine wpList_append8 _ rfl _ _ rfl w.heap.size _ _ ([] ++ [46]) [50, 46] rfl rfl (by exact HO1.out.alloc _) (by exact (Own.lit _ 0 [50, 46] (Nat.zero_le _) (by decide)).reads) (by have := HB1.out.size; simp; omega) (by simp) ?_)
    intro v3 w3 hO3 hg3 _
    have HB3 := Lib.hid (app_below HO1.out HB1.out (Nat.le_refl _) hg3)
    have HO3 := Lib.hid hO3
    have HC3 := Lib.hid (appUint w3 w.heap.size a2 v3 ([] ++ [46] ++ [50, 46]) (by have := HA2.out; omega) HO3.out HB3.out.size (by simp) (HT.out.below HB3.out))
    clear hO3 hg3
    go_wp2_with (go_at_call 98; refine (HC3.out).mono ?_; rintro e WL ⟨vL, rfl, hO4, hB4⟩; refine Hid.out ?_)
    refine Lib.hid ?_
    have HOL := Lib.hid hO4
    have HBL := Lib.hid (HB3.out.trans hB4)
    clear hO4 hB4
    have hown : Hid (Own WL w.heap.size vL (text ([2, a2] ++ []))) := own_text HOL.out (by rw [List.append_nil, text_cons, text_cons, text_nil, show figs 2 = [50] from figs_1 2 (by omega)]; simp)
    go_wp2
    go_loopw [4, 6] (fun out off wr => ∃ done rest, NameAt w (2 :: a2 :: r) out off wr done rest) (fun _ off _ => n - (intOf off).toNat)
    case atStart => exact ⟨[2, a2], r, rfl, by simp, by simp [nameB], by simpa using hown.out, HBL.out⟩
    case round =>
      obtain ⟨done, rest, h1, h2, rfl, h4, h5⟩ := hrel
      obtain ⟨wo, rfl⟩ : ∃ wo : World, wo = wr := ⟨_, rfl⟩
      have HO := Lib.hid h4
      have HB := Lib.hid h5
      have H1 := Lib.hid h1
      have H2 := Lib.hid h2
      obtain ⟨k, hk⟩ : ∃ k, k = (nameB done).length := ⟨_, rfl⟩
      rw [← hk]
      have HK := Lib.hid hk
      clear h1 h2 h4 h5 hk
      rcases rest with _ | ⟨x, q⟩
      · have e : done = 2 :: a2 :: r := by rw [H1.out]; simp
        have hkn : k = n := by rw [HK.out, e, HN.out]
        have HCV := conv_txt wo u4 _ HO.out.reads
        rw [e] at HCV
        have HBB := Lib.hid HB.out
        clear e
        go_wp2
        go_ret2
        exact ⟨rfl, HBB.out⟩
      · have hx : x < 4294967296 := HG5.out x (by rw [H1.out]; simp)
        have hsn : nameB (done ++ [x]) = nameB done ++ b128 x := nameB_snoc done x H2.out
        have hall : nameB (2 :: a2 :: r) = nameB done ++ (b128 x ++ q.flatMap b128) := by
          have hgen : ∀ (d : List Nat) (q : List Nat), 2 ≤ d.length → nameB (d ++ q) = nameB d ++ q.flatMap b128 := by
            intro d q hd
            match d, hd with
            | y1 :: y2 :: d, _ => simp [nameB]
          rw [H1.out, hgen done (x :: q) H2.out]; simp
        have hkl : k < n := by
          have := congrArg List.length hall
          rw [HN.out] at this
          have h0 : 0 < (b128 x).length := List.length_pos_iff.2 (b128_ne x)
          simp at this
          have := HK.out
          omega
        have hdl : (text done).length ≤ 660 := by
          have h1 := text_short done (fun y hy => HG5.out y (by rw [H1.out]; simp [hy]))
          have h2 := HG2.out
          rw [H1.out] at h2
          simp at h2
          omega
        have HDL := Lib.hid hdl
        have HX := Lib.hid hx
        have HSN := Lib.hid hsn
        have HALL := Lib.hid hall
        have hsz : w.heap.size ≤ wo.heap.size := HB.out.size
        have HSZ := Lib.hid hsz
        clear hx hsn hall hdl hsz
        go_wp2_with (at_builtin; refine wpList_append8 _ rfl _ _ rfl w.heap.size _ _ (text done) [46] rfl rfl (by exact HO.out.alloc _) (by exact rd_one _ _) (by have := HSZ.out; simp; omega) (by have := HDL.out; simp; omega) ?_)
        intro v5 w5 hO5 hg5 _
        have HB5 := Lib.hid (app_below HO.out HB.out (Nat.le_refl _) hg5)
        have HO5 := Lib.hid hO5
        have HC5 := Lib.hid (base128 w5 b o n c k x (nameB (2 :: a2 :: r)) (q.flatMap b128) HN.out HX.out (by rw [HALL.out, HK.out, List.drop_left]) hnc hc (HAT.out.below HB5.out))
        have HC6 := Lib.hid (appUint w5 w.heap.size x v5 (text done ++ [46]) (by have := HX.out; omega) HO5.out HB5.out.size (by have := HDL.out; simp; omega) (HT.out.below HB5.out))
        have hx32 := HX.out
        clear hO5 hg5
        go_wp2_with (go_at_call 97; refine (HC5.out).mono ?_; rintro e W1 ⟨rfl, rfl⟩; refine Hid.out ?_)
        refine Lib.hid ?_
        go_wp2_with (go_at_call 98; refine (HC6.out).mono ?_; rintro e W1 ⟨v7, rfl, hO7, hB7⟩; refine Hid.out ?_)
        refine Lib.hid ?_
        have HO7 := Lib.hid hO7
        have HB7 := Lib.hid hB7
        clear hO7 hB7
        go_wp2
        go_roundw
        case rel =>
          refine ⟨done ++ [x], q, by rw [H1.out]; simp, by have := H2.out; simp; omega, ?_, own_text HO7.out (by rw [text_append, text_cons, text_nil]; simp), HB5.out.trans HB7.out⟩
          rw [HSN.out, HK.out]; simp
        case measure =>
          have := List.length_pos_iff.2 (b128_ne x)
          simp [intOf]; omega
end Go.Proofs.YtpfmcdhmboclhaaGreatDoor
namespace Go.Proofs.YtpfmcdhmboclhaaGreatDoor
open Go.RowKit

theorem eqp_sameD (d : Nat) (z : Addr) (W : World) : (Op.equalIn (d + 1) 108 (.pointer (some z)) (.pointer (some z))).run Tryz.prog W = .ok true W := by
  have hs : (sizeOf 142).run Tryz.prog W = .ok 2 W := by kernel_rfl
  simp [Op.equalIn, run_underlying Tryz.underlying108, hs, run_sameAddr_same]
theorem eqp_same (z : Addr) (W : World) : (Op.equalIn 9999 108 (.pointer (some z)) (.pointer (some z))).run Tryz.prog W = .ok true W := eqp_sameD 9998 z W
set_option maxHeartbeats 4000000 in
set_option maxRecDepth 100000 in
theorem is6 (a b c d : Nat) (z : Addr) (w : World) (h : NetLaid w z) :
    Calls Tryz.prog 104 #[ipV z a b c d] w fun e w' => e = .returned (.bool false) ∧ Below w.heap.size w w' := by
  have hA : ∀ o, (w.alloc o).cell? ⟨1, 0, none⟩ = some (.pointer none) := fun o => (h.alloc o).z0
  have hC : ∀ o, (w.alloc o).cell? ⟨7, 0, none⟩ = some (.pointer (some z)) := fun o => (h.alloc o).z4
  have he := eqp_none z
  have he2 := eqp_same z
  clear h
  simp only [ipV]
  go_enter Tryz.func104, Tryz.ntmps104
  go_wp2
  go_ret
  exact ⟨rfl, (Below.refl _ _).alloc (Nat.le_refl _) _⟩
set_option maxHeartbeats 4000000 in
set_option maxRecDepth 100000 in
theorem is4in6 (a b c d : Nat) (z : Addr) (w : World) (h : NetLaid w z) :
    Calls Tryz.prog 113 #[ipV z a b c d] w fun e w' => e = .returned (.bool false) ∧ Below w.heap.size w w' := by
  have H := Lib.hid h
  clear h
  simp only [ipV]
  go_enter Tryz.func113, Tryz.ntmps113
  go_wp2_with (go_at_call 104; refine (is6 a b c d z _ (H.out.alloc _)).mono ?_; rintro e W1 ⟨rfl, hb⟩; refine Hid.out ?_)
  refine Lib.hid ?_
  have HB : Hid (Below w.heap.size w W1) := ((Below.refl _ _).alloc (Nat.le_refl _) _).trans (hb.mono (by simp))
  clear hb
  go_wp2
  go_ret
  exact ⟨rfl, HB.out⟩
set_option maxHeartbeats 4000000 in
set_option maxRecDepth 100000 in
theorem isValid (a b c d : Nat) (z : Addr) (w : World) (h : NetLaid w z) :
    Calls Tryz.prog 114 #[ipV z a b c d] w fun e w' => e = .returned (.bool true) ∧ Below w.heap.size w w' := by
  have hA : ∀ o, (w.alloc o).cell? ⟨1, 0, none⟩ = some (.pointer none) := fun o => (h.alloc o).z0
  have he := eqp_none z
  clear h
  simp only [ipV]
  go_enter Tryz.func114, Tryz.ntmps114
  go_wp2
  go_ret
  exact ⟨rfl, (Below.refl _ _).alloc (Nat.le_refl _) _⟩
set_option maxHeartbeats 4000000 in
set_option maxRecDepth 100000 in
theorem unmap (a b c d : Nat) (z : Addr) (w : World) (h : NetLaid w z) :
    Calls Tryz.prog 100 #[ipV z a b c d] w fun e w' => e = .returned (ipV z a b c d) ∧ Below w.heap.size w w' := by
  have H := Lib.hid h
  clear h
  have hv : ipV z a b c d = .agg #[.int .u64 0, .int .u64 (ipNum a b c d), .pointer (some z)] := rfl
  rw [hv]
  go_enter Tryz.func100, Tryz.ntmps100
  go_wp2_with (go_at_call 113; refine (is4in6 a b c d z _ ((H.out.alloc _).alloc _)).mono ?_; rintro e W1 ⟨rfl, hb⟩; refine Hid.out ?_)
  refine Lib.hid ?_
  have r0 : W1.heap[w.heap.size]? = some (.cells #[.int .u64 0, .int .u64 (ipNum a b c d), .pointer (some z)] 112 (0, 0)) := by
    rw [hb.block _ (by simp; omega), Below.heap_alloc _ _ _ (by simp)]; exact heap_alloc_new w _
  have r1 : W1.heap[w.heap.size + 1]? = some (.cells #[.int .u64 0, .int .u64 0, .pointer none] 112 (0, 0)) := by
    rw [hb.block _ (by simp)]
    have hh := heap_alloc_new (w.alloc (.cells #[.int .u64 0, .int .u64 (ipNum a b c d), .pointer (some z)] 112)) (.cells #[.int .u64 0, .int .u64 0, .pointer none] 112)
    rwa [show (w.alloc (.cells #[.int .u64 0, .int .u64 (ipNum a b c d), .pointer (some z)] 112)).heap.size = w.heap.size + 1 by simp] at hh
  obtain ⟨e0, e1, e2, -⟩ := ip_cells r0
  obtain ⟨f0, f1, f2, g0⟩ := ip_cells r1
  obtain ⟨W3, hW3⟩ : ∃ W3, W3 = ((W1.setCell ⟨w.heap.size + 1, 0, none⟩ (.int .u64 0)).setCell ⟨w.heap.size + 1, 1, none⟩ (.int .u64 (ipNum a b c d))).setCell ⟨w.heap.size + 1, 2, none⟩ (.pointer (some z)) := ⟨_, rfl⟩
  obtain ⟨-, k0, k1, k2, k3⟩ := ip_store r1 hW3
  have HW3 := Lib.hid hW3
  have HB3 : Hid (Below w.heap.size w W3) := ((((Below.refl _ _).alloc (Nat.le_refl _) _).alloc (by simp) _).trans (hb.mono (by simp; omega))).trans (k3.below (by have := hb.size; simp at this; omega) (by simp))
  clear r0 r1 hb hW3 k3
  go_wp2
  rw [← HW3.out]
  try simp only [Exit.inBlock, Exit.then]
  refine bodyPost_ret (v := .agg #[.int .u64 0, .int .u64 (ipNum a b c d), .pointer (some z)]) (by simp [results, Tryz.results100, go_sem, k0, k1, k2]) rfl ?_
  exact ⟨rfl, HB3.out⟩
theorem dig (x : Nat) (hx : x < 10) (W : World) : (Instr.index 9 (.string ⟨#[48, 49, 50, 51, 52, 53, 54, 55, 56, 57, 97, 98, 99, 100, 101, 102]⟩) (.int .u8 (x : Int))).run Tryz.prog W = .ok (.int .u8 (48 + (x : Int))) W := by
  have h : x = 0 ∨ x = 1 ∨ x = 2 ∨ x = 3 ∨ x = 4 ∨ x = 5 ∨ x = 6 ∨ x = 7 ∨ x = 8 ∨ x = 9 := by omega
  rcases h with rfl | rfl | rfl | rfl | rfl | rfl | rfl | rfl | rfl | rfl <;> (show _ = _; kernel_rfl)
/-- A row that has grown: all else stands. -/
structure Gr (w : World) (v : Value) (w' : World) (v' : Value) : Prop where
  kp : Kp v.ownBlock.toList w w'
  new : v'.ownBlock = v.ownBlock ∨ ∃ k, v'.ownBlock = some k ∧ w.heap.size ≤ k
theorem Gr.refl (w : World) (v : Value) : Gr w v w v := ⟨Kp.refl _ _, .inl rfl⟩
theorem Gr.trans {w w1 w2 : World} {v v1 v2 : Value} (h : Gr w v w1 v1) (k : Gr w1 v1 w2 v2) : Gr w v w2 v2 := by
  have key : ∀ q, q < w.heap.size → q ∈ v1.ownBlock.toList → q ∈ v.ownBlock.toList := by
    intro q hq hm
    rcases h.new with e | ⟨k, e, hk⟩
    · rwa [e] at hm
    · rw [e] at hm
      simp at hm
      omega
  refine ⟨h.kp.then k.kp (fun q _ hm => hm) key, ?_⟩
  rcases k.new with e | ⟨q, e, hq⟩
  · rcases h.new with e2 | ⟨q, e2, hq⟩
    · exact .inl (e.trans e2)
    · exact .inr ⟨q, e.trans e2, hq⟩
  · exact .inr ⟨q, e, Nat.le_trans h.kp.size hq⟩
theorem Gr.below {w w1 w2 : World} {v v1 : Value} (h : Gr w v w1 v1) (k : Below w1.heap.size w1 w2) : Gr w v w2 v1 := ⟨h.kp.add k, h.new⟩
theorem Gr.app {W w1 : World} {v v1 : Value} {o : Obj} (hg : (W.alloc o).grownBy w1 v.ownBlock) (hn : v1.ownBlock = v.ownBlock ∨ v1.ownBlock = some (W.heap.size + 1)) : Gr W v w1 v1 := by
  refine ⟨((Kp.refl _ W).alloc o).grown hg (fun k e => .inl (by rw [e]; simp)), ?_⟩
  rcases hn with e | e
  · exact .inl e
  · exact .inr ⟨_, e, by simp⟩
theorem Gr.block {w w' : World} {v v' : Value} (h : Gr w v w' v') {k : Nat} (hk : k < w.heap.size) (hv : v.ownBlock ≠ some k) : w'.heap[k]? = w.heap[k]? :=
  h.kp.block k hk (by intro hm; exact hv (by simpa using hm))
theorem Gr.to {w w' : World} {v v' : Value} (h : Gr w v w' v') {B : Nat} {l : List Int} (hO : Own w B v l) (hB : B ≤ w.heap.size) : Below B w w' := h.kp.below hB (fun k hk => (hO.lt (by simpa using hk)).1)
theorem figs_2 (n : Nat) (h : 10 ≤ n) (h2 : n < 100) : figs n = [48 + ((n / 10 : Nat) : Int)] ++ [48 + ((n % 10 : Nat) : Int)] := by
  rw [figs_step n h, figs_1 _ (by omega)]
theorem figs_3 (n : Nat) (h : 100 ≤ n) (h2 : n < 1000) : figs n = [48 + ((n / 100 : Nat) : Int)] ++ [48 + ((n / 10 % 10 : Nat) : Int)] ++ [48 + ((n % 10 : Nat) : Int)] := by
  rw [figs_step n (by omega), figs_step (n / 10) (by omega), Nat.div_div_eq_div_mul, figs_1 _ (by omega)]
set_option maxHeartbeats 8000000 in
set_option maxRecDepth 100000 in
theorem appendDecimal (w : World) (B n : Nat) (v : Value) (l : List Int) (hn : n < 256) (hO : Own w B v l) (hB : B ≤ w.heap.size) (hl : l.length ≤ 1000) :
    Calls Tryz.prog 127 #[v, .int .u8 n] w (fun e w' => ∃ v', e = .returned v' ∧ Own w' B v' (l ++ figs n) ∧ Gr w v w' v') := by
  have HO := Lib.hid hO
  have HB := Lib.hid hB
  have HL := Lib.hid hl
  clear hO hB hl
  by_cases h1 : n < 10
  · have d0 := dig n h1
    have e0 : (n : Int) % 10 = n := by omega
    have HF : Hid (figs n = [48 + (n : Int)]) := figs_1 n h1
    have HO0 := HO
    have HW0 := Lib.hid (Gr.refl w v)
    clear HO
    go_enter Tryz.func127, Tryz.ntmps127
    go_wp2_with (at_builtin; refine wpList_append8 _ rfl _ _ rfl B _ _ (l) [48 + (n : Int)] rfl rfl (by exact (own_text HO0.out (by simp)).alloc _) (by exact rd_one _ _) (by have := HB.out; have := HW0.out.kp.size; simp; omega) (by have := HL.out; simp; omega) ?_)
    intro v1 w1 hO1 hg1 hn1
    have HW1 := Lib.hid (HW0.out.trans (Gr.app hg1 hn1))
    have HO1 := Lib.hid hO1
    clear hO1 hg1 hn1
    go_wp2
    go_ret
    exact ⟨v1, rfl, own_text HO1.out (by simp [HF.out]), HW1.out⟩
  by_cases h2 : n < 100
  · have d0 := dig (n / 10) (by omega)
    have d1 := dig (n % 10) (by omega)
    have e0 : (n : Int) / 10 % 10 = ((n / 10 : Nat) : Int) := by omega
    have e1 : (n : Int) % 10 = ((n % 10 : Nat) : Int) := by omega
    have HF := Lib.hid (figs_2 n (by omega) h2)
    obtain ⟨x0, hx0⟩ : ∃ x, x = n / 10 := ⟨_, rfl⟩
    obtain ⟨x1, hx1⟩ : ∃ x, x = n % 10 := ⟨_, rfl⟩
    rw [← hx0] at d0 e0 HF
    rw [← hx1] at d1 e1 HF
    have b0 : x0 < 10 := by omega
    have b1 : x1 < 10 := by omega
    clear hx0 hx1
    have HO0 := HO
    have HW0 := Lib.hid (Gr.refl w v)
    clear HO
    go_enter Tryz.func127, Tryz.ntmps127
    go_wp2_with (at_builtin; refine wpList_append8 _ rfl _ _ rfl B _ _ (l) [48 + (x0 : Int)] rfl rfl (by exact (own_text HO0.out (by simp)).alloc _) (by exact rd_one _ _) (by have := HB.out; have := HW0.out.kp.size; simp; omega) (by have := HL.out; simp; omega) ?_)
    intro v1 w1 hO1 hg1 hn1
    have HW1 := Lib.hid (HW0.out.trans (Gr.app hg1 hn1))
    have HO1 := Lib.hid hO1
    clear hO1 hg1 hn1
    go_wp2_with (at_builtin; refine wpList_append8 _ rfl _ _ rfl B _ _ (l ++ [48 + (x0 : Int)]) [48 + (x1 : Int)] rfl rfl (by exact (own_text HO1.out (by simp)).alloc _) (by exact rd_one _ _) (by have := HB.out; have := HW1.out.kp.size; simp; omega) (by have := HL.out; simp; omega) ?_)
    intro v2 w2 hO2 hg2 hn2
    have HW2 := Lib.hid (HW1.out.trans (Gr.app hg2 hn2))
    have HO2 := Lib.hid hO2
    clear hO2 hg2 hn2
    go_wp2
    go_ret
    exact ⟨v2, rfl, own_text HO2.out (by simp [HF.out]), HW2.out⟩
  · have d0 := dig (n / 100) (by omega)
    have d1 := dig (n / 10 % 10) (by omega)
    have d2 := dig (n % 10) (by omega)
    have e0 : (n : Int) / 100 = ((n / 100 : Nat) : Int) := by omega
    have e1 : (n : Int) / 10 % 10 = ((n / 10 % 10 : Nat) : Int) := by omega
    have e2 : (n : Int) % 10 = ((n % 10 : Nat) : Int) := by omega
    have HF := Lib.hid (figs_3 n (by omega) (by omega))
    obtain ⟨x0, hx0⟩ : ∃ x, x = n / 100 := ⟨_, rfl⟩
    obtain ⟨x1, hx1⟩ : ∃ x, x = n / 10 % 10 := ⟨_, rfl⟩
    obtain ⟨x2, hx2⟩ : ∃ x, x = n % 10 := ⟨_, rfl⟩
    rw [← hx0] at d0 e0 HF
    rw [← hx1] at d1 e1 HF
    rw [← hx2] at d2 e2 HF
    have b0 : x0 < 10 := by omega
    have b1 : x1 < 10 := by omega
    have b2 : x2 < 10 := by omega
    clear hx0 hx1 hx2
    have HO0 := HO
    have HW0 := Lib.hid (Gr.refl w v)
    clear HO
    go_enter Tryz.func127, Tryz.ntmps127
    go_wp2_with (at_builtin; refine wpList_append8 _ rfl _ _ rfl B _ _ (l) [48 + (x0 : Int)] rfl rfl (by exact (own_text HO0.out (by simp)).alloc _) (by exact rd_one _ _) (by have := HB.out; have := HW0.out.kp.size; simp; omega) (by have := HL.out; simp; omega) ?_)
    intro v1 w1 hO1 hg1 hn1
    have HW1 := Lib.hid (HW0.out.trans (Gr.app hg1 hn1))
    have HO1 := Lib.hid hO1
    clear hO1 hg1 hn1
    go_wp2_with (at_builtin; refine wpList_append8 _ rfl _ _ rfl B _ _ (l ++ [48 + (x0 : Int)]) [48 + (x1 : Int)] rfl rfl (by exact (own_text HO1.out (by simp)).alloc _) (by exact rd_one _ _) (by have := HB.out; have := HW1.out.kp.size; simp; omega) (by have := HL.out; simp; omega) ?_)
    intro v2 w2 hO2 hg2 hn2
    have HW2 := Lib.hid (HW1.out.trans (Gr.app hg2 hn2))
    have HO2 := Lib.hid hO2
    clear hO2 hg2 hn2
    go_wp2_with (at_builtin; refine wpList_append8 _ rfl _ _ rfl B _ _ (l ++ [48 + (x0 : Int)] ++ [48 + (x1 : Int)]) [48 + (x2 : Int)] rfl rfl (by exact (own_text HO2.out (by simp)).alloc _) (by exact rd_one _ _) (by have := HB.out; have := HW2.out.kp.size; simp; omega) (by have := HL.out; simp; omega) ?_)
    intro v3 w3 hO3 hg3 hn3
    have HW3 := Lib.hid (HW2.out.trans (Gr.app hg3 hn3))
    have HO3 := Lib.hid hO3
    clear hO3 hg3 hn3
    go_wp2
    go_ret
    exact ⟨v3, rfl, own_text HO3.out (by simp [HF.out]), HW3.out⟩
set_option maxHeartbeats 4000000 in
set_option maxRecDepth 100000 in
theorem v4_0 (a b c d : Nat) (z : Addr) (w : World) (ha : a < 256) (hb : b < 256) (hc : c < 256) (hd : d < 256) :
    Calls Tryz.prog 128 #[ipV z a b c d, .int .u8 0] w fun e w' => e = .returned (.int .u8 a) ∧ Below w.heap.size w w' := by
  have hs : IntKind.u8.wrap (ipNum a b c d / 16777216) = a := by rw [IntKind.wrap_u8]; unfold ipNum; omega
  have hs2 : (ipNum a b c d / 16777216) % 256 = a := by unfold ipNum; omega
  simp only [ipV]
  go_enter Tryz.func128, Tryz.ntmps128
  go_wp2
  go_ret
  exact ⟨by first | rfl | simp [hs] | simp [hs2], (Below.refl _ _).alloc (Nat.le_refl _) _⟩
set_option maxHeartbeats 4000000 in
set_option maxRecDepth 100000 in
theorem v4_1 (a b c d : Nat) (z : Addr) (w : World) (ha : a < 256) (hb : b < 256) (hc : c < 256) (hd : d < 256) :
    Calls Tryz.prog 128 #[ipV z a b c d, .int .u8 1] w fun e w' => e = .returned (.int .u8 b) ∧ Below w.heap.size w w' := by
  have hs : IntKind.u8.wrap (ipNum a b c d / 65536) = b := by rw [IntKind.wrap_u8]; unfold ipNum; omega
  have hs2 : (ipNum a b c d / 65536) % 256 = b := by unfold ipNum; omega
  simp only [ipV]
  go_enter Tryz.func128, Tryz.ntmps128
  go_wp2
  go_ret
  exact ⟨by first | rfl | simp [hs] | simp [hs2], (Below.refl _ _).alloc (Nat.le_refl _) _⟩
set_option maxHeartbeats 4000000 in
set_option maxRecDepth 100000 in
theorem v4_2 (a b c d : Nat) (z : Addr) (w : World) (ha : a < 256) (hb : b < 256) (hc : c < 256) (hd : d < 256) :
    Calls Tryz.prog 128 #[ipV z a b c d, .int .u8 2] w fun e w' => e = .returned (.int .u8 c) ∧ Below w.heap.size w w' := by
  have hs : IntKind.u8.wrap (ipNum a b c d / 256) = c := by rw [IntKind.wrap_u8]; unfold ipNum; omega
  have hs2 : (ipNum a b c d / 256) % 256 = c := by unfold ipNum; omega
  simp only [ipV]
  go_enter Tryz.func128, Tryz.ntmps128
  go_wp2
  go_ret
  exact ⟨by first | rfl | simp [hs] | simp [hs2], (Below.refl _ _).alloc (Nat.le_refl _) _⟩
set_option maxHeartbeats 4000000 in
set_option maxRecDepth 100000 in
theorem v4_3 (a b c d : Nat) (z : Addr) (w : World) (ha : a < 256) (hb : b < 256) (hc : c < 256) (hd : d < 256) :
    Calls Tryz.prog 128 #[ipV z a b c d, .int .u8 3] w fun e w' => e = .returned (.int .u8 d) ∧ Below w.heap.size w w' := by
  have hs : IntKind.u8.wrap (ipNum a b c d) = d := by rw [IntKind.wrap_u8]; unfold ipNum; omega
  have hs2 : (ipNum a b c d) % 256 = d := by unfold ipNum; omega
  simp only [ipV]
  go_enter Tryz.func128, Tryz.ntmps128
  go_wp2
  go_ret
  exact ⟨by first | rfl | simp [hs] | simp [hs2], (Below.refl _ _).alloc (Nat.le_refl _) _⟩
/-- The figures of an address, points between. -/
def ipT (a b c d : Nat) : List Int := figs a ++ [46] ++ figs b ++ [46] ++ figs c ++ [46] ++ figs d
theorem figs_byte (n : Nat) (h : n < 256) : (figs n).length ≤ 3 := by
  by_cases h1 : n < 10
  · rw [figs_1 n h1]; simp
  by_cases h2 : n < 100
  · rw [figs_2 n (by omega) h2]; simp
  · rw [figs_3 n (by omega) (by omega)]; simp
end Go.Proofs.YtpfmcdhmboclhaaGreatDoor
