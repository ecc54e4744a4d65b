/-
  CONTRACT: zzCanonDecimal: a text of shortInt's domain in its canonical form, in new memory.
-/
import Derived.Test.Qxb6603223aModsItoa
namespace Go.Proofs.Qxb6603223aMods
open Go.RowKit
set_option linter.unusedVariables false

theorem lead_in (l : List Int) (k : Nat) (h : k < lead l) : k + 1 < l.length ∧ l.getD k 0 = 48 := by
  match l with
  | [] => simp [lead] at h
  | [c] => simp [lead] at h
  | c :: d :: l =>
    unfold lead at h
    split at h
    · rename_i e
      match k with
      | 0 => exact ⟨by simp, by simpa using e⟩
      | k + 1 =>
        have := lead_in (d :: l) k (by omega)
        exact ⟨by simp at this ⊢; omega, by simpa using this.2⟩
    · omega

theorem lead_stop (l : List Int) (h : lead l + 1 < l.length) : ¬ l.getD (lead l) 0 = 48 := by
  have h1 := head_lead l
  rcases h1 with h1 | h1
  · rw [List.length_drop] at h1; omega
  · intro e
    apply h1
    rw [List.head?_drop]
    have hlt : lead l < l.length := by omega
    have e2 : l.getD (lead l) 0 = l[lead l] := by simp [List.getD, hlt]
    rw [List.getElem?_eq_getElem hlt, ← e2, e]

/-- What is left of the digits, its cells. -/
theorem rest_cells {w : World} {b o n k : Nat} {d : List Int} (hl : d.length = n) (hcell : ∀ i, i < n → w.cell? ⟨b, o + i, none⟩ = some (.int .u8 (d.getD i 0))) :
    ∀ i, i < (d.drop k).length → w.cell? ⟨b, o + k + i, none⟩ = some (.int .u8 ((d.drop k).getD i 0)) := by
  intro i hi
  rw [List.length_drop] at hi
  rw [Nat.add_assoc, hcell (k + i) (by omega)]
  simp [List.getD]

theorem rest_one {d : List Int} {k : Nat} (h : d.length = k + 1) : d.drop k = [d.getD k 0] := by
  have hlt : k < d.length := by omega
  have e : d.getD k 0 = d[k] := by simp [List.getD, hlt]
  rw [e, List.drop_eq_getElem_cons hlt, List.drop_of_length_le (by omega)]

theorem canon_false (d : List Int) : canon false d = d.drop (lead d) := by simp [canon]
theorem canon_zero (d : List Int) (h : d.drop (lead d) = [48]) : canon true d = d.drop (lead d) := by simp [canon, h]
theorem canon_minus (d : List Int) (h : ¬ d.drop (lead d) = [48]) : canon true d = 45 :: d.drop (lead d) := by simp [canon, h]

set_option maxHeartbeats 1000000 in
theorem canon_pos (b off n c : Nat) (d : List Int) (w : World) (hl : d.length = n) (h1 : 0 < n) (hn : n ≤ 1048576) (hc : n ≤ c) (hdig : ∀ x ∈ d, 48 ≤ x ∧ x ≤ 57)
    (hcell : ∀ i, i < n → w.cell? ⟨b, off + i, none⟩ = some (.int .u8 (d.getD i 0))) :
    Calls Trym.prog 23 #[.slice (some ⟨b, off, none⟩) n c] w fun e w' => NewBytes w (canon false d) e w' := by
  obtain ⟨i0, hi, hz0, hz1, hz2⟩ := info_parts info5
  obtain ⟨y0, hy0⟩ : ∃ x, x = d.getD 0 0 := ⟨_, rfl⟩
  have c0 : w.cell? ⟨b, off, none⟩ = some (.int .u8 y0) := by rw [hy0]; exact hcell 0 h1
  have hb0 : 48 ≤ y0 := by rw [hy0]; exact (hdig _ (by
    have : d.getD 0 0 = d[0]'(by omega) := by simp [List.getD, show 0 < d.length by omega]
    rw [this]; exact List.getElem_mem _)).1
  clear hy0
  have hbw : b < w.heap.size := World.block_lt_of_cell? _ _ (hcell 0 h1)
  have HL : Hid (d.length = n) := hl
  have hld := lead_lt d (by intro e; rw [e] at hl; simp at hl; omega)
  rw [hl] at hld
  have HC : Hid (∀ i, i < n → w.cell? ⟨b, off + i, none⟩ = some (.int .u8 (d.getD i 0))) := hcell
  clear hl hcell hdig
  go_enter Trym.func23, Trym.ntmps23
  go_wp2
  go_loop [5] (fun i => ∃ k : Nat, k ≤ lead d ∧ i = .int .i64 k) (fun i => lead d - (intOf i).toNat)
  case atStart => exact ⟨0, by omega, rfl⟩
  case round =>
    obtain ⟨k, hk, rfl⟩ := hrel
    by_cases hlt : k < lead d
    · have hin := lead_in d k hlt
      rw [HL.out] at hin
      have g0 : w.cell? ⟨b, off + k, none⟩ = some (.int .u8 48) := by rw [← hin.2]; exact HC.out k (by omega)
      have hk1 : k + 1 < n := hin.1
      clear hin
      go_wp2
      go_round
      case rel => exact ⟨k + 1, by omega, by go_num⟩
      case measure => simp [intOf]; omega
    · have hkl : k = lead d := by omega
      obtain ⟨x, hx⟩ : ∃ x, x = d.getD k 0 := ⟨_, rfl⟩
      have g0 : w.cell? ⟨b, off + k, none⟩ = some (.int .u8 x) := by rw [hx]; exact HC.out k (by omega)
      have HS : Hid (lead d + 1 < d.length → ¬ d.getD (lead d) 0 = 48) := lead_stop d
      have HK : Hid (lead d = k) := hkl.symm
      have HX : Hid (x = d.getD k 0) := hx
      clear hx hk hlt
      obtain ⟨m, hm⟩ : ∃ m, n = k + m := ⟨n - k, by omega⟩
      have hm0 : 0 < m := by omega
      rw [← hkl] at hld
      clear hkl
      subst hm
      have hM : (d.drop k).length = m := by rw [List.length_drop, HL.out]; exact Nat.add_sub_cancel_left k m
      have hRc : ∀ i, i < (d.drop k).length → w.cell? ⟨b, off + k + i, none⟩ = some (.int .u8 ((d.drop k).getD i 0)) := rest_cells HL.out HC.out
      obtain ⟨R, hR⟩ : ∃ R, R = d.drop k := ⟨_, rfl⟩
      rw [← hR] at hM hRc
      have HM : Hid (R.length = m) := hM
      have HR : Hid (∀ i, i < R.length → w.cell? ⟨b, off + k + i, none⟩ = some (.int .u8 (R.getD i 0))) := hRc
      have HRR : Hid (R = d.drop k) := hR
      clear hM hRc hR
      by_cases hm1 : m = 1
      · subst hm1
        have hE : d.drop k = [x] := by rw [HX.out]; exact rest_one HL.out
        by_cases hx48 : x = 48
        · have HE : Hid (canon false d = R) := by rw [HRR.out]; rw [← HK.out] at hE ⊢; exact canon_false d
          subst hx48
          clear hE
          go_wp2_with (at_make; refine wpList_make_own _ rfl _ _ 25 rfl w.heap.size 5 i0 (.int .u8 0) 1 Trym.underlying25 hi hz0 hz1 .i64 .i64 _ (1 + 1) rfl rfl (by omega) (by rw [hz2]; omega) (by unfold maxLen; omega) (Nat.le_refl _) ?_)
          intro w2 hown hgrow
          have HB2 : Hid (Buf w w2 w.heap.size (1 + 1) []) := buf_start hown hgrow
          clear hown hgrow
          have hT := src_cells (G := w.heap.size) hbw HR.out HB2.out.bel
          go_wp2_with (at_builtin; refine wpList_append_fits _ rfl (.tmp 49) (.tmp 50) 25 rfl w.heap.size 5 i0 1 Trym.underlying25 hi hz1 w.heap.size 0 (1 + 1) [] rfl HB2.out.own ⟨b, off + k, none⟩ 1 _ (R.map (Value.int .u8)) rfl (by rw [List.length_map, HM.out, Nat.mul_one]) hT (ints_oneCell _ _) (by omega) ?_)
          intro w4 hown4 hgrow4
          have HB4 : Hid (Buf w w4 w.heap.size (1 + 1) ([] ++ R)) := buf_append (n2 := 1) HB2.out (Below.refl _ _) HM.out.symm (by simp) hown4 hgrow4
          clear hown4 hgrow4 hT
          go_wp2
          go_ret
          rw [HE.out]
          exact newBytes_of (Below.refl _ _) (Nat.le_refl _) HB4.out HM.out.symm
        · have HE : Hid (canon false d = R) := by rw [HRR.out]; rw [← HK.out] at hE ⊢; exact canon_false d
          have hxb : (x == 48) = false := by simpa using hx48
          clear hE
          go_wp2_with (at_make; refine wpList_make_own _ rfl _ _ 25 rfl w.heap.size 5 i0 (.int .u8 0) 1 Trym.underlying25 hi hz0 hz1 .i64 .i64 _ (1 + 1) rfl rfl (by omega) (by rw [hz2]; omega) (by unfold maxLen; omega) (Nat.le_refl _) ?_)
          intro w2 hown hgrow
          have HB2 : Hid (Buf w w2 w.heap.size (1 + 1) []) := buf_start hown hgrow
          clear hown hgrow
          have hT := src_cells (G := w.heap.size) hbw HR.out HB2.out.bel
          go_wp2_with (at_builtin; refine wpList_append_fits _ rfl (.tmp 49) (.tmp 50) 25 rfl w.heap.size 5 i0 1 Trym.underlying25 hi hz1 w.heap.size 0 (1 + 1) [] rfl HB2.out.own ⟨b, off + k, none⟩ 1 _ (R.map (Value.int .u8)) rfl (by rw [List.length_map, HM.out, Nat.mul_one]) hT (ints_oneCell _ _) (by omega) ?_)
          intro w4 hown4 hgrow4
          have HB4 : Hid (Buf w w4 w.heap.size (1 + 1) ([] ++ R)) := buf_append (n2 := 1) HB2.out (Below.refl _ _) HM.out.symm (by simp) hown4 hgrow4
          clear hown4 hgrow4 hT
          go_wp2
          go_ret
          rw [HE.out]
          exact newBytes_of (Below.refl _ _) (Nat.le_refl _) HB4.out HM.out.symm
      · have HE : Hid (canon false d = R) := by rw [HRR.out, ← HK.out]; exact canon_false d
        have hx48 : ¬ x = 48 := by rw [HX.out, ← HK.out]; exact HS.out (by rw [HL.out, HK.out]; omega)
        have hxb : (x == 48) = false := by simpa using hx48
        have hm1b : ((m : Int) == 1) = false := by simp; omega
        have hm2 : 1 < m := by omega
        go_wp2_with (at_make; refine wpList_make_own _ rfl _ _ 25 rfl w.heap.size 5 i0 (.int .u8 0) 1 Trym.underlying25 hi hz0 hz1 .i64 .i64 _ (m + 1) rfl rfl (by omega) (by rw [hz2]; omega) (by unfold maxLen; omega) (Nat.le_refl _) ?_)
        intro w2 hown hgrow
        have HB2 : Hid (Buf w w2 w.heap.size (m + 1) []) := buf_start hown hgrow
        clear hown hgrow
        have hT := src_cells (G := w.heap.size) hbw HR.out HB2.out.bel
        go_wp2_with (at_builtin; refine wpList_append_fits _ rfl (.tmp 49) (.tmp 50) 25 rfl w.heap.size 5 i0 1 Trym.underlying25 hi hz1 w.heap.size 0 (m + 1) [] rfl HB2.out.own ⟨b, off + k, none⟩ m _ (R.map (Value.int .u8)) rfl (by rw [List.length_map, HM.out, Nat.mul_one]) hT (ints_oneCell _ _) (by omega) ?_)
        intro w4 hown4 hgrow4
        have HB4 : Hid (Buf w w4 w.heap.size (m + 1) ([] ++ R)) := buf_append (n2 := m) HB2.out (Below.refl _ _) HM.out.symm (by simp) hown4 hgrow4
        clear hown4 hgrow4 hT
        go_wp2
        go_ret
        rw [HE.out]
        exact newBytes_of (Below.refl _ _) (Nat.le_refl _) HB4.out HM.out.symm

set_option maxHeartbeats 1000000 in
theorem canon_neg (b off n c : Nat) (d : List Int) (w : World) (hl : d.length = n) (h1 : 0 < n) (hn : n ≤ 1048576) (hc : n + 1 ≤ c) (hdig : ∀ x ∈ d, 48 ≤ x ∧ x ≤ 57)
    (c0 : w.cell? ⟨b, off, none⟩ = some (.int .u8 45)) (hcell : ∀ i, i < n → w.cell? ⟨b, off + 1 + i, none⟩ = some (.int .u8 (d.getD i 0))) :
    Calls Trym.prog 23 #[.slice (some ⟨b, off, none⟩) (n + 1) c] w fun e w' => NewBytes w (canon true d) e w' := by
  obtain ⟨i0, hi, hz0, hz1, hz2⟩ := info_parts info5
  have hbw : b < w.heap.size := World.block_lt_of_cell? _ _ (hcell 0 h1)
  have HL : Hid (d.length = n) := hl
  have hld := lead_lt d (by intro e; rw [e] at hl; simp at hl; omega)
  rw [hl] at hld
  have HC : Hid (∀ i, i < n → w.cell? ⟨b, off + 1 + i, none⟩ = some (.int .u8 (d.getD i 0))) := hcell
  clear hl hcell hdig
  go_enter Trym.func23, Trym.ntmps23
  go_wp2
  go_loop [5] (fun i => ∃ k : Nat, k ≤ lead d ∧ i = .int .i64 k) (fun i => lead d - (intOf i).toNat)
  case atStart => exact ⟨0, by omega, rfl⟩
  case round =>
    obtain ⟨k, hk, rfl⟩ := hrel
    by_cases hlt : k < lead d
    · have hin := lead_in d k hlt
      rw [HL.out] at hin
      have g0 : w.cell? ⟨b, off + 1 + k, none⟩ = some (.int .u8 48) := by rw [← hin.2]; exact HC.out k (by omega)
      have hk1 : k + 1 < n := hin.1
      clear hin
      go_wp2
      go_round
      case rel => exact ⟨k + 1, by omega, by go_num⟩
      case measure => simp [intOf]; omega
    · have hkl : k = lead d := by omega
      obtain ⟨x, hx⟩ : ∃ x, x = d.getD k 0 := ⟨_, rfl⟩
      have g0 : w.cell? ⟨b, off + 1 + k, none⟩ = some (.int .u8 x) := by rw [hx]; exact HC.out k (by omega)
      have HS : Hid (lead d + 1 < d.length → ¬ d.getD (lead d) 0 = 48) := lead_stop d
      have HK : Hid (lead d = k) := hkl.symm
      have HX : Hid (x = d.getD k 0) := hx
      clear hx hk hlt
      obtain ⟨m, hm⟩ : ∃ m, n = k + m := ⟨n - k, by omega⟩
      have hm0 : 0 < m := by omega
      rw [← hkl] at hld
      clear hkl
      subst hm
      have hM : (d.drop k).length = m := by rw [List.length_drop, HL.out]; exact Nat.add_sub_cancel_left k m
      have hRc : ∀ i, i < (d.drop k).length → w.cell? ⟨b, off + 1 + k + i, none⟩ = some (.int .u8 ((d.drop k).getD i 0)) := rest_cells HL.out HC.out
      obtain ⟨R, hR⟩ : ∃ R, R = d.drop k := ⟨_, rfl⟩
      rw [← hR] at hM hRc
      have HM : Hid (R.length = m) := hM
      have HR : Hid (∀ i, i < R.length → w.cell? ⟨b, off + 1 + k + i, none⟩ = some (.int .u8 (R.getD i 0))) := hRc
      have HRR : Hid (R = d.drop k) := hR
      clear hM hRc hR
      by_cases hm1 : m = 1
      · subst hm1
        have hE : d.drop k = [x] := by rw [HX.out]; exact rest_one HL.out
        by_cases hx48 : x = 48
        · have HE : Hid (canon true d = R) := by rw [HRR.out]; rw [← HK.out] at hE ⊢; exact canon_zero d (by rw [hE, hx48])
          subst hx48
          clear hE
          go_wp2_with (at_make; refine wpList_make_own _ rfl _ _ 25 rfl w.heap.size 5 i0 (.int .u8 0) 1 Trym.underlying25 hi hz0 hz1 .i64 .i64 _ (1 + 1) rfl rfl (by omega) (by rw [hz2]; omega) (by unfold maxLen; omega) (Nat.le_refl _) ?_)
          intro w2 hown hgrow
          have HB2 : Hid (Buf w w2 w.heap.size (1 + 1) []) := buf_start hown hgrow
          clear hown hgrow
          have hT := src_cells (G := w.heap.size) hbw HR.out HB2.out.bel
          go_wp2_with (at_builtin; refine wpList_append_fits _ rfl (.tmp 49) (.tmp 50) 25 rfl w.heap.size 5 i0 1 Trym.underlying25 hi hz1 w.heap.size 0 (1 + 1) [] rfl HB2.out.own ⟨b, off + 1 + k, none⟩ 1 _ (R.map (Value.int .u8)) rfl (by rw [List.length_map, HM.out, Nat.mul_one]) hT (ints_oneCell _ _) (by omega) ?_)
          intro w4 hown4 hgrow4
          have HB4 : Hid (Buf w w4 w.heap.size (1 + 1) ([] ++ R)) := buf_append (n2 := 1) HB2.out (Below.refl _ _) HM.out.symm (by simp) hown4 hgrow4
          clear hown4 hgrow4 hT
          go_wp2
          go_ret
          rw [HE.out]
          exact newBytes_of (Below.refl _ _) (Nat.le_refl _) HB4.out HM.out.symm
        · have HE : Hid (canon true d = 45 :: R) := by rw [HRR.out]; rw [← HK.out] at hE ⊢; exact canon_minus d (by rw [hE]; simpa using hx48)
          have hxb : (x == 48) = false := by simpa using hx48
          clear hE
          go_wp2_with (at_make; refine wpList_make_own _ rfl _ _ 25 rfl w.heap.size 5 i0 (.int .u8 0) 1 Trym.underlying25 hi hz0 hz1 .i64 .i64 _ (1 + 1) rfl rfl (by omega) (by rw [hz2]; omega) (by unfold maxLen; omega) (Nat.le_refl _) ?_)
          intro w2 hown hgrow
          have HB2 : Hid (Buf w w2 w.heap.size (1 + 1) []) := buf_start hown hgrow
          clear hown hgrow
          go_wp2_with (at_builtin; refine wpList_append_fits _ rfl (.tmp 46) (.tmp 47) 25 rfl w.heap.size 5 i0 1 Trym.underlying25 hi hz1 w.heap.size 0 (1 + 1) [] rfl (HB2.out.own.alloc _) ⟨w2.heap.size, 0, none⟩ 1 1 (([45] : List Int).map (Value.int .u8)) rfl rfl (new_one _ _) (ints_oneCell _ _) (by omega) ?_)
          intro w3 hown3 hgrow3
          have HB3 : Hid (Buf w w3 w.heap.size (1 + 1) [45]) := buf_append (ys := [45]) HB2.out ((Below.refl _ _).alloc HB2.out.le _) rfl rfl hown3 hgrow3
          clear hown3 hgrow3
          have hT := src_cells (G := w.heap.size) hbw HR.out HB3.out.bel
          go_wp2_with (at_builtin; refine wpList_append_fits _ rfl (.tmp 49) (.tmp 50) 25 rfl w.heap.size 5 i0 1 Trym.underlying25 hi hz1 w.heap.size 1 (1 + 1) (([45] : List Int).map (Value.int .u8)) rfl HB3.out.own ⟨b, off + 1 + k, none⟩ 1 _ (R.map (Value.int .u8)) rfl (by rw [List.length_map, HM.out, Nat.mul_one]) hT (ints_oneCell _ _) (by omega) ?_)
          intro w4 hown4 hgrow4
          have HB4 : Hid (Buf w w4 w.heap.size (1 + 1) ([45] ++ R)) := buf_append (n2 := 1 + 1) HB3.out (Below.refl _ _) HM.out.symm (by simp) hown4 hgrow4
          clear hown4 hgrow4 hT
          go_wp2
          go_ret
          rw [HE.out]
          exact newBytes_of (Below.refl _ _) (Nat.le_refl _) HB4.out (by have h9 := HM.out; rw [List.length_cons]; omega)
      · have HE : Hid (canon true d = 45 :: R) := by rw [HRR.out, ← HK.out]; exact canon_minus d (by intro e; have h2 := congrArg List.length e; rw [List.length_drop, HL.out, HK.out] at h2; simp at h2; omega)
        have hx48 : ¬ x = 48 := by rw [HX.out, ← HK.out]; exact HS.out (by rw [HL.out, HK.out]; omega)
        have hxb : (x == 48) = false := by simpa using hx48
        have hm1b : ((m : Int) == 1) = false := by simp; omega
        have hm2 : 1 < m := by omega
        go_wp2_with (at_make; refine wpList_make_own _ rfl _ _ 25 rfl w.heap.size 5 i0 (.int .u8 0) 1 Trym.underlying25 hi hz0 hz1 .i64 .i64 _ (m + 1) rfl rfl (by omega) (by rw [hz2]; omega) (by unfold maxLen; omega) (Nat.le_refl _) ?_)
        intro w2 hown hgrow
        have HB2 : Hid (Buf w w2 w.heap.size (m + 1) []) := buf_start hown hgrow
        clear hown hgrow
        go_wp2_with (at_builtin; refine wpList_append_fits _ rfl (.tmp 46) (.tmp 47) 25 rfl w.heap.size 5 i0 1 Trym.underlying25 hi hz1 w.heap.size 0 (m + 1) [] rfl (HB2.out.own.alloc _) ⟨w2.heap.size, 0, none⟩ 1 1 (([45] : List Int).map (Value.int .u8)) rfl rfl (new_one _ _) (ints_oneCell _ _) (by omega) ?_)
        intro w3 hown3 hgrow3
        have HB3 : Hid (Buf w w3 w.heap.size (m + 1) [45]) := buf_append (ys := [45]) HB2.out ((Below.refl _ _).alloc HB2.out.le _) rfl rfl hown3 hgrow3
        clear hown3 hgrow3
        have hT := src_cells (G := w.heap.size) hbw HR.out HB3.out.bel
        go_wp2_with (at_builtin; refine wpList_append_fits _ rfl (.tmp 49) (.tmp 50) 25 rfl w.heap.size 5 i0 1 Trym.underlying25 hi hz1 w.heap.size 1 (m + 1) (([45] : List Int).map (Value.int .u8)) rfl HB3.out.own ⟨b, off + 1 + k, none⟩ m _ (R.map (Value.int .u8)) rfl (by rw [List.length_map, HM.out, Nat.mul_one]) hT (ints_oneCell _ _) (by omega) ?_)
        intro w4 hown4 hgrow4
        have HB4 : Hid (Buf w w4 w.heap.size (m + 1) ([45] ++ R)) := buf_append (n2 := 1 + m) HB3.out (Below.refl _ _) HM.out.symm (by simp) hown4 hgrow4
        clear hown4 hgrow4 hT
        go_wp2
        go_ret
        rw [HE.out]
        exact newBytes_of (Below.refl _ _) (Nat.le_refl _) HB4.out (by have h9 := HM.out; rw [List.length_cons]; omega)

end Go.Proofs.Qxb6603223aMods
