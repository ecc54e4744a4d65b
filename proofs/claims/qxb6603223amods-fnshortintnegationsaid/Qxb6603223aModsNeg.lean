/-
  THE WALK OF FnShortIntNegation.
-/
import Derived.Test.Qxb6603223aModsShort
import Derived.Test.Qxb6603223aModsBuf
namespace Go.Proofs.Qxb6603223aMods
open Go.RowKit
set_option linter.unusedVariables false

theorem hid_mk {p : Prop} (h : p) : Hid p := h

theorem neg_big (ao : Option Addr) (n c : Nat) (w : World) (h : 1048576 < n) :
    Calls Trym.prog 9 #[.slice ao n c] w fun e w' => e = .returned (.bool true) ∧ Below w.heap.size w w' := by
  go_enter Trym.func9, Trym.ntmps9
  go_wp2_with (go_at_call 24; refine (bytes24_no _ _ _ h _).mono ?_; rintro e w' ⟨rfl, rfl⟩)
  go_ret
  exact ⟨rfl, Below.refl _ _⟩

theorem neg_empty (ao : Option Addr) (c : Nat) (w : World) :
    Calls Trym.prog 9 #[.slice ao 0 c] w fun e w' => e = .returned (.bool true) ∧ Below w.heap.size w w' := by
  go_enter Trym.func9, Trym.ntmps9
  go_wp2_with (go_at_call 24; refine (bytes24_yes _ _ _ (by omega) _).mono ?_; rintro e w' ⟨rfl, rfl⟩)
  go_ret
  exact ⟨rfl, Below.refl _ _⟩

theorem all_dig (l : List Int) (n : Nat) (hl : l.length = n) (h : ∀ j, j < n → isDecB (l.getD j 0) = true) : ∀ x ∈ l, 48 ≤ x ∧ x ≤ 57 := by
  intro x hx
  obtain ⟨i, hi, rfl⟩ := List.getElem_of_mem hx
  have := isDecB_yes (h i (by omega))
  have e : l.getD i 0 = l[i] := by simp [List.getD, hi]
  rwa [e] at this
theorem dec_seen (l : List Int) (k : Nat) (h : ∀ j, j < k → isDecB (l.getD j 0) = true) (e : isDecB (l.getD k 0) = true) : ∀ j, j < k + 1 → isDecB (l.getD j 0) = true := by
  intro j hj
  by_cases ej : j = k
  · subst ej; exact e
  · exact h j (by omega)

set_option maxHeartbeats 1000000 in
theorem neg_good (b off n c : Nat) (l : List Int) (w : World) (hn : n ≤ 1048576) (h1 : 0 < n) (hc : n ≤ c) (hl : l.length = n) (hby : ∀ i, 0 ≤ l.getD i 0 ∧ l.getD i 0 ≤ 255)
    (hcell : ∀ i, i < n → w.cell? ⟨b, off + i, none⟩ = some (.int .u8 (l.getD i 0))) :
    Calls Trym.prog 9 #[.slice (some ⟨b, off, none⟩) n c] w fun e w' => e = .returned (.bool true) ∧ Below w.heap.size w w' := by
  obtain ⟨i0, hi, hz0, hz1, hz2⟩ := info_parts info5
  have HL : Hid (l.length = n) := hl
  have HC : Hid (∀ i, i < n → w.cell? ⟨b, off + i, none⟩ = some (.int .u8 (l.getD i 0))) := hcell
  clear hl hcell
  have hn0 : ((n : Int) == 0) = false := by simp; omega
  go_enter Trym.func9, Trym.ntmps9
  go_wp2_with (go_at_call 24; refine (bytes24_yes _ _ _ hn _).mono ?_; rintro e w0 ⟨rfl, rfl⟩)
  go_loop [3] (fun i => ∃ k : Nat, k ≤ n ∧ i = .int .i64 k ∧ ∀ j, j < k → isDecB (l.getD j 0) = true) (fun i => n - (intOf i).toNat)
  case atStart => exact ⟨0, by omega, rfl, fun j hj => by omega⟩
  case round =>
    obtain ⟨k, hk, rfl, hs⟩ := hrel
    have HS : Hid (∀ j, j < k → isDecB (l.getD j 0) = true) := hs
    clear hs
    by_cases hlt : k < n
    · obtain ⟨x, hx⟩ : ∃ x, x = l.getD k 0 := ⟨_, rfl⟩
      have hbx : 0 ≤ x ∧ x ≤ 255 := by rw [hx]; exact hby k
      have g0 : w0.cell? ⟨b, off + k, none⟩ = some (.int .u8 x) := by rw [hx]; exact HC.out k hlt
      have HX : Hid (x = l.getD k 0) := hx
      clear hx
      cases hd : isDecB x with
      | false =>
        go_wp2_with (go_at_call 25; refine (isDec_any _ hbx.1 hbx.2 _).mono ?_; rintro e w' ⟨rfl, rfl⟩)
        go_ret
        exact ⟨rfl, Below.refl _ _⟩
      | true =>
        go_wp2_with (go_at_call 25; refine (isDec_any _ hbx.1 hbx.2 _).mono ?_; rintro e w' ⟨rfl, rfl⟩)
        go_round
        case rel => exact ⟨k + 1, by omega, by go_num, dec_seen l k HS.out (by rw [← HX.out]; exact hd)⟩
        case measure => simp [intOf]; omega
    · obtain rfl : k = n := by omega
      have hdig := all_dig l k HL.out HS.out
      have HD : Hid (∀ x ∈ l, 48 ≤ x ∧ x ≤ 57) := hdig
      have HI : Hid (Inp w0 (some ⟨b, off, none⟩) k c l) := ⟨HL.out, hc, hby, .inr ⟨_, b, off, rfl, fun _ => rfl, HC.out⟩⟩
      clear hdig hby HS
      go_wp2_with (first | (go_at_call 14; refine (clone_pos _ _ _ l _ hn h1 HI.out).mono ?_; rintro e w1 ⟨rfl, hrow, hbel, -⟩) | (at_make; refine wpList_make_own _ rfl _ _ 25 rfl w1.heap.size 5 i0 (.int .u8 0) 1 Trym.underlying25 hi hz0 hz1 .i64 .i64 _ (k + 1) rfl rfl (by omega) ?b1 ?b2 ?b3 ?_))
      case b1 => rw [hz2]; omega
      case b2 => unfold maxLen; omega
      case b3 => exact Nat.le_refl _
      intro w2 hown hgrow
      have HB2 : Hid (Buf w1 w2 w1.heap.size (k + 1) []) := buf_start hown hgrow
      have HW : Hid (w1.rowIs w0.heap.size 5 k (fun i => .int .u8 (l.getD i 0)) ∧ Below w0.heap.size w0 w1) := ⟨hrow, hbel⟩
      clear hown hgrow hrow hbel
      go_wp2_with (at_builtin; refine wpList_append_fits _ rfl (.tmp 36) (.tmp 37) 25 rfl w1.heap.size 5 i0 1 Trym.underlying25 hi hz1 w1.heap.size 0 (k + 1) [] rfl (HB2.out.own.alloc _) ⟨w2.heap.size, 0, none⟩ 1 1 (([45] : List Int).map (Value.int .u8)) rfl rfl (new_one _ _) (ints_oneCell _ _) (by omega) ?_)
      intro w3 hown3 hgrow3
      have HB3 : Hid (Buf w1 w3 w1.heap.size (k + 1) [45]) := buf_append (ys := [45]) HB2.out ((Below.refl _ _).alloc HB2.out.le _) rfl rfl hown3 hgrow3
      clear hown3 hgrow3
      have hT := tail_cells (wr := w3) (ao := some ⟨w0.heap.size, 0, none⟩) HL.out (fun _ => rfl) (fun i h => HW.out.1.cell h) HB3.out.bel _ rfl
      go_wp2_with (at_builtin; refine wpList_append_fits _ rfl (.tmp 39) (.tmp 40) 25 rfl w1.heap.size 5 i0 1 Trym.underlying25 hi hz1 w1.heap.size 1 (k + 1) (([45] : List Int).map (Value.int .u8)) rfl HB3.out.own ⟨w0.heap.size, 0, none⟩ k k (l.map (Value.int .u8)) rfl ?hn hT (ints_oneCell _ _) (by omega) ?_)
      case hn => rw [List.length_map, HL.out, Nat.mul_one]
      intro w4 hown4 hgrow4
      have hB4 : Buf w1 w4 w1.heap.size (k + 1) ([45] ++ l) := buf_append HB3.out (Below.refl _ _) HL.out.symm rfl hown4 hgrow4
      clear hown4 hgrow4 hT
      have hc4 := buf_cell hB4
      have hcl : ∀ i, i < k → w4.cell? ⟨w0.heap.size, 0 + i, none⟩ = some (.int .u8 (l.getD i 0)) := fun i h => by
        have h2 := HW.out.1.cell h
        rw [Nat.zero_add, hB4.bel.cell (p := ⟨w0.heap.size, i, none⟩) (World.block_lt_of_cell? _ _ h2)]
        exact h2
      have hneg0 : w4.cell? ⟨w1.heap.size, 0, none⟩ = some (.int .u8 45) := hc4 0 (by simp)
      have hneg : ∀ i, i < k → w4.cell? ⟨w1.heap.size, 0 + 1 + i, none⟩ = some (.int .u8 (l.getD i 0)) := fun i h => by
        have h2 := hc4 (1 + i) (by rw [List.length_append, HL.out]; simp; omega)
        have h3 := getD_right [45] l i
        rw [show (0 + 1 + i) = 0 + (1 + i) by omega, h2]
        exact congrArg (fun x => some (Value.int .u8 x)) h3
      have HBL : Hid (Below w0.heap.size w0 w4) := HW.out.2.trans (hB4.bel.mono HW.out.2.size)
      clear hB4 hc4
      obtain ⟨D, hD⟩ : ∃ D, D = dec l := ⟨_, rfl⟩
      have P1 := fun wx (h : ∀ i, i < k → wx.cell? ⟨w0.heap.size, 0 + i, none⟩ = some (.int .u8 (l.getD i 0))) => zzshort_pos w0.heap.size 0 k k l wx hn HL.out h1 HD.out h
      have P2 := fun wx h0 (h : ∀ i, i < k → wx.cell? ⟨w1.heap.size, 0 + 1 + i, none⟩ = some (.int .u8 (l.getD i 0))) => zzshort_neg w1.heap.size 0 k (k + 1) l wx hn HL.out h1 (Nat.le_refl _) HD.out h0 h
      rw [← hD] at P1 P2
      by_cases h18 : k ≤ 18
      · have hb : 0 ≤ D ∧ D < 1000000000000000000 := by rw [hD]; exact dec_lt18 l HD.out (by rw [HL.out]; exact h18)
        have e1 : valN k D = D := by simp [valN, h18]
        have e2 : valN k (-D) = -D := by simp [valN, h18]
        have e3 : okN k = true := by simp [okN, h18]
        have hd18 : decide ((k : Int) ≤ 18) = true := decide_eq_true (by omega)
        rw [e1, e3] at P1
        rw [e2, e3] at P2
        have HP1 := hid_mk P1
        have HP2 := hid_mk P2
        clear P1 P2 e1 e2 e3 hD
        go_wp2_with fail
        refine (HP1.out _ hcl).mono ?_
        rintro e w5 ⟨rfl, rfl⟩
        go_wp2_with fail
        rw [Nat.add_comm 1 k]
        refine (HP2.out _ hneg0 hneg).mono ?_
        rintro e w6 ⟨rfl, rfl⟩
        clear hcl hneg0 hneg
        go_wp2
        go_ret
        exact ⟨rfl, HBL.out⟩
      · have e1 : valN k D = 0 := by simp [valN, h18]
        have e2 : valN k (-D) = 0 := by simp [valN, h18]
        have e3 : okN k = false := by simp [okN]; omega
        have hd18 : decide ((k : Int) ≤ 18) = false := decide_eq_false (by omega)
        rw [e1, e3] at P1
        rw [e2, e3] at P2
        have HP1 := hid_mk P1
        have HP2 := hid_mk P2
        clear P1 P2 e1 e2 e3 hD
        go_wp2_with fail
        refine (HP1.out _ hcl).mono ?_
        rintro e w5 ⟨rfl, rfl⟩
        go_wp2_with fail
        rw [Nat.add_comm 1 k]
        refine (HP2.out _ hneg0 hneg).mono ?_
        rintro e w6 ⟨rfl, rfl⟩
        clear hcl hneg0 hneg
        go_wp2
        go_ret
        exact ⟨rfl, HBL.out⟩

theorem neg_walk (ao : Option Addr) (n c : Nat) (l : List Int) (w : World) (hi : Inp w ao n c l) :
    Calls Trym.prog 9 #[.slice ao n c] w fun e w' => e = .returned (.bool true) ∧ Below w.heap.size w w' := by
  by_cases hb : n ≤ 1048576
  · by_cases h0 : n = 0
    · subst h0
      exact neg_empty ao c w
    · obtain ⟨hl, hnc, hby, ⟨rfl, rfl, rfl⟩ | ⟨x, b, off, rfl, hx, hcell⟩⟩ := hi
      · exact absurd rfl h0
      · obtain rfl := hx (by omega)
        exact neg_good b off n c l w hb (by omega) hnc hl hby hcell
  · exact neg_big ao n c w (by omega)

end Go.Proofs.Qxb6603223aMods
