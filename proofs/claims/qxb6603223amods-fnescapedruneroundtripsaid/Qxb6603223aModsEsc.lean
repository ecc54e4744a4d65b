/-
  CONTRACTS: escapedRune and its exported alias.
-/
import Derived.Test.Qxb6603223aModsHex
namespace Go.Proofs.Qxb6603223aMods
open Go.RowKit
set_option linter.unusedVariables false

/-- What the first k of the four hex digits behind the backslash and the u amount to. -/
def escA (l : List Int) : Nat → Int
  | 0 => 0
  | k + 1 => escA l k * 16 + hexv (l.getD (2 + k) 0)

/-- escapedRune of a text of n bytes. -/
def escR (n : Nat) (l : List Int) : Int :=
  if 6 ≤ n ∧ l.getD 0 0 = 92 ∧ l.getD 1 0 = 117 ∧ 0 ≤ hexv (l.getD 2 0) ∧ 0 ≤ hexv (l.getD 3 0) ∧ 0 ≤ hexv (l.getD 4 0) ∧ 0 ≤ hexv (l.getD 5 0) then escA l 4 else -1

theorem i32_or4 (x y : Int) (h0 : 0 ≤ x) (h1 : x % 16 = 0) (h2 : x < 2147483648) (h3 : 0 ≤ y) (h4 : y < 16) : bits .or .i32 x y = x + y :=
  bits_join .i32 31 (by decide) wraps_i32 4 x y h0 h1 h2 h3 h4 (by omega)

theorem escR_short (n : Nat) (l : List Int) (h : n < 6) : escR n l = -1 := by
  unfold escR; rw [if_neg (by omega)]

theorem esc_short (ao : Option Addr) (n c : Nat) (w : World) (h : n < 6) :
    Calls Trym.prog 27 #[.slice ao n c] w fun e w' => e = .returned (.int .i32 (-1)) ∧ w' = w := by
  go_enter Trym.func27, Trym.ntmps27
  go_wp2
  go_ret
  exact ⟨rfl, rfl⟩

theorem esc_head (b off n c : Nat) (x0 x1 : Int) (w : World) (h : 6 ≤ n) (hc : n ≤ c) (hbad : ¬ (x0 = 92 ∧ x1 = 117))
    (c0 : w.cell? ⟨b, off, none⟩ = some (.int .u8 x0)) (c1 : w.cell? ⟨b, off + 1, none⟩ = some (.int .u8 x1)) :
    Calls Trym.prog 27 #[.slice (some ⟨b, off, none⟩) n c] w fun e w' => e = .returned (.int .i32 (-1)) ∧ w' = w := by
  by_cases e0 : x0 = 92
  · have e1 : ¬ x1 = 117 := fun e => hbad ⟨e0, e⟩
    have e1b : (x1 != 117) = true := by simpa using e1
    have e0b : (x0 != 92) = false := by simpa using e0
    clear hbad e0
    go_enter Trym.func27, Trym.ntmps27
    go_wp2
    go_ret
    exact ⟨rfl, rfl⟩
  · have e0b : (x0 != 92) = true := by simpa using e0
    go_enter Trym.func27, Trym.ntmps27
    go_wp2
    go_ret
    exact ⟨rfl, rfl⟩

theorem escA_bd (l : List Int) (k : Nat) (h : ∀ j, j < k → 0 ≤ hexv (l.getD (2 + j) 0)) (hk : k ≤ 4) : 0 ≤ escA l k ∧ escA l k < 65536 ∧ (k ≤ 3 → escA l k < 4096) := by
  have hb := fun j => hexv_bd (l.getD (2 + j) 0)
  have b0 := hb 0
  have b1 := hb 1
  have b2 := hb 2
  have b3 := hb 3
  match k, hk with
  | 0, _ => simp [escA]
  | 1, _ => have := h 0 (by omega); simp only [escA] at *; omega
  | 2, _ => have := h 0 (by omega); have := h 1 (by omega); simp only [escA] at *; omega
  | 3, _ => have := h 0 (by omega); have := h 1 (by omega); have := h 2 (by omega); simp only [escA] at *; omega
  | 4, _ => have := h 0 (by omega); have := h 1 (by omega); have := h 2 (by omega); have := h 3 (by omega); simp only [escA] at *; omega

theorem escR_good (n : Nat) (l : List Int) (h : 6 ≤ n) (h0 : l.getD 0 0 = 92) (h1 : l.getD 1 0 = 117) (hd : ∀ j, j < 4 → 0 ≤ hexv (l.getD (2 + j) 0)) : escA l 4 = escR n l := by
  unfold escR
  rw [if_pos ⟨h, h0, h1, hd 0 (by omega), hd 1 (by omega), hd 2 (by omega), hd 3 (by omega)⟩]
theorem escR_bad (n : Nat) (l : List Int) (k : Nat) (hk : k < 4) (hd : hexv (l.getD (2 + k) 0) < 0) : -1 = escR n l := by
  unfold escR
  rw [if_neg]
  rintro ⟨_, _, _, a, b, c, d⟩
  match k, hk with
  | 0, _ => exact absurd a (Int.not_le.2 hd)
  | 1, _ => exact absurd b (Int.not_le.2 hd)
  | 2, _ => exact absurd c (Int.not_le.2 hd)
  | 3, _ => exact absurd d (Int.not_le.2 hd)
theorem escR_head (n : Nat) (l : List Int) (h : ¬ (l.getD 0 0 = 92 ∧ l.getD 1 0 = 117)) : escR n l = -1 := by
  unfold escR
  rw [if_neg]
  rintro ⟨_, a, b, _⟩
  exact h ⟨a, b⟩

theorem dig_step (l : List Int) (k : Nat) (h : ∀ j, j < k → 0 ≤ hexv (l.getD (2 + j) 0)) (e : 0 ≤ hexv (l.getD (2 + k) 0)) : ∀ j, j < k + 1 → 0 ≤ hexv (l.getD (2 + j) 0) := by
  intro j hj
  by_cases ej : j = k
  · subst ej; exact e
  · exact h j (by omega)

set_option maxHeartbeats 400000 in
theorem esc_good (b off n c : Nat) (l : List Int) (w : World) (h : 6 ≤ n) (hc : n ≤ c) (h0 : l.getD 0 0 = 92) (h1 : l.getD 1 0 = 117)
    (hcell : ∀ i, i < n → w.cell? ⟨b, off + i, none⟩ = some (.int .u8 (l.getD i 0))) (hby : ∀ i, 0 ≤ l.getD i 0 ∧ l.getD i 0 ≤ 255) :
    Calls Trym.prog 27 #[.slice (some ⟨b, off, none⟩) n c] w fun e w' => e = .returned (.int .i32 (escR n l)) ∧ w' = w := by
  have c0 : w.cell? ⟨b, off, none⟩ = some (.int .u8 92) := by rw [← h0]; exact hcell 0 (by omega)
  have c1 : w.cell? ⟨b, off + 1, none⟩ = some (.int .u8 117) := by rw [← h1]; exact hcell 1 (by omega)
  have H0 : Hid (l.getD 0 0 = 92) := h0
  have H1 : Hid (l.getD 1 0 = 117) := h1
  clear h0 h1
  go_enter Trym.func27, Trym.ntmps27
  go_wp2
  go_loop [3, 25] (fun r i => ∃ k : Nat, k ≤ 4 ∧ i = .int .i64 k ∧ r = .int .i32 (escA l k) ∧ ∀ j, j < k → 0 ≤ hexv (l.getD (2 + j) 0)) (fun _ i => 4 - (intOf i).toNat)
  case atStart => exact ⟨0, by omega, rfl, rfl, fun j hj => by omega⟩
  case round =>
    obtain ⟨k, hk, rfl, rfl, hd⟩ := hrel
    have hbd := escA_bd l k hd hk
    by_cases hlt : k < 4
    · obtain ⟨x, hx⟩ : ∃ x, x = l.getD (2 + k) 0 := ⟨_, rfl⟩
      have hbx : 0 ≤ x ∧ x ≤ 255 := by rw [hx]; exact hby (2 + k)
      have g0 : w.cell? ⟨b, off + 2 + k, none⟩ = some (.int .u8 x) := by rw [hx, Nat.add_assoc]; exact hcell (2 + k) (by omega)
      have HX : Hid (x = l.getD (2 + k) 0) := hx
      clear hx hcell
      have hvb := hexv_bd x
      obtain ⟨A, hA⟩ : ∃ A, A = escA l k := ⟨_, rfl⟩
      have HA : Hid (A = escA l k) := hA
      rw [← hA] at hbd ⊢
      clear hA
      have hb1 := hbd.1
      have hb2 := hbd.2.2 (by omega)
      clear hbd
      by_cases hneg : hexv x < 0
      · have hR := escR_bad n l k hlt (by rw [← HX.out]; exact hneg)
        have HR : Hid (-1 = escR n l) := hR
        clear hR
        go_wp2_with (go_at_call 26; refine (hexDigit_any _ hbx.1 hbx.2 _).mono ?_; rintro e w' ⟨rfl, rfl⟩)
        go_ret
        exact ⟨ret_int HR.out, rfl⟩
      · have hnn : 0 ≤ hexv x := by omega
        have hor := i32_or4 (A * 16) (hexv x) (by omega) (by omega) (by omega) hnn (by omega)
        go_wp2_with (go_at_call 26; refine (hexDigit_any _ hbx.1 hbx.2 _).mono ?_; rintro e w' ⟨rfl, rfl⟩)
        go_round
        case rel => exact ⟨k + 1, by omega, by go_num, by rw [escA, ← HA.out, ← HX.out], dig_step l k hd (by rw [← HX.out]; exact hnn)⟩
        case measure => simp [intOf]; omega
    · obtain rfl : k = 4 := by omega
      have HR : Hid (escA l 4 = escR n l) := escR_good n l h H0.out H1.out hd
      go_wp2
      go_ret
      exact ⟨ret_int HR.out, rfl⟩

/-- escapedRune, at every text. -/
theorem esc_any (ao : Option Addr) (b off n c : Nat) (l : List Int) (w : World) (hao : 0 < n → ao = some ⟨b, off, none⟩) (hc : n ≤ c)
    (hcell : ∀ i, i < n → w.cell? ⟨b, off + i, none⟩ = some (.int .u8 (l.getD i 0))) (hby : ∀ i, 0 ≤ l.getD i 0 ∧ l.getD i 0 ≤ 255) :
    Calls Trym.prog 27 #[.slice ao n c] w fun e w' => e = .returned (.int .i32 (escR n l)) ∧ w' = w := by
  by_cases h : n < 6
  · rw [escR_short n l h]
    exact esc_short ao n c w h
  · obtain rfl := hao (by omega)
    by_cases hh : l.getD 0 0 = 92 ∧ l.getD 1 0 = 117
    · exact esc_good b off n c l w (by omega) hc hh.1 hh.2 hcell hby
    · rw [escR_head n l hh]
      exact esc_head b off n c _ _ w (by omega) hc hh (hcell 0 (by omega)) (hcell 1 (by omega))

theorem zzesc_any (ao : Option Addr) (b off n c : Nat) (l : List Int) (w : World) (hao : 0 < n → ao = some ⟨b, off, none⟩) (hc : n ≤ c)
    (hcell : ∀ i, i < n → w.cell? ⟨b, off + i, none⟩ = some (.int .u8 (l.getD i 0))) (hby : ∀ i, 0 ≤ l.getD i 0 ∧ l.getD i 0 ≤ 255) :
    Calls Trym.prog 15 #[.slice ao n c] w fun e w' => e = .returned (.int .i32 (escR n l)) ∧ w' = w := by
  go_enter Trym.func15, Trym.ntmps15
  go_wp2_with (go_at_call 27; refine (esc_any _ b off _ _ l _ hao hc hcell hby).mono ?_; rintro e w' ⟨rfl, rfl⟩)
  go_ret
  exact ⟨rfl, rfl⟩

/-- Only the first six bytes are looked at. -/
theorem escR_six (n : Nat) (l : List Int) (h : 6 ≤ n) : escR n l = escR 6 l := by
  unfold escR
  simp [h]

end Go.Proofs.Qxb6603223aMods
