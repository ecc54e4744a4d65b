/-
  CONTRACTS: zzBytesEqual at two slices that hold the same bytes; zzShortIntDomain.
-/
import Derived.Test.Qxb6603223aModsShort
import Derived.Deep.QuietTactic
import Derived.BigQuiet
namespace Go.Proofs.Qxb6603223aMods
open Go.RowKit
set_option linter.unusedVariables false

theorem eq_same (g1 o1 c1 g2 o2 c2 n : Nat) (L : List Int) (w : World) (hn : n ≤ 1048577) (h1 : ∀ i, i < n → w.cell? ⟨g1, o1 + i, none⟩ = some (.int .u8 (L.getD i 0))) (h2 : ∀ i, i < n → w.cell? ⟨g2, o2 + i, none⟩ = some (.int .u8 (L.getD i 0))) :
    Calls Trym.prog 21 #[.slice (some ⟨g1, o1, none⟩) n c1, .slice (some ⟨g2, o2, none⟩) n c2] w fun e w' => e = .returned (.bool true) ∧ ∃ q, w' = w.drewN q := by
  go_enter Trym.func21, Trym.ntmps21
  go_wp2
  go_loopw [5] (fun i wr => ∃ k q : Nat, k ≤ n ∧ i = .int .i64 k ∧ wr = w.drewN q) (fun i _ => n - (intOf i).toNat)
  case atStart => exact ⟨0, 0, by omega, rfl, rfl⟩
  case round =>
    obtain ⟨k, q, hk, rfl, rfl⟩ := hrel
    by_cases hlt : k < n
    · obtain ⟨x, hx⟩ : ∃ x, x = L.getD k 0 := ⟨_, rfl⟩
      have g1' : w.cell? ⟨g1, o1 + k, none⟩ = some (.int .u8 x) := by rw [hx]; exact h1 k hlt
      have g2' : w.cell? ⟨g2, o2 + k, none⟩ = some (.int .u8 x) := by rw [hx]; exact h2 k hlt
      have hki : (k : Int) < (n : Int) := by omega
      clear hx h1 h2
      go_wp2
      go_quiet (fail)
      go_wp2
      go_roundw
      case rel => exact ⟨k + 1, _, by omega, by go_num, rfl⟩
      case measure => simp [intOf]; omega
    · go_wp2
      go_ret
      exact ⟨rfl, _, rfl⟩

/-- A text of shortInt's domain: a minus sign or none, then decimal digits d, at least one. -/
def Dom (l : List Int) : Prop := ∃ (neg : Bool) (d : List Int), l = (if neg then 45 :: d else d) ∧ d ≠ [] ∧ ∀ x ∈ d, 48 ≤ x ∧ x ≤ 57

theorem dom_empty (ao : Option Addr) (c : Nat) (w : World) :
    Calls Trym.prog 19 #[.slice ao 0 c] w fun e w' => e = .returned (.bool false) ∧ w' = w := by
  go_enter Trym.func19, Trym.ntmps19
  go_wp2
  go_ret
  exact ⟨rfl, rfl⟩

theorem dom_minus (b off c : Nat) (w : World) (c0 : w.cell? ⟨b, off, none⟩ = some (.int .u8 45)) :
    Calls Trym.prog 19 #[.slice (some ⟨b, off, none⟩) 1 c] w fun e w' => e = .returned (.bool false) ∧ w' = w := by
  go_enter Trym.func19, Trym.ntmps19
  go_wp2
  go_ret
  exact ⟨rfl, rfl⟩

/-- From the loop's start s on every byte is a decimal digit. -/
def DigFrom (l : List Int) (s k : Nat) : Prop := ∀ j, s ≤ j → j < k → isDecB (l.getD j 0) = true
theorem digFrom_step {l : List Int} {s k : Nat} (h : DigFrom l s k) (e : isDecB (l.getD k 0) = true) : DigFrom l s (k + 1) := by
  intro j h1 h2
  by_cases ej : j = k
  · subst ej; exact e
  · exact h j h1 (by omega)

/-- What zzShortIntDomain answers, the loop begun at s. -/
def DomAns (l : List Int) (s n : Nat) (w : World) (e : Ending) (w' : World) : Prop := ∃ v, e = .returned (.bool v) ∧ w' = w ∧ (v = true → DigFrom l s n)

theorem dom_pos (b off n c : Nat) (l : List Int) (x0 : Int) (w : World) (hn : n ≤ 1048576) (h1 : 0 < n) (hx0 : x0 = l.getD 0 0) (h45 : ¬ x0 = 45) (hby : ∀ i, 0 ≤ l.getD i 0 ∧ l.getD i 0 ≤ 255)
    (hcell : ∀ i, i < n → w.cell? ⟨b, off + i, none⟩ = some (.int .u8 (l.getD i 0))) :
    Calls Trym.prog 19 #[.slice (some ⟨b, off, none⟩) n c] w fun e w' => DomAns l 0 n w e w' := by
  have c0 : w.cell? ⟨b, off, none⟩ = some (.int .u8 x0) := by rw [hx0]; exact hcell 0 h1
  have h45b : (x0 == 45) = false := by simpa using h45
  clear hx0 h45
  have hne : ¬ n = 0 := by omega
  go_enter Trym.func19, Trym.ntmps19
  go_wp2
  go_loop [4] (fun i => ∃ k : Nat, k ≤ n ∧ i = .int .i64 k ∧ DigFrom l 0 k) (fun i => n - (intOf i).toNat)
  case atStart => exact ⟨0, by omega, rfl, fun j h1 h2 => by omega⟩
  case round =>
    obtain ⟨k, hk, rfl, hs⟩ := hrel
    have HS : Hid (DigFrom l 0 k) := hs
    clear hs
    by_cases hlt : k < n
    · obtain ⟨x, hx⟩ : ∃ x, x = l.getD k 0 := ⟨_, rfl⟩
      have hbx : 0 ≤ x ∧ x ≤ 255 := by rw [hx]; exact hby k
      have g0 : w.cell? ⟨b, off + k, none⟩ = some (.int .u8 x) := by rw [hx]; exact hcell k hlt
      have HX : Hid (x = l.getD k 0) := hx
      clear hx hcell
      cases hd : isDecB x with
      | false =>
        go_wp2_with (go_at_call 25; refine (isDec_any _ hbx.1 hbx.2 _).mono ?_; rintro e w' ⟨rfl, rfl⟩)
        go_ret
        exact ⟨false, rfl, rfl, fun h => by cases h⟩
      | true =>
        go_wp2_with (go_at_call 25; refine (isDec_any _ hbx.1 hbx.2 _).mono ?_; rintro e w' ⟨rfl, rfl⟩)
        go_round
        case rel => exact ⟨k + 1, by omega, by go_num, digFrom_step HS.out (by rw [← HX.out]; exact hd)⟩
        case measure => simp [intOf]; omega
    · obtain rfl : k = n := by omega
      go_wp2
      go_ret
      exact ⟨true, rfl, rfl, fun _ => HS.out⟩

theorem dom_neg (b off n c : Nat) (l : List Int) (w : World) (hn : n ≤ 1048576) (h1 : 1 < n) (hx0 : l.getD 0 0 = 45) (hby : ∀ i, 0 ≤ l.getD i 0 ∧ l.getD i 0 ≤ 255)
    (hcell : ∀ i, i < n → w.cell? ⟨b, off + i, none⟩ = some (.int .u8 (l.getD i 0))) :
    Calls Trym.prog 19 #[.slice (some ⟨b, off, none⟩) n c] w fun e w' => DomAns l 1 n w e w' := by
  have c0 : w.cell? ⟨b, off, none⟩ = some (.int .u8 45) := by rw [← hx0]; exact hcell 0 (by omega)
  clear hx0
  go_enter Trym.func19, Trym.ntmps19
  go_wp2
  go_loop [4] (fun i => ∃ k : Nat, 1 ≤ k ∧ k ≤ n ∧ i = .int .i64 k ∧ DigFrom l 1 k) (fun i => n - (intOf i).toNat)
  case atStart => exact ⟨1, by omega, by omega, rfl, fun j h1 h2 => by omega⟩
  case round =>
    obtain ⟨k, hk1, hk, rfl, hs⟩ := hrel
    have HS : Hid (DigFrom l 1 k) := hs
    clear hs
    by_cases hlt : k < n
    · obtain ⟨x, hx⟩ : ∃ x, x = l.getD k 0 := ⟨_, rfl⟩
      have hbx : 0 ≤ x ∧ x ≤ 255 := by rw [hx]; exact hby k
      have g0 : w.cell? ⟨b, off + k, none⟩ = some (.int .u8 x) := by rw [hx]; exact hcell k hlt
      have HX : Hid (x = l.getD k 0) := hx
      clear hx hcell
      cases hd : isDecB x with
      | false =>
        go_wp2_with (go_at_call 25; refine (isDec_any _ hbx.1 hbx.2 _).mono ?_; rintro e w' ⟨rfl, rfl⟩)
        go_ret
        exact ⟨false, rfl, rfl, fun h => by cases h⟩
      | true =>
        go_wp2_with (go_at_call 25; refine (isDec_any _ hbx.1 hbx.2 _).mono ?_; rintro e w' ⟨rfl, rfl⟩)
        go_round
        case rel => exact ⟨k + 1, by omega, by omega, by go_num, digFrom_step HS.out (by rw [← HX.out]; exact hd)⟩
        case measure => simp [intOf]; omega
    · obtain rfl : k = n := by omega
      go_wp2
      go_ret
      exact ⟨true, rfl, rfl, fun _ => HS.out⟩

theorem mem_getD (l : List Int) (x : Int) (h : x ∈ l) : ∃ i, i < l.length ∧ l.getD i 0 = x := by
  obtain ⟨i, hi, rfl⟩ := List.getElem_of_mem h
  exact ⟨i, hi, by simp [List.getD, hi]⟩

/-- zzShortIntDomain, at every text: where it answers true the text is in the domain. -/
theorem dom_any (ao : Option Addr) (n c : Nat) (l : List Int) (w : World) (hn : n ≤ 1048576) (hi : Inp w ao n c l) :
    Calls Trym.prog 19 #[.slice ao n c] w fun e w' => ∃ v, e = .returned (.bool v) ∧ w' = w ∧ (v = true → Dom l) := by
  by_cases h0 : n = 0
  · subst h0
    refine (dom_empty ao c w).mono fun e w' h => ⟨false, h.1, h.2, fun h => by cases h⟩
  · obtain ⟨hl, hnc, hby, ⟨rfl, rfl, rfl⟩ | ⟨x, b, off, rfl, hx, hcell⟩⟩ := hi
    · exact absurd rfl h0
    · obtain rfl := hx (by omega)
      by_cases h45 : l.getD 0 0 = 45
      · by_cases hn1 : n = 1
        · subst hn1
          refine (dom_minus b off c w (by rw [← h45]; exact hcell 0 (by omega))).mono fun e w' h => ⟨false, h.1, h.2, fun h => by cases h⟩
        · refine (dom_neg b off n c l w hn (by omega) h45 hby hcell).mono ?_
          rintro e w' ⟨v, rfl, rfl, hv⟩
          refine ⟨v, rfl, rfl, fun e => ?_⟩
          have hd := hv e
          match l, hl with
          | [], hl => simp at hl; omega
          | y :: d, hl =>
            have hy : y = 45 := h45
            refine ⟨true, d, by rw [hy]; rfl, ?_, fun z hz => ?_⟩
            · intro e; rw [e] at hl; simp at hl; omega
            · obtain ⟨i, hi, rfl⟩ := mem_getD d z hz
              exact isDecB_yes (hd (i + 1) (by omega) (by simp at hl; omega))
      · refine (dom_pos b off n c l _ w hn (by omega) rfl h45 hby hcell).mono ?_
        rintro e w' ⟨v, rfl, rfl, hv⟩
        refine ⟨v, rfl, rfl, fun e => ?_⟩
        have hd := hv e
        refine ⟨false, l, rfl, ?_, fun z hz => ?_⟩
        · intro e; rw [e] at hl; simp at hl; omega
        · obtain ⟨i, hi, rfl⟩ := mem_getD l z hz
          exact isDecB_yes (hd i (by omega) (by omega))

end Go.Proofs.Qxb6603223aMods
