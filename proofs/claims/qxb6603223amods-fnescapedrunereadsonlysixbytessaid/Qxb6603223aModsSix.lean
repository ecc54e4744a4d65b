/-
  THE WALK OF FnEscapedRuneReadsOnlySixBytes.
-/
import Derived.Test.Qxb6603223aModsBytes
import Derived.Test.Qxb6603223aModsEsc
namespace Go.Proofs.Qxb6603223aMods
open Go.RowKit
set_option linter.unusedVariables false

theorem zzesc_short (ao : Option Addr) (n c : Nat) (w : World) (h : n < 6) :
    Calls Trym.prog 15 #[.slice ao n c] w fun e w' => e = .returned (.int .i32 (-1)) ∧ w' = w := by
  go_enter Trym.func15, Trym.ntmps15
  go_wp2_with (go_at_call 27; refine (esc_short _ _ _ _ h).mono ?_; rintro e w' ⟨rfl, rfl⟩)
  go_ret
  exact ⟨rfl, rfl⟩

theorem six_big (ao : Option Addr) (n c : Nat) (w : World) (h : 1048576 < n) :
    Calls Trym.prog 6 #[.slice ao n c] w fun e w' => e = .returned (.bool true) ∧ Below w.heap.size w w' := by
  go_enter Trym.func6, Trym.ntmps6
  go_wp2_with (go_at_call 16; refine (bytes16_no _ _ _ h _).mono ?_; rintro e w' ⟨rfl, rfl⟩)
  go_ret
  exact ⟨rfl, Below.refl _ _⟩

theorem six_short (ao : Option Addr) (n c : Nat) (l : List Int) (w : World) (h : n < 6) (hi : Inp w ao n c l) :
    Calls Trym.prog 6 #[.slice ao n c] w fun e w' => e = .returned (.bool true) ∧ Below w.heap.size w w' := by
  have H : Hid (Inp w ao n c l) := hi
  clear hi
  go_enter Trym.func6, Trym.ntmps6
  go_wp2_with (first | (go_at_call 16; refine (bytes16_yes _ _ _ (by omega) _).mono ?_; rintro e w' ⟨rfl, rfl⟩) | (go_at_call 14; refine (clone_any _ _ _ l _ (by omega) H.out).mono ?_; rintro e w1 ⟨ao', rfl, hao, hcell, hbel⟩) | (go_at_call 15; refine (zzesc_short _ _ _ _ h).mono ?_; rintro e w' ⟨rfl, rfl⟩))
  go_ret
  exact ⟨rfl, by assumption⟩

theorem six_long (ao : Option Addr) (n c : Nat) (l : List Int) (w : World) (h : 6 ≤ n) (hn : n ≤ 1048576) (hi : Inp w ao n c l) :
    Calls Trym.prog 6 #[.slice ao n c] w fun e w' => e = .returned (.bool true) ∧ Below w.heap.size w w' := by
  have H : Hid (Inp w ao n c l) := hi
  have hby := hi.2.2.1
  clear hi
  go_enter Trym.func6, Trym.ntmps6
  go_wp2_with (first | (go_at_call 16; refine (bytes16_yes _ _ _ (by omega) _).mono ?_; rintro e w0 ⟨rfl, rfl⟩) | (go_at_call 14; refine (clone_pos _ _ _ l _ hn (by omega) H.out).mono ?_; rintro e w1 ⟨rfl, hrow, hbel, hsz⟩))
  have hcell : ∀ i, i < n → w1.cell? ⟨w0.heap.size, 0 + i, none⟩ = some (.int .u8 (l.getD i 0)) := fun i h => by rw [Nat.zero_add]; exact hrow.cell h
  have HB : Hid (Below w0.heap.size w0 w1) := hbel
  have hcell6 : ∀ i, i < 6 → w1.cell? ⟨w0.heap.size, 0 + i, none⟩ = some (.int .u8 (l.getD i 0)) := fun i h => hcell i (by omega)
  have HE : Hid (escR n l = escR 6 l) := escR_six n l h
  clear hrow hsz hbel
  refine (zzesc_any _ w0.heap.size 0 n n l w1 (fun _ => rfl) (Nat.le_refl _) hcell hby).mono ?_
  rintro e w2 ⟨rfl, rfl⟩
  obtain ⟨R, hR⟩ : ∃ R, R = escR 6 l := ⟨_, rfl⟩
  rw [HE.out, ← hR]
  have HR : Hid (R = escR 6 l) := hR
  have HC : Hid (∀ i, i < 6 → w2.cell? ⟨w0.heap.size, 0 + i, none⟩ = some (.int .u8 (l.getD i 0))) := hcell6
  clear hR hcell hcell6
  go_wp2_with fail
  go_loop [4] (fun i => ∃ k : Nat, k ≤ 6 ∧ i = .int .i64 k) (fun i => 6 - (intOf i).toNat)
  case atStart => exact ⟨0, by omega, rfl⟩
  case round =>
    obtain ⟨k, hk, rfl⟩ := hrel
    by_cases hlt : k < 6
    · go_wp2_with (go_at_call 15; refine (zzesc_short _ _ _ _ hlt).mono ?_; rintro e w' ⟨rfl, rfl⟩)
      go_round
      case rel => exact ⟨k + 1, by omega, by go_num⟩
      case measure => simp [intOf]; omega
    · go_wp2_with fail
      refine (zzesc_any _ w0.heap.size 0 6 n l _ (fun _ => rfl) h HC.out hby).mono ?_
      rintro e w3 ⟨rfl, rfl⟩
      rw [← HR.out]
      go_wp2_with fail
      go_ret
      exact ⟨rfl, HB.out⟩

theorem six_walk (ao : Option Addr) (n c : Nat) (l : List Int) (w : World) (hi : Inp w ao n c l) :
    Calls Trym.prog 6 #[.slice ao n c] w fun e w' => e = .returned (.bool true) ∧ Below w.heap.size w w' := by
  by_cases h : n < 6
  · exact six_short ao n c l w h hi
  · by_cases hb : n ≤ 1048576
    · exact six_long ao n c l w (by omega) hb hi
    · exact six_big ao n c w (by omega)

end Go.Proofs.Qxb6603223aMods
