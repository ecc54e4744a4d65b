import Derived.Test.Qxb6603223aModsProg
import Derived.Test.Qxb6603223aModsPlain
import Derived.WalkKit
import Derived.WalkSpells
import Derived.WalkLawsBesides
import Derived.Deep.QuietTactic
import Derived.BigQuiet
namespace Go.Proofs.Qxb6603223aMods
open Go.RowKit
set_option linter.unusedVariables false

theorem ret_int {k : IntKind} {a b : Int} (h : a = b) : Ending.returned (.int k a) = .returned (.int k b) := by rw [h]
theorem ret_bool {a b : Bool} (h : a = b) : Ending.returned (.bool a) = .returned (.bool b) := by rw [h]

/-- hexDigit. -/
theorem hexDigit_any (c : Int) (h0 : 0 ≤ c) (h1 : c ≤ 255) (w : World) :
    Calls Trym.prog 26 #[.int .u8 c] w fun e w' => e = .returned (.int .i32 (hexv c)) ∧ w' = w := by
  go_enter Trym.func26, Trym.ntmps26
  go_wp2
  all_goals go_ret
  all_goals exact ⟨ret_int (by unfold hexv; repeat (first | omega | split)), rfl⟩

theorem zzhexDigit_any (c : Int) (h0 : 0 ≤ c) (h1 : c ≤ 255) (w : World) :
    Calls Trym.prog 10 #[.int .u8 c] w fun e w' => e = .returned (.int .i32 (hexv c)) ∧ w' = w := by
  go_enter Trym.func10, Trym.ntmps10
  go_wp2_with (go_at_call 26; refine (hexDigit_any _ h0 h1 _).mono ?_; rintro e w' ⟨rfl, rfl⟩)
  go_ret
  exact ⟨rfl, rfl⟩

theorem lower_any (c : Int) (h0 : 0 ≤ c) (h1 : c ≤ 255) (w : World) :
    Calls Trym.prog 12 #[.int .u8 c] w fun e w' => e = .returned (.int .u8 (lowr c)) ∧ w' = w := by
  go_enter Trym.func12, Trym.ntmps12
  go_wp2
  all_goals go_ret
  all_goals exact ⟨ret_int (by unfold lowr; repeat (first | omega | split)), rfl⟩

def lowT : ByteArray := { data := #[48, 49, 50, 51, 52, 53, 54, 55, 56, 57, 97, 98, 99, 100, 101, 102] }
def uppT : ByteArray := { data := #[48, 49, 50, 51, 52, 53, 54, 55, 56, 57, 65, 66, 67, 68, 69, 70] }
theorem low_all : ∀ k : Fin 16, ((lowT[k.val]'k.isLt).toNat : Int) = lowd (k.val : Int) := by decide
theorem upp_all : ∀ k : Fin 16, ((uppT[k.val]'k.isLt).toNat : Int) = uppd (k.val : Int) := by decide
/-- The k-th sign of the lower-case table, as the walk spells it. -/
theorem low_at (k : Nat) (h : k < 16) : (((ByteArray.mk #[48, 49, 50, 51, 52, 53, 54, 55, 56, 57, 97, 98, 99, 100, 101, 102])[k]'h).toNat : Int) = lowd (k : Int) := low_all ⟨k, h⟩
theorem upp_at (k : Nat) (h : k < 16) : (((ByteArray.mk #[48, 49, 50, 51, 52, 53, 54, 55, 56, 57, 65, 66, 67, 68, 69, 70])[k]'h).toNat : Int) = uppd (k : Int) := upp_all ⟨k, h⟩

theorem isHex_yes (c : Int) (k : Nat) (h : k < 16) (e : lowd (k : Int) = c ∨ uppd (k : Int) = c) : true = isHexB c := by
  have := hexv_of_tab c k (by omega) (by omega) e
  simp [isHexB, this]
theorem isHex_no (c : Int) (h : ∀ d : Int, 0 ≤ d → d < (16 : Nat) → lowd d ≠ c ∧ uppd d ≠ c) : false = isHexB c := by
  have := hexv_none c (fun d h0 h1 => h d h0 (by omega))
  simp [isHexB, this]
theorem no_step (c : Int) (k : Nat) (h : ∀ d : Int, 0 ≤ d → d < k → lowd d ≠ c ∧ uppd d ≠ c) (e1 : ¬ lowd (k : Int) = c) (e2 : ¬ uppd (k : Int) = c) :
    ∀ d : Int, 0 ≤ d → d < ((k + 1 : Nat) : Int) → lowd d ≠ c ∧ uppd d ≠ c := by
  intro d h0 h1
  by_cases e : d = k
  · subst e; exact ⟨e1, e2⟩
  · exact h d h0 (by omega)

theorem isHex_any (c : Int) (h0 : 0 ≤ c) (h1 : c ≤ 255) (w : World) :
    Calls Trym.prog 11 #[.int .u8 c] w fun e w' => e = .returned (.bool (isHexB c)) ∧ w' = w := by
  go_enter Trym.func11, Trym.ntmps11
  go_wp2
  go_loop [3] (fun i => ∃ k : Nat, k ≤ 16 ∧ i = .int .i64 k ∧ ∀ d : Int, 0 ≤ d → d < k → lowd d ≠ c ∧ uppd d ≠ c) (fun i => 16 - (intOf i).toNat)
  case atStart => exact ⟨0, by omega, rfl, fun d h0 h1 => by omega⟩
  case round =>
    obtain ⟨k, hk, rfl, hno⟩ := hrel
    by_cases hlt : k < 16
    · have hl := low_at k hlt
      have hu := upp_at k hlt
      by_cases e1 : lowd (k : Int) = c
      · have H1 : Hid (lowd (k : Int) = c) := e1
        have e1b : (lowd (k : Int) == c) = true := by simpa using e1
        clear e1
        go_wp2
        go_ret
        exact ⟨ret_bool (isHex_yes c k hlt (.inl H1.out)), rfl⟩
      · have e1b : (lowd (k : Int) == c) = false := by simpa using e1
        by_cases e2 : uppd (k : Int) = c
        · have H1 : Hid (uppd (k : Int) = c) := e2
          have e2b : (uppd (k : Int) == c) = true := by simpa using e2
          clear e2
          go_wp2
          go_ret
          exact ⟨ret_bool (isHex_yes c k hlt (.inr H1.out)), rfl⟩
        · have e2b : (uppd (k : Int) == c) = false := by simpa using e2
          go_wp2
          go_round
          case rel => exact ⟨k + 1, by omega, by go_num, no_step c k hno e1 e2⟩
          case measure => simp [intOf]; omega
    · go_wp2
      go_ret
      obtain rfl : k = 16 := by omega
      exact ⟨ret_bool (isHex_no c hno), rfl⟩

theorem matches_yes (c : Int) (k : Nat) (h : k < 16) (e : lowd (k : Int) = c ∨ uppd (k : Int) = c) : (hexv c == (k : Int)) = true := by
  have := hexv_of_tab c k (by omega) (by omega) e
  simp [this]
theorem matches_no (c : Int) (h : ∀ d : Int, 0 ≤ d → d < (16 : Nat) → lowd d ≠ c ∧ uppd d ≠ c) : (hexv c == -1) = true := by
  have := hexv_none c (fun d h0 h1 => h d h0 (by omega))
  simp [this]

theorem matches_walk (c : Int) (h0 : 0 ≤ c) (h1 : c ≤ 255) (w : World) :
    Calls Trym.prog 3 #[.int .u8 c] w fun e w' => e = .returned (.bool true) ∧ w' = w := by
  go_enter Trym.func3, Trym.ntmps3
  go_wp2
  go_loop [3, 4] (fun v i => ∃ k : Nat, k ≤ 16 ∧ v = .int .i32 (-1) ∧ i = .int .i64 k ∧ ∀ d : Int, 0 ≤ d → d < k → lowd d ≠ c ∧ uppd d ≠ c) (fun _ i => 16 - (intOf i).toNat)
  case atStart => exact ⟨0, by omega, rfl, rfl, fun d h0 h1 => by omega⟩
  case round =>
    obtain ⟨k, hk, rfl, rfl, hno⟩ := hrel
    by_cases hlt : k < 16
    · have hl := low_at k hlt
      have hu := upp_at k hlt
      by_cases e1 : lowd (k : Int) = c
      · have H1 := matches_yes c k hlt (.inl e1)
        have e1b : (lowd (k : Int) == c) = true := by simpa using e1
        clear e1
        go_wp2_with (go_at_call 10; refine (zzhexDigit_any _ h0 h1 _).mono ?_; rintro e w' ⟨rfl, rfl⟩)
        go_ret
        exact ⟨rfl, rfl⟩
      · have e1b : (lowd (k : Int) == c) = false := by simpa using e1
        by_cases e2 : uppd (k : Int) = c
        · have H1 := matches_yes c k hlt (.inr e2)
          have e2b : (uppd (k : Int) == c) = true := by simpa using e2
          clear e2
          go_wp2_with (go_at_call 10; refine (zzhexDigit_any _ h0 h1 _).mono ?_; rintro e w' ⟨rfl, rfl⟩)
          go_ret
          exact ⟨rfl, rfl⟩
        · have e2b : (uppd (k : Int) == c) = false := by simpa using e2
          go_wp2
          go_round
          case rel => exact ⟨k + 1, by omega, rfl, by go_num, no_step c k hno e1 e2⟩
          case measure => simp [intOf]; omega
    · obtain rfl : k = 16 := by omega
      have H1 := matches_no c hno
      go_wp2_with (go_at_call 10; refine (zzhexDigit_any _ h0 h1 _).mono ?_; rintro e w' ⟨rfl, rfl⟩)
      go_ret
      exact ⟨rfl, rfl⟩

theorem formats_walk (c : Int) (h0 : 0 ≤ c) (h1 : c ≤ 255) (w : World) :
    Calls Trym.prog 4 #[.int .u8 c] w fun e w' => e = .returned (.bool true) ∧ ∃ n, w' = w.drewN n := by
  have hb := hexv_bd c
  by_cases hd : 0 ≤ hexv c
  · obtain ⟨n, hn⟩ : ∃ n : Nat, hexv c = (n : Int) := ⟨(hexv c).toNat, by omega⟩
    have hn16 : n < 16 := by omega
    have hl := low_at n hn16
    have he : (lowd (n : Int) == lowr c) = true := by rw [← hn, lowd_hexv c hd]; simp
    clear hd hb
    go_enter Trym.func4, Trym.ntmps4
    go_wp2_with (go_at_call 10; refine (zzhexDigit_any _ h0 h1 _).mono ?_; rintro e w' ⟨rfl, rfl⟩)
    go_quiet ((go_at_call 12; exact Calls.quiet_of_same (lower_any _ h0 h1 _)))
    go_wp2
    go_ret
    exact ⟨rfl, _, rfl⟩
  · have hm : hexv c = -1 := by omega
    have hx : isHexB c = false := by simp [isHexB, hm]
    go_enter Trym.func4, Trym.ntmps4
    go_wp2_with (first | (go_at_call 10; refine (zzhexDigit_any _ h0 h1 _).mono ?_; rintro e w' ⟨rfl, rfl⟩) | (go_at_call 11; refine (isHex_any _ h0 h1 _).mono ?_; rintro e w' ⟨rfl, rfl⟩))
    go_ret
    exact ⟨rfl, 0, rfl⟩

end Go.Proofs.Qxb6603223aMods
