/-
  CONTRACTS: zzIsDecimal, shortInt and its exported alias, at texts of decimal digits with or without a minus sign ahead.
-/
import Derived.Test.Qxb6603223aModsBytes
namespace Go.Proofs.Qxb6603223aMods
open Go.RowKit
set_option linter.unusedVariables false

def isDecB (c : Int) : Bool := decide (48 ≤ c ∧ c ≤ 57)
theorem isDecB_yes {c : Int} (h : isDecB c = true) : 48 ≤ c ∧ c ≤ 57 := by simpa [isDecB] using h
theorem isDecB_mk {c : Int} (h : 48 ≤ c ∧ c ≤ 57) : isDecB c = true := by simpa [isDecB] using h
theorem isDecB_no {c : Int} (h : isDecB c = false) : ¬ (48 ≤ c ∧ c ≤ 57) := by
  intro h'; rw [isDecB_mk h'] at h; cases h

theorem ret_bool' {a b : Bool} (h : a = b) : Ending.returned (.bool a) = .returned (.bool b) := by rw [h]

theorem isDec_any (c : Int) (h0 : 0 ≤ c) (h1 : c ≤ 255) (w : World) :
    Calls Trym.prog 25 #[.int .u8 c] w fun e w' => e = .returned (.bool (isDecB c)) ∧ w' = w := by
  go_enter Trym.func25, Trym.ntmps25
  go_wp2
  all_goals go_ret
  all_goals exact ⟨ret_bool' (by simp [isDecB]; try omega), rfl⟩

theorem short_pos_long (b off n c : Nat) (x0 : Int) (w : World) (hn : n ≤ 1048576) (h : 18 < n) (c0 : w.cell? ⟨b, off, none⟩ = some (.int .u8 x0)) (hx : 48 ≤ x0) :
    Calls Trym.prog 28 #[.slice (some ⟨b, off, none⟩) n c] w fun e w' => e = .returned (.tuple #[.int .i64 0, .bool false]) ∧ w' = w := by
  go_enter Trym.func28, Trym.ntmps28
  go_wp2
  go_ret2
  exact ⟨rfl, rfl⟩

theorem short_neg_long (b off n c : Nat) (w : World) (hn : n ≤ 1048576) (h : 18 < n) (hc : n + 1 ≤ c) (c0 : w.cell? ⟨b, off, none⟩ = some (.int .u8 45)) :
    Calls Trym.prog 28 #[.slice (some ⟨b, off, none⟩) (n + 1) c] w fun e w' => e = .returned (.tuple #[.int .i64 0, .bool false]) ∧ w' = w := by
  go_enter Trym.func28, Trym.ntmps28
  go_wp2
  go_ret2
  exact ⟨rfl, rfl⟩

theorem dec_take_bd (l : List Int) (h : ∀ c ∈ l, 48 ≤ c ∧ c ≤ 57) (k : Nat) (hk : k ≤ 17) : 0 ≤ dec (l.take k) ∧ dec (l.take k) < 100000000000000000 := by
  have h1 := dec_bd (l.take k) (fun c hc => h c (List.mem_of_mem_take hc))
  have h2 := pow_mono10 (m := (l.take k).length) (n := 17) (by simp; omega)
  have h3 : (10 : Int) ^ 17 = 100000000000000000 := by decide
  omega
theorem dec_take_step (l : List Int) (k : Nat) (hk : k < l.length) : dec (l.take (k + 1)) = dec (l.take k) * 10 + (l.getD k 0 - 48) := by
  have e : l.getD k 0 = l[k] := by simp [List.getD, hk]
  rw [List.take_succ_eq_append_getElem hk, dec_snoc, e]
theorem getD_dig (l : List Int) (h : ∀ c ∈ l, 48 ≤ c ∧ c ≤ 57) (k : Nat) (hk : k < l.length) : 48 ≤ l.getD k 0 ∧ l.getD k 0 ≤ 57 := by
  have e : l.getD k 0 = l[k] := by simp [List.getD, hk]
  rw [e]; exact h _ (List.getElem_mem hk)

theorem ret_two {a b : Int} (h : a = b) : Ending.returned (.tuple #[.int .i64 a, .bool true]) = .returned (.tuple #[.int .i64 b, .bool true]) := by rw [h]

theorem short_pos (b off n c : Nat) (l : List Int) (w : World) (hl : l.length = n) (h1 : 0 < n) (h18 : n ≤ 18) (hdig : ∀ x ∈ l, 48 ≤ x ∧ x ≤ 57)
    (hcell : ∀ i, i < n → w.cell? ⟨b, off + i, none⟩ = some (.int .u8 (l.getD i 0))) :
    Calls Trym.prog 28 #[.slice (some ⟨b, off, none⟩) n c] w fun e w' => e = .returned (.tuple #[.int .i64 (dec l), .bool true]) ∧ w' = w := by
  obtain ⟨x0, hx0⟩ : ∃ x, x = l.getD 0 0 := ⟨_, rfl⟩
  have c0 : w.cell? ⟨b, off, none⟩ = some (.int .u8 x0) := by rw [hx0]; exact hcell 0 h1
  have hb0 : 48 ≤ x0 ∧ x0 ≤ 57 := by rw [hx0]; exact getD_dig l hdig 0 (by omega)
  have hb0' := hb0.1
  have HL : Hid (l.length = n) := hl
  clear hx0 hl
  go_enter Trym.func28, Trym.ntmps28
  go_wp2
  go_loop [5, 20] (fun v i => ∃ k : Nat, k ≤ n ∧ i = .int .i64 k ∧ v = .int .i64 (dec (l.take k))) (fun _ i => n - (intOf i).toNat)
  case atStart => exact ⟨0, by omega, rfl, rfl⟩
  case round =>
    obtain ⟨k, hk, rfl, rfl⟩ := hrel
    by_cases hlt : k < n
    · obtain ⟨x, hx⟩ : ∃ x, x = l.getD k 0 := ⟨_, rfl⟩
      have hbx : 48 ≤ x ∧ x ≤ 57 := by rw [hx]; exact getD_dig l hdig k (by rw [HL.out]; exact hlt)
      have g0 : w.cell? ⟨b, off + k, none⟩ = some (.int .u8 x) := by rw [hx]; exact hcell k hlt
      have hbA := dec_take_bd l hdig k (by omega)
      have HS : Hid (dec (l.take (k + 1)) = dec (l.take k) * 10 + (x - 48)) := by rw [hx]; exact dec_take_step l k (by rw [HL.out]; exact hlt)
      obtain ⟨A, hA⟩ : ∃ A, A = dec (l.take k) := ⟨_, rfl⟩
      rw [← hA] at HS hbA ⊢
      clear hx hA hcell
      go_wp2
      go_round
      case rel => exact ⟨k + 1, by omega, by go_num, by rw [HS.out]⟩
      case measure => simp [intOf]; omega
    · have HE : Hid (dec (l.take k) = dec l) := by rw [List.take_of_length_le (by rw [HL.out]; omega)]; rfl
      go_wp2
      go_ret2
      exact ⟨ret_two HE.out, rfl⟩

theorem short_neg (b off n c : Nat) (l : List Int) (w : World) (hl : l.length = n) (h1 : 0 < n) (h18 : n ≤ 18) (hc : n + 1 ≤ c) (hdig : ∀ x ∈ l, 48 ≤ x ∧ x ≤ 57)
    (c0 : w.cell? ⟨b, off, none⟩ = some (.int .u8 45)) (hcell : ∀ i, i < n → w.cell? ⟨b, off + 1 + i, none⟩ = some (.int .u8 (l.getD i 0))) :
    Calls Trym.prog 28 #[.slice (some ⟨b, off, none⟩) (n + 1) c] w fun e w' => e = .returned (.tuple #[.int .i64 (-dec l), .bool true]) ∧ w' = w := by
  have HL : Hid (l.length = n) := hl
  clear hl
  go_enter Trym.func28, Trym.ntmps28
  go_wp2
  go_loop [5, 20] (fun v i => ∃ k : Nat, k ≤ n ∧ i = .int .i64 k ∧ v = .int .i64 (dec (l.take k))) (fun _ i => n - (intOf i).toNat)
  case atStart => exact ⟨0, by omega, rfl, rfl⟩
  case round =>
    obtain ⟨k, hk, rfl, rfl⟩ := hrel
    by_cases hlt : k < n
    · obtain ⟨x, hx⟩ : ∃ x, x = l.getD k 0 := ⟨_, rfl⟩
      have hbx : 48 ≤ x ∧ x ≤ 57 := by rw [hx]; exact getD_dig l hdig k (by rw [HL.out]; exact hlt)
      have g0 : w.cell? ⟨b, off + 1 + k, none⟩ = some (.int .u8 x) := by rw [hx]; exact hcell k hlt
      have hbA := dec_take_bd l hdig k (by omega)
      have HS : Hid (dec (l.take (k + 1)) = dec (l.take k) * 10 + (x - 48)) := by rw [hx]; exact dec_take_step l k (by rw [HL.out]; exact hlt)
      obtain ⟨A, hA⟩ : ∃ A, A = dec (l.take k) := ⟨_, rfl⟩
      rw [← hA] at HS hbA ⊢
      clear hx hA hcell
      go_wp2
      go_round
      case rel => exact ⟨k + 1, by omega, by go_num, by rw [HS.out]⟩
      case measure => simp [intOf]; omega
    · have hE : dec (l.take k) = dec l := by rw [List.take_of_length_le (by rw [HL.out]; omega)]
      rw [hE]
      have hb := dec_lt18 l hdig (by rw [HL.out]; exact h18)
      clear hE
      go_wp2
      go_ret2
      exact ⟨rfl, rfl⟩

/-- The exported alias of shortInt. -/
theorem zzshort (v : Value) (x : Int) (k : Bool) (w : World) (h : ∀ w1, w1 = w → Calls Trym.prog 28 #[v] w1 fun e w' => e = .returned (.tuple #[.int .i64 x, .bool k]) ∧ w' = w1) :
    Calls Trym.prog 20 #[v] w fun e w' => e = .returned (.tuple #[.int .i64 x, .bool k]) ∧ w' = w := by
  go_enter Trym.func20, Trym.ntmps20
  go_wp2_with (go_at_call 28; refine (h _ rfl).mono ?_; rintro e w' ⟨rfl, rfl⟩)
  go_ret2
  exact ⟨rfl, rfl⟩

/-- The verdict on n digits, and the number where they are read. -/
def okN (n : Nat) : Bool := decide (n ≤ 18)
def valN (n : Nat) (x : Int) : Int := if n ≤ 18 then x else 0

theorem zzshort_pos (b off n c : Nat) (l : List Int) (w : World) (hn : n ≤ 1048576) (hl : l.length = n) (h1 : 0 < n) (hdig : ∀ x ∈ l, 48 ≤ x ∧ x ≤ 57)
    (hcell : ∀ i, i < n → w.cell? ⟨b, off + i, none⟩ = some (.int .u8 (l.getD i 0))) :
    Calls Trym.prog 20 #[.slice (some ⟨b, off, none⟩) n c] w fun e w' => e = .returned (.tuple #[.int .i64 (valN n (dec l)), .bool (okN n)]) ∧ w' = w := by
  refine zzshort _ _ _ w ?_
  rintro w1 rfl
  by_cases h : n ≤ 18
  · have e1 : valN n (dec l) = dec l := by simp [valN, h]
    have e2 : okN n = true := by simp [okN, h]
    rw [e1, e2]
    exact short_pos b off n c l w1 hl h1 h hdig hcell
  · have e1 : valN n (dec l) = 0 := by simp [valN, h]
    have e2 : okN n = false := by simp [okN]; omega
    rw [e1, e2]
    exact short_pos_long b off n c _ w1 hn (by omega) (hcell 0 h1) (getD_dig l hdig 0 (by omega)).1

theorem zzshort_neg (b off n c : Nat) (l : List Int) (w : World) (hn : n ≤ 1048576) (hl : l.length = n) (h1 : 0 < n) (hc : n + 1 ≤ c) (hdig : ∀ x ∈ l, 48 ≤ x ∧ x ≤ 57)
    (c0 : w.cell? ⟨b, off, none⟩ = some (.int .u8 45)) (hcell : ∀ i, i < n → w.cell? ⟨b, off + 1 + i, none⟩ = some (.int .u8 (l.getD i 0))) :
    Calls Trym.prog 20 #[.slice (some ⟨b, off, none⟩) (n + 1) c] w fun e w' => e = .returned (.tuple #[.int .i64 (valN n (-dec l)), .bool (okN n)]) ∧ w' = w := by
  refine zzshort _ _ _ w ?_
  rintro w1 rfl
  by_cases h : n ≤ 18
  · have e1 : valN n (-dec l) = -dec l := by simp [valN, h]
    have e2 : okN n = true := by simp [okN, h]
    rw [e1, e2]
    exact short_neg b off n c l w1 hl h1 h hc hdig c0 hcell
  · have e1 : valN n (-dec l) = 0 := by simp [valN, h]
    have e2 : okN n = false := by simp [okN]; omega
    rw [e1, e2]
    exact short_neg_long b off n c w1 hn (by omega) hc c0

end Go.Proofs.Qxb6603223aMods
