/-
  THE WALK OF FnEscapedRuneSpec.
-/
import Derived.Test.Qxb6603223aModsBytes
import Derived.Test.Qxb6603223aModsEsc
namespace Go.Proofs.Qxb6603223aMods
open Go.RowKit
set_option linter.unusedVariables false

theorem zzesc_short' (ao : Option Addr) (n c : Nat) (w : World) (h : n < 6) :
    Calls Trym.prog 15 #[.slice ao n c] w fun e w' => e = .returned (.int .i32 (-1)) ∧ w' = w := by
  go_enter Trym.func15, Trym.ntmps15
  go_wp2_with (go_at_call 27; refine (esc_short _ _ _ _ h).mono ?_; rintro e w' ⟨rfl, rfl⟩)
  go_ret
  exact ⟨rfl, rfl⟩

theorem spec_big (ao : Option Addr) (n c : Nat) (w : World) (h : 1048576 < n) :
    Calls Trym.prog 5 #[.slice ao n c] w fun e w' => e = .returned (.bool true) ∧ Below w.heap.size w w' := by
  go_enter Trym.func5, Trym.ntmps5
  go_wp2_with (go_at_call 13; refine (bytes13_no _ _ _ h _).mono ?_; rintro e w' ⟨rfl, rfl⟩)
  go_ret
  exact ⟨rfl, Below.refl _ _⟩

theorem spec_short (ao : Option Addr) (n c : Nat) (l : List Int) (w : World) (h : n < 6) (hi : Inp w ao n c l) :
    Calls Trym.prog 5 #[.slice ao n c] w fun e w' => e = .returned (.bool true) ∧ Below w.heap.size w w' := by
  have H : Hid (Inp w ao n c l) := hi
  clear hi
  go_enter Trym.func5, Trym.ntmps5
  go_wp2_with (first | (go_at_call 13; refine (bytes13_yes _ _ _ (by omega) _).mono ?_; rintro e w' ⟨rfl, rfl⟩) | (go_at_call 14; refine (clone_any _ _ _ l _ (by omega) H.out).mono ?_; rintro e w1 ⟨ao', rfl, hao, hcell, hbel⟩) | (go_at_call 15; refine (zzesc_short' _ _ _ _ h).mono ?_; rintro e w' ⟨rfl, rfl⟩))
  refine wp_loop_rounds 1 ?_
  rw [rounds_succ]
  go_wp2
  go_ret
  exact ⟨rfl, by assumption⟩

theorem spec_head (ao : Option Addr) (n c : Nat) (l : List Int) (w : World) (h : 6 ≤ n) (hn : n ≤ 1048576) (hbad : ¬ (l.getD 0 0 = 92 ∧ l.getD 1 0 = 117)) (hi : Inp w ao n c l) :
    Calls Trym.prog 5 #[.slice ao n c] w fun e w' => e = .returned (.bool true) ∧ Below w.heap.size w w' := by
  have H : Hid (Inp w ao n c l) := hi
  have hby := hi.2.2.1
  clear hi
  go_enter Trym.func5, Trym.ntmps5
  go_wp2_with (first | (go_at_call 13; refine (bytes13_yes _ _ _ (by omega) _).mono ?_; rintro e w0 ⟨rfl, rfl⟩) | (go_at_call 14; refine (clone_pos _ _ _ l _ hn (by omega) H.out).mono ?_; rintro e w1 ⟨rfl, hrow, hbel, hsz⟩))
  have hcell : ∀ i, i < n → w1.cell? ⟨w0.heap.size, 0 + i, none⟩ = some (.int .u8 (l.getD i 0)) := fun i h => by rw [Nat.zero_add]; exact hrow.cell h
  have HB : Hid (Below w0.heap.size w0 w1) := hbel
  clear hrow hsz hbel
  refine (zzesc_any _ w0.heap.size 0 n n l w1 (fun _ => rfl) (Nat.le_refl _) hcell hby).mono ?_
  rintro e w2 ⟨rfl, rfl⟩
  rw [escR_head n l hbad]
  obtain ⟨x0, hx0⟩ : ∃ x, x = l.getD 0 0 := ⟨_, rfl⟩
  obtain ⟨x1, hx1⟩ : ∃ x, x = l.getD 1 0 := ⟨_, rfl⟩
  have c0 : w2.cell? ⟨w0.heap.size, 0, none⟩ = some (.int .u8 x0) := by rw [hx0]; exact hcell 0 (by omega)
  have c1 : w2.cell? ⟨w0.heap.size, 1, none⟩ = some (.int .u8 x1) := by rw [hx1]; exact hcell 1 (by omega)
  rw [← hx0, ← hx1] at hbad
  clear hx0 hx1 hcell
  by_cases e0 : x0 = 92
  · have e1 : (x1 == 117) = false := by simp; exact fun e => hbad ⟨e0, e⟩
    have e0b : (x0 == 92) = true := by simpa using e0
    clear hbad e0
    go_wp2_with fail
    refine wp_loop_rounds 1 ?_
    rw [rounds_succ]
    go_wp2
    go_ret
    exact ⟨rfl, HB.out⟩
  · have e0b : (x0 == 92) = false := by simpa using e0
    clear hbad e0
    go_wp2_with fail
    refine wp_loop_rounds 1 ?_
    rw [rounds_succ]
    go_wp2
    go_ret
    exact ⟨rfl, HB.out⟩

/-- What the first loop has found, k bytes read. -/
structure Seen (n : Nat) (l : List Int) (k : Nat) (v : Bool) : Prop where
  lo : 2 ≤ k
  hi : k ≤ 6
  yes : v = true → ∀ j, 2 + j < k → 0 ≤ hexv (l.getD (2 + j) 0)
  no : v = false → escR n l = -1

theorem seen_start (n : Nat) (l : List Int) : Seen n l 2 true := ⟨by omega, by omega, fun _ j h => by omega, fun h => by cases h⟩
theorem seen_yes {n : Nat} {l : List Int} {k : Nat} (h : Seen n l k true) (hk : k < 6) (hx : isHexB (l.getD k 0) = true) : Seen n l (k + 1) true := by
  have h1 := h.lo
  refine ⟨by omega, by omega, fun _ j hj => ?_, fun h => by cases h⟩
  by_cases e : 2 + j = k
  · rw [e]; simpa [isHexB] using hx
  · exact h.yes rfl j (by omega)
theorem seen_no {n : Nat} {l : List Int} {k : Nat} (h : Seen n l k true) (hk : k < 6) (hx : isHexB (l.getD k 0) = false) : Seen n l (k + 1) false := by
  have h1 := h.lo
  refine ⟨by omega, by omega, (fun h => by cases h), fun _ => ?_⟩
  refine (escR_bad n l (k - 2) (by omega) ?_).symm
  rw [show 2 + (k - 2) = k by omega]
  simpa [isHexB] using hx

theorem i32_and15 (x : Int) (h0 : 0 ≤ x) (h1 : x < 2147483648) : bits .and .i32 x 15 = x % 16 := bits_mask .i32 31 (by decide) wraps_i32 4 (by decide) x h0 h1

/-- The k-th hex digit of the answer. -/
theorem escA_digit (l : List Int) (h : ∀ j, j < 4 → 0 ≤ hexv (l.getD (2 + j) 0)) :
    escA l 4 / 4096 % 16 = hexv (l.getD 2 0) ∧ escA l 4 / 256 % 16 = hexv (l.getD 3 0) ∧ escA l 4 / 16 % 16 = hexv (l.getD 4 0) ∧ escA l 4 % 16 = hexv (l.getD 5 0) := by
  have a0 := h 0 (by omega)
  have a1 := h 1 (by omega)
  have a2 := h 2 (by omega)
  have a3 := h 3 (by omega)
  have b0 := hexv_bd (l.getD (2 + 0) 0)
  have b1 := hexv_bd (l.getD (2 + 1) 0)
  have b2 := hexv_bd (l.getD (2 + 2) 0)
  have b3 := hexv_bd (l.getD (2 + 3) 0)
  simp only [escA, Nat.add_zero, Nat.reduceAdd] at *
  omega

set_option maxHeartbeats 1000000 in
theorem spec_good (ao : Option Addr) (n c : Nat) (l : List Int) (w : World) (h : 6 ≤ n) (hn : n ≤ 1048576) (h0 : l.getD 0 0 = 92) (h1 : l.getD 1 0 = 117) (hi : Inp w ao n c l) :
    Calls Trym.prog 5 #[.slice ao n c] w fun e w' => e = .returned (.bool true) ∧ Below w.heap.size w w' := by
  have H : Hid (Inp w ao n c l) := hi
  have hby := hi.2.2.1
  have H0 : Hid (l.getD 0 0 = 92) := h0
  have H1 : Hid (l.getD 1 0 = 117) := h1
  clear hi h0 h1
  go_enter Trym.func5, Trym.ntmps5
  go_wp2_with (first | (go_at_call 13; refine (bytes13_yes _ _ _ (by omega) _).mono ?_; rintro e w0 ⟨rfl, rfl⟩) | (go_at_call 14; refine (clone_pos _ _ _ l _ hn (by omega) H.out).mono ?_; rintro e w1 ⟨rfl, hrow, hbel, hsz⟩))
  have hcell : ∀ i, i < n → w1.cell? ⟨w0.heap.size, 0 + i, none⟩ = some (.int .u8 (l.getD i 0)) := fun i h => by rw [Nat.zero_add]; exact hrow.cell h
  have HB : Hid (Below w0.heap.size w0 w1) := hbel
  clear hrow hsz hbel
  refine (zzesc_any _ w0.heap.size 0 n n l w1 (fun _ => rfl) (Nat.le_refl _) hcell hby).mono ?_
  rintro e w2 ⟨rfl, rfl⟩
  have c0 : w2.cell? ⟨w0.heap.size, 0, none⟩ = some (.int .u8 92) := by rw [← H0.out]; exact hcell 0 (by omega)
  have c1 : w2.cell? ⟨w0.heap.size, 1, none⟩ = some (.int .u8 117) := by rw [← H1.out]; exact hcell 1 (by omega)
  have HC : Hid (∀ i, i < n → w2.cell? ⟨w0.heap.size, i, none⟩ = some (.int .u8 (l.getD i 0))) := fun i h => by have := hcell i h; rw [Nat.zero_add] at this; exact this
  clear hcell
  go_wp2_with fail
  go_loop [4, 5] (fun v i => ∃ (k : Nat) (b : Bool), v = .bool b ∧ i = .int .i64 k ∧ Seen n l k b) (fun _ i => 6 - (intOf i).toNat)
  case atStart => exact ⟨2, true, rfl, rfl, seen_start n l⟩
  case round =>
    obtain ⟨k, b, rfl, rfl, hs⟩ := hrel
    have hk1 := hs.lo
    have hk2 := hs.hi
    cases b with
    | false =>
      have hR : escR n l = -1 := hs.no rfl
      clear hs
      go_wp2
      go_ret
      exact ⟨rfl, HB.out⟩
    | true =>
      by_cases hlt : k < 6
      · obtain ⟨x, hx⟩ : ∃ x, x = l.getD k 0 := ⟨_, rfl⟩
        have hbx : 0 ≤ x ∧ x ≤ 255 := by rw [hx]; exact hby k
        have g0 : w2.cell? ⟨w0.heap.size, k, none⟩ = some (.int .u8 x) := by rw [hx]; exact HC.out k (by omega)
        cases hb : isHexB x with
        | false =>
          have R := seen_no hs hlt (by rw [← hx]; exact hb)
          clear hs hx
          go_wp2_with (go_at_call 11; refine (isHex_any _ hbx.1 hbx.2 _).mono ?_; rintro e w' ⟨rfl, rfl⟩)
          go_round
          case rel => exact ⟨k + 1, false, rfl, by go_num, R⟩
          case measure => simp [intOf]; omega
        | true =>
          have R := seen_yes hs hlt (by rw [← hx]; exact hb)
          clear hs hx
          go_wp2_with (go_at_call 11; refine (isHex_any _ hbx.1 hbx.2 _).mono ?_; rintro e w' ⟨rfl, rfl⟩)
          go_round
          case rel => exact ⟨k + 1, true, rfl, by go_num, R⟩
          case measure => simp [intOf]; omega
      · obtain rfl : k = 6 := by omega
        have hd : ∀ j, j < 4 → 0 ≤ hexv (l.getD (2 + j) 0) := fun j hj => hs.yes rfl j (by omega)
        have HD : Hid (∀ j, j < 4 → 0 ≤ hexv (l.getD (2 + j) 0)) := hd
        have hE : escA l 4 = escR n l := escR_good n l h H0.out H1.out hd
        have hbd := escA_bd l 4 hd (by omega)
        have hdig := escA_digit l hd
        rw [hE] at hbd hdig
        obtain ⟨r, hr⟩ : ∃ r, r = escR n l := ⟨_, rfl⟩
        rw [← hr] at hbd hdig ⊢
        have HG : Hid (r / 4096 % 16 = hexv (l.getD 2 0) ∧ r / 256 % 16 = hexv (l.getD 3 0) ∧ r / 16 % 16 = hexv (l.getD 4 0) ∧ r % 16 = hexv (l.getD 5 0)) := hdig
        clear hs hd hE hr hdig
        have hr0 := hbd.1
        have hr1 := hbd.2.1
        clear hbd
        go_wp2_with fail
        go_loopw [6] (fun i wr => ∃ (k : Nat) (q : Nat), k ≤ 4 ∧ i = .int .i64 k ∧ wr = w2.drewN q) (fun i _ => 4 - (intOf i).toNat)
        case atStart => exact ⟨0, 0, by omega, rfl, rfl⟩
        case round =>
          obtain ⟨k, q, hk, rfl, rfl⟩ := hrel
          by_cases hlt : k < 4
          · obtain ⟨x, hx⟩ : ∃ x, x = l.getD (2 + k) 0 := ⟨_, rfl⟩
            have hbx : 0 ≤ x ∧ x ≤ 255 := by rw [hx]; exact hby (2 + k)
            have g0 : w2.cell? ⟨w0.heap.size, 2 + k, none⟩ = some (.int .u8 x) := by rw [hx]; exact HC.out (2 + k) (by omega)
            have hx0 : 0 ≤ hexv x := by rw [hx]; exact HD.out k hlt
            have hx1 := (hexv_bd x).2
            obtain ⟨d, hd⟩ : ∃ d : Nat, hexv x = (d : Int) := ⟨(hexv x).toNat, by omega⟩
            have hd16 : d < 16 := by omega
            have hl := low_at d hd16
            have hdi : (d : Int) < 16 := by omega
            have hdz : (0 : Int) ≤ (d : Int) := by omega
            have he : (lowd (d : Int) != lowr x) = false := by rw [← hd, lowd_hexv x hx0]; simp
            have HX : Hid (x = l.getD (2 + k) 0) := hx
            have HDD : Hid (hexv x = (d : Int)) := hd
            clear hx hx0 hx1 hd
            have hG := HG.out
            match k, hlt with
            | 0, _ =>
              have hs : bits .and .i32 (r / 4096) 15 = (d : Int) := by rw [i32_and15 _ (by omega) (by omega), hG.1, ← HDD.out, HX.out]
              clear hG
              go_wp2
              go_quiet ((go_at_call 12; exact (lower_any _ hbx.1 hbx.2 _).mono fun e w'' h => ⟨h.1, _, h.2⟩))
              go_wp2
              go_roundw
              case rel => exact ⟨1, _, by omega, by go_num, rfl⟩
              case measure => simp [intOf]
            | 1, _ =>
              have hs : bits .and .i32 (r / 256) 15 = (d : Int) := by rw [i32_and15 _ (by omega) (by omega), hG.2.1, ← HDD.out, HX.out]
              clear hG
              go_wp2
              go_quiet ((go_at_call 12; exact (lower_any _ hbx.1 hbx.2 _).mono fun e w'' h => ⟨h.1, _, h.2⟩))
              go_wp2
              go_roundw
              case rel => exact ⟨2, _, by omega, by go_num, rfl⟩
              case measure => simp [intOf]
            | 2, _ =>
              have hs : bits .and .i32 (r / 16) 15 = (d : Int) := by rw [i32_and15 _ (by omega) (by omega), hG.2.2.1, ← HDD.out, HX.out]
              clear hG
              go_wp2
              go_quiet ((go_at_call 12; exact (lower_any _ hbx.1 hbx.2 _).mono fun e w'' h => ⟨h.1, _, h.2⟩))
              go_wp2
              go_roundw
              case rel => exact ⟨3, _, by omega, by go_num, rfl⟩
              case measure => simp [intOf]
            | 3, _ =>
              have hs : bits .and .i32 r 15 = (d : Int) := by rw [i32_and15 _ (by omega) (by omega), hG.2.2.2, ← HDD.out, HX.out]
              clear hG
              go_wp2
              go_quiet ((go_at_call 12; exact (lower_any _ hbx.1 hbx.2 _).mono fun e w'' h => ⟨h.1, _, h.2⟩))
              go_wp2
              go_roundw
              case rel => exact ⟨4, _, by omega, by go_num, rfl⟩
              case measure => simp [intOf]
          · go_wp2
            go_ret
            exact ⟨rfl, below_drewN HB.out _⟩

theorem spec_walk (ao : Option Addr) (n c : Nat) (l : List Int) (w : World) (hi : Inp w ao n c l) :
    Calls Trym.prog 5 #[.slice ao n c] w fun e w' => e = .returned (.bool true) ∧ Below w.heap.size w w' := by
  by_cases h : n < 6
  · exact spec_short ao n c l w h hi
  · by_cases hb : n ≤ 1048576
    · by_cases hh : l.getD 0 0 = 92 ∧ l.getD 1 0 = 117
      · exact spec_good ao n c l w (by omega) hb hh.1 hh.2 hi
      · exact spec_head ao n c l w (by omega) hb hh hi
    · exact spec_big ao n c w (by omega)

end Go.Proofs.Qxb6603223aMods
