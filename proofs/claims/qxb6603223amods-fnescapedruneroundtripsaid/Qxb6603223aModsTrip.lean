/-
  THE WALK OF FnEscapedRuneRoundTrip.
-/
import Derived.Test.Qxb6603223aModsBuf
import Derived.Test.Qxb6603223aModsEsc
namespace Go.Proofs.Qxb6603223aMods
open Go.RowKit
set_option linter.unusedVariables false

theorem trip_big (r m : Int) (ao : Option Addr) (n c : Nat) (w : World) (h : 1048576 < n) :
    Calls Trym.prog 7 #[.int .i32 r, .int .u8 m, .slice ao n c] w fun e w' => e = .returned (.bool true) ∧ Below w.heap.size w w' := by
  go_enter Trym.func7, Trym.ntmps7
  go_wp2_with (go_at_call 17; refine (bytes17_no _ _ _ _ _ h _).mono ?_; rintro e w' ⟨rfl, rfl⟩)
  go_ret
  exact ⟨rfl, Below.refl _ _⟩

theorem trip_out (r m : Int) (ao : Option Addr) (n c : Nat) (w : World) (hn : n ≤ 1048576) (h : r < 0 ∨ 65535 < r) :
    Calls Trym.prog 7 #[.int .i32 r, .int .u8 m, .slice ao n c] w fun e w' => e = .returned (.bool true) ∧ Below w.heap.size w w' := by
  by_cases h0 : r < 0
  · go_enter Trym.func7, Trym.ntmps7
    go_wp2_with (go_at_call 17; refine (bytes17_yes _ _ _ _ _ hn _).mono ?_; rintro e w' ⟨rfl, rfl⟩)
    go_ret
    exact ⟨rfl, Below.refl _ _⟩
  · have h1 : 65535 < r := by omega
    clear h
    go_enter Trym.func7, Trym.ntmps7
    go_wp2_with (go_at_call 17; refine (bytes17_yes _ _ _ _ _ hn _).mono ?_; rintro e w' ⟨rfl, rfl⟩)
    go_ret
    exact ⟨rfl, Below.refl _ _⟩

/-- The j-th of the four hex digits of r. -/
def dg (r : Int) : Nat → Int
  | 0 => r / 4096 % 16
  | 1 => r / 256 % 16
  | 2 => r / 16 % 16
  | _ => r % 16

/-- What the buffer holds when k digits are written. -/
structure Pre (r : Int) (k : Nat) (xs : List Int) : Prop where
  len : xs.length = 2 + k
  c0 : xs.getD 0 0 = 92
  c1 : xs.getD 1 0 = 117
  dig : ∀ j, j < k → hexv (xs.getD (2 + j) 0) = dg r j
  byt : ∀ x ∈ xs, 0 ≤ x ∧ x ≤ 255

theorem pre_start (r : Int) : Pre r 0 [92, 117] := ⟨rfl, rfl, rfl, fun j h => by omega, fun x hx => by simp at hx; omega⟩

theorem pre_step {r : Int} {k : Nat} {xs : List Int} (h : Pre r k xs) (x : Int) (hx : hexv x = dg r k) (hb : 0 ≤ x ∧ x ≤ 255) : Pre r (k + 1) (xs ++ [x]) := by
  have hl := h.len
  refine ⟨by simp [hl]; omega, ?_, ?_, fun j hj => ?_, fun y hy => ?_⟩
  · rw [getD_left _ _ _ (by omega)]; exact h.c0
  · rw [getD_left _ _ _ (by omega)]; exact h.c1
  · by_cases e : j = k
    · have := getD_right xs [x] 0
      rw [hl, Nat.add_zero] at this
      subst e
      rw [this]
      exact hx
    · rw [getD_left _ _ _ (by omega)]; exact h.dig j (by omega)
  · simp at hy
    rcases hy with hy | hy
    · exact h.byt y hy
    · subst hy; exact hb

/-- The whole buffer, whatever follows, is read back as r. -/
theorem pre_done {r : Int} {xs : List Int} (h : Pre r 4 xs) (l : List Int) (n : Nat) (h0 : 0 ≤ r) (h1 : r ≤ 65535) : escR (6 + n) (xs ++ l) = r := by
  have hl := h.len
  have d0 := h.dig 0 (by omega)
  have d1 := h.dig 1 (by omega)
  have d2 := h.dig 2 (by omega)
  have d3 := h.dig 3 (by omega)
  simp only [dg] at d0 d1 d2 d3
  have e : ∀ j, j < 4 → (xs ++ l).getD (2 + j) 0 = xs.getD (2 + j) 0 := fun j hj => getD_left _ _ _ (by omega)
  rw [← escR_good (6 + n) (xs ++ l) (by omega) (by rw [getD_left _ _ _ (by omega)]; exact h.c0) (by rw [getD_left _ _ _ (by omega)]; exact h.c1)]
  · simp only [escA]
    rw [e 0 (by omega), e 1 (by omega), e 2 (by omega), e 3 (by omega), d0, d1, d2, d3]
    omega
  · intro j hj
    rw [e j hj]
    match j, hj with
    | 0, _ => rw [d0]; omega
    | 1, _ => rw [d1]; omega
    | 2, _ => rw [d2]; omega
    | 3, _ => rw [d3]; omega

theorem i32_and15' (x : Int) (h0 : 0 ≤ x) (h1 : x < 2147483648) : bits .and .i32 x 15 = x % 16 := bits_mask .i32 31 (by decide) wraps_i32 4 (by decide) x h0 h1

theorem lowd_bd (d : Int) (h0 : 0 ≤ d) (h1 : d ≤ 15) : 0 ≤ lowd d ∧ lowd d ≤ 255 := by unfold lowd; split <;> omega
theorem uppd_bd (d : Int) (h0 : 0 ≤ d) (h1 : d ≤ 15) : 0 ≤ uppd d ∧ uppd d ≤ 255 := by unfold uppd; split <;> omega

set_option maxHeartbeats 1000000 in
theorem trip_good (r m : Int) (ao : Option Addr) (n c : Nat) (l : List Int) (w : World) (hn : n ≤ 1048576) (h0 : 0 ≤ r) (h1 : r ≤ 65535) (hm0 : 0 ≤ m) (hm1 : m ≤ 255) (hi : Inp w ao n c l) :
    Calls Trym.prog 7 #[.int .i32 r, .int .u8 m, .slice ao n c] w fun e w' => e = .returned (.bool true) ∧ Below w.heap.size w w' := by
  have H : Hid (Inp w ao n c l) := hi
  clear hi
  obtain ⟨i0, hi, hz0, hz1, hz2⟩ := info_parts info5
  go_enter Trym.func7, Trym.ntmps7
  go_wp2_with (first | (go_at_call 17; refine (bytes17_yes _ _ _ _ _ hn _).mono ?_; rintro e w0 ⟨rfl, rfl⟩) | (go_at_call 14; refine (clone_any _ _ _ l _ hn H.out).mono ?_; rintro e w1 ⟨ao', rfl, hao, hcell, hbel⟩) | (at_make; refine wpList_make_own _ rfl _ _ 25 rfl w1.heap.size 5 i0 (.int .u8 0) 1 Trym.underlying25 hi hz0 hz1 .i64 .i64 _ (6 + n) rfl rfl (by omega) ?b1 ?b2 ?b3 ?_))
  case b1 => rw [hz2]; omega
  case b2 => unfold maxLen; omega
  case b3 => exact Nat.le_refl _
  intro w2 hown hgrow
  have B2 := buf_start hown hgrow
  have HB2 : Hid (Buf w1 w2 w1.heap.size (6 + n) []) := B2
  clear hown hgrow B2
  go_wp2_with (at_builtin; refine wpList_append_fits _ rfl (.tmp 30) (.tmp 31) 25 rfl w1.heap.size 5 i0 1 Trym.underlying25 hi hz1 w1.heap.size 0 (6 + n) [] rfl (HB2.out.own.alloc _) ⟨w2.heap.size, 0, none⟩ 2 2 (([92, 117] : List Int).map (Value.int .u8)) rfl rfl (new_two _ _ _) (ints_oneCell _ _) (by omega) ?_)
  intro w3 hown3 hgrow3
  have B3 := buf_append (ys := [92, 117]) HB2.out ((Below.refl _ _).alloc HB2.out.le _) rfl rfl hown3 hgrow3
  have HB3 : Hid (Buf w1 w3 w1.heap.size (6 + n) [92, 117]) := B3
  clear hown3 hgrow3 B3
  go_wp2_with fail
  go_loopw [7, 8] (fun v i wr => ∃ (k : Nat) (xs : List Int), k ≤ 4 ∧ i = .int .i64 k ∧ v = .slice (some ⟨w1.heap.size, 0, none⟩) (2 + k) (6 + n) ∧ Pre r k xs ∧ Buf w1 wr w1.heap.size (6 + n) xs) (fun _ i _ => 4 - (intOf i).toNat)
  case atStart => exact ⟨0, [92, 117], by omega, rfl, rfl, pre_start r, HB3.out⟩
  case round =>
    obtain ⟨k, xs, hk, rfl, rfl, hp, hB⟩ := hrel
    have HBr : Hid (Buf w1 wr w1.heap.size (6 + n) xs) := hB
    clear hB
    by_cases hlt : k < 4
    · have hdg : 0 ≤ dg r k ∧ dg r k < 16 := by unfold dg; split <;> omega
      obtain ⟨d, hd⟩ : ∃ d : Nat, (d : Int) = dg r k := ⟨(dg r k).toNat, by omega⟩
      have hd16 : d < 16 := by omega
      have hl := low_at d hd16
      have hu := upp_at d hd16
      have HDD : Hid ((d : Int) = dg r k) := hd
      clear hdg hd
      match k, hlt with
      | 0, _ =>
        have hs : bits .and .i32 (r / 4096) 15 = (d : Int) := by rw [i32_and15' _ (by omega) (by omega)]; exact HDD.out.symm
        have hown : wr.ownsRow w1.heap.size 5 1 (.slice (some ⟨w1.heap.size, 0, none⟩) 2 (6 + n)) 2 (xs.map (Value.int .u8)) := by have := HBr.out.own; rw [hp.len] at this; exact this
        go_wp2_with (first | (at_builtin; refine wpList_append_fits _ rfl (.tmp 50) (.tmp 53) 25 rfl w1.heap.size 5 i0 1 Trym.underlying25 hi hz1 w1.heap.size 2 (6 + n) (xs.map (Value.int .u8)) rfl (hown.alloc _) ⟨wr.heap.size, 0, none⟩ 1 1 (([uppd d] : List Int).map (Value.int .u8)) rfl rfl (new_one _ _) (ints_oneCell _ _) (by omega) ?_) | (at_builtin; refine wpList_append_fits _ rfl (.tmp 55) (.tmp 58) 25 rfl w1.heap.size 5 i0 1 Trym.underlying25 hi hz1 w1.heap.size 2 (6 + n) (xs.map (Value.int .u8)) rfl (hown.alloc _) ⟨wr.heap.size, 0, none⟩ 1 1 (([lowd d] : List Int).map (Value.int .u8)) rfl rfl (new_one _ _) (ints_oneCell _ _) (by omega) ?_))
        · intro w4 hown4 hgrow4
          have HB4 : Hid (Buf w1 w4 w1.heap.size (6 + n) (xs ++ [uppd d])) := buf_append HBr.out ((Below.refl _ _).alloc HBr.out.le _) rfl (by rw [hp.len]; rfl) hown4 hgrow4
          have HP : Hid (Pre r 1 (xs ++ [uppd d])) := pre_step hp _ (by rw [hexv_uppd _ (by omega) (by omega)]; exact HDD.out) (uppd_bd _ (by omega) (by omega))
          clear hown4 hgrow4 hown hp
          go_wp2
          go_roundw
          case rel => exact ⟨1, _, by omega, by go_num, rfl, HP.out, HB4.out⟩
          case measure => simp [intOf]
        · intro w4 hown4 hgrow4
          have HB4 : Hid (Buf w1 w4 w1.heap.size (6 + n) (xs ++ [lowd d])) := buf_append HBr.out ((Below.refl _ _).alloc HBr.out.le _) rfl (by rw [hp.len]; rfl) hown4 hgrow4
          have HP : Hid (Pre r 1 (xs ++ [lowd d])) := pre_step hp _ (by rw [hexv_lowd _ (by omega) (by omega)]; exact HDD.out) (lowd_bd _ (by omega) (by omega))
          clear hown4 hgrow4 hown hp
          go_wp2
          go_roundw
          case rel => exact ⟨1, _, by omega, by go_num, rfl, HP.out, HB4.out⟩
          case measure => simp [intOf]
      | 1, _ =>
        have hs : bits .and .i32 (r / 256) 15 = (d : Int) := by rw [i32_and15' _ (by omega) (by omega)]; exact HDD.out.symm
        have hown : wr.ownsRow w1.heap.size 5 1 (.slice (some ⟨w1.heap.size, 0, none⟩) 3 (6 + n)) 3 (xs.map (Value.int .u8)) := by have := HBr.out.own; rw [hp.len] at this; exact this
        go_wp2_with (first | (at_builtin; refine wpList_append_fits _ rfl (.tmp 50) (.tmp 53) 25 rfl w1.heap.size 5 i0 1 Trym.underlying25 hi hz1 w1.heap.size 3 (6 + n) (xs.map (Value.int .u8)) rfl (hown.alloc _) ⟨wr.heap.size, 0, none⟩ 1 1 (([uppd d] : List Int).map (Value.int .u8)) rfl rfl (new_one _ _) (ints_oneCell _ _) (by omega) ?_) | (at_builtin; refine wpList_append_fits _ rfl (.tmp 55) (.tmp 58) 25 rfl w1.heap.size 5 i0 1 Trym.underlying25 hi hz1 w1.heap.size 3 (6 + n) (xs.map (Value.int .u8)) rfl (hown.alloc _) ⟨wr.heap.size, 0, none⟩ 1 1 (([lowd d] : List Int).map (Value.int .u8)) rfl rfl (new_one _ _) (ints_oneCell _ _) (by omega) ?_))
        · intro w4 hown4 hgrow4
          have HB4 : Hid (Buf w1 w4 w1.heap.size (6 + n) (xs ++ [uppd d])) := buf_append HBr.out ((Below.refl _ _).alloc HBr.out.le _) rfl (by rw [hp.len]; rfl) hown4 hgrow4
          have HP : Hid (Pre r 2 (xs ++ [uppd d])) := pre_step hp _ (by rw [hexv_uppd _ (by omega) (by omega)]; exact HDD.out) (uppd_bd _ (by omega) (by omega))
          clear hown4 hgrow4 hown hp
          go_wp2
          go_roundw
          case rel => exact ⟨2, _, by omega, by go_num, rfl, HP.out, HB4.out⟩
          case measure => simp [intOf]
        · intro w4 hown4 hgrow4
          have HB4 : Hid (Buf w1 w4 w1.heap.size (6 + n) (xs ++ [lowd d])) := buf_append HBr.out ((Below.refl _ _).alloc HBr.out.le _) rfl (by rw [hp.len]; rfl) hown4 hgrow4
          have HP : Hid (Pre r 2 (xs ++ [lowd d])) := pre_step hp _ (by rw [hexv_lowd _ (by omega) (by omega)]; exact HDD.out) (lowd_bd _ (by omega) (by omega))
          clear hown4 hgrow4 hown hp
          go_wp2
          go_roundw
          case rel => exact ⟨2, _, by omega, by go_num, rfl, HP.out, HB4.out⟩
          case measure => simp [intOf]
      | 2, _ =>
        have hs : bits .and .i32 (r / 16) 15 = (d : Int) := by rw [i32_and15' _ (by omega) (by omega)]; exact HDD.out.symm
        have hown : wr.ownsRow w1.heap.size 5 1 (.slice (some ⟨w1.heap.size, 0, none⟩) 4 (6 + n)) 4 (xs.map (Value.int .u8)) := by have := HBr.out.own; rw [hp.len] at this; exact this
        go_wp2_with (first | (at_builtin; refine wpList_append_fits _ rfl (.tmp 50) (.tmp 53) 25 rfl w1.heap.size 5 i0 1 Trym.underlying25 hi hz1 w1.heap.size 4 (6 + n) (xs.map (Value.int .u8)) rfl (hown.alloc _) ⟨wr.heap.size, 0, none⟩ 1 1 (([uppd d] : List Int).map (Value.int .u8)) rfl rfl (new_one _ _) (ints_oneCell _ _) (by omega) ?_) | (at_builtin; refine wpList_append_fits _ rfl (.tmp 55) (.tmp 58) 25 rfl w1.heap.size 5 i0 1 Trym.underlying25 hi hz1 w1.heap.size 4 (6 + n) (xs.map (Value.int .u8)) rfl (hown.alloc _) ⟨wr.heap.size, 0, none⟩ 1 1 (([lowd d] : List Int).map (Value.int .u8)) rfl rfl (new_one _ _) (ints_oneCell _ _) (by omega) ?_))
        · intro w4 hown4 hgrow4
          have HB4 : Hid (Buf w1 w4 w1.heap.size (6 + n) (xs ++ [uppd d])) := buf_append HBr.out ((Below.refl _ _).alloc HBr.out.le _) rfl (by rw [hp.len]; rfl) hown4 hgrow4
          have HP : Hid (Pre r 3 (xs ++ [uppd d])) := pre_step hp _ (by rw [hexv_uppd _ (by omega) (by omega)]; exact HDD.out) (uppd_bd _ (by omega) (by omega))
          clear hown4 hgrow4 hown hp
          go_wp2
          go_roundw
          case rel => exact ⟨3, _, by omega, by go_num, rfl, HP.out, HB4.out⟩
          case measure => simp [intOf]
        · intro w4 hown4 hgrow4
          have HB4 : Hid (Buf w1 w4 w1.heap.size (6 + n) (xs ++ [lowd d])) := buf_append HBr.out ((Below.refl _ _).alloc HBr.out.le _) rfl (by rw [hp.len]; rfl) hown4 hgrow4
          have HP : Hid (Pre r 3 (xs ++ [lowd d])) := pre_step hp _ (by rw [hexv_lowd _ (by omega) (by omega)]; exact HDD.out) (lowd_bd _ (by omega) (by omega))
          clear hown4 hgrow4 hown hp
          go_wp2
          go_roundw
          case rel => exact ⟨3, _, by omega, by go_num, rfl, HP.out, HB4.out⟩
          case measure => simp [intOf]
      | 3, _ =>
        have hs : bits .and .i32 r 15 = (d : Int) := by rw [i32_and15' _ (by omega) (by omega)]; exact HDD.out.symm
        have hown : wr.ownsRow w1.heap.size 5 1 (.slice (some ⟨w1.heap.size, 0, none⟩) 5 (6 + n)) 5 (xs.map (Value.int .u8)) := by have := HBr.out.own; rw [hp.len] at this; exact this
        go_wp2_with (first | (at_builtin; refine wpList_append_fits _ rfl (.tmp 50) (.tmp 53) 25 rfl w1.heap.size 5 i0 1 Trym.underlying25 hi hz1 w1.heap.size 5 (6 + n) (xs.map (Value.int .u8)) rfl (hown.alloc _) ⟨wr.heap.size, 0, none⟩ 1 1 (([uppd d] : List Int).map (Value.int .u8)) rfl rfl (new_one _ _) (ints_oneCell _ _) (by omega) ?_) | (at_builtin; refine wpList_append_fits _ rfl (.tmp 55) (.tmp 58) 25 rfl w1.heap.size 5 i0 1 Trym.underlying25 hi hz1 w1.heap.size 5 (6 + n) (xs.map (Value.int .u8)) rfl (hown.alloc _) ⟨wr.heap.size, 0, none⟩ 1 1 (([lowd d] : List Int).map (Value.int .u8)) rfl rfl (new_one _ _) (ints_oneCell _ _) (by omega) ?_))
        · intro w4 hown4 hgrow4
          have HB4 : Hid (Buf w1 w4 w1.heap.size (6 + n) (xs ++ [uppd d])) := buf_append HBr.out ((Below.refl _ _).alloc HBr.out.le _) rfl (by rw [hp.len]; rfl) hown4 hgrow4
          have HP : Hid (Pre r 4 (xs ++ [uppd d])) := pre_step hp _ (by rw [hexv_uppd _ (by omega) (by omega)]; exact HDD.out) (uppd_bd _ (by omega) (by omega))
          clear hown4 hgrow4 hown hp
          go_wp2
          go_roundw
          case rel => exact ⟨4, _, by omega, by go_num, rfl, HP.out, HB4.out⟩
          case measure => simp [intOf]
        · intro w4 hown4 hgrow4
          have HB4 : Hid (Buf w1 w4 w1.heap.size (6 + n) (xs ++ [lowd d])) := buf_append HBr.out ((Below.refl _ _).alloc HBr.out.le _) rfl (by rw [hp.len]; rfl) hown4 hgrow4
          have HP : Hid (Pre r 4 (xs ++ [lowd d])) := pre_step hp _ (by rw [hexv_lowd _ (by omega) (by omega)]; exact HDD.out) (lowd_bd _ (by omega) (by omega))
          clear hown4 hgrow4 hown hp
          go_wp2
          go_roundw
          case rel => exact ⟨4, _, by omega, by go_num, rfl, HP.out, HB4.out⟩
          case measure => simp [intOf]
    · obtain rfl : k = 4 := by omega
      have hl := H.out.1
      have hown : wr.ownsRow w1.heap.size 5 1 (.slice (some ⟨w1.heap.size, 0, none⟩) 6 (6 + n)) 6 (xs.map (Value.int .u8)) := by have := HBr.out.own; rw [hp.len] at this; exact this
      have hT := tail_cells hl hao hcell HBr.out.bel
      have hN : ao' = none → n = 0 ∧ n = 0 := fun e => by
        by_cases h0 : 0 < n
        · rw [hao h0] at e; cases e
        · omega
      have HL : Hid (l.length = n) := hl
      clear hl hao hcell
      go_wp2_with (at_builtin; refine wpList_append_fits_any _ rfl (.tmp 60) (.tmp 61) 25 rfl w1.heap.size 5 i0 1 Trym.underlying25 hi hz1 w1.heap.size 6 (6 + n) (xs.map (Value.int .u8)) rfl hown ao' n n (l.map (Value.int .u8)) rfl ?hn hN hT (ints_oneCell _ _) (by omega) ?_)
      case hn => rw [List.length_map, HL.out, Nat.mul_one]
      intro w5 hown5 hgrow5
      have hB5 : Buf w1 w5 w1.heap.size (6 + n) (xs ++ l) := buf_append HBr.out (Below.refl _ _) HL.out.symm (by rw [hp.len]) hown5 hgrow5
      have hc5 := buf_cell hB5
      have hlen5 : (xs ++ l).length = 6 + n := by rw [List.length_append, hp.len, HL.out]
      rw [hlen5] at hc5
      have HR : Hid (escR (6 + n) (xs ++ l) = r) := pre_done hp l n h0 h1
      have HBL : Hid (Below w0.heap.size w0 w5) := hbel.trans (hB5.bel.mono hbel.size)
      have hby : ∀ i, 0 ≤ (xs ++ l).getD i 0 ∧ (xs ++ l).getD i 0 ≤ 255 := getD_bytes _ (fun x hx => by
        rcases List.mem_append.1 hx with h | h
        · exact hp.byt x h
        · exact mem_bytes l H.out.2.2.1 x h)
      clear hown5 hgrow5 hB5 hlen5 hown hT hN hp
      go_wp2_with fail
      refine (zzesc_any _ w1.heap.size 0 (6 + n) (6 + n) (xs ++ l) w5 (fun _ => rfl) (Nat.le_refl _) hc5 hby).mono ?_
      rintro e w6 ⟨rfl, rfl⟩
      rw [HR.out]
      clear hc5 hby
      go_wp2
      go_ret
      exact ⟨rfl, HBL.out⟩

theorem trip_walk (r m : Int) (ao : Option Addr) (n c : Nat) (l : List Int) (w : World) (hm0 : 0 ≤ m) (hm1 : m ≤ 255) (hi : Inp w ao n c l) :
    Calls Trym.prog 7 #[.int .i32 r, .int .u8 m, .slice ao n c] w fun e w' => e = .returned (.bool true) ∧ Below w.heap.size w w' := by
  by_cases hb : n ≤ 1048576
  · by_cases h : r < 0 ∨ 65535 < r
    · exact trip_out r m ao n c w hb h
    · exact trip_good r m ao n c l w hb (by omega) (by omega) hm0 hm1 hi
  · exact trip_big r m ao n c w (by omega)

end Go.Proofs.Qxb6603223aMods
