/-
  THE WALK OF FnShortIntRoundTrip.
-/
import Derived.Test.Qxb6603223aModsCanon
import Derived.Test.Qxb6603223aModsEq
namespace Go.Proofs.Qxb6603223aMods
open Go.RowKit
set_option linter.unusedVariables false

theorem rt_big (ao : Option Addr) (n c : Nat) (w : World) (h : 1048576 < n) :
    Calls Trym.prog 8 #[.slice ao n c] w fun e w' => e = .returned (.bool true) ∧ Below w.heap.size w w' := by
  go_enter Trym.func8, Trym.ntmps8
  go_wp2_with (go_at_call 18; refine (bytes18_no _ _ _ h _).mono ?_; rintro e w' ⟨rfl, rfl⟩)
  go_ret
  exact ⟨rfl, Below.refl _ _⟩

/-- Outside the domain: nothing is asked. -/
theorem rt_out (ao : Option Addr) (n c : Nat) (l : List Int) (w : World) (hn : n ≤ 1048576) (hi : Inp w ao n c l) (hD : ¬ Dom l) :
    Calls Trym.prog 8 #[.slice ao n c] w fun e w' => e = .returned (.bool true) ∧ Below w.heap.size w w' := by
  have H : Hid (Inp w ao n c l) := hi
  have HD : Hid (¬ Dom l) := hD
  clear hi hD
  go_enter Trym.func8, Trym.ntmps8
  go_wp2_with (go_at_call 18; refine (bytes18_yes _ _ _ hn _).mono ?_; rintro e w0 ⟨rfl, rfl⟩)
  refine (dom_any _ _ _ l _ hn H.out).mono ?_
  rintro e w1 ⟨v, rfl, rfl, hv⟩
  cases v with
  | true => exact absurd (hv rfl) HD.out
  | false =>
    clear hv
    go_wp2
    go_ret
    exact ⟨rfl, Below.refl _ _⟩

theorem hid_mk' {p : Prop} (h : p) : Hid p := h

theorem itoa_len (x : Int) (h0 : -1000000000000000000 < x) (h1 : x < 1000000000000000000) : (itoa x).length ≤ 19 := by
  unfold itoa
  split
  · have := digs_length (-x) (by omega) (by omega)
    simp; omega
  · have := digs_length x (by omega) (by omega)
    omega

set_option maxHeartbeats 1000000 in
theorem rt_pos (ao : Option Addr) (m c : Nat) (d : List Int) (w : World) (hn : m ≤ 1048576) (h1 : 0 < m) (hl : d.length = m) (hdig : ∀ x ∈ d, 48 ≤ x ∧ x ≤ 57) (hi : Inp w ao m c d) :
    Calls Trym.prog 8 #[.slice ao m c] w fun e w' => e = .returned (.bool true) ∧ Below w.heap.size w w' := by
  have H : Hid (Inp w ao m c d) := hi
  have HL : Hid (d.length = m) := hl
  have HG : Hid (∀ x ∈ d, 48 ≤ x ∧ x ≤ 57) := hdig
  clear hi hl hdig
  go_enter Trym.func8, Trym.ntmps8
  go_wp2_with (go_at_call 18; refine (bytes18_yes _ _ _ hn _).mono ?_; rintro e wa ⟨rfl, rfl⟩)
  refine (dom_any _ _ _ d _ hn H.out).mono ?_
  rintro e w0 ⟨v, rfl, rfl, hv⟩
  clear hv
  cases v with
  | false =>
    go_wp2
    go_ret
    exact ⟨rfl, Below.refl _ _⟩
  | true =>
    go_wp2_with fail
    refine (clone_pos _ _ _ d _ hn (by omega) H.out).mono ?_
    rintro e w2 ⟨rfl, hrow, hbel, -⟩
    have hcl : ∀ i, i < m → w2.cell? ⟨w0.heap.size, 0 + i, none⟩ = some (.int .u8 (d.getD i 0)) := fun i h => by rw [Nat.zero_add]; exact hrow.cell h
    obtain ⟨y0, hy0⟩ : ∃ x, x = d.getD 0 0 := ⟨_, rfl⟩
    have c0 : w2.cell? ⟨w0.heap.size, 0, none⟩ = some (.int .u8 y0) := by rw [hy0]; exact hcl 0 h1
    have hb0 : 48 ≤ y0 := by rw [hy0]; exact (getD_dig d HG.out 0 (by rw [HL.out]; exact h1)).1
    clear hy0
    have HLT : Hid (w0.heap.size < w2.heap.size) := hrow.lt
    have HB : Hid (Below w0.heap.size w0 w2) := hbel
    clear hrow hbel
    go_wp2_with fail
    by_cases h18 : m ≤ 18
    · have hb := dec_lt18 d HG.out (by rw [HL.out]; exact h18)
      have e1 : valN m (dec d) = dec d := by simp [valN, h18]
      have e2 : okN m = true := by simp [okN, h18]
      have HP := zzshort_pos w0.heap.size 0 m m d w2 hn HL.out h1 HG.out hcl
      rw [e1, e2] at HP
      have HE : Hid (itoa (dec d) = canon false d) := itoa_canon false d (by intro e; have := HL.out; rw [e] at this; simp at this; omega) HG.out (by rw [HL.out]; exact h18)
      obtain ⟨D, hD⟩ : ∃ D, D = dec d := ⟨_, rfl⟩
      have hbD : -1000000000000000000 < D ∧ D < 1000000000000000000 := by omega
      rw [← hD] at HP HE
      refine HP.mono ?_
      rintro e w3 ⟨rfl, rfl⟩
      clear HP e1 e2 hb hD
      go_wp2_with fail
      refine (itoa_any D _ hbD.1 hbD.2).mono ?_
      rintro e w4 ⟨G1, cap1, rfl, hG1, hc1, hb4⟩
      have hlen := itoa_len D hbD.1 hbD.2
      rw [HE.out] at hc1 hlen ⊢
      have kc : ∀ i, i < m → w4.cell? ⟨w0.heap.size, 0 + i, none⟩ = some (.int .u8 (d.getD i 0)) := fun i h => by rw [hb4.cell (p := ⟨w0.heap.size, 0 + i, none⟩) HLT.out]; exact hcl i h
      have HB4 : Hid (Below w0.heap.size w0 w4) := HB.out.trans (hb4.mono HB.out.size)
      have HC1 : Hid (∀ i, i < (canon false d).length → w4.cell? ⟨G1, 0 + i, none⟩ = some (.int .u8 ((canon false d).getD i 0))) := hc1
      clear hb4 hcl hc1 
      obtain ⟨L, hL⟩ : ∃ L, L = canon false d := ⟨_, rfl⟩
      have PC := canon_pos w0.heap.size 0 m m d _ HL.out h1 hn (Nat.le_refl _) HG.out kc
      rw [← hL] at HC1 hlen PC ⊢
      have HPC := hid_mk' PC
      clear PC kc hL HE
      go_wp2_with fail
      refine HPC.out.mono ?_
      rintro e w5 ⟨G2, cap2, rfl, hG2, hc2, hb5⟩
      have hc1 : ∀ i, i < L.length → w5.cell? ⟨G1, 0 + i, none⟩ = some (.int .u8 (L.getD i 0)) := fun i h => by rw [hb5.cell (p := ⟨G1, 0 + i, none⟩) hG1]; exact HC1.out i h
      have HB5 : Hid (Below w0.heap.size w0 w5) := HB4.out.trans (hb5.mono HB4.out.size)
      clear hb5 HC1 HPC
      go_wp2_with fail
      refine (eq_same G1 0 cap1 G2 0 cap2 L.length L w5 (by omega) hc1 hc2).mono ?_
      rintro e w6 ⟨rfl, q, rfl⟩
      clear hc1 hc2
      go_wp2
      go_ret
      exact ⟨rfl, below_drewN HB5.out q⟩
    · have e1 : valN m (dec d) = 0 := by simp [valN, h18]
      have e2 : okN m = false := by simp [okN]; omega
      have HP := zzshort_pos w0.heap.size 0 m m d w2 hn HL.out h1 HG.out hcl
      rw [e1, e2] at HP
      refine HP.mono ?_
      rintro e w3 ⟨rfl, rfl⟩
      clear HP e1 e2
      go_wp2
      go_ret
      exact ⟨rfl, HB.out⟩

set_option maxHeartbeats 1000000 in
theorem rt_neg (ao : Option Addr) (n m c : Nat) (d : List Int) (w : World) (hnm : n = m + 1) (hn : n ≤ 1048576) (h1 : 0 < m) (hl : d.length = m) (hdig : ∀ x ∈ d, 48 ≤ x ∧ x ≤ 57) (hi : Inp w ao n c (45 :: d)) :
    Calls Trym.prog 8 #[.slice ao n c] w fun e w' => e = .returned (.bool true) ∧ Below w.heap.size w w' := by
  have H : Hid (Inp w ao n c (45 :: d)) := hi
  have HL : Hid (d.length = m) := hl
  have HG : Hid (∀ x ∈ d, 48 ≤ x ∧ x ≤ 57) := hdig
  have hn' : m ≤ 1048576 := by omega
  have hnp : 1 < n := by omega
  have HN : Hid (n = m + 1) := hnm
  clear hi hl hdig hnm
  go_enter Trym.func8, Trym.ntmps8
  go_wp2_with (go_at_call 18; refine (bytes18_yes _ _ _ hn _).mono ?_; rintro e wa ⟨rfl, rfl⟩)
  refine (dom_any _ _ _ (45 :: d) _ hn H.out).mono ?_
  rintro e w0 ⟨v, rfl, rfl, hv⟩
  clear hv
  cases v with
  | false =>
    go_wp2
    go_ret
    exact ⟨rfl, Below.refl _ _⟩
  | true =>
    go_wp2_with fail
    refine (clone_pos _ _ _ (45 :: d) _ hn (by omega) H.out).mono ?_
    rintro e w2 ⟨rfl, hrow, hbel, -⟩
    have hneg0 : w2.cell? ⟨w0.heap.size, 0, none⟩ = some (.int .u8 45) := hrow.cell (i := 0) (by have := HN.out; omega)
    have hcl : ∀ i, i < m → w2.cell? ⟨w0.heap.size, 0 + 1 + i, none⟩ = some (.int .u8 (d.getD i 0)) := fun i h => by
      have h2 := hrow.cell (i := i + 1) (by have := HN.out; omega)
      rw [show 0 + 1 + i = i + 1 by omega, h2]
      rfl
    have HLT : Hid (w0.heap.size < w2.heap.size) := hrow.lt
    have HB : Hid (Below w0.heap.size w0 w2) := hbel
    clear hrow hbel
    rw [HN.out]
    clear hn hnp
    go_wp2_with fail
    by_cases h18 : m ≤ 18
    · have hb := dec_lt18 d HG.out (by rw [HL.out]; exact h18)
      have e1 : valN m (-dec d) = -dec d := by simp [valN, h18]
      have e2 : okN m = true := by simp [okN, h18]
      have HP := zzshort_neg w0.heap.size 0 m (m + 1) d w2 hn' HL.out h1 (Nat.le_refl _) HG.out hneg0 hcl
      rw [e1, e2] at HP
      have HE : Hid (itoa (-dec d) = canon true d) := itoa_canon true d (by intro e; have := HL.out; rw [e] at this; simp at this; omega) HG.out (by rw [HL.out]; exact h18)
      obtain ⟨D, hD⟩ : ∃ D, D = -dec d := ⟨_, rfl⟩
      have hbD : -1000000000000000000 < D ∧ D < 1000000000000000000 := by omega
      rw [← hD] at HP HE
      refine HP.mono ?_
      rintro e w3 ⟨rfl, rfl⟩
      clear HP e1 e2 hb hD
      go_wp2_with fail
      refine (itoa_any D _ hbD.1 hbD.2).mono ?_
      rintro e w4 ⟨G1, cap1, rfl, hG1, hc1, hb4⟩
      have hlen := itoa_len D hbD.1 hbD.2
      rw [HE.out] at hc1 hlen ⊢
      have k0 : w4.cell? ⟨w0.heap.size, 0, none⟩ = some (.int .u8 45) := by rw [hb4.cell (p := ⟨w0.heap.size, 0, none⟩) HLT.out]; exact hneg0
      have kc : ∀ i, i < m → w4.cell? ⟨w0.heap.size, 0 + 1 + i, none⟩ = some (.int .u8 (d.getD i 0)) := fun i h => by rw [hb4.cell (p := ⟨w0.heap.size, 0 + 1 + i, none⟩) HLT.out]; exact hcl i h
      have HB4 : Hid (Below w0.heap.size w0 w4) := HB.out.trans (hb4.mono HB.out.size)
      have HC1 : Hid (∀ i, i < (canon true d).length → w4.cell? ⟨G1, 0 + i, none⟩ = some (.int .u8 ((canon true d).getD i 0))) := hc1
      clear hb4 hcl hc1 hneg0 
      obtain ⟨L, hL⟩ : ∃ L, L = canon true d := ⟨_, rfl⟩
      have PC := canon_neg w0.heap.size 0 m (m + 1) d _ HL.out h1 hn' (Nat.le_refl _) HG.out k0 kc
      rw [← hL] at HC1 hlen PC ⊢
      have HPC := hid_mk' PC
      clear PC kc hL HE
      go_wp2_with fail
      refine HPC.out.mono ?_
      rintro e w5 ⟨G2, cap2, rfl, hG2, hc2, hb5⟩
      have hc1 : ∀ i, i < L.length → w5.cell? ⟨G1, 0 + i, none⟩ = some (.int .u8 (L.getD i 0)) := fun i h => by rw [hb5.cell (p := ⟨G1, 0 + i, none⟩) hG1]; exact HC1.out i h
      have HB5 : Hid (Below w0.heap.size w0 w5) := HB4.out.trans (hb5.mono HB4.out.size)
      clear hb5 HC1 HPC
      go_wp2_with fail
      refine (eq_same G1 0 cap1 G2 0 cap2 L.length L w5 (by omega) hc1 hc2).mono ?_
      rintro e w6 ⟨rfl, q, rfl⟩
      clear hc1 hc2
      go_wp2
      go_ret
      exact ⟨rfl, below_drewN HB5.out q⟩
    · have e1 : valN m (-dec d) = 0 := by simp [valN, h18]
      have e2 : okN m = false := by simp [okN]; omega
      have HP := zzshort_neg w0.heap.size 0 m (m + 1) d w2 hn' HL.out h1 (Nat.le_refl _) HG.out hneg0 hcl
      rw [e1, e2] at HP
      refine HP.mono ?_
      rintro e w3 ⟨rfl, rfl⟩
      clear HP e1 e2
      go_wp2
      go_ret
      exact ⟨rfl, HB.out⟩

theorem rt_walk (ao : Option Addr) (n c : Nat) (l : List Int) (w : World) (hi : Inp w ao n c l) :
    Calls Trym.prog 8 #[.slice ao n c] w fun e w' => e = .returned (.bool true) ∧ Below w.heap.size w w' := by
  by_cases hb : n ≤ 1048576
  · by_cases hD : Dom l
    · obtain ⟨neg, d, hl, hne, hdig⟩ := hD
      have hpos : 0 < d.length := List.length_pos_iff.2 hne
      have hn := hi.1
      cases neg with
      | false =>
        have hl' : l = d := hl
        subst hl'
        subst hn
        exact rt_pos ao l.length c l w hb hpos rfl hdig hi
      | true =>
        have hl' : l = 45 :: d := hl
        subst hl'
        rw [List.length_cons] at hn
        exact rt_neg ao n d.length c d w hn.symm hb hpos rfl hdig hi
    · exact rt_out ao n c l w hb hi hD
  · exact rt_big ao n c w (by omega)

end Go.Proofs.Qxb6603223aMods
