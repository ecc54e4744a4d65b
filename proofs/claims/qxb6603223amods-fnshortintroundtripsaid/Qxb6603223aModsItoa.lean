/-
  CONTRACT: zzItoa: a number in decimal, in new memory.
-/
import Derived.Test.Qxb6603223aModsBuf
namespace Go.Proofs.Qxb6603223aMods
open Go.RowKit
set_option linter.unusedVariables false

theorem digs_length (u : Int) (h0 : 0 ≤ u) (h1 : u < 1000000000000000000) : (digs u).length ≤ 18 := by
  have h2 : (10 : Int) ^ 18 = 1000000000000000000 := by decide
  have h3 := pow18_21
  have e : digs u = digsF 17 u := digsF_fuel 20 17 u h0 (by omega) (by omega)
  rw [e]
  exact digsF_length 17 u
theorem digs_pos (u : Int) : 0 < (digs u).length := List.length_pos_iff.2 (digsF_ne 20 u)

/-- THE LOOP: p cells are still to fill, the digits r stand behind them, u is left of the number U. -/
structure It (w wr : World) (U u : Int) (p : Nat) (r : List Int) : Prop where
  len : p + r.length = 20
  u0 : 0 ≤ u
  u1 : u < 1000000000000000000
  eq : digs U = digs u ++ r
  row : wr.rowIs w.heap.size 36 20 (fun j => .int .u8 (if j < p then 0 else r.getD (j - p) 0))
  bel : Below w.heap.size w wr
  sz : wr.heap.size = w.heap.size + 1

/-- BEHIND THE LOOP: the digits of U stand in the cells q .. 19. -/
structure Dn (w wr : World) (U : Int) (q : Nat) : Prop where
  len : q + (digs U).length = 20
  cell : ∀ i, i < (digs U).length → wr.cell? ⟨w.heap.size, q + i, none⟩ = some (.int .u8 ((digs U).getD i 0))
  bel : Below w.heap.size w wr
  sz : wr.heap.size = w.heap.size + 1

theorem it_start (w : World) (U : Int) (h0 : 0 ≤ U) (h1 : U < 1000000000000000000) :
    It w (w.alloc (.cells (Array.replicate 20 (.int .u8 0)) 36)) U U 20 [] :=
  ⟨rfl, h0, h1, by simp, (World.rowIs_alloc w (Array.replicate 20 (.int .u8 0)) 36 (fun j => .int .u8 (if j < 20 then 0 else ([] : List Int).getD (j - 20) 0)) (fun i hi => by
    have hi' : i < 20 := by simpa using hi
    rw [Array.getElem?_replicate, if_pos hi', if_pos hi'])),
    (Below.refl _ _).alloc (Nat.le_refl _) _, by simp⟩

theorem it_room {w wr : World} {U u : Int} {p : Nat} {r : List Int} (h : It w wr U u p r) (h0 : 0 ≤ U) (h1 : U < 1000000000000000000) : 2 < p := by
  have a := digs_length U h0 h1
  rw [h.eq, List.length_append] at a
  have b := digs_pos u
  have c := h.len
  omega

theorem it_row {w wr : World} {q : Nat} {r : List Int} {c : Int} (h : wr.rowIs w.heap.size 36 20 (fun j => .int .u8 (if j < q + 1 then 0 else r.getD (j - (q + 1)) 0))) :
    (wr.setCell ⟨w.heap.size, q, none⟩ (.int .u8 c)).rowIs w.heap.size 36 20 (fun j => .int .u8 (if j < q then 0 else (c :: r).getD (j - q) 0)) := by
  refine (h.set q _).congr (fun j _ => ?_)
  by_cases e : j = q
  · subst e; simp
  · rw [if_neg e]
    by_cases hlt : j < q
    · rw [if_pos hlt, if_pos (by omega)]
    · rw [if_neg hlt, if_neg (by omega)]
      obtain ⟨t, ht⟩ : ∃ t, j - q = t + 1 := ⟨j - q - 1, by omega⟩
      have e2 : j - (q + 1) = t := by omega
      rw [ht, e2]
      simp

theorem it_step {w wr : World} {U u : Int} {q : Nat} {r : List Int} (h : It w wr U u (q + 1) r) (hu : ¬ u / 10 = 0) :
    It w (wr.setCell ⟨w.heap.size, q, none⟩ (.int .u8 (48 + u % 10))) U (u / 10) q ((48 + u % 10) :: r) := by
  have h0 := h.u0
  have h1 := h.u1
  have hl := h.len
  refine ⟨by simp at hl ⊢; omega, by omega, by omega, ?_, it_row h.row, h.bel.setCell (Nat.le_refl _) _, by simp [World.setCell, h.sz]⟩
  rw [h.eq, digs_step u (by omega) (by omega)]
  simp

theorem it_done {w wr : World} {U u : Int} {q : Nat} {r : List Int} (h : It w wr U u (q + 1) r) (hu : u / 10 = 0) :
    Dn w (wr.setCell ⟨w.heap.size, q, none⟩ (.int .u8 (48 + u % 10))) U q := by
  have h0 := h.u0
  have h1 := h.u1
  have hl := h.len
  have e : digs U = (48 + u % 10) :: r := by
    rw [h.eq, digs_small u (by omega), show u % 10 = u by omega]
    rfl
  have hrow := it_row (c := 48 + u % 10) h.row
  refine ⟨by rw [e]; simp; omega, fun i hi => ?_, h.bel.setCell (Nat.le_refl _) _, by simp [World.setCell, h.sz]⟩
  rw [e] at hi ⊢
  have hi' : q + i < 20 := by simp at hi; omega
  rw [hrow.cell hi', if_neg (by omega), show q + i - q = i by omega]

theorem buf_start' {w w2 : World} {G cap : Nat} (hG : w.heap.size = G) (h : w2.ownsRow G 5 1 (.slice (some ⟨G, 0, none⟩) 0 cap) 0 []) (hg : w.grownBy w2 none) : Buf w w2 G cap [] := by
  subst hG; exact buf_start h hg

/-- The cells of a row that lies below, read later. -/
theorem src_cells {w1 wr : World} {B off G : Nat} {l : List Int} (hB : B < G) (hcell : ∀ i, i < l.length → w1.cell? ⟨B, off + i, none⟩ = some (.int .u8 (l.getD i 0))) (hb : Below G w1 wr) :
    ∀ j u, (l.map (Value.int .u8))[j]? = some u → wr.cell? ((⟨B, off, none⟩ : Addr).add j) = some u := by
  intro j u hu
  have hj : j < l.length := by
    have := (List.getElem?_eq_some_iff.1 hu).1
    simpa using this
  rw [Addr.add_lit, hb.cell (p := ⟨B, off + j, none⟩) hB, hcell j hj]
  have e : (l.map (Value.int .u8))[j]? = some (.int .u8 (l.getD j 0)) := by simp [List.getD, hj]
  rw [e] at hu
  exact hu

/-- 'buf[q:]' of the array of twenty bytes. -/
theorem slice_buf (w : World) (B q : Nat) (hq : q < 20) :
    Sem.run Trym.prog (Instr.sliceAt 36 (.pointer (some ⟨B, 0, none⟩)) (some (.int .i64 (q : Int))) none none) w = .ok (.slice (some ⟨B, q, none⟩) (20 - q) (20 - q)) w := by
  have hlen : Trym.prog.arrayLen 36 = 20 := by simp [Program.arrayLen, Trym.underlying36]
  have helem : Trym.prog.elem 36 = 5 := by simp [Program.elem, Trym.underlying36]
  have h := run_sliceAt_array_l (P := Trym.prog) w 36 ⟨B, 0, none⟩ (by rw [hlen, helem]; exact Trym.underlying36) .i64 (q : Int) (by omega) (by rw [hlen]; omega)
  rw [h, hlen, helem]
  have hs : Sem.run Trym.prog (sizeOf 5) w = .ok 1 w := by kernel_rfl
  rw [hs]
  simp [Result.andThen, slicedAt]
  rw [if_neg (by omega), Addr.add_lit, Nat.zero_add]

/-- A RESULT IN NEW MEMORY: a slice of bytes, L its elements. -/
def NewBytes (w : World) (L : List Int) (e : Ending) (w' : World) : Prop :=
  ∃ G cap, e = .returned (.slice (some ⟨G, 0, none⟩) L.length cap) ∧ G < w'.heap.size ∧ (∀ i, i < L.length → w'.cell? ⟨G, 0 + i, none⟩ = some (.int .u8 (L.getD i 0))) ∧ Below w.heap.size w w'

theorem newBytes_of {w w1 w' : World} {G cap n : Nat} {L : List Int} (hw : Below w.heap.size w w1) (hG : w.heap.size ≤ G) (h : Buf w1 w' G cap L) (hn : n = L.length) :
    NewBytes w L (.returned (.slice (some ⟨G, 0, none⟩) n cap)) w' := by
  subst hn
  refine ⟨G, cap, rfl, ?_, buf_cell h, hw.trans (h.bel.mono hG)⟩
  exact (h.own.lt G rfl).2

set_option maxHeartbeats 1000000 in
theorem itoa_pos (x : Int) (w : World) (h0 : 0 ≤ x) (h1 : x < 1000000000000000000) :
    Calls Trym.prog 22 #[.int .i64 x] w fun e w' => NewBytes w (digs x) e w' := by
  obtain ⟨i0, hi, hz0, hz1, hz2⟩ := info_parts info5
  have hneg : decide (x < 0) = false := decide_eq_false (by omega)
  go_enter Trym.func22, Trym.ntmps22
  go_wp2_with fail
  go_loopw [4, 6] (fun u i wr => ∃ (uu : Int) (p : Nat) (r : List Int), u = .int .u64 uu ∧ i = .int .i64 p ∧ It w wr (x) uu p r) (fun _ i _ => (intOf i).toNat)
  case atStart => exact ⟨_, 20, [], rfl, rfl, it_start w _ (by omega) (by omega)⟩
  case round =>
    obtain ⟨uu, p, r, rfl, rfl, hit⟩ := hrel
    have hroom := it_room hit (by omega) (by omega)
    obtain ⟨q, rfl⟩ : ∃ q, p = q + 1 := ⟨p - 1, by omega⟩
    have hu0 := hit.u0
    have hu1 := hit.u1
    have hlen := hit.len
    have hq : q < 20 := by omega
    have hro := hit.row
    have g1 := hro.cell hq
    have g2 : wr.frozen? ⟨w.heap.size, q, none⟩ = false := hro.frozen q
    have HIT : Hid (It w wr (x) uu (q + 1) r) := hit
    clear hit hro hlen
    by_cases hz : uu / 10 = 0
    · have HDn : Hid (Dn w (wr.setCell ⟨w.heap.size, q, none⟩ (.int .u8 (48 + uu % 10))) (x) q) := it_done HIT.out hz
      have hz0b : uu / 10 = 0 := hz
      have HZ : Hid (uu / 10 = 0) := hz
      go_wp2_with (at_make; refine wpList_make_own _ rfl _ _ 25 rfl (w.heap.size + 1) 5 i0 (.int .u8 0) 1 Trym.underlying25 hi hz0 hz1 .i64 .i64 _ 21 rfl rfl rfl ?b1 ?b2 ?b3 ?_)
      case b1 => rw [hz2]; omega
      case b2 => unfold maxLen; omega
      case b3 => have := HDn.out.sz; omega
      intro w2 hown hgrow
      obtain ⟨w1, hw1⟩ : ∃ w1, w1 = wr.setCell ⟨w.heap.size, q, none⟩ (.int .u8 (48 + uu % 10)) := ⟨_, rfl⟩
      have HD1 : Hid (Dn w w1 (x) q) := by rw [hw1]; exact HDn.out
      rw [← hw1] at hgrow
      have hwsz : wr.heap.size = w.heap.size + 1 := HIT.out.sz
      rw [hwsz] at hown ⊢
      clear hwsz
      have HB2 : Hid (Buf w1 w2 (w.heap.size + 1) 21 []) := buf_start' HD1.out.sz hown hgrow
      have hql := HD1.out.len
      have hql' : (20 - q) = (digs (x)).length := by omega
      have hsl := fun wx => slice_buf wx w.heap.size q hq
      have HQ : Hid (20 - q = (digs (x)).length) := hql'
      clear hown hgrow hw1 HDn hql hql' g1 g2 HIT
      have hT := src_cells (G := w.heap.size + 1) (Nat.lt_succ_self _) HD1.out.cell HB2.out.bel
      go_wp2_with (at_builtin; refine wpList_append_fits _ rfl (.tmp 35) (.tmp 37) 25 rfl (w.heap.size + 1) 5 i0 1 Trym.underlying25 hi hz1 (w.heap.size + 1) 0 21 [] rfl HB2.out.own ⟨w.heap.size, q, none⟩ (20 - q) (20 - q) ((digs (x)).map (Value.int .u8)) rfl ?hn hT (ints_oneCell _ _) (by omega) ?_)
      case hn => rw [List.length_map, HQ.out, Nat.mul_one]
      intro w4 hown4 hgrow4
      have HB4 : Hid (Buf w1 w4 (w.heap.size + 1) 21 ([] ++ digs (x))) := buf_append HB2.out (Below.refl _ _) HQ.out (by simp) hown4 hgrow4
      clear hown4 hgrow4 hT
      go_wp2
      go_ret
      exact newBytes_of HD1.out.bel (Nat.le_succ _) HB4.out HQ.out
    · have hzb : (uu / 10 == 0) = false := by simpa using hz
      have HST : Hid (It w (wr.setCell ⟨w.heap.size, q, none⟩ (.int .u8 (48 + uu % 10))) (x) (uu / 10) q ((48 + uu % 10) :: r)) := it_step HIT.out hz
      clear HIT
      go_wp2
      go_roundw
      case rel => exact ⟨_, q, _, rfl, by go_num, HST.out⟩
      case measure => simp [intOf]

set_option maxHeartbeats 1000000 in
theorem itoa_neg (x : Int) (w : World) (h0 : x < 0) (h1 : -1000000000000000000 < x) :
    Calls Trym.prog 22 #[.int .i64 x] w fun e w' => NewBytes w (45 :: digs (-x)) e w' := by
  obtain ⟨i0, hi, hz0, hz1, hz2⟩ := info_parts info5
  go_enter Trym.func22, Trym.ntmps22
  go_wp2_with fail
  go_loopw [4, 6] (fun u i wr => ∃ (uu : Int) (p : Nat) (r : List Int), u = .int .u64 uu ∧ i = .int .i64 p ∧ It w wr (-x) uu p r) (fun _ i _ => (intOf i).toNat)
  case atStart => exact ⟨_, 20, [], rfl, rfl, by rw [show -(x + 1) + 1 = -x by omega]; exact it_start w _ (by omega) (by omega)⟩
  case round =>
    obtain ⟨uu, p, r, rfl, rfl, hit⟩ := hrel
    have hroom := it_room hit (by omega) (by omega)
    obtain ⟨q, rfl⟩ : ∃ q, p = q + 1 := ⟨p - 1, by omega⟩
    have hu0 := hit.u0
    have hu1 := hit.u1
    have hlen := hit.len
    have hq : q < 20 := by omega
    have hro := hit.row
    have g1 := hro.cell hq
    have g2 : wr.frozen? ⟨w.heap.size, q, none⟩ = false := hro.frozen q
    have HIT : Hid (It w wr (-x) uu (q + 1) r) := hit
    clear hit hro hlen
    by_cases hz : uu / 10 = 0
    · have HDn : Hid (Dn w (wr.setCell ⟨w.heap.size, q, none⟩ (.int .u8 (48 + uu % 10))) (-x) q) := it_done HIT.out hz
      have hz0b : uu / 10 = 0 := hz
      have HZ : Hid (uu / 10 = 0) := hz
      go_wp2_with (at_make; refine wpList_make_own _ rfl _ _ 25 rfl (w.heap.size + 1) 5 i0 (.int .u8 0) 1 Trym.underlying25 hi hz0 hz1 .i64 .i64 _ 21 rfl rfl rfl ?b1 ?b2 ?b3 ?_)
      case b1 => rw [hz2]; omega
      case b2 => unfold maxLen; omega
      case b3 => have := HDn.out.sz; omega
      intro w2 hown hgrow
      obtain ⟨w1, hw1⟩ : ∃ w1, w1 = wr.setCell ⟨w.heap.size, q, none⟩ (.int .u8 (48 + uu % 10)) := ⟨_, rfl⟩
      have HD1 : Hid (Dn w w1 (-x) q) := by rw [hw1]; exact HDn.out
      rw [← hw1] at hgrow
      have hwsz : wr.heap.size = w.heap.size + 1 := HIT.out.sz
      rw [hwsz] at hown ⊢
      clear hwsz
      have HB2 : Hid (Buf w1 w2 (w.heap.size + 1) 21 []) := buf_start' HD1.out.sz hown hgrow
      have hql := HD1.out.len
      have hql' : (20 - q) = (digs (-x)).length := by omega
      have hsl := fun wx => slice_buf wx w.heap.size q hq
      have HQ : Hid (20 - q = (digs (-x)).length) := hql'
      clear hown hgrow hw1 HDn hql hql' g1 g2 HIT
      go_wp2_with (at_builtin; refine wpList_append_fits _ rfl (.tmp 32) (.tmp 33) 25 rfl (w.heap.size + 1) 5 i0 1 Trym.underlying25 hi hz1 (w.heap.size + 1) 0 21 [] rfl (HB2.out.own.alloc _) ⟨w2.heap.size, 0, none⟩ 1 1 (([45] : List Int).map (Value.int .u8)) rfl rfl (new_one _ _) (ints_oneCell _ _) (by omega) ?_)
      intro w3 hown3 hgrow3
      have HB3 : Hid (Buf w1 w3 (w.heap.size + 1) 21 [45]) := buf_append (ys := [45]) HB2.out ((Below.refl _ _).alloc HB2.out.le _) rfl rfl hown3 hgrow3
      clear hown3 hgrow3
      have hT := src_cells (G := w.heap.size + 1) (Nat.lt_succ_self _) HD1.out.cell HB3.out.bel
      go_wp2_with (at_builtin; refine wpList_append_fits _ rfl (.tmp 35) (.tmp 37) 25 rfl (w.heap.size + 1) 5 i0 1 Trym.underlying25 hi hz1 (w.heap.size + 1) 1 21 (([45] : List Int).map (Value.int .u8)) rfl HB3.out.own ⟨w.heap.size, q, none⟩ (20 - q) (20 - q) ((digs (-x)).map (Value.int .u8)) rfl ?hn hT (ints_oneCell _ _) (by omega) ?_)
      case hn => rw [List.length_map, HQ.out, Nat.mul_one]
      intro w4 hown4 hgrow4
      have HB4 : Hid (Buf w1 w4 (w.heap.size + 1) 21 ([45] ++ digs (-x))) := buf_append HB3.out (Below.refl _ _) HQ.out rfl hown4 hgrow4
      clear hown4 hgrow4 hT
      go_wp2
      go_ret
      exact newBytes_of HD1.out.bel (Nat.le_succ _) HB4.out (by simp; have := HQ.out; omega)
    · have hzb : (uu / 10 == 0) = false := by simpa using hz
      have HST : Hid (It w (wr.setCell ⟨w.heap.size, q, none⟩ (.int .u8 (48 + uu % 10))) (-x) (uu / 10) q ((48 + uu % 10) :: r)) := it_step HIT.out hz
      clear HIT
      go_wp2
      go_roundw
      case rel => exact ⟨_, q, _, rfl, by go_num, HST.out⟩
      case measure => simp [intOf]

/-- zzItoa, at every number of at most 18 digits. -/
theorem itoa_any (x : Int) (w : World) (h0 : -1000000000000000000 < x) (h1 : x < 1000000000000000000) :
    Calls Trym.prog 22 #[.int .i64 x] w fun e w' => NewBytes w (itoa x) e w' := by
  unfold itoa
  by_cases h : x < 0
  · rw [if_pos h]; exact itoa_neg x w h h0
  · rw [if_neg h]; exact itoa_pos x w (by omega) h1

end Go.Proofs.Qxb6603223aMods
