/-
  CONTRACTS: the five bounds on a length (zzBytes_..), and zzCloneBytes: a fresh copy.
-/
import Derived.Test.Qxb6603223aModsProg
import Derived.Test.Qxb6603223aModsPlain
import Derived.WalkKit
import Derived.WalkSpells
import Derived.WalkLawsBesides
import Derived.Deep.OwnRows
import Derived.Lib.SliceRun
import Derived.OpenShut
namespace Go.Proofs.Qxb6603223aMods
open Go.RowKit
set_option linter.unusedVariables false

theorem bytes13_yes (a : Option Addr) (n c : Nat) (h : n ≤ 1048576) (w : World) :
    Calls Trym.prog 13 #[.slice a n c] w fun e w' => e = .returned (.bool true) ∧ w' = w := by
  go_enter Trym.func13, Trym.ntmps13
  go_wp2
  go_ret
  exact ⟨rfl, rfl⟩
theorem bytes13_no (a : Option Addr) (n c : Nat) (h : 1048576 < n) (w : World) :
    Calls Trym.prog 13 #[.slice a n c] w fun e w' => e = .returned (.bool false) ∧ w' = w := by
  go_enter Trym.func13, Trym.ntmps13
  go_wp2
  go_ret
  exact ⟨rfl, rfl⟩
theorem bytes16_yes (a : Option Addr) (n c : Nat) (h : n ≤ 1048576) (w : World) :
    Calls Trym.prog 16 #[.slice a n c] w fun e w' => e = .returned (.bool true) ∧ w' = w := by
  go_enter Trym.func16, Trym.ntmps16
  go_wp2
  go_ret
  exact ⟨rfl, rfl⟩
theorem bytes16_no (a : Option Addr) (n c : Nat) (h : 1048576 < n) (w : World) :
    Calls Trym.prog 16 #[.slice a n c] w fun e w' => e = .returned (.bool false) ∧ w' = w := by
  go_enter Trym.func16, Trym.ntmps16
  go_wp2
  go_ret
  exact ⟨rfl, rfl⟩
theorem bytes17_yes (r m : Int) (a : Option Addr) (n c : Nat) (h : n ≤ 1048576) (w : World) :
    Calls Trym.prog 17 #[.int .i32 r, .int .u8 m, .slice a n c] w fun e w' => e = .returned (.bool true) ∧ w' = w := by
  go_enter Trym.func17, Trym.ntmps17
  go_wp2
  go_ret
  exact ⟨rfl, rfl⟩
theorem bytes17_no (r m : Int) (a : Option Addr) (n c : Nat) (h : 1048576 < n) (w : World) :
    Calls Trym.prog 17 #[.int .i32 r, .int .u8 m, .slice a n c] w fun e w' => e = .returned (.bool false) ∧ w' = w := by
  go_enter Trym.func17, Trym.ntmps17
  go_wp2
  go_ret
  exact ⟨rfl, rfl⟩
theorem bytes18_yes (a : Option Addr) (n c : Nat) (h : n ≤ 1048576) (w : World) :
    Calls Trym.prog 18 #[.slice a n c] w fun e w' => e = .returned (.bool true) ∧ w' = w := by
  go_enter Trym.func18, Trym.ntmps18
  go_wp2
  go_ret
  exact ⟨rfl, rfl⟩
theorem bytes18_no (a : Option Addr) (n c : Nat) (h : 1048576 < n) (w : World) :
    Calls Trym.prog 18 #[.slice a n c] w fun e w' => e = .returned (.bool false) ∧ w' = w := by
  go_enter Trym.func18, Trym.ntmps18
  go_wp2
  go_ret
  exact ⟨rfl, rfl⟩
theorem bytes24_yes (a : Option Addr) (n c : Nat) (h : n ≤ 1048576) (w : World) :
    Calls Trym.prog 24 #[.slice a n c] w fun e w' => e = .returned (.bool true) ∧ w' = w := by
  go_enter Trym.func24, Trym.ntmps24
  go_wp2
  go_ret
  exact ⟨rfl, rfl⟩
theorem bytes24_no (a : Option Addr) (n c : Nat) (h : 1048576 < n) (w : World) :
    Calls Trym.prog 24 #[.slice a n c] w fun e w' => e = .returned (.bool false) ∧ w' = w := by
  go_enter Trym.func24, Trym.ntmps24
  go_wp2
  go_ret
  exact ⟨rfl, rfl⟩

theorem info5 : (Trym.prog.info? 5).map (fun i => (i.zero, i.size, i.bytes)) = some (some (.int .u8 0), 1, 1) := by kernel_rfl

theorem clone_nil (w : World) :
    Calls Trym.prog 14 #[.slice none 0 0] w fun e w' => e = .returned (.slice none 0 0) ∧ w' = w := by
  have hq := fun w => Lib.run_eql_slice_nil (P := Trym.prog) w 25 5 none 0 0 0 0 Trym.underlying25
  go_enter Trym.func14, Trym.ntmps14
  go_wp2
  go_ret
  exact ⟨rfl, rfl⟩

/-- The row of a copy, k of its cells filled. -/
theorem clone_start (w : World) (n : Nat) (zs : List Int) : (w.alloc (.cells (madeCells #[.int .u8 0] n) 5)).rowIs w.heap.size 5 n (fun i => .int .u8 (if i < 0 then zs.getD i 0 else 0)) :=
  (World.rowIs_made w (.int .u8 0) n 5).congr (fun i _ => by simp)
theorem clone_step {w : World} {b n k : Nat} {zs : List Int} (h : w.rowIs b 5 n (fun i => .int .u8 (if i < k then zs.getD i 0 else 0))) :
    (w.setCell ⟨b, k, none⟩ (.int .u8 (zs.getD k 0))).rowIs b 5 n (fun i => .int .u8 (if i < k + 1 then zs.getD i 0 else 0)) := by
  refine (h.set k _).congr (fun i _ => ?_)
  by_cases e : i = k
  · subst e; simp
  · rw [if_neg e]
    by_cases hlt : i < k
    · rw [if_pos hlt, if_pos (by omega)]
    · rw [if_neg hlt, if_neg (by omega)]

theorem clone_some (x : Addr) (b off n c : Nat) (zs : List Int) (w : World) (hn : n ≤ 1048576) (hx : 0 < n → x = ⟨b, off, none⟩)
    (hcell : ∀ i, i < n → w.cell? ⟨b, off + i, none⟩ = some (.int .u8 (zs.getD i 0))) :
    Calls Trym.prog 14 #[.slice (some x) n c] w fun e w' => e = .returned (.slice (some ⟨w.heap.size, 0, none⟩) n n) ∧ w'.rowIs w.heap.size 5 n (fun i => .int .u8 (zs.getD i 0)) ∧ Below w.heap.size w w' ∧ w'.heap.size = w.heap.size + 1 := by
  have hq := fun w => Lib.run_eql_slice_nil (P := Trym.prog) w 25 5 (some x) n c 0 0 Trym.underlying25
  have hmk := run_make_row' (P := Trym.prog) 25 5 (.int .u8 0) 1 Trym.underlying25 info5 rfl .i64 .i64 n (by omega) (by omega)
  go_enter Trym.func14, Trym.ntmps14
  go_wp2
  clear hmk hq
  go_loopw [4] (fun i wr => ∃ k : Nat, k ≤ n ∧ i = .int .i64 k ∧ wr.rowIs w.heap.size 5 n (fun i => .int .u8 (if i < k then zs.getD i 0 else 0)) ∧ Below w.heap.size w wr ∧ wr.heap.size = w.heap.size + 1) (fun i _ => n - (intOf i).toNat)
  case atStart => exact ⟨0, by omega, rfl, clone_start w n zs, (Below.refl _ _).alloc (Nat.le_refl _) _, by simp⟩
  case round =>
    obtain ⟨k, hk, rfl, hrow, hbel, hsz⟩ := hrel
    by_cases hlt : k < n
    · obtain rfl := hx (by omega)
      have hbk : b < w.heap.size := World.block_lt_of_cell? _ _ (hcell k hlt)
      have g0 : wr.cell? ⟨b, off + k, none⟩ = some (.int .u8 (zs.getD k 0)) := by rw [hbel.cell (p := ⟨b, off + k, none⟩) hbk]; exact hcell k hlt
      have g1 : wr.cell? ⟨w.heap.size, k, none⟩ = some (.int .u8 (if k < k then zs.getD k 0 else 0)) := hrow.cell hlt
      have g2 : wr.frozen? ⟨w.heap.size, k, none⟩ = false := hrow.frozen k
      have R1 := clone_step hrow
      have R2 : Below w.heap.size w (wr.setCell ⟨w.heap.size, k, none⟩ (.int .u8 (zs.getD k 0))) := hbel.setCell (Nat.le_refl _) _
      clear hcell
      go_wp2
      go_roundw
      case rel => exact ⟨k + 1, by omega, by go_num, R1, R2, by simp [World.setCell, hsz]⟩
      case measure => simp [intOf]; omega
    · obtain rfl : k = n := by omega
      go_wp2
      go_ret
      exact ⟨rfl, hrow.congr (fun i hi => by simp [hi]), hbel, hsz⟩

/-- WHAT IS KNOWN OF A SLICE OF BYTES THAT IS READ: its n elements are the list l. -/
def Inp (w : World) (ao : Option Addr) (n c : Nat) (l : List Int) : Prop :=
  l.length = n ∧ n ≤ c ∧ (∀ i, 0 ≤ l.getD i 0 ∧ l.getD i 0 ≤ 255) ∧
  ((ao = none ∧ n = 0 ∧ c = 0) ∨ ∃ x b off, ao = some x ∧ (0 < n → x = ⟨b, off, none⟩) ∧ ∀ i, i < n → w.cell? ⟨b, off + i, none⟩ = some (.int .u8 (l.getD i 0)))

theorem getD_bytes (l : List Int) (h : ∀ n ∈ l, 0 ≤ n ∧ n ≤ 255) (i : Nat) : 0 ≤ l.getD i 0 ∧ l.getD i 0 ≤ 255 := by
  by_cases hi : i < l.length
  · have e : l.getD i 0 = l[i] := by simp [List.getD, hi]
    rw [e]; exact h _ (List.getElem_mem hi)
  · have e : l.getD i 0 = 0 := by simp [List.getD, hi]
    omega

theorem getD_take (l : List Int) (n i : Nat) (h : i < n) : (l.take n).getD i 0 = l.getD i 0 := by
  simp [List.getD, h]

/-- zzCloneBytes, at every slice of at most 2^20 bytes: a fresh copy. -/
theorem clone_any (ao : Option Addr) (n c : Nat) (l : List Int) (w : World) (hn : n ≤ 1048576) (hi : Inp w ao n c l) :
    Calls Trym.prog 14 #[.slice ao n c] w fun e w' => ∃ ao', e = .returned (.slice ao' n n) ∧ (0 < n → ao' = some ⟨w.heap.size, 0, none⟩) ∧
      (∀ i, i < n → w'.cell? ⟨w.heap.size, i, none⟩ = some (.int .u8 (l.getD i 0))) ∧ Below w.heap.size w w' := by
  obtain ⟨hl, hnc, hby, ⟨rfl, rfl, rfl⟩ | ⟨x, b, off, rfl, hx, hcell⟩⟩ := hi
  · refine (clone_nil w).mono ?_
    rintro e w' ⟨rfl, rfl⟩
    exact ⟨none, rfl, fun h => by omega, fun i h => by omega, Below.refl _ _⟩
  · refine (clone_some x b off n c l w hn hx hcell).mono ?_
    rintro e w' ⟨rfl, hrow, hbel, hsz⟩
    exact ⟨_, rfl, fun _ => rfl, fun i h => hrow.cell h, hbel⟩

theorem clone_pos (ao : Option Addr) (n c : Nat) (l : List Int) (w : World) (hn : n ≤ 1048576) (h0 : 0 < n) (hi : Inp w ao n c l) :
    Calls Trym.prog 14 #[.slice ao n c] w fun e w' => e = .returned (.slice (some ⟨w.heap.size, 0, none⟩) n n) ∧ w'.rowIs w.heap.size 5 n (fun i => .int .u8 (l.getD i 0)) ∧ Below w.heap.size w w' ∧ w'.heap.size = w.heap.size + 1 := by
  obtain ⟨hl, hnc, hby, ⟨rfl, rfl, rfl⟩ | ⟨x, b, off, rfl, hx, hcell⟩⟩ := hi
  · omega
  · exact clone_some x b off n c l w hn hx hcell

/-- From what the row's frame tells of a slice of bytes. -/
theorem inp_of {w : World} {a : Option Addr} {len cap : Nat} {zs : List Int} (h : (a = none ∧ len = 0 ∧ cap = 0 ∧ zs = []) ∨
    ∃ x, a = some x ∧ len ≤ cap ∧ cap ≤ maxLen ∧ zs.length = cap ∧ (∀ i, i < zs.length → w.cell? (x.add i) = some (.int .u8 (zs.getD i 0))) ∧ ∀ n ∈ zs, (Lit.int .u8 n).wf = true) : Inp w a len cap (zs.take len) := by
  rcases h with ⟨rfl, rfl, rfl, rfl⟩ | ⟨x, rfl, hl, hm, hz, hcell, hwf⟩
  · exact ⟨rfl, Nat.le_refl _, fun i => by simp, .inl ⟨rfl, rfl, rfl⟩⟩
  · refine ⟨by simp; omega, hl, fun i => getD_bytes _ (fun n hn => ?_) i, .inr ⟨x, x.block, x.off, rfl, fun h0 => ?_, fun i hi => ?_⟩⟩
    · have := bounds_u8 (hwf n (List.mem_of_mem_take hn)); omega
    · have h1 : x.spot = none := by simpa [Addr.add] using World.cell?_spot (hcell 0 (by omega))
      obtain ⟨b, off, spot⟩ := x
      simp at h1
      subst h1
      rfl
    · have h1 : x.spot = none := by simpa [Addr.add] using World.cell?_spot (hcell 0 (by omega))
      obtain ⟨b, off, spot⟩ := x
      simp at h1
      subst h1
      have h2 := hcell i (by omega)
      rw [getD_take _ _ _ hi, ← h2, Addr.add_lit]

end Go.Proofs.Qxb6603223aMods
