/-
  A BUFFER OF BYTES IN THE MAKING: 'make([]byte, 0, n)', then appends within the capacity.
-/
import Derived.Test.Qxb6603223aModsBytes
namespace Go.Proofs.Qxb6603223aMods
open Go.RowKit
set_option linter.unusedVariables false

/-- THE BUFFER IN THE MAKING: at the head of block G (the first of its own) it holds the bytes xs; below G the world is as w was. -/
structure Buf (w wr : World) (G cap : Nat) (xs : List Int) : Prop where
  own : wr.ownsRow G 5 1 (.slice (some ⟨G, 0, none⟩) xs.length cap) xs.length (xs.map (Value.int .u8))
  bel : Below G w wr
  le : G ≤ wr.heap.size

theorem buf_start {w w2 : World} {cap : Nat} (h : w2.ownsRow w.heap.size 5 1 (.slice (some ⟨w.heap.size, 0, none⟩) 0 cap) 0 []) (hg : w.grownBy w2 none) : Buf w w2 w.heap.size cap [] :=
  ⟨h, (Below.refl _ _).grown hg (Nat.le_refl _) (fun k e => by cases e), hg.size⟩

/-- What an append within the capacity leaves. -/
theorem buf_append {w wr wa w2 : World} {G cap : Nat} {xs ys : List Int} {m n2 : Nat} (h : Buf w wr G cap xs) (ha : Below G wr wa) (hm : m = ys.length) (hn : n2 = xs.length + m)
    (ho : w2.ownsRow G 5 1 (.slice (some ⟨G, 0, none⟩) n2 cap) n2 (xs.map (Value.int .u8) ++ ys.map (Value.int .u8))) (hg : wa.grownBy w2 (some G)) : Buf w w2 G cap (xs ++ ys) := by
  subst hm hn
  have hs := ha.size
  have hle := h.le
  refine ⟨?_, (h.bel.trans ha).grown hg (by omega) (fun k e => by cases e; exact Nat.le_refl _), by have := hg.size; omega⟩
  rw [List.length_append, List.map_append]
  exact ho

theorem new_one (w : World) (a : Int) : ∀ j u, (([a] : List Int).map (Value.int .u8))[j]? = some u → (w.alloc (.cells #[.int .u8 a] 5)).cell? ((⟨w.heap.size, 0, none⟩ : Addr).add j) = some u :=
  cell_one_new w _ _
theorem new_two (w : World) (a b : Int) : ∀ j u, (([a, b] : List Int).map (Value.int .u8))[j]? = some u → (w.alloc (.cells #[.int .u8 a, .int .u8 b] 5)).cell? ((⟨w.heap.size, 0, none⟩ : Addr).add j) = some u :=
  cell_two_new w _ _ _

/-- The buffer's cells. -/
theorem buf_cell {w wr : World} {G cap : Nat} {xs : List Int} (h : Buf w wr G cap xs) : ∀ i, i < xs.length → wr.cell? ⟨G, 0 + i, none⟩ = some (.int .u8 (xs.getD i 0)) := by
  intro i hi
  rw [Nat.zero_add, h.own.cellAt i (by omega)]
  simp [List.getD, hi]

theorem mem_bytes (l : List Int) (h : ∀ i, 0 ≤ l.getD i 0 ∧ l.getD i 0 ≤ 255) : ∀ x ∈ l, 0 ≤ x ∧ x ≤ 255 := by
  intro x hx
  obtain ⟨i, hi, rfl⟩ := List.getElem_of_mem hx
  have := h i
  have e : l.getD i 0 = l[i] := by simp [List.getD, hi]
  rwa [e] at this

/-- The copy's cells, read later. -/
theorem tail_cells {w0 w1 wr : World} {ao : Option Addr} {n : Nat} {l : List Int} (hl : l.length = n) (hao : 0 < n → ao = some ⟨w0.heap.size, 0, none⟩)
    (hcell : ∀ i, i < n → w1.cell? ⟨w0.heap.size, i, none⟩ = some (.int .u8 (l.getD i 0))) (hb : Below w1.heap.size w1 wr) :
    ∀ ad, ao = some ad → ∀ j u, (l.map (Value.int .u8))[j]? = some u → wr.cell? (ad.add j) = some u := by
  intro ad had j u hu
  have hj : j < n := by
    have := (List.getElem?_eq_some_iff.1 hu).1
    simpa [hl] using this
  rw [hao (by omega)] at had
  obtain rfl := Option.some.inj had
  have h1 := hcell j hj
  rw [Addr.add_lit, Nat.zero_add, hb.cell (p := ⟨w0.heap.size, j, none⟩) (World.block_lt_of_cell? _ _ h1), h1]
  have e : (l.map (Value.int .u8))[j]? = some (.int .u8 (l.getD j 0)) := by simp [List.getD, show j < l.length by omega]
  rw [e] at hu
  exact hu

theorem getD_left (xs ys : List Int) (i : Nat) (h : i < xs.length) : (xs ++ ys).getD i 0 = xs.getD i 0 := by
  simp [List.getD, List.getElem?_append_left h]
theorem getD_right (xs ys : List Int) (i : Nat) : (xs ++ ys).getD (xs.length + i) 0 = ys.getD i 0 := by
  simp [List.getD, List.getElem?_append_right]

end Go.Proofs.Qxb6603223aMods
