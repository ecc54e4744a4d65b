/-
  THE PLAIN MATHEMATICS OF THE SEVEN LAWS: no Go in sight, nothing of the dump is imported.
  Bytes are integers here; a text is a list of them.
-/
namespace Go.Proofs.Qxb6603223aMods

/-! ### hex digits -/
/-- The value of the hex digit c; -1 where c is none. -/
def hexv (c : Int) : Int :=
  if 48 ≤ c ∧ c ≤ 57 then c - 48 else if 97 ≤ c ∧ c ≤ 102 then c - 87 else if 65 ≤ c ∧ c ≤ 70 then c - 55 else -1

/-- c folded to lower case. -/
def lowr (c : Int) : Int := if 65 ≤ c ∧ c ≤ 90 then c + 32 else c

/-- The d-th lower-case hex digit. -/
def lowd (d : Int) : Int := if d ≤ 9 then d + 48 else d + 87
/-- The d-th upper-case hex digit. -/
def uppd (d : Int) : Int := if d ≤ 9 then d + 48 else d + 55

def isHexB (c : Int) : Bool := decide (0 ≤ hexv c)

theorem hexv_bd (c : Int) : -1 ≤ hexv c ∧ hexv c ≤ 15 := by
  unfold hexv
  split
  · omega
  · split
    · omega
    · split <;> omega

theorem hexv_lowd (d : Int) (h0 : 0 ≤ d) (h1 : d ≤ 15) : hexv (lowd d) = d := by
  unfold hexv lowd; split <;> (repeat (first | omega | split))
theorem hexv_uppd (d : Int) (h0 : 0 ≤ d) (h1 : d ≤ 15) : hexv (uppd d) = d := by
  unfold hexv uppd; split <;> (repeat (first | omega | split))

/-- A byte that stands at place d of one of the tables has the value d. -/
theorem hexv_of_tab (c d : Int) (h0 : 0 ≤ d) (h1 : d ≤ 15) (h : lowd d = c ∨ uppd d = c) : hexv c = d := by
  rcases h with h | h
  · rw [← h]; exact hexv_lowd d h0 h1
  · rw [← h]; exact hexv_uppd d h0 h1

/-- A hex digit stands in one of the tables at the place of its value. -/
theorem tab_of_hexv (c : Int) (h : 0 ≤ hexv c) : lowd (hexv c) = c ∨ uppd (hexv c) = c := by
  unfold hexv at *
  unfold lowd uppd
  repeat (first | omega | split at h | split)

/-- What is at no place of the tables is no hex digit. -/
theorem hexv_none (c : Int) (h : ∀ d : Int, 0 ≤ d → d ≤ 15 → lowd d ≠ c ∧ uppd d ≠ c) : hexv c = -1 := by
  have hb := hexv_bd c
  by_cases h0 : 0 ≤ hexv c
  · have := h (hexv c) h0 hb.2
    rcases tab_of_hexv c h0 with e | e
    · exact absurd e this.1
    · exact absurd e this.2
  · omega

/-- Written back in lower case a hex digit is itself, folded. -/
theorem lowd_hexv (c : Int) (h : 0 ≤ hexv c) : lowd (hexv c) = lowr c := by
  unfold hexv at *
  unfold lowd lowr
  repeat (first | omega | split at h | split)

/-! ### decimal digits -/
def isDig (c : Int) : Prop := 48 ≤ c ∧ c ≤ 57

/-- The number that a list of decimal digits writes. -/
def dec (l : List Int) : Int := l.foldl (fun n c => n * 10 + (c - 48)) 0

theorem dec_nil : dec [] = 0 := rfl
theorem dec_snoc (l : List Int) (c : Int) : dec (l ++ [c]) = dec l * 10 + (c - 48) := by
  unfold dec; rw [List.foldl_append]; rfl

theorem foldl_dec (l : List Int) (a : Int) : l.foldl (fun n c => n * 10 + (c - 48)) a = a * 10 ^ l.length + dec l := by
  induction l generalizing a with
  | nil => simp [dec]
  | cons c l ih =>
    have e : dec (c :: l) = l.foldl (fun n c => n * 10 + (c - 48)) (0 * 10 + (c - 48)) := rfl
    rw [List.foldl_cons, ih, e, ih, List.length_cons, Int.pow_succ]
    generalize (10 : Int) ^ l.length = p
    generalize dec l = q
    rw [Int.add_mul, Int.add_mul, Int.mul_assoc, Int.mul_comm 10 p]
    omega

theorem dec_cons (c : Int) (l : List Int) : dec (c :: l) = (c - 48) * 10 ^ l.length + dec l := by
  have e : dec (c :: l) = l.foldl (fun n c => n * 10 + (c - 48)) (0 * 10 + (c - 48)) := rfl
  rw [e, foldl_dec]
  congr 2
  omega

theorem pow_pos10 (n : Nat) : (1 : Int) ≤ 10 ^ n := by
  induction n with
  | zero => simp
  | succ n ih => rw [Int.pow_succ]; omega

theorem pow_mono10 {m n : Nat} (h : m ≤ n) : (10 : Int) ^ m ≤ 10 ^ n := by
  induction n with
  | zero => have : m = 0 := by omega
            subst this; exact Int.le_refl _
  | succ n ih =>
    by_cases e : m = n + 1
    · subst e; exact Int.le_refl _
    · have := ih (by omega)
      have h1 := pow_pos10 n
      rw [Int.pow_succ]; omega

/-- A number of n digits lies in [0, 10^n). -/
theorem dec_bd (l : List Int) (h : ∀ c ∈ l, 48 ≤ c ∧ c ≤ 57) : 0 ≤ dec l ∧ dec l < 10 ^ l.length := by
  induction l with
  | nil => simp [dec]
  | cons c l ih =>
    obtain ⟨h1, h2⟩ := ih (fun x hx => h x (List.mem_cons_of_mem _ hx))
    obtain ⟨a, b⟩ := h c (List.mem_cons_self ..)
    rw [dec_cons, List.length_cons, Int.pow_succ]
    have hp := pow_pos10 l.length
    generalize (10 : Int) ^ l.length = p at *
    generalize dec l = q at *
    have g1 : 0 ≤ (c - 48) * p := Int.mul_nonneg (by omega) (by omega)
    have g2 : (c - 48) * p ≤ 9 * p := Int.mul_le_mul_of_nonneg_right (by omega) (by omega)
    omega

theorem dec_lt18 (l : List Int) (h : ∀ c ∈ l, 48 ≤ c ∧ c ≤ 57) (hl : l.length ≤ 18) : 0 ≤ dec l ∧ dec l < 1000000000000000000 := by
  have h1 := dec_bd l h
  have h2 := pow_mono10 hl
  have h3 : (10 : Int) ^ 18 = 1000000000000000000 := by decide
  omega

/-- The number u in decimal, no leading noughts; f: at most so many digits. -/
def digsF : Nat → Int → List Int
  | 0, u => [48 + u]
  | f + 1, u => if u < 10 then [48 + u] else digsF f (u / 10) ++ [48 + u % 10]
/-- The number u in decimal (u below 10^21). -/
def digs (u : Int) : List Int := digsF 20 u

theorem digsF_length (f : Nat) (u : Int) : (digsF f u).length ≤ f + 1 := by
  induction f generalizing u with
  | zero => simp [digsF]
  | succ f ih =>
    unfold digsF
    split
    · simp
    · have := ih (u / 10)
      simp; omega

theorem digsF_ne (f : Nat) (u : Int) : digsF f u ≠ [] := by
  cases f with
  | zero => simp [digsF]
  | succ f => unfold digsF; split <;> simp

/-- With fuel enough the fuel is of no matter. -/
theorem digsF_fuel (f g : Nat) (u : Int) (h0 : 0 ≤ u) (hf : u < 10 ^ (f + 1)) (hg : u < 10 ^ (g + 1)) : digsF f u = digsF g u := by
  induction f generalizing g u with
  | zero =>
    cases g with
    | zero => rfl
    | succ g =>
      have : u < 10 := by simpa using hf
      simp [digsF, this]
  | succ f ih =>
    cases g with
    | zero =>
      have : u < 10 := by simpa using hg
      simp [digsF, this]
    | succ g =>
      unfold digsF
      split
      · rfl
      · rw [ih g (u / 10) (by omega) (by rw [Int.pow_succ] at hf; omega) (by rw [Int.pow_succ] at hg; omega)]

theorem pow18_21 : (10 : Int) ^ 20 = 100000000000000000000 ∧ (10 : Int) ^ 21 = 1000000000000000000000 := by decide

theorem digs_small (u : Int) (h : u < 10) : digs u = [48 + u] := by simp [digs, digsF, h]

theorem digs_step (u : Int) (h0 : 10 ≤ u) (h1 : u < 100000000000000000000) : digs u = digs (u / 10) ++ [48 + u % 10] := by
  have e : digs u = digsF 19 (u / 10) ++ [48 + u % 10] := by
    unfold digs
    rw [digsF, if_neg (by omega)]
  have hp := pow18_21
  rw [e, digsF_fuel 19 20 (u / 10) (by omega) (by omega) (by omega)]
  rfl

/-- A list of digits without a leading nought (or one digit alone) is what its number is written as. -/
theorem digs_dec_len (n : Nat) (l : List Int) (hn : l.length = n + 1) (h : ∀ c ∈ l, 48 ≤ c ∧ c ≤ 57) (hl : l.length ≤ 18) (hz : n = 0 ∨ l.head? ≠ some 48) : digs (dec l) = l := by
  induction n generalizing l with
  | zero =>
    match l, hn with
    | [c], _ =>
      have := h c (List.mem_cons_self ..)
      have e : dec [c] = c - 48 := by simp [dec]
      rw [e, digs_small _ (by omega), show 48 + (c - 48) = c by omega]
  | succ n ih =>
    have hne : l ≠ [] := by intro e; rw [e] at hn; simp at hn
    obtain ⟨e, c, rfl⟩ : ∃ e c, l = e ++ [c] := ⟨l.dropLast, l.getLast hne, (List.dropLast_concat_getLast hne).symm⟩
    have hen : e.length = n + 1 := by simp at hn; omega
    have hc := h c (by simp)
    have he : ∀ x ∈ e, 48 ≤ x ∧ x ≤ 57 := fun x hx => h x (by simp [hx])
    have hhead : e.head? ≠ some 48 := by
      rcases hz with hz | hz
      · omega
      · match e, hen with
        | a :: e', _ => simpa using hz
    have h1 := ih e hen he (by simp at hl; omega) (.inr hhead)
    have hb := dec_lt18 e he (by simp at hl; omega)
    have hpos : 1 ≤ dec e := by
      match e, hen with
      | a :: e', _ =>
        have ha := he a (List.mem_cons_self ..)
        have hne48 : a ≠ 48 := by simpa using hhead
        have hb' := dec_bd e' (fun x hx => he x (List.mem_cons_of_mem _ hx))
        rw [dec_cons]
        have hp := pow_pos10 e'.length
        have : (1 : Int) * 10 ^ e'.length ≤ (a - 48) * 10 ^ e'.length := Int.mul_le_mul_of_nonneg_right (by omega) (by omega)
        omega
    rw [dec_snoc, digs_step _ (by omega) (by omega)]
    have e1 : (dec e * 10 + (c - 48)) / 10 = dec e := by omega
    have e2 : 48 + (dec e * 10 + (c - 48)) % 10 = c := by omega
    rw [e1, e2, h1]

/-- How many noughts ahead are dropped: all, but that one digit is kept. -/
def lead : List Int → Nat
  | [] => 0
  | [_] => 0
  | c :: d :: l => if c = 48 then lead (d :: l) + 1 else 0

theorem lead_lt (l : List Int) (h : l ≠ []) : lead l < l.length := by
  match l with
  | [] => exact absurd rfl h
  | [c] => simp [lead]
  | c :: d :: l =>
    have := lead_lt (d :: l) (by simp)
    unfold lead
    split
    · simp at this ⊢; omega
    · simp

theorem dec_lead (l : List Int) : dec (l.drop (lead l)) = dec l := by
  match l with
  | [] => rfl
  | [c] => rfl
  | c :: d :: l =>
    have := dec_lead (d :: l)
    unfold lead
    split
    · rename_i e
      rw [List.drop_succ_cons, this]
      conv => rhs; rw [dec_cons]
      subst e
      simp
    · rfl

theorem head_lead (l : List Int) : (l.drop (lead l)).length ≤ 1 ∨ (l.drop (lead l)).head? ≠ some 48 := by
  match l with
  | [] => simp [lead]
  | [c] => simp [lead]
  | c :: d :: l =>
    have := head_lead (d :: l)
    unfold lead
    split
    · rw [List.drop_succ_cons]; exact this
    · rename_i e
      right
      simpa using e

/-- The digits of a number written with leading noughts, the noughts dropped. -/
theorem digs_dec (l : List Int) (hne : l ≠ []) (h : ∀ c ∈ l, 48 ≤ c ∧ c ≤ 57) (hl : l.length ≤ 18) : digs (dec l) = l.drop (lead l) := by
  have hlt := lead_lt l hne
  rw [← dec_lead]
  have hlen : (l.drop (lead l)).length = l.length - lead l := List.length_drop
  refine digs_dec_len ((l.drop (lead l)).length - 1) _ (by omega) (fun c hc => h c (List.mem_of_mem_drop hc)) (by omega) ?_
  rcases head_lead l with h1 | h1
  · left; omega
  · right; exact h1

/-- n in decimal, a minus sign ahead where it is negative. -/
def itoa (n : Int) : List Int := if n < 0 then 45 :: digs (-n) else digs n

/-- The canonical form of a text '-'? digits (the digits are d). -/
def canon (neg : Bool) (d : List Int) : List Int :=
  if neg && !(decide (d.drop (lead d) = [48])) then 45 :: d.drop (lead d) else d.drop (lead d)

theorem dec_zero_iff (d : List Int) (hne : d ≠ []) (h : ∀ c ∈ d, 48 ≤ c ∧ c ≤ 57) (hl : d.length ≤ 18) : d.drop (lead d) = [48] ↔ dec d = 0 := by
  constructor
  · intro e
    rw [← dec_lead, e]; rfl
  · intro e
    rw [← digs_dec d hne h hl, e]; rfl

/-- THE LAW OF THE ROUND TRIP. -/
theorem itoa_canon (neg : Bool) (d : List Int) (hne : d ≠ []) (h : ∀ c ∈ d, 48 ≤ c ∧ c ≤ 57) (hl : d.length ≤ 18) :
    itoa (if neg then - dec d else dec d) = canon neg d := by
  have hb := dec_lt18 d h hl
  have hz := dec_zero_iff d hne h hl
  have hd := digs_dec d hne h hl
  unfold itoa canon
  cases neg with
  | false =>
    have e : (if false = true then - dec d else dec d) = dec d := rfl
    rw [e, if_neg (by omega), hd]; simp
  | true =>
    rw [if_pos rfl]
    by_cases e : dec d = 0
    · rw [if_neg (by omega), if_neg (by simp [hz.2 e]), show -dec d = dec d by omega, hd]
    · have e' : ¬ d.drop (lead d) = [48] := fun x => e (hz.1 x)
      rw [if_pos (by omega), if_pos (by simp [e']), show - -dec d = dec d by omega, hd]

end Go.Proofs.Qxb6603223aMods
