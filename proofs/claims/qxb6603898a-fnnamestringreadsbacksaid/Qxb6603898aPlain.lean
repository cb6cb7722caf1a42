/-
  THE PLAIN PART of the laws on JSON text: no Go in sight. A text is a list of numbers (its bytes).
-/
namespace Go.Proofs.Qxb6603898a

/-- How many bytes of l a string takes whose inside l begins ('true': the next byte is escaped), its closing quote counted; all of l where it is not closed. -/
def sE : Bool → List Int → Nat
  | _, [] => 0
  | true, _ :: r => 1 + sE false r
  | false, c :: r => if c = 92 then 1 + sE true r else if c = 34 then 1 else 1 + sE false r

/-- The class of a byte outside strings. -/
def cl (c : Int) : Int :=
  if c = 32 ∨ c = 9 ∨ c = 13 ∨ c = 10 ∨ c = 58 then 0 else if c = 44 then 1 else if c = 91 ∨ c = 123 then 2 else if c = 93 ∨ c = 125 then 3 else 4

/-- The classes of a text. State 0: outside strings; 1: inside one; 2: inside one, behind a backslash. -/
def clsf : Nat → List Int → List Int
  | _, [] => []
  | 0, c :: r => cl c :: clsf (if c = 34 then 1 else 0) r
  | 1, c :: r => 5 :: clsf (if c = 92 then 2 else if c = 34 then 0 else 1) r
  | _ + 2, _ :: r => 5 :: clsf 1 r

/-- How many classes go by till the brackets, at depth d, balance; all where they never do. -/
def bal : Int → List Int → Nat
  | _, [] => 0
  | d, c :: r => if c = 2 then 1 + bal (d + 1) r else if c = 3 then (if d - 1 = 0 then 1 else 1 + bal (d - 1) r) else 1 + bal d r

def delim (c : Int) : Bool := decide (c = 32 ∨ c = 9 ∨ c = 13 ∨ c = 10 ∨ c = 44 ∨ c = 93 ∨ c = 125)
/-- How many bytes a number or a literal takes. -/
def scal : List Int → Nat
  | [] => 0
  | c :: r => if delim c then 0 else 1 + scal r

/-- How many bytes the value takes with which l begins. -/
def vLen : List Int → Nat
  | [] => 0
  | c :: r => if c = 34 then 1 + sE false r else if c = 123 ∨ c = 91 then bal 0 (clsf 0 (c :: r)) else scal (c :: r)

/-! ### lengths -/
theorem sE_le : ∀ (l : List Int) (b : Bool), sE b l ≤ l.length
  | [], b => by cases b <;> simp [sE]
  | c :: r, true => by have := sE_le r false; simp [sE]; omega
  | c :: r, false => by
    have h1 := sE_le r true
    have h2 := sE_le r false
    simp only [sE, List.length_cons]
    split
    · omega
    · split <;> omega
theorem length_clsf : ∀ (l : List Int) (s : Nat), (clsf s l).length = l.length
  | [], s => by cases s with | zero => rfl | succ s => cases s <;> rfl
  | c :: r, 0 => by simp [clsf, length_clsf r]
  | c :: r, 1 => by simp [clsf, length_clsf r]
  | c :: r, _ + 2 => by simp [clsf, length_clsf r]
theorem bal_le : ∀ (l : List Int) (d : Int), bal d l ≤ l.length
  | [], d => by simp [bal]
  | c :: r, d => by
    have h1 := bal_le r (d + 1)
    have h2 := bal_le r (d - 1)
    have h3 := bal_le r d
    simp only [bal, List.length_cons]
    split
    · omega
    · split
      · split <;> omega
      · omega
theorem scal_le : ∀ (l : List Int), scal l ≤ l.length
  | [] => by simp [scal]
  | c :: r => by
    have := scal_le r
    simp only [scal, List.length_cons]
    split <;> omega
theorem vLen_le (l : List Int) : vLen l ≤ l.length := by
  cases l with
  | nil => simp [vLen]
  | cons c r =>
    have h1 := sE_le r false
    have h2 := bal_le (clsf 0 (c :: r)) 0
    have h3 := scal_le (c :: r)
    rw [length_clsf] at h2
    simp only [vLen, List.length_cons] at *
    split
    · omega
    · split <;> omega

/-! ### cutting a text behind the value changes nothing -/
theorem sE_take : ∀ (l : List Int) (b : Bool), sE b (l.take (sE b l)) = sE b l
  | [], b => by cases b <;> simp [sE]
  | c :: r, true => by
    simp only [sE]
    rw [Nat.add_comm, List.take_succ_cons, sE, sE_take r false, Nat.add_comm]
  | c :: r, false => by
    by_cases h1 : c = 92
    · simp only [sE, if_pos h1]
      rw [Nat.add_comm, List.take_succ_cons, sE, if_pos h1, sE_take r true, Nat.add_comm]
    · by_cases h2 : c = 34
      · simp only [sE, if_neg h1, if_pos h2]
        rw [show (1 : Nat) = 0 + 1 from rfl, List.take_succ_cons, sE, if_neg h1, if_pos h2]
      · simp only [sE, if_neg h1, if_neg h2]
        rw [Nat.add_comm, List.take_succ_cons, sE, if_neg h1, if_neg h2, sE_take r false, Nat.add_comm]
theorem clsf_take : ∀ (l : List Int) (s k : Nat), clsf s (l.take k) = (clsf s l).take k
  | l, s, 0 => by rw [List.take_zero, List.take_zero]; cases s with | zero => rfl | succ s => cases s <;> rfl
  | [], s, k + 1 => by rw [List.take_nil]; cases s with | zero => rfl | succ s => cases s <;> rfl
  | c :: r, 0, k + 1 => by simp only [List.take_succ_cons, clsf]; rw [clsf_take r]
  | c :: r, 1, k + 1 => by simp only [List.take_succ_cons, clsf]; rw [clsf_take r]
  | c :: r, _ + 2, k + 1 => by simp only [List.take_succ_cons, clsf]; rw [clsf_take r]
theorem bal_take : ∀ (l : List Int) (d : Int), bal d (l.take (bal d l)) = bal d l
  | [], d => by simp [bal]
  | c :: r, d => by
    by_cases h1 : c = 2
    · simp only [bal, if_pos h1]
      rw [Nat.add_comm, List.take_succ_cons, bal, if_pos h1, bal_take r, Nat.add_comm]
    · by_cases h2 : c = 3
      · by_cases h3 : d - 1 = 0
        · simp only [bal, if_neg h1, if_pos h2, if_pos h3]
          rw [show (1 : Nat) = 0 + 1 from rfl, List.take_succ_cons, bal, if_neg h1, if_pos h2, if_pos h3]
        · simp only [bal, if_neg h1, if_pos h2, if_neg h3]
          rw [Nat.add_comm, List.take_succ_cons, bal, if_neg h1, if_pos h2, if_neg h3, bal_take r, Nat.add_comm]
      · simp only [bal, if_neg h1, if_neg h2]
        rw [Nat.add_comm, List.take_succ_cons, bal, if_neg h1, if_neg h2, bal_take r, Nat.add_comm]
theorem scal_take : ∀ (l : List Int), scal (l.take (scal l)) = scal l
  | [] => by simp [scal]
  | c :: r => by
    cases h : delim c
    · simp only [scal, h, Bool.false_eq_true, if_false]
      rw [Nat.add_comm, List.take_succ_cons, scal, h, if_neg (by decide), scal_take r, Nat.add_comm]
    · simp [scal, h]
theorem bal_pos (c : Int) (r : List Int) (h : c = 123 ∨ c = 91) : 0 < bal 0 (clsf 0 (c :: r)) := by
  have : cl c = 2 := by rcases h with rfl | rfl <;> decide
  simp only [clsf, bal, this, if_true]
  omega
theorem vLen_take (l : List Int) : vLen (l.take (vLen l)) = vLen l := by
  cases l with
  | nil => rfl
  | cons c r =>
    by_cases h1 : c = 34
    · have e : vLen (c :: r) = sE false r + 1 := by simp only [vLen, if_pos h1]; omega
      rw [e, List.take_succ_cons]
      simp only [vLen, if_pos h1, sE_take]
      omega
    · by_cases h2 : c = 123 ∨ c = 91
      · have hp := bal_pos c r h2
        have e : vLen (c :: r) = bal 0 (clsf 0 (c :: r)) := by simp only [vLen, if_neg h1, if_pos h2]
        rw [e]
        obtain ⟨k, hk⟩ : ∃ k, bal 0 (clsf 0 (c :: r)) = k + 1 := ⟨_, (Nat.succ_pred_eq_of_pos hp).symm⟩
        have e2 : (c :: r).take (bal 0 (clsf 0 (c :: r))) = c :: r.take k := by rw [hk, List.take_succ_cons]
        rw [e2, vLen, if_neg h1, if_pos h2, ← e2, clsf_take, bal_take]
      · have e : vLen (c :: r) = scal (c :: r) := by simp only [vLen, if_neg h1, if_neg h2]
        rw [e]
        cases hd : delim c
        · have es : scal (c :: r) = scal r + 1 := by simp [scal, hd, Nat.add_comm]
          rw [es, List.take_succ_cons, vLen, if_neg h1, if_neg h2, ← List.take_succ_cons (as := r), ← es, scal_take]
        · have es : scal (c :: r) = 0 := by simp [scal, hd]
          rw [es]; rfl
theorem vLen_pos (c : Int) (r : List Int) (h : c = 34 ∨ c = 91 ∨ c = 123) : 0 < vLen (c :: r) := by
  by_cases h1 : c = 34
  · simp only [vLen, if_pos h1]; omega
  · have h2 : c = 123 ∨ c = 91 := by omega
    simp only [vLen, if_neg h1, if_pos h2]
    exact bal_pos c r h2

/-! ### a string's inside, class by class -/
theorem clsf_esc (l : List Int) : (∀ b : Bool, clsf (if b then 2 else 1) l = List.replicate (sE b l) 5 ++ clsf 0 (l.drop (sE b l))) := by
  induction l with
  | nil => intro b; cases b <;> simp [clsf, sE]
  | cons c r ih =>
    intro b
    cases b with
    | true =>
      have := ih false
      simp only [Bool.false_eq_true, if_false] at this
      simp only [if_true, clsf, sE, Nat.add_comm 1, List.replicate_succ, List.cons_append, List.drop_succ_cons]
      rw [this]
    | false =>
      simp only [Bool.false_eq_true, if_false, clsf, sE]
      by_cases h1 : c = 92
      · have := ih true
        simp only [if_true] at this
        simp only [if_pos h1, Nat.add_comm 1, List.replicate_succ, List.cons_append, List.drop_succ_cons]
        rw [this]
      · by_cases h2 : c = 34
        · simp only [if_neg h1, if_pos h2]
          simp
        · have := ih false
          simp only [Bool.false_eq_true, if_false] at this
          simp only [if_neg h1, if_neg h2, Nat.add_comm 1, List.replicate_succ, List.cons_append, List.drop_succ_cons]
          rw [this]
theorem clsf_str (l : List Int) : clsf 1 l = List.replicate (sE false l) 5 ++ clsf 0 (l.drop (sE false l)) := by
  have := clsf_esc l false
  simpa using this
theorem bal_fives (d : Int) (k : Nat) (cs : List Int) : bal d (List.replicate k 5 ++ cs) = k + bal d cs := by
  induction k with
  | zero => simp
  | succ k ih =>
    rw [List.replicate_succ, List.cons_append, bal, if_neg (by decide), if_neg (by decide), ih]
    omega
end Go.Proofs.Qxb6603898a
