import Derived.Test.Qxb6603898aPlain
/-
  THE PLAIN PART of the law on shapes: one pass with a stack against each container scanned on its own. No Go in sight.
-/
namespace Go.Proofs.Qxb6603898a

/-- A first piece begins: the innermost count goes up. -/
def bump : Bool → List Nat → List Nat
  | true, t :: s => (t + 1) :: s
  | _, s => s
theorem length_bump (f : Bool) (s : List Nat) : (bump f s).length = s.length := by
  cases f <;> cases s <;> rfl

/-- One pass over the classes: nesting, entries, widest; the counts of what is open, the innermost first; does the next value begin a piece? -/
def shp (nest ent wid : Nat) (stk : List Nat) (f : Bool) : List Int → Nat × Nat × Nat
  | [] => (nest, ent, wid)
  | c :: r =>
    if c = 1 then shp nest ent wid stk (!stk.isEmpty) r
    else if c = 3 then (match stk with | [] => shp nest ent wid [] false r | t :: s => shp nest (ent + t) (max wid t) s false r)
    else if c = 4 then shp nest ent wid (bump f stk) false r
    else if c = 2 then (if max nest (stk.length + 1) > 64 then (max nest (stk.length + 1), ent, wid) else shp (max nest (stk.length + 1)) ent wid (0 :: bump f stk) true r)
    else shp nest ent wid stk f r

/-- The members of one container, told as the model tells them: pieces done, depth below it, has this piece a value? -/
def mem (cnt rel : Nat) (has : Bool) : List Int → Option Nat
  | [] => none
  | c :: r =>
    if 0 < rel then (if c = 2 then mem cnt (rel + 1) has r else if c = 3 then mem cnt (rel - 1) has r else mem cnt rel has r)
    else if c = 1 then mem (if has then cnt + 1 else cnt) 0 false r
    else if c = 4 then mem cnt 0 true r
    else if c = 2 then mem cnt 1 true r
    else if c = 3 then some (if has then cnt + 1 else cnt)
    else mem cnt 0 has r

/-- The same, told by pieces begun. -/
def mem' (t rel : Nat) (f : Bool) : List Int → Option Nat
  | [] => none
  | c :: r =>
    if 0 < rel then (if c = 2 then mem' t (rel + 1) f r else if c = 3 then mem' t (rel - 1) f r else mem' t rel f r)
    else if c = 1 then mem' t 0 true r
    else if c = 4 then mem' (if f then t + 1 else t) 0 false r
    else if c = 2 then mem' (if f then t + 1 else t) 1 false r
    else if c = 3 then some t
    else mem' t 0 f r

theorem mem_eq : ∀ (l : List Int) (cnt rel : Nat) (has : Bool), mem cnt rel has l = mem' (if has then cnt + 1 else cnt) rel (!has) l
  | [], _, _, _ => rfl
  | c :: r, cnt, rel, has => by
    simp only [mem, mem']
    by_cases h0 : 0 < rel
    · simp only [if_pos h0, mem_eq r]
    · simp only [if_neg h0]
      by_cases h1 : c = 1
      · simp only [if_pos h1, mem_eq r]; cases has <;> rfl
      · simp only [if_neg h1]
        by_cases h4 : c = 4
        · simp only [if_pos h4, mem_eq r]; cases has <;> rfl
        · simp only [if_neg h4]
          by_cases h2 : c = 2
          · simp only [if_pos h2, mem_eq r]; cases has <;> rfl
          · simp only [if_neg h2]
            by_cases h3 : c = 3
            · simp only [if_pos h3]
            · simp only [if_neg h3, mem_eq r]

/-- A container that has closed is reckoned in. -/
def app (p : Nat × Nat) : Option Nat → Nat × Nat
  | some m => (p.1 + m, max p.2 m)
  | none => p
theorem app_comm (p : Nat × Nat) (a b : Option Nat) : app (app p a) b = app (app p b) a := by
  cases a <;> cases b <;> simp [app] <;> omega
theorem fold_mid (A B : List (Option Nat)) (x : Option Nat) : ∀ p, (A ++ x :: B).foldl app p = (x :: (A ++ B)).foldl app p := by
  induction A with
  | nil => intro p; rfl
  | cons a A ih =>
    intro p
    simp only [List.cons_append, List.foldl_cons]
    rw [ih (app p a)]
    simp only [List.foldl_cons]
    rw [app_comm]

/-- What becomes of the containers that begin in l, each scanned on its own. -/
def tots : List Int → List (Option Nat)
  | [] => []
  | c :: r => if c = 2 then mem' 0 0 true r :: tots r else tots r
/-- What becomes of those that are open: the innermost at depth i. -/
def pend : Nat → Bool → List Nat → List Int → List (Option Nat)
  | _, _, [], _ => []
  | i, f, t :: s, l => mem' t i f l :: pend (i + 1) false s l

/-- The classes ahead of the opener that passes depth 64. -/
def cutL : Nat → List Int → List Int
  | _, [] => []
  | d, c :: r => if c = 2 then (if 64 < d + 1 then [] else c :: cutL (d + 1) r) else if c = 3 ∧ 0 < d then c :: cutL (d - 1) r else c :: cutL d r
def nestL : Nat → Nat → List Int → Nat
  | _, nest, [] => nest
  | d, nest, c :: r =>
    if c = 2 then (if 64 < d + 1 then max nest (d + 1) else nestL (d + 1) (max nest (d + 1)) r) else if c = 3 ∧ 0 < d then nestL (d - 1) nest r else nestL d nest r

theorem pend_nil (i : Nat) (f : Bool) : ∀ (s : List Nat) (p : Nat × Nat), (pend i f s []).foldl app p = p := by
  intro s
  induction s generalizing i f with
  | nil => intro p; rfl
  | cons t s ih => intro p; simp only [pend, List.foldl_cons, mem', app]; exact ih (i + 1) false p
/-- Deeper containers: what a byte of class c does to them. -/
theorem pend_open (c : Int) (r : List Int) (h : c = 2) : ∀ (s : List Nat) (i : Nat), pend (i + 1) false s (c :: r) = pend (i + 2) false s r := by
  intro s
  induction s with
  | nil => intro i; rfl
  | cons t s ih => intro i; simp only [pend, mem', if_pos (Nat.succ_pos i), if_pos h]; rw [ih (i + 1)]
theorem pend_close (c : Int) (r : List Int) (h : c = 3) : ∀ (s : List Nat) (i : Nat), pend (i + 1) false s (c :: r) = pend i false s r := by
  intro s
  induction s with
  | nil => intro i; rfl
  | cons t s ih =>
    intro i
    simp only [pend, mem', if_pos (Nat.succ_pos i), if_neg (show ¬ c = 2 by omega), if_pos h]
    rw [ih (i + 1)]
    rfl
theorem pend_stay (c : Int) (r : List Int) (h2 : c ≠ 2) (h3 : c ≠ 3) : ∀ (s : List Nat) (i : Nat), pend (i + 1) false s (c :: r) = pend (i + 1) false s r := by
  intro s
  induction s with
  | nil => intro i; rfl
  | cons t s ih => intro i; simp only [pend, mem', if_pos (Nat.succ_pos i), if_neg h2, if_neg h3]; rw [ih (i + 1)]

/-- THE PLAIN LAW ON SHAPES. -/
theorem shp_eq : ∀ (l : List Int) (nest ent wid : Nat) (stk : List Nat) (f : Bool), stk.length ≤ 64 → nest ≤ 64 → (f = true → stk ≠ []) →
    shp nest ent wid stk f l = (nestL stk.length nest l, ((pend 0 f stk (cutL stk.length l) ++ tots (cutL stk.length l)).foldl app (ent, wid)).1, ((pend 0 f stk (cutL stk.length l) ++ tots (cutL stk.length l)).foldl app (ent, wid)).2)
  | [], nest, ent, wid, stk, f, hs, hn, hf => by
    simp only [shp, nestL, cutL, tots, List.append_nil, pend_nil]
  | c :: r, nest, ent, wid, stk, f, hs, hn, hf => by
    by_cases h1 : c = 1
    · have h2 : ¬ c = 2 := by omega
      have h3 : ¬ c = 3 := by omega
      have h3' : ¬ (c = 3 ∧ 0 < stk.length) := by omega
      simp only [shp, if_pos h1, nestL, cutL, if_neg h2, if_neg h3']
      rw [shp_eq r _ _ _ _ _ hs hn (by cases stk <;> simp)]
      have e : ∀ L, pend 0 f stk (c :: L) = pend 0 (!stk.isEmpty) stk L := by
        intro L
        cases stk with
        | nil => rfl
        | cons t s =>
          simp only [pend, mem', Nat.lt_irrefl, if_false, if_pos h1]
          rw [pend_stay c L h2 h3]
          rfl
      have e2 : ∀ L, tots (c :: L) = tots L := by intro L; simp only [tots, if_neg h2]
      simp only [e, e2]
    · by_cases h3 : c = 3
      · have h2 : ¬ c = 2 := by omega
        simp only [shp, if_neg h1, if_pos h3, nestL, cutL, if_neg h2]
        cases stk with
        | nil =>
          have h3' : ¬ (c = 3 ∧ 0 < ([] : List Nat).length) := by simp
          simp only [if_neg h3']
          rw [shp_eq r _ _ _ _ _ hs hn (by simp)]
          have e2 : ∀ L, tots (c :: L) = tots L := by intro L; simp only [tots, if_neg h2]
          simp only [e2, pend]
        | cons t s =>
          have h3' : c = 3 ∧ 0 < (t :: s).length := ⟨h3, by simp⟩
          have e1 : ∀ {α : Type} (x y : α), (if c = 3 ∧ 0 < (t :: s).length then x else y) = x := fun x y => if_pos h3'
          simp only [e1]
          have e0 : (t :: s).length - 1 = s.length := rfl
          simp only [e0]
          rw [shp_eq r _ _ _ _ _ (by simp at hs; omega) hn (by simp)]
          have e : ∀ L, pend 0 f (t :: s) (c :: L) = some t :: pend 0 false s L := by
            intro L
            simp only [pend, mem', Nat.lt_irrefl, if_false, if_neg h1, if_neg (show ¬ c = 4 by omega), if_neg h2, if_pos h3]
            rw [pend_close c L h3]
          have e2 : ∀ L, tots (c :: L) = tots L := by intro L; simp only [tots, if_neg h2]
          simp only [e, e2, List.cons_append, List.foldl_cons, app]
      · by_cases h4 : c = 4
        · have h2 : ¬ c = 2 := by omega
          have h3' : ¬ (c = 3 ∧ 0 < stk.length) := by omega
          simp only [shp, if_neg h1, if_neg h3, if_pos h4, nestL, cutL, if_neg h2, if_neg h3']
          rw [shp_eq r _ _ _ _ _ (by rw [length_bump]; exact hs) hn (by simp), length_bump]
          have e : ∀ L, pend 0 f stk (c :: L) = pend 0 false (bump f stk) L := by
            intro L
            cases stk with
            | nil => cases f <;> rfl
            | cons t s =>
              simp only [pend, mem', Nat.lt_irrefl, if_false, if_neg h1, if_pos h4]
              rw [pend_stay c L h2 h3]
              cases f <;> rfl
          have e2 : ∀ L, tots (c :: L) = tots L := by intro L; simp only [tots, if_neg h2]
          simp only [e, e2]
        · by_cases h2 : c = 2
          · simp only [shp, if_neg h1, if_neg h3, if_neg h4, if_pos h2, nestL, cutL]
            by_cases hd : 64 < stk.length + 1
            · have hm : max nest (stk.length + 1) > 64 := by omega
              simp only [if_pos hd, if_pos hm, tots, List.append_nil, pend_nil]
            · have hm : ¬ max nest (stk.length + 1) > 64 := by omega
              simp only [if_neg hd, if_neg hm]
              rw [shp_eq r _ _ _ _ _ (by simp only [List.length_cons, length_bump]; omega) (by omega) (by simp)]
              simp only [List.length_cons, length_bump]
              have e : ∀ L, pend 0 f stk (c :: L) = pend 1 false (bump f stk) L := by
                intro L
                cases stk with
                | nil => cases f <;> rfl
                | cons t s =>
                  simp only [pend, mem', Nat.lt_irrefl, if_false, if_neg h1, if_neg h4, if_pos h2]
                  rw [pend_open c L h2]
                  cases f <;> rfl
              have e2 : ∀ L, tots (c :: L) = mem' 0 0 true L :: tots L := by intro L; simp only [tots, if_pos h2]
              simp only [e, e2, fold_mid, pend, List.cons_append]
          · have h3' : ¬ (c = 3 ∧ 0 < stk.length) := by omega
            simp only [shp, if_neg h1, if_neg h3, if_neg h4, if_neg h2, nestL, cutL, if_neg h3']
            rw [shp_eq r _ _ _ _ _ hs hn hf]
            have e : ∀ L, pend 0 f stk (c :: L) = pend 0 f stk L := by
              intro L
              cases stk with
              | nil => rfl
              | cons t s =>
                simp only [pend, mem', Nat.lt_irrefl, if_false, if_neg h1, if_neg h4, if_neg h2, if_neg h3]
                rw [pend_stay c L h2 h3]
            have e2 : ∀ L, tots (c :: L) = tots L := by intro L; simp only [tots, if_neg h2]
            simp only [e, e2]

theorem cutL_take : ∀ (l : List Int) (d : Nat), cutL d l = l.take (cutL d l).length
  | [], _ => by simp [cutL]
  | c :: r, d => by
    simp only [cutL]
    split
    · split
      · simp
      · rw [List.length_cons, List.take_succ_cons, ← cutL_take r]
    · split <;> rw [List.length_cons, List.take_succ_cons, ← cutL_take r]
end Go.Proofs.Qxb6603898a
