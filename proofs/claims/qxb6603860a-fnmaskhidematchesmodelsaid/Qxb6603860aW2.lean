import Derived.Test.Qxb6603860aW1
namespace Go.Proofs.Qxb6603860a
open Go.RowKit Go.Maps

theorem law9 : Keyed Try.prog 9 := string_keyed Try.underlying9
theorem zero4 (w : World) : (zeroValue 4).run Try.prog w = .ok (.bool false) w := by kernel_rfl
def tru : DataW Unit := .lit (.bool true)
def keyS (s : ByteArray) : Lit := .string s.data.toList
/-- The set of the strings 'ss', as the map in block b of w reads. -/
def IsSet (w : World) (b n : Nat) (ss : List ByteArray) : Prop := w.ownsMap Try.prog 9 (plainElem (H := Unit) Try.prog 4) b n (setOf tru (ss.map keyS))

theorem key_of {s : ByteArray} (h : s.size ≤ maxLen) : keyOf Try.prog 9 (.string s) = some (keyS s) := WideMaps.keyOf_string_mk Try.underlying9 h

theorem plainElem_bool_inv {H : Type} {P : Program} {e : TypeId} (he : P.underlying e = some .bool) {v : Value} {z : DataW H × List MemPlace} (h : plainElem P e v = some z) : ∃ a, v = .bool a ∧ z = (.lit (.bool a), []) := by
  unfold plainElem at h
  rw [he] at h
  cases v <;> simp at h
  subst h
  exact ⟨_, rfl, rfl⟩

theorem atKey_fold (k : Lit) : ∀ (acc : List Lit) (m : DataW Unit) (c : Bool), IsMap m → (∀ x ∈ acc, WideAt.IsKeyLit x) → m.atKey k (.lit (.bool false)) = .lit (.bool c) →
    (acc.foldl (fun m x => m.put x tru) m).atKey k (.lit (.bool false)) = .lit (.bool (c || acc.any (fun x => x.sameKey k)))
  | [], m, c, _, _, h => by simpa using h
  | x :: r, m, c, hm, hx, h => by
    rw [List.foldl_cons]
    by_cases e : k = x
    · subst e
      rw [atKey_fold k r (m.put k tru) true (hm.put k tru) (fun y hy => hx y (by simp [hy])) (atKey_put_same hm (hx k (by simp)) tru _)]
      simp [WideAt.sameKey_self (hx k (by simp))]
    · rw [atKey_fold k r (m.put x tru) c (hm.put x tru) (fun y hy => hx y (by simp [hy])) (by rw [atKey_put_other e]; exact h)]
      simp [sameKey_ne (fun e' => e e'.symm)]

theorem isKey_keyS (s : ByteArray) : WideAt.IsKeyLit (keyS s) := trivial
theorem keyS_inj {s t : ByteArray} (h : keyS s = keyS t) : s = t := by
  cases s; cases t
  simp [keyS, Array.ext_iff] at h ⊢
  simpa using h

/-- Is s among ss? -/
def inSet (ss : List ByteArray) (s : ByteArray) : Bool := ss.any (fun t => t.data.toList == s.data.toList)
theorem inSet_iff (ss : List ByteArray) (s : ByteArray) : inSet ss s = true ↔ s ∈ ss := by
  unfold inSet
  rw [List.any_eq_true]
  constructor
  · rintro ⟨t, ht, h⟩
    have : keyS t = keyS s := by unfold keyS; rw [LawfulBEq.eq_of_beq h]
    exact keyS_inj this ▸ ht
  · intro h
    exact ⟨s, h, beq_self_eq_true _⟩
theorem any_contains (ss : List ByteArray) (s : ByteArray) : (ss.map keyS).any (fun x => x.sameKey (keyS s)) = inSet ss s := by
  rw [List.any_map]
  rfl

theorem IsSet.look {w : World} {b n : Nat} {ss : List ByteArray} (h : IsSet w b n ss) (s : ByteArray) (hs : s.size ≤ maxLen) :
    (Instr.lookup 27 (.map (some b)) (.string s) false).run Try.prog w = .ok (.bool (inSet ss s)) w := by
  obtain ⟨v, ps, hrun, hv⟩ := World.ownsMap.lookup h law9 Try.underlying27 (zero4 w) (plainElem_bool Try.underlying4 false) (key_of hs)
  obtain ⟨c, rfl, hc⟩ := plainElem_bool_inv Try.underlying4 hv
  rw [setOf, atKey_fold (keyS s) _ _ false isMap_empty (fun x hx => by obtain ⟨t, _, rfl⟩ := List.mem_map.1 hx; exact isKey_keyS t) rfl, any_contains] at hc
  simp at hc
  rw [hrun, hc.1]

theorem set_step (ss : List ByteArray) (k : Nat) (h : k < ss.length) : (setOf tru ((ss.take k).map keyS)).put (keyS ss[k]) tru = setOf tru ((ss.take (k + 1)).map keyS) := by
  rw [List.take_succ_eq_append_getElem h, List.map_append, ← setOf_snoc]
  rfl

set_option maxHeartbeats 400000 in
theorem set_some (x : Addr) (len cap : Nat) (ss : List ByteArray) (w : World) (hz : ss.length = len) (hm : len ≤ 65536) (hss : ∀ t ∈ ss, t.size ≤ maxLen)
    (hc : ∀ i, i < len → w.cell? (x.add i) = some (Value.string (ss.getD i ByteArray.empty))) :
    Calls Try.prog 7 #[.slice (some x) len cap] w fun e w' => e = .returned (.map (some w.heap.size)) ∧ IsSet w' w.heap.size len ss ∧ Below w.heap.size w w' := by
  have HZ : Hid (ss.length = len) := hz
  have hmm := @run_makeMap Try.prog
  go_enter Try.func7, Try.ntmps7
  go_wp2
  go_loopw [4] (fun i wr => ∃ k : Nat, k ≤ len ∧ i = .int .i64 k ∧ IsSet wr w.heap.size k (ss.take k) ∧ Below w.heap.size w wr) (fun i _ => len - (intOf i).toNat)
  case atStart => exact ⟨0, Nat.zero_le _, rfl, World.ownsMap_made _ _ _ _, (Below.refl _ _).alloc (Nat.le_refl _) _⟩
  case round =>
    obtain ⟨k, hk, rfl, hown, hb⟩ := hrel
    by_cases hlt : k < len
    · have hcell := hc k (by omega)
      have hcx : wr.cell? (x.add k) = some (Value.string (ss.getD k ByteArray.empty)) := (hb.cell (cell_lt hcell)).trans hcell
      clear hcell
      go_wp2_with (first | (at_mapUpdate; refine wpList_mapUpdate_own _ rfl _ _ _ 27 rfl 9 4 law9 Try.underlying27 _ w.heap.size k _ rfl hown (by unfold maxLen; omega) _ _ _ rfl rfl (key_of (hss _ (List.getElem_mem _))) tru [] (plainElem_bool Try.underlying4 true) ?_; intro w1 hown1 hgrow1) | go_in)
      rw [set_step ss k (by omega)] at hown1
      go_roundw
      case rel => exact ⟨k + 1, by omega, by go_num, hown1, hb.grown hgrow1 hb.size (fun j hj => by cases hj; exact Nat.le_refl _)⟩
      case measure => simp [intOf]; omega
    · obtain rfl : k = len := by omega
      go_wp2
      go_ret
      rw [List.take_of_length_le (by rw [HZ.out]; omega)] at hown
      exact ⟨rfl, hown, hb⟩

theorem set_nil (w : World) : Calls Try.prog 7 #[.slice none 0 0] w fun e w' => e = .returned (.map (some w.heap.size)) ∧ IsSet w' w.heap.size 0 [] ∧ Below w.heap.size w w' := by
  have hmm := @run_makeMap Try.prog
  go_enter Try.func7, Try.ntmps7
  go_wp2
  go_loop [4] (fun i => i = .int .i64 0) (fun _ => 0)
  case atStart => rfl
  case round =>
    subst hrel
    go_wp2
    go_ret
    exact ⟨rfl, World.ownsMap_made _ _ _ _, (Below.refl _ _).alloc (Nat.le_refl _) _⟩

/-! ### zzBytes -/
def IsBool (e : Ending) : Prop := ∃ b : Bool, e = .returned (.bool b)
set_option maxHeartbeats 400000 in
theorem bytes_some (x : Addr) (len cap : Nat) (ss : List ByteArray) (a1 : Option Addr) (n1 c1 : Nat) (s : ByteArray) (w : World) (hz : ss.length = len) (hm : len ≤ maxLen) (hm1 : n1 ≤ maxLen) (hm2 : s.size ≤ maxLen) (hss : ∀ t ∈ ss, t.size ≤ maxLen)
    (hc : ∀ i, i < len → w.cell? (x.add i) = some (Value.string (ss.getD i ByteArray.empty))) :
    Calls Try.prog 4 #[.slice (some x) len cap, .slice a1 n1 c1, .string s] w fun e w' => IsBool e ∧ w' = w := by
  have HZ : Hid (ss.length = len) := hz
  unfold maxLen at hm hm1 hm2
  go_enter Try.func4, Try.ntmps4
  go_wp2
  · go_ret
    exact ⟨⟨_, rfl⟩, rfl⟩
  · go_loop [7, 8] (fun t i => ∃ (k : Nat) (tt : Int), k ≤ len ∧ i = .int .i64 k ∧ t = .int .i64 tt ∧ 0 ≤ tt ∧ tt ≤ 1048576) (fun _ i => len - (intOf i).toNat)
    case atStart => exact ⟨0, len, Nat.zero_le _, rfl, rfl, by omega, by omega⟩
    case round =>
      obtain ⟨k, tt, hk, rfl, rfl, ht0, ht1⟩ := hrel
      by_cases hlt : k < len
      · have hcell := hc k (by omega)
        have hsk := hss ss[k] (List.getElem_mem _)
        unfold maxLen at hsk
        go_wp2
        · go_ret
          exact ⟨⟨_, rfl⟩, rfl⟩
        · go_ret
          exact ⟨⟨_, rfl⟩, rfl⟩
        · go_round
          case rel => exact ⟨k + 1, _, by omega, by go_num, rfl, by omega, by omega⟩
          case measure => simp [intOf]; omega
      · go_wp2
        all_goals (go_ret; exact ⟨⟨_, rfl⟩, rfl⟩)

theorem bytes_nil (a1 : Option Addr) (n1 c1 : Nat) (s : ByteArray) (w : World) (hm1 : n1 ≤ maxLen) (hm2 : s.size ≤ maxLen) :
    Calls Try.prog 4 #[.slice none 0 0, .slice a1 n1 c1, .string s] w fun e w' => IsBool e ∧ w' = w := by
  unfold maxLen at hm1 hm2
  go_enter Try.func4, Try.ntmps4
  go_wp2
  go_loop [7, 8] (fun t i => t = .int .i64 0 ∧ i = .int .i64 0) (fun _ _ => 0)
  case atStart => exact ⟨rfl, rfl⟩
  case round =>
    obtain ⟨rfl, rfl⟩ := hrel
    go_wp2
    all_goals (go_ret; exact ⟨⟨_, rfl⟩, rfl⟩)
end Go.Proofs.Qxb6603860a
