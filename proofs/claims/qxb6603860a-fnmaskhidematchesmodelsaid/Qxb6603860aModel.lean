import Derived.Test.Qxb6603860aPlain
import Derived.Laws.IdiomStrings
import Derived.Laws.BytesArg
import Derived.Lib.Strings
namespace Go.Proofs.Qxb6603860a
open Go.RowKit Go.Maps

theorem Try.info4' : (Try.prog.info? 4).map (fun i => (i.zero, i.size, i.bytes)) = some (some (.bool false), 1, 1) := by kernel_rfl
theorem Try.info5 : (Try.prog.info? 5).map (fun i => (i.zero, i.size, i.bytes)) = some (some (.int .u8 0), 1, 1) := by kernel_rfl

/-- What the walk is told of a slice of ints. -/
def RowI (w : World) (a : Option Addr) (len cap : Nat) (zs : List Int) : Prop :=
  (a = none ∧ len = 0 ∧ cap = 0 ∧ zs = []) ∨ ∃ x, a = some x ∧ zs.length = len ∧ len ≤ 65536 ∧ ∀ i, i < len → w.cell? (x.add i) = some (.int .i64 (zs.getD i 0))
/-- .. of a slice of strings. -/
def RowS (w : World) (a : Option Addr) (len cap : Nat) (ss : List ByteArray) : Prop :=
  (a = none ∧ len = 0 ∧ cap = 0 ∧ ss = []) ∨ ∃ x, a = some x ∧ ss.length = len ∧ len ≤ 65536 ∧ ∀ i, i < len → w.cell? (x.add i) = some (.string (ss.getD i ByteArray.empty))
theorem RowI.below {w w' : World} {a : Option Addr} {len cap : Nat} {zs : List Int} (h : RowI w a len cap zs) (hb : Below w.heap.size w w') : RowI w' a len cap zs := by
  rcases h with h | ⟨x, e, h1, h2, h3⟩
  · exact .inl h
  · exact .inr ⟨x, e, h1, h2, fun i hi => (hb.cell (cell_lt (h3 i hi))).trans (h3 i hi)⟩
theorem RowS.below {w w' : World} {a : Option Addr} {len cap : Nat} {ss : List ByteArray} (h : RowS w a len cap ss) (hb : Below w.heap.size w w') : RowS w' a len cap ss := by
  rcases h with h | ⟨x, e, h1, h2, h3⟩
  · exact .inl h
  · exact .inr ⟨x, e, h1, h2, fun i hi => (hb.cell (cell_lt (h3 i hi))).trans (h3 i hi)⟩
theorem hasLen_any (a : Option Addr) (len cap : Nat) (zs : List Int) (n : Int) (w : World) (h : RowI w a len cap zs) :
    Calls Try.prog 11 #[.slice a len cap, .int .i64 n] w fun e w' => e = .returned (.bool (zs.contains n)) ∧ w' = w := by
  rcases h with ⟨rfl, rfl, rfl, rfl⟩ | ⟨x, rfl, h1, h2, h3⟩
  · exact hasLen_nil n w
  · exact hasLen_some x len cap zs n w h1 h2 h3
theorem RowS.len {w : World} {a : Option Addr} {len cap : Nat} {ss : List ByteArray} (h : RowS w a len cap ss) : ss.length = len ∧ len ≤ 65536 := by
  rcases h with ⟨_, rfl, _, rfl⟩ | ⟨x, _, h1, h2, _⟩
  · exact ⟨rfl, by omega⟩
  · exact ⟨h1, h2⟩

theorem str_eq {a b : ByteArray} (h : (!a.toList == b.toList) = false) : a = b := by
  rw [Lib.toList_data, Lib.toList_data] at h
  have h' : (a.data.toList == b.data.toList) = true := by simpa using h
  exact keyS_inj (by unfold keyS; rw [LawfulBEq.eq_of_beq h'])
theorem str_ne {a b : ByteArray} (h : (!a.toList == b.toList) = true) : a ≠ b := by
  rintro rfl
  simp at h

theorem mcovK_skip {ls : List Int} {ss : List ByteArray} {t r : ByteArray} {k : Nat} {B : List Bool} (hr : r = ss.getD k ByteArray.empty) (h : Marks (mcovK ls ss t k) t.size B) (hno : ¬ (r.size : Int) ∈ ls) : Marks (mcovK ls ss t (k + 1)) t.size B := by
  refine h.iff (fun j _ => ?_)
  constructor
  · rintro ⟨q, h1, h2⟩
    exact ⟨q, by omega, h2⟩
  · rintro ⟨q, h1, h2, h3⟩
    by_cases e : q = k
    · subst e
      rw [← hr] at h2
      exact absurd (List.contains_iff_mem.1 h2) hno
    · exact ⟨q, by omega, h2, h3⟩
theorem mcovI_miss {ls : List Int} {ss : List ByteArray} {t r : ByteArray} {k j : Nat} {B : List Bool} (h : Marks (mcovI ls ss t k r j) t.size B) (hno : t.extract j (j + r.size) ≠ r) : Marks (mcovI ls ss t k r (j + 1)) t.size B := by
  refine h.iff (fun q _ => ?_)
  constructor
  · rintro (h | ⟨i', h1, h2⟩)
    · exact .inl h
    · exact .inr ⟨i', by omega, h2⟩
  · rintro (h | ⟨i', h1, h2, h3⟩)
    · exact .inl h
    · by_cases e : i' = j
      · subst e; exact absurd h2.2 hno
      · exact .inr ⟨i', by omega, h2, h3⟩
theorem mcovI_hit {ls : List Int} {ss : List ByteArray} {t r : ByteArray} {k j : Nat} {B : List Bool} (h : Marks (fun q => mcovI ls ss t k r j q ∨ (j ≤ q ∧ q < j + r.size)) t.size B) (hle : j + r.size ≤ t.size) (hyes : t.extract j (j + r.size) = r) : Marks (mcovI ls ss t k r (j + 1)) t.size B := by
  refine h.iff (fun q _ => ?_)
  constructor
  · rintro ((h | ⟨i', h1, h2⟩) | h)
    · exact .inl h
    · exact .inr ⟨i', by omega, h2⟩
    · exact .inr ⟨j, by omega, ⟨hle, hyes⟩, h⟩
  · rintro (h | ⟨i', h1, h2, h3⟩)
    · exact .inl (.inl h)
    · by_cases e : i' = j
      · subst e; exact .inr h3
      · exact .inl (.inr ⟨i', by omega, h2, h3⟩)
theorem mcovK_succ {ls : List Int} {ss : List ByteArray} {t r : ByteArray} {k j : Nat} {B : List Bool} (hr : r = ss.getD k ByteArray.empty) (hin : (r.size : Int) ∈ ls) (h : Marks (mcovI ls ss t k r j) t.size B) (hj : t.size < j + r.size) : Marks (mcovK ls ss t (k + 1)) t.size B := by
  refine h.iff (fun q _ => ?_)
  constructor
  · rintro (⟨q, h1, h2⟩ | ⟨i', h1, h2, h3⟩)
    · exact ⟨q, by omega, h2⟩
    · refine ⟨k, by omega, ?_⟩
      rw [← hr]
      exact ⟨List.contains_iff_mem.2 hin, i', h2, h3⟩
  · rintro ⟨q, h1, hc, i', h2, h3⟩
    by_cases e : q = k
    · subst e
      rw [← hr] at h2 h3
      exact .inr ⟨i', by have := h2.1; omega, h2, h3⟩
    · exact .inl ⟨q, by omega, hc, i', h2, h3⟩

theorem rend_len1 (t : ByteArray) (B : List Bool) (n : Nat) (hn : n < t.size) (h : B.getD n false = false) : (rend t B (n + 1)).length = (rend t B n).length + 1 := by
  have := congrArg List.length (rend_byte t B n hn h)
  simpa [Lib.byteCells_length] using this.symm
theorem rend_five (t : ByteArray) (B : List Bool) (n p : Nat) (hp : n < p) (h0 : n = 0 ∨ B.getD (n - 1) false = false) (hall : ∀ j, n ≤ j → j < p → B.getD j false = true) :
    Lib.byteCells (rend t B n) ++ [Value.int .u8 120, .int .u8 120, .int .u8 120, .int .u8 120, .int .u8 120] = Lib.byteCells (rend t B p) := by
  obtain ⟨d, rfl⟩ : ∃ d, p = n + (d + 1) := ⟨p - n - 1, by omega⟩
  rw [rend_stretch t B n h0 d hall]
  simp [Lib.byteCells]
theorem rend_len5 (t : ByteArray) (B : List Bool) (n p : Nat) (hp : n < p) (h0 : n = 0 ∨ B.getD (n - 1) false = false) (hall : ∀ j, n ≤ j → j < p → B.getD j false = true) :
    (rend t B p).length = (rend t B n).length + 5 := by
  have := congrArg List.length (rend_five t B n p hp h0 hall)
  simpa [Lib.byteCells_length] using this.symm
theorem cells_new (w : World) (cs : List Value) (e : TypeId) : ∀ j u, cs[j]? = some u → (w.alloc (.cells cs.toArray e)).cell? ((⟨w.heap.size, 0, none⟩ : Addr).add j) = some u := fun j u hj => by
  by_cases e0 : j = 0
  · subst e0; simp [Addr.add, hj]
  · simp [Addr.add, e0, hj]
theorem five_one : ∀ u ∈ [Value.int .u8 120, .int .u8 120, .int .u8 120, .int .u8 120, .int .u8 120], u.oneCell' = true := by
  intro u hu
  simp at hu
  subst hu
  rfl

set_option maxHeartbeats 1000000 in
theorem model_any (a0 a1 : Option Addr) (n0 c0 n1 c1 : Nat) (ss : List ByteArray) (ls : List Int) (t : ByteArray) (w : World) (h0 : RowS w a0 n0 c0 ss) (h1 : RowI w a1 n1 c1 ls) (ht : t.size ≤ 1048576) (hss : ∀ s ∈ ss, s.size ≤ 1048576) :
    Calls Try.prog 9 #[.slice a0 n0 c0, .slice a1 n1 c1, .string t] w fun e w' => ∃ B, Marks (mcovK ls ss t n0) t.size B ∧ e = .returned (.string ⟨(rend t B t.size).toArray⟩) ∧ Below w.heap.size w w' := by
  obtain ⟨hl0, hn0⟩ := h0.len
  have HL : Hid (ss.length = n0) := hl0
  have hmk := fun w => run_make_flat (P := Try.prog) w 34 4 (.bool false) 1 t.size Try.underlying34 Try.info4' rfl (by omega) (by omega)
  go_enter Try.func9, Try.ntmps9
  go_wp2
  go_loopw [8] (fun i wr => ∃ (k : Nat) (B : List Bool), k ≤ n0 ∧ i = .int .i64 k ∧ Marks (mcovK ls ss t k) t.size B ∧ wr = w.alloc (.cells (B.map Value.bool).toArray 4)) (fun i _ => n0 - (intOf i).toNat)
  case atStart => exact ⟨0, List.replicate t.size false, Nat.zero_le _, rfl, Marks.none (by rintro j _ ⟨q, hq, _⟩; omega), by simp⟩
  case round =>
    obtain ⟨k, B, hk, rfl, hB, rfl⟩ := hrel
    have hb0 : Below w.heap.size w (w.alloc (.cells (B.map Value.bool).toArray 4)) := (Below.refl _ _).alloc (Nat.le_refl _) _
    by_cases hlt : k < n0
    · rcases h0.below hb0 with ⟨_, e, _⟩ | ⟨x, e, _, _, hc⟩
      · omega
      · have h1' := h1.below hb0
        subst e
        obtain ⟨r, hr⟩ : ∃ r, r = ss.getD k ByteArray.empty := ⟨_, rfl⟩
        have hcx := hc k hlt
        rw [← hr] at hcx
        have hrs : r.size ≤ 1048576 := by rw [hr, List.getD_eq_getElem?_getD, List.getElem?_eq_getElem (by omega)]; exact hss _ (List.getElem_mem _)
        have HR : Hid (r = ss.getD k ByteArray.empty) := hr
        clear hc hr
        go_wp2_with (go_at_call 11; refine (hasLen_any _ _ _ _ _ _ h1').mono ?_; rintro e w1 ⟨rfl, rfl⟩)
        · have hnot : (!decide ((r.size : Int) ∈ ls)) = true := by assumption
          go_roundw
          case rel => exact ⟨k + 1, B, by omega, by go_num, mcovK_skip HR.out hB (by simpa using hnot), rfl⟩
          case measure => simp [intOf]; omega
        · have hin : (!decide ((r.size : Int) ∈ ls)) = false := by assumption
          have hin' : (r.size : Int) ∈ ls := by simpa using hin
          go_loopw [10] (fun i wr => ∃ (j : Nat) (B : List Bool), j ≤ t.size + 1 ∧ i = .int .i64 j ∧ Marks (mcovI ls ss t k r j) t.size B ∧ wr = w.alloc (.cells (B.map Value.bool).toArray 4)) (fun i _ => t.size + 1 - (intOf i).toNat)
          case atStart => exact ⟨0, B, by omega, rfl, hB.iff (fun j _ => ⟨.inl, fun h => h.elim id (fun ⟨_, h, _⟩ => absurd h (Nat.not_lt_zero _))⟩), rfl⟩
          case round =>
            clear hB h1' hcx hb0 hin'
            obtain ⟨j, B, hj, rfl, hB, rfl⟩ := hrel
            by_cases hjm : j + r.size ≤ t.size
            · go_wp2
              · have hne : (!(t.extract j (j + r.size)).toList == r.toList) = true := by assumption
                go_roundw
                case rel => exact ⟨j + 1, B, by omega, by go_num, mcovI_miss hB (str_ne hne), rfl⟩
                case measure => simp [intOf]; omega
              · have heq : (!(t.extract j (j + r.size)).toList == r.toList) = false := by assumption
                go_loopw [11] (fun i wr => ∃ (p : Nat) (C : List Bool), j ≤ p ∧ p ≤ j + r.size ∧ i = .int .i64 p ∧ Marks (fun q => mcovI ls ss t k r j q ∨ (j ≤ q ∧ q < p)) t.size C ∧ wr = w.alloc (.cells (C.map Value.bool).toArray 4))
                  (fun i _ => j + r.size - (intOf i).toNat)
                case atStart => exact ⟨j, _, Nat.le_refl _, by omega, rfl, hB.iff (fun r _ => ⟨.inl, fun h => h.elim id (fun h => by omega)⟩), rfl⟩
                case round =>
                  obtain ⟨p, C, hp1, hp2, rfl, hC, rfl⟩ := hrel
                  by_cases hpl : p < j + r.size
                  · obtain ⟨c0, hc0⟩ : ∃ c0, (C.map Value.bool)[p]? = some c0 := ⟨_, List.getElem?_eq_getElem (by simp [hC.1]; omega)⟩
                    go_wp2
                    go_roundw
                    case rel => exact ⟨p + 1, C.set p true, by omega, by omega, by go_num, mark_step hC (by omega) hp1, by simp [List.map_set]⟩
                    case measure => simp [intOf]; omega
                  · obtain rfl : p = j + r.size := by omega
                    go_wp2
                    go_roundw
                    case rel => exact ⟨j + 1, C, by omega, by go_num, mcovI_hit hC hjm (str_eq heq), rfl⟩
                    case measure => simp [intOf]; omega
            · have hB' := mcovK_succ HR.out (by simpa using hin) hB (by omega)
              go_wp2
              go_roundw
              case rel => exact ⟨k + 1, B, by omega, by go_num, hB', rfl⟩
              case measure => simp [intOf]; omega
    · obtain rfl : k = n0 := by omega
      obtain ⟨i5, hi5, hz50, hz51, hz52⟩ := info_parts Try.info5
      have hcov : ∀ i, i < t.size → (w.alloc (.cells (B.map Value.bool).toArray 4)).cell? ⟨w.heap.size, i, none⟩ = some (.bool (B.getD i false)) := fun i hi => by
        rw [World.cell?_alloc_at _ _ _ _ rfl]
        simp [List.getD_eq_getElem?_getD, List.getElem?_eq_getElem (show i < B.length by rw [hB.1]; exact hi)]
      have hWs : (w.alloc (.cells (B.map Value.bool).toArray 4)).heap.size = w.heap.size + 1 := by simp
      obtain ⟨W, hW⟩ : ∃ W, W = w.alloc (.cells (B.map Value.bool).toArray 4) := ⟨_, rfl⟩
      rw [← hW] at hcov hb0 hWs ⊢
      clear hW
      go_wp2_with (first | (at_make; refine wpList_make_own _ rfl _ _ 36 rfl (w.heap.size + 1) 5 i5 _ 1 Try.underlying36 hi5 hz50 hz51 .i64 .i64 _ t.size rfl rfl rfl (by rw [hz52]; omega) (by unfold maxLen; omega) (by omega) ?_; intro w1 hown1 hgrow1) | go_in)
      go_loopw [12, 13] (fun v i wr => ∃ n : Nat, n ≤ t.size ∧ i = .int .i64 n ∧ wr.ownsRow (w.heap.size + 1) 5 1 v (rend t B n).length (Lib.byteCells (rend t B n)) ∧ Below (w.heap.size + 1) W wr ∧ (n = 0 ∨ B.getD (n - 1) false = false ∨ B.getD n false = false))
        (fun _ i _ => t.size - (intOf i).toNat)
      case atStart => exact ⟨0, Nat.zero_le _, rfl, (by rw [hWs] at hown1; exact hown1), (Below.refl _ _).grown hgrow1 (by omega) (fun k hk => by cases hk), .inl rfl⟩
      case round =>
        clear hown1 hgrow1
        obtain ⟨n, hn, rfl, hown, hb, hedge⟩ := hrel
        have hrl := rend_le t B n
        have hws := hb.size
        have HE : Hid (n = 0 ∨ B.getD (n - 1) false = false ∨ B.getD n false = false) := hedge
        clear hedge
        by_cases hlt' : n < t.size
        · have hcn : wr.cell? ⟨w.heap.size, n, none⟩ = some (.bool (B.getD n false)) := (hb.cell (by simp)).trans (hcov n hlt')
          cases e1 : B.getD n false with
          | false =>
            rw [e1] at hcn
            have E1 : Hid (B.getD n false = false) := e1
            clear e1
            go_wp2_with (first | (at_builtin; refine wpList_append_own _ rfl _ _ 36 rfl (w.heap.size + 1) 5 i5 (.int .u8 0) 1 1 Try.underlying36 hi5 hz50 hz51 hz52 rfl (by decide) _ _ _ rfl (hown.alloc _) ⟨wr.heap.size, 0, none⟩ 1 1 [.int .u8 (t[n].toNat : Int)] rfl rfl (cell_one_new _ _ _) (by intro u hu; simp at hu; subst hu; rfl) (by unfold maxLen; omega) (by omega) (by simp; omega) ?_; intro v' w2 hown2 hgrow2 _) | go_in)
            have hb2 := (hb.alloc (by omega) (.cells #[.int .u8 (t[n].toNat : Int)] 5)).grown hgrow2 (by simp; omega) (fun k hk => (hown.lt k hk).1)
            rw [rend_byte t B n hlt' E1.out, ← rend_len1 t B n hlt' E1.out] at hown2
            go_roundw
            case rel => exact ⟨n + 1, by omega, by go_num, hown2, hb2, .inr (.inl E1.out)⟩
            case measure => simp [intOf]; omega
          | true =>
            rw [e1] at hcn
            have E1 : Hid (B.getD n false = true) := e1
            clear e1
            have h0 : n = 0 ∨ B.getD (n - 1) false = false := HE.out.elim .inl (fun h => h.elim .inr (fun h => by rw [E1.out] at h; cases h))
            have H0 : Hid (n = 0 ∨ B.getD (n - 1) false = false) := h0
            clear h0
            go_wp2_with (first | (at_builtin; refine wpList_append_own _ rfl _ _ 36 rfl (w.heap.size + 1) 5 i5 (.int .u8 0) 1 1 Try.underlying36 hi5 hz50 hz51 hz52 rfl (by decide) _ _ _ rfl (hown.alloc _) ⟨wr.heap.size, 0, none⟩ 5 5 [.int .u8 120, .int .u8 120, .int .u8 120, .int .u8 120, .int .u8 120] rfl rfl (cells_new wr _ 5) five_one (by unfold maxLen; omega) (by omega) (by simp; omega) ?_; intro v' w2 hown2 hgrow2 _) | go_in)
            have hb2 := (hb.alloc (by omega) (.cells #[.int .u8 120, .int .u8 120, .int .u8 120, .int .u8 120, .int .u8 120] 5)).grown hgrow2 (by simp; omega) (fun k hk => (hown.lt k hk).1)
            have hc2 : ∀ i, i < t.size → w2.cell? ⟨w.heap.size, i, none⟩ = some (.bool (B.getD i false)) := fun i hi => (hb2.cell (by simp)).trans (hcov i hi)
            have HC : Hid (∀ i, i < t.size → w2.cell? ⟨w.heap.size, i, none⟩ = some (.bool (B.getD i false))) := hc2
            clear hcn hc2
            go_loop [13] (fun i => ∃ p : Nat, n ≤ p ∧ p ≤ t.size ∧ i = .int .i64 p ∧ ∀ j, n ≤ j → j < p → B.getD j false = true) (fun i => t.size - (intOf i).toNat)
            case atStart => exact ⟨n, Nat.le_refl _, hn, rfl, fun j h1 h2 => by omega⟩
            case round =>
              obtain ⟨p, hp1, hp2, rfl, hall⟩ := hrel
              have HA : Hid (∀ j, n ≤ j → j < p → B.getD j false = true) := hall
              clear hall
              by_cases hpl : p < t.size
              · have hcp := HC.out p hpl
                cases e2 : B.getD p false with
                | true =>
                  rw [e2] at hcp
                  have E2 : Hid (B.getD p false = true) := e2
                  clear e2
                  go_wp2
                  go_round
                  case rel => exact ⟨p + 1, by omega, by omega, by go_num, fun j h1 h2 => if e : j = p then e ▸ E2.out else HA.out j h1 (by omega)⟩
                  case measure => simp [intOf]; omega
                | false =>
                  rw [e2] at hcp
                  have E2 : Hid (B.getD p false = false) := e2
                  clear e2
                  have hnp : n < p := Nat.lt_of_le_of_ne hp1 (fun e => by subst e; rw [E1.out] at E2; exact absurd E2.out (by decide))
                  rw [rend_five t B n p hnp H0.out HA.out, ← rend_len5 t B n p hnp H0.out HA.out] at hown2
                  go_wp2
                  go_roundw
                  case rel => exact ⟨p, by omega, rfl, hown2, hb2, .inr (.inr E2.out)⟩
                  case measure => simp [intOf]; omega
              · obtain rfl : p = t.size := by omega
                rw [rend_five t B n t.size hlt' H0.out HA.out, ← rend_len5 t B n t.size hlt' H0.out HA.out] at hown2
                go_wp2
                go_roundw
                case rel => exact ⟨t.size, by omega, rfl, hown2, hb2, .inr (.inr (by rw [List.getD_eq_getElem?_getD, List.getElem?_eq_none (by rw [hB.1]; omega)]; rfl))⟩
                case measure => simp [intOf]; omega
        · obtain rfl : n = t.size := by omega
          have hcv : (convert 36 9 u12).run Try.prog wr = .ok (.string ⟨(rend t B t.size).toArray⟩) wr := by
            have hcells := fun g (hg : u12.ownBlock = some g) => hown.cells (g := g) hg
            rcases hown.2 with ⟨hv, h0⟩ | ⟨g, cap, cur, hv, _⟩
            · rw [hv, run_convert_bytes_nil wr 36 5 Try.underlying36 Try.underlying5 0 0 9 Try.underlying9]
              have : rend t B t.size = [] := List.length_eq_zero_iff.1 h0
              rw [this]
              rfl
            · rw [hv]
              refine run_convert_bytes_back wr 36 9 5 ⟨g, 0, none⟩ cap _ Try.underlying36 Try.underlying5 Try.underlying9 (fun j hj => ?_)
              exact hcells g (by rw [hv]; rfl) j _ (by simp [Lib.byteCells, List.getElem?_eq_getElem hj])
          go_wp2
          go_ret
          exact ⟨B, hB, rfl, hb0.trans (hb.mono (by omega))⟩
end Go.Proofs.Qxb6603860a
