import PyProof.Rows.All
import Wide.All
import OpenK.AllK
import Wide.FinOn
import PySem.Challenge.RW_rw0009_01
set_option Elab.async false
set_option maxRecDepth 100000
set_option linter.unusedVariables false
set_option linter.unusedSimpArgs false
set_option maxHeartbeats 8000000

namespace Mine

/-! ## Borders -/
def bdb (p : List Int) (n b : Nat) : Bool := (List.range b).all fun i => p[i]? == p[n - b + i]?
def bd (p : List Int) (n b : Nat) : Prop := b < n ∧ ∀ i, i < b → p[i]? = p[n - b + i]?
theorem bdb_iff {p : List Int} {n b : Nat} : bdb p n b = true ↔ ∀ i, i < b → p[i]? = p[n - b + i]? := by
  unfold bdb
  rw [List.all_eq_true]
  constructor
  · intro h i hi
    exact beq_iff_eq.mp (h i (List.mem_range.mpr hi))
  · intro h i hi
    exact beq_iff_eq.mpr (h i (List.mem_range.mp hi))
def mbb (p : List Int) (n : Nat) : Nat → Nat
  | 0 => 0
  | k + 1 => if bdb p n k then k else mbb p n k
def mb (p : List Int) (n : Nat) : Nat := mbb p n n

theorem mbb_le {p : List Int} {n : Nat} : ∀ k, k ≤ n → (mbb p n k = 0 ∨ bd p n (mbb p n k)) ∧ mbb p n k ≤ k - 1 ∧ ∀ b, b < k → bd p n b → b ≤ mbb p n k
  | 0, _ => ⟨.inl rfl, Nat.le_refl _, fun b h => absurd h (Nat.not_lt_zero _)⟩
  | k + 1, hk => by
    obtain ⟨h1, h2, h3⟩ := mbb_le (p := p) (n := n) k (by omega)
    unfold mbb
    split
    · rename_i h
      exact ⟨.inr ⟨by omega, bdb_iff.mp h⟩, by omega, fun b hb _ => by omega⟩
    · rename_i h
      refine ⟨h1, by omega, fun b hb hbd => ?_⟩
      by_cases e : b = k
      · subst e; exact absurd (bdb_iff.mpr hbd.2) h
      · exact h3 b (by omega) hbd
theorem bd_zero {p : List Int} {n : Nat} (h : 0 < n) : bd p n 0 := ⟨h, fun i hi => absurd hi (Nat.not_lt_zero _)⟩
theorem mb_bd {p : List Int} {n : Nat} (h : 0 < n) : bd p n (mb p n) := by
  rcases (mbb_le (p := p) n (Nat.le_refl n)).1 with e | e
  · unfold mb; rw [e]; exact bd_zero h
  · exact e
theorem mb_max {p : List Int} {n b : Nat} (h : bd p n b) : b ≤ mb p n := (mbb_le (p := p) n (Nat.le_refl n)).2.2 b h.1 h
theorem mb_lt {p : List Int} {n : Nat} (h : 0 < n) : mb p n < n := (mb_bd h).1
theorem mb_eq {p : List Int} {n b : Nat} (h : bd p n b) (hm : ∀ c, bd p n c → c ≤ b) : mb p n = b := Nat.le_antisymm (hm _ (mb_bd (by have := h.1; omega))) (mb_max h)

theorem bd_succ {p : List Int} {n b : Nat} (hb : b < n) : bd p (n + 1) (b + 1) ↔ bd p n b ∧ p[b]? = p[n]? := by
  constructor
  · intro ⟨h1, h2⟩
    refine ⟨⟨hb, fun i hi => ?_⟩, ?_⟩
    · have := h2 i (by omega)
      rw [show n + 1 - (b + 1) + i = n - b + i by omega] at this
      exact this
    · have := h2 b (by omega)
      rw [show n + 1 - (b + 1) + b = n by omega] at this
      exact this
  · intro ⟨⟨_, h1⟩, h2⟩
    refine ⟨by omega, fun i hi => ?_⟩
    rw [show n + 1 - (b + 1) + i = n - b + i by omega]
    by_cases e : i = b
    · subst e; rw [show n - i + i = n by omega]; exact h2
    · exact h1 i (by omega)
theorem bd_down {p : List Int} {n b c : Nat} (h1 : bd p n b) (h2 : bd p n c) (h : c < b) : bd p b c := by
  refine ⟨h, fun i hi => ?_⟩
  have hb := h1.1
  rw [h2.2 i hi, h1.2 (b - c + i) (by omega)]
  congr 1
  omega
theorem bd_up {p : List Int} {n b c : Nat} (h1 : bd p n b) (h2 : bd p b c) : bd p n c := by
  have hb := h1.1
  have hc := h2.1
  refine ⟨by omega, fun i hi => ?_⟩
  rw [h2.2 i hi, h1.2 (b - c + i) (by omega)]
  congr 1
  omega

/-- what the inner loop keeps -/
structure Kmp (p : List Int) (i idx : Nat) : Prop where
  bd : bd p i idx
  top : ∀ b, Mine.bd p i b → p[b]? = p[i]? → b ≤ idx
theorem Kmp.start {p : List Int} {i : Nat} (h : 0 < i) : Kmp p i (mb p i) := ⟨mb_bd h, fun b hb _ => mb_max hb⟩
theorem Kmp.next {p : List Int} {i idx : Nat} (k : Kmp p i idx) (h0 : 0 < idx) (hne : p[i]? ≠ p[idx]?) : Kmp p i (mb p idx) := by
  refine ⟨bd_up k.bd (mb_bd h0), fun b hb he => ?_⟩
  have := k.top b hb he
  have hb' : b ≠ idx := by rintro rfl; exact hne he.symm
  exact mb_max (bd_down k.bd hb (by omega))
theorem Kmp.hit {p : List Int} {i idx : Nat} (k : Kmp p i idx) (he : p[i]? = p[idx]?) : mb p (i + 1) = idx + 1 := by
  refine mb_eq ((bd_succ k.bd.1).mpr ⟨k.bd, he.symm⟩) fun c hc => ?_
  cases c with
  | zero => omega
  | succ b =>
    have hb : b < i := by have := hc.1; omega
    obtain ⟨h1, h2⟩ := (bd_succ hb).mp hc
    have := k.top b h1 h2
    omega
theorem Kmp.miss {p : List Int} {i : Nat} (k : Kmp p i 0) (hne : p[i]? ≠ p[0]?) : mb p (i + 1) = 0 := by
  refine mb_eq (bd_zero (by omega)) fun c hc => ?_
  cases c with
  | zero => omega
  | succ b =>
    have hb : b < i := by have := hc.1; omega
    obtain ⟨h1, h2⟩ := (bd_succ hb).mp hc
    have := k.top b h1 h2
    have : b = 0 := by omega
    subst this
    exact absurd h2.symm hne

/-- the table when its first k places are told -/
def tb (p : List Int) (k : Nat) : List Int := (List.range p.length).map fun i => if i < k then ((mb p (i + 1) : Nat) : Int) else 0
def ov (p : List Int) : List Int := (List.range p.length).map fun i => ((mb p (i + 1) : Nat) : Int)
theorem tb_length {p k} : (tb p k).length = p.length := by simp [tb]
theorem ov_length {p} : (ov p).length = p.length := by simp [ov]
theorem ov_get {p : List Int} {i : Nat} (h : i < p.length) : (ov p)[i]? = some ((mb p (i + 1) : Nat) : Int) := by simp [ov, h]
theorem tb_get {p : List Int} {k i : Nat} (h : i < p.length) (hk : i < k) : (tb p k)[i]? = some ((mb p (i + 1) : Nat) : Int) := by simp [tb, h, hk]
theorem tb_one {p : List Int} : (List.replicate p.length [(0 : Int)]).flatten = tb p 1 := by
  apply List.ext_getElem?
  intro i
  rw [List.flatten_replicate_singleton]
  by_cases h : i < p.length
  · simp only [tb, List.getElem?_map, List.getElem?_range h, List.getElem?_replicate, h, if_true, Option.map_some]
    split
    · rename_i h1
      have : i = 0 := by omega
      subst this
      have := mb_lt (p := p) (n := 1) (by omega)
      have e : mb p (0 + 1) = 0 := by show mb p 1 = 0; omega
      rw [e]; rfl
    · rfl
  · rw [List.getElem?_eq_none (by simp; omega), List.getElem?_eq_none (by rw [tb_length]; omega)]
theorem tb_set {p : List Int} {i : Nat} {v : Int} (hv : v = ((mb p (i + 1) : Nat) : Int)) : (tb p i).set i v = tb p (i + 1) := by
  apply List.ext_getElem?
  intro j
  by_cases h : j < p.length
  · rw [List.getElem?_set, tb_length]
    simp only [tb, List.getElem?_map, List.getElem?_range h, Option.map_some]
    by_cases e : i = j
    · subst e; rw [if_pos rfl, if_pos h, if_pos (by omega), hv]
    · rw [if_neg e]
      by_cases e2 : j < i
      · rw [if_pos e2, if_pos (by omega)]
      · rw [if_neg e2, if_neg (by omega)]
  · rw [List.getElem?_eq_none (by rw [List.length_set, tb_length]; omega), List.getElem?_eq_none (by rw [tb_length]; omega)]
theorem tb_all {p : List Int} {k : Nat} (h : p.length ≤ k) : tb p k = ov p := by
  unfold tb ov
  apply List.map_congr_left
  intro i hi
  rw [if_pos (by have := List.mem_range.mp hi; omega)]

/-! ## Prefixes of the row at the end of a text -/
def pmw (row t : List Int) (b : Nat) : Prop := b ≤ t.length ∧ b ≤ row.length ∧ ∀ i, i < b → row[i]? = t[t.length - b + i]?
theorem pmw_zero {row t : List Int} : pmw row t 0 := ⟨Nat.zero_le _, Nat.zero_le _, fun i h => absurd h (Nat.not_lt_zero _)⟩
theorem pmw_snoc {row t : List Int} {c : Int} {b : Nat} : pmw row (t ++ [c]) (b + 1) ↔ pmw row t b ∧ row[b]? = some c := by
  have hlen : (t ++ [c]).length = t.length + 1 := by simp
  constructor
  · intro ⟨h1, h2, h3⟩
    rw [hlen] at h1 h3
    refine ⟨⟨by omega, by omega, fun i hi => ?_⟩, ?_⟩
    · have := h3 i (by omega)
      rw [show t.length + 1 - (b + 1) + i = t.length - b + i by omega, List.getElem?_append_left (by omega)] at this
      exact this
    · have := h3 b (by omega)
      rw [show t.length + 1 - (b + 1) + b = t.length by omega, List.getElem?_append_right (by omega)] at this
      simpa using this
  · intro ⟨⟨h1, h2, h3⟩, h4⟩
    have hb : b < row.length := by
      rcases Nat.lt_or_ge b row.length with h | h
      · exact h
      · rw [List.getElem?_eq_none h] at h4; cases h4
    refine ⟨by rw [hlen]; omega, by omega, fun i hi => ?_⟩
    rw [hlen, show t.length + 1 - (b + 1) + i = t.length - b + i by omega]
    by_cases e : i = b
    · subst e
      rw [show t.length - i + i = t.length by omega, List.getElem?_append_right (by omega), h4]
      simp
    · rw [List.getElem?_append_left (by omega)]
      exact h3 i (by omega)
theorem pmw_full {row t : List Int} : pmw row t row.length ↔ row <:+ t := by
  constructor
  · intro ⟨h1, _, h3⟩
    refine ⟨t.take (t.length - row.length), ?_⟩
    have : t.drop (t.length - row.length) = row := by
      apply List.ext_getElem?
      intro i
      rw [List.getElem?_drop]
      by_cases hi : i < row.length
      · exact (h3 i hi).symm
      · rw [List.getElem?_eq_none (by omega), List.getElem?_eq_none (by omega)]
    have := List.take_append_drop (t.length - row.length) t
    rw [‹List.drop _ _ = row›] at this
    exact this
  · rintro ⟨p, rfl⟩
    refine ⟨by simp, Nat.le_refl _, fun i hi => ?_⟩
    rw [List.length_append, show p.length + row.length - row.length + i = p.length + i by omega, List.getElem?_append_right (by omega), Nat.add_sub_cancel_left]
theorem pmw_bd {row t : List Int} {b c : Nat} (h1 : pmw row t b) (h2 : pmw row t c) (h : c < b) : bd row b c := by
  refine ⟨h, fun i hi => ?_⟩
  have := h1.1
  rw [h2.2.2 i hi, h1.2.2 (b - c + i) (by omega)]
  congr 1
  omega
theorem pmw_up {row t : List Int} {b c : Nat} (h1 : pmw row t b) (h2 : bd row b c) : pmw row t c := by
  have hb := h1.1
  have hc := h2.1
  have hr := h1.2.1
  refine ⟨by omega, by omega, fun i hi => ?_⟩
  rw [h2.2 i hi, h1.2.2 (b - c + i) (by omega)]
  congr 1
  omega

/-- the longest proper prefix of the row at the end of t -/
def PM (row t : List Int) (b : Nat) : Prop := pmw row t b ∧ b < row.length ∧ ∀ c, c < row.length → pmw row t c → c ≤ b
/-- what the inner loop keeps -/
def PK (row t : List Int) (x : Int) (k : Nat) : Prop := pmw row t k ∧ k < row.length ∧ ∀ c, c < row.length → pmw row t c → row[c]? = some x → c ≤ k
theorem PM.start {row t : List Int} {x : Int} {b : Nat} (h : PM row t b) : PK row t x b := ⟨h.1, h.2.1, fun c hc hp _ => h.2.2 c hc hp⟩
theorem PM.nil {row : List Int} (h : 0 < row.length) : PM row [] 0 := ⟨pmw_zero, h, fun c _ hp => hp.1⟩
theorem PK.next {row t : List Int} {x : Int} {k : Nat} (h : PK row t x k) (h0 : 0 < k) (hne : row[k]? ≠ some x) : PK row t x (mb row k) := by
  have hlt := mb_lt (p := row) h0
  have := h.2.1
  refine ⟨pmw_up h.1 (mb_bd h0), by omega, fun c hc hp he => ?_⟩
  have h1 := h.2.2 c hc hp he
  have : c ≠ k := by rintro rfl; exact hne he
  exact mb_max (pmw_bd h.1 hp (by omega))
theorem PK.hit {row t : List Int} {x : Int} {k : Nat} (h : PK row t x k) (he : row[k]? = some x) :
    (k + 1 = row.length → row <:+ t ++ [x]) ∧ (k + 1 ≠ row.length → ¬ row <:+ t ++ [x] ∧ PM row (t ++ [x]) (k + 1)) := by
  have up : pmw row (t ++ [x]) (k + 1) := pmw_snoc.mpr ⟨h.1, he⟩
  have top : ∀ c, pmw row (t ++ [x]) c → c ≤ k + 1 := fun c hc => by
    cases c with
    | zero => omega
    | succ c =>
      obtain ⟨h1, h2⟩ := pmw_snoc.mp hc
      have := hc.2.1
      have := h.2.2 c (by omega) h1 h2
      omega
  have := h.2.1
  refine ⟨fun e => pmw_full.mp (e ▸ up), fun e => ⟨fun hs => ?_, up, by omega, fun c _ => top c⟩⟩
  have := top _ (pmw_full.mpr hs)
  omega
theorem PK.miss {row t : List Int} {x : Int} (h : PK row t x 0) (he : row[0]? ≠ some x) : ¬ row <:+ t ++ [x] ∧ PM row (t ++ [x]) 0 := by
  have top : ∀ c, pmw row (t ++ [x]) c → c ≤ 0 := fun c hc => by
    cases c with
    | zero => omega
    | succ c =>
      obtain ⟨h1, h2⟩ := pmw_snoc.mp hc
      have := hc.2.1
      have := h.2.2 c (by omega) h1 h2
      have : c = 0 := by omega
      subst this
      exact absurd h2 he
  refine ⟨fun hs => ?_, pmw_zero, h.2.1, fun c _ => top c⟩
  have := top _ (pmw_full.mpr hs)
  have := h.2.1
  omega

/-! ## The pile -/
def pstep (row h : List Int) (x : Int) : List Int := if row.isSuffixOf (h ++ [x]) then (h ++ [x]).take (h.length + 1 - row.length) else h ++ [x]
def pil (row text : List Int) : List Int := text.foldl (pstep row) []
theorem pstep_hit {row h : List Int} {x : Int} (hs : row <:+ h ++ [x]) : pstep row h x = (h ++ [x]).take (h.length + 1 - row.length) := by
  unfold pstep; rw [if_pos (List.isSuffixOf_iff_suffix.mpr hs)]
theorem pstep_miss {row h : List Int} {x : Int} (hs : ¬ row <:+ h ++ [x]) : pstep row h x = h ++ [x] := by
  unfold pstep; rw [if_neg (fun q => hs (List.isSuffixOf_iff_suffix.mp q))]
theorem pil_take {row text : List Int} {j : Nat} {x : Int} (h : text[j]? = some x) : pil row (text.take (j + 1)) = pstep row (pil row (text.take j)) x := by
  unfold pil
  rw [List.take_add_one, h, List.foldl_append]; rfl
theorem pstep_length {row h : List Int} {x : Int} : (pstep row h x).length ≤ h.length + 1 := by
  unfold pstep
  split <;> first | (simp; done) | (simp; omega)

/-- the sizes beside the pile -/
structure Szs (row h sz : List Int) : Prop where
  len : sz.length = h.length + 1
  all : ∀ k, k ≤ h.length → ∃ b : Nat, sz[k]? = some (b : Int) ∧ PM row (h.take k) b
theorem Szs.nil {row : List Int} (h : 0 < row.length) : Szs row [] [0] := ⟨rfl, fun k hk => by
  have : k = 0 := by simpa using hk
  subst this
  exact ⟨0, rfl, PM.nil h⟩⟩
theorem Szs.last {row h sz : List Int} (s : Szs row h sz) : ∃ b : Nat, sz.getLast? = some (b : Int) ∧ PM row h b := by
  obtain ⟨b, h1, h2⟩ := s.all h.length (Nat.le_refl _)
  rw [List.take_length] at h2
  refine ⟨b, ?_, h2⟩
  rw [List.getLast?_eq_getElem?, s.len, Nat.add_sub_cancel]; exact h1
theorem Szs.push {row h sz : List Int} {x : Int} {b : Nat} (s : Szs row h sz) (hb : PM row (h ++ [x]) b) : Szs row (h ++ [x]) (sz ++ [(b : Int)]) := by
  refine ⟨by simp [s.len], fun k hk => ?_⟩
  rw [List.length_append, List.length_singleton] at hk
  by_cases e : k = h.length + 1
  · subst e
    refine ⟨b, ?_, by rw [List.take_of_length_le (by simp)]; exact hb⟩
    rw [List.getElem?_append_right (by rw [s.len]; omega), s.len]; simp
  · obtain ⟨c, h1, h2⟩ := s.all k (by omega)
    refine ⟨c, ?_, ?_⟩
    · rw [List.getElem?_append_left (by rw [s.len]; omega)]; exact h1
    · rw [List.take_append_of_le_length (by omega)]; exact h2
theorem Szs.pop {row h sz : List Int} {x y : Int} {c : Nat} (s : Szs row h sz) (hc : c ≤ h.length) : Szs row ((h ++ [x]).take c) ((sz ++ [y]).take (c + 1)) := by
  refine ⟨by rw [List.length_take, List.length_take, List.length_append, List.length_append, s.len]; simp, fun k hk => ?_⟩
  have hk' : k ≤ c := by rw [List.length_take] at hk; omega
  obtain ⟨b, h1, h2⟩ := s.all k (by omega)
  refine ⟨b, ?_, ?_⟩
  · rw [List.getElem?_take_of_lt (by omega), List.getElem?_append_left (by rw [s.len]; omega)]; exact h1
  · rw [List.take_take, Nat.min_eq_left hk', List.take_append_of_le_length (by omega)]; exact h2

/-! ## Occurrences -/
def occ (row l : List Int) (p : Nat) : Prop := p + row.length ≤ l.length ∧ (l.drop p).take row.length = row
def noocc (row l : List Int) : Prop := ∀ p, ¬ occ row l p
def cut (row l : List Int) (p : Nat) : List Int := l.take p ++ l.drop (p + row.length)
theorem occ_split {row l : List Int} {p : Nat} (h : occ row l p) : l = l.take p ++ row ++ l.drop (p + row.length) := by
  have h1 : l.drop p = row ++ l.drop (p + row.length) := by
    have := List.take_append_drop row.length (l.drop p)
    rw [h.2, List.drop_drop] at this
    exact this.symm
  rw [List.append_assoc, ← h1, List.take_append_drop]
theorem occ_take {row l : List Int} {p : Nat} (h : occ row l p) : l.take (p + row.length) = l.take p ++ row := by
  have := h.1
  have e := occ_split h
  have hl : (l.take p ++ row).length = p + row.length := by rw [List.length_append, List.length_take]; omega
  conv => lhs; rw [e]
  rw [List.take_left' hl]
theorem cut_length {row l : List Int} {p : Nat} (h : occ row l p) : (cut row l p).length + row.length = l.length := by
  have := h.1
  unfold cut
  rw [List.length_append, List.length_take, List.length_drop]; omega
theorem suffix_occ {row l : List Int} (h : row <:+ l) : occ row l (l.length - row.length) := by
  obtain ⟨p, rfl⟩ := h
  refine ⟨by simp, ?_⟩
  rw [List.length_append, Nat.add_sub_cancel, List.drop_left, List.take_length]
theorem occ_suffix {row l : List Int} {p : Nat} (h : occ row l p) : row <:+ l.take (p + row.length) := ⟨l.take p, (occ_take h).symm⟩
theorem occ_of_take {row l : List Int} {p k : Nat} (h : occ row (l.take k) p) : occ row l p := by
  have h1 := h.1
  rw [List.length_take] at h1
  refine ⟨by omega, ?_⟩
  have := h.2
  rw [List.drop_take, List.take_take, Nat.min_eq_left (by omega)] at this
  exact this
theorem occ_to_take {row l : List Int} {p k : Nat} (h : occ row l p) (hk : p + row.length ≤ k) : occ row (l.take k) p := by
  have h1 := h.1
  refine ⟨by rw [List.length_take]; omega, ?_⟩
  rw [List.drop_take, List.take_take, Nat.min_eq_left (by omega)]
  exact h.2

/-! ## The pile takes the leftmost -/
theorem pil_id {row l : List Int} : ∀ k, k ≤ l.length → (∀ p, occ row l p → k < p + row.length) → pil row (l.take k) = l.take k
  | 0, _, _ => by simp [pil]
  | k + 1, hk, h => by
    have hx : l[k]? = some l[k] := List.getElem?_eq_getElem (by omega)
    have ih := pil_id (row := row) (l := l) k (by omega) fun p hp => by have := h p hp; omega
    have e : l.take (k + 1) = l.take k ++ [l[k]] := by rw [List.take_add_one, hx]; rfl
    rw [pil_take hx, ih, pstep_miss, e]
    intro hs
    rw [← e] at hs
    have := h _ (occ_of_take (suffix_occ hs))
    rw [List.length_take] at this
    have := hs.length_le
    rw [List.length_take] at this
    omega
theorem pil_irr {row l : List Int} (h : noocc row l) : pil row l = l := by
  have := pil_id (row := row) (l := l) l.length (Nat.le_refl _) fun p hp => absurd hp (h p)
  rwa [List.take_length] at this
theorem pil_cut {row l : List Int} {p : Nat} (h0 : 0 < row.length) (h : occ row l p) (hm : ∀ q, q < p → ¬ occ row l q) : pil row (cut row l p) = pil row l := by
  have hp := h.1
  have free : ∀ q, occ row l q → p ≤ q := fun q hq => by
    rcases Nat.lt_or_ge q p with e | e
    · exact absurd hq (hm q e)
    · exact e
  have e1 : pil row (l.take (p + row.length - 1)) = l.take (p + row.length - 1) := pil_id _ (by omega) fun q hq => by have := free q hq; omega
  have e2 : pil row (l.take p) = l.take p := pil_id _ (by omega) fun q hq => by have := free q hq; omega
  have hx : l[p + row.length - 1]? = some l[p + row.length - 1] := List.getElem?_eq_getElem (by omega)
  have e3 : pil row (l.take (p + row.length)) = l.take p := by
    have e4 : l.take (p + row.length) = l.take (p + row.length - 1) ++ [l[p + row.length - 1]] := by
      have := List.take_add_one (l := l) (i := p + row.length - 1)
      rw [hx, Nat.sub_add_cancel (by omega)] at this
      exact this
    have := pil_take (row := row) hx
    rw [Nat.sub_add_cancel (by omega)] at this
    rw [this, e1, pstep_hit (by rw [← e4]; exact occ_suffix h), ← e4, List.length_take, List.take_take]
    congr 1
    omega
  have split : ∀ a b : List Int, pil row (a ++ b) = b.foldl (pstep row) (pil row a) := fun a b => by unfold pil; rw [List.foldl_append]
  have : pil row l = (l.drop (p + row.length)).foldl (pstep row) (pil row (l.take (p + row.length))) := by
    rw [← split, List.take_append_drop]
  rw [this, e3]
  unfold cut
  rw [split, e2]

/-! ## Removals -/
inductive Red (row : List Int) : Nat → List Int → List Int → Prop
  | refl (l : List Int) : Red row 0 l l
  | step {n : Nat} {l l' : List Int} {p : Nat} : occ row l p → Red row n (cut row l p) l' → Red row (n + 1) l l'

theorem Red.snoc {row : List Int} : ∀ {n : Nat} {l l' : List Int} {p : Nat}, Red row n l l' → occ row l' p → Red row (n + 1) l (cut row l' p)
  | _, _, _, _, .refl l, h => .step h (.refl _)
  | _, _, _, _, .step h r, h' => .step h (r.snoc h')
theorem Red.length {row : List Int} : ∀ {n : Nat} {l l' : List Int}, Red row n l l' → l'.length + n * row.length = l.length
  | _, _, _, .refl l => by simp
  | _, _, _, .step h r => by
    have := r.length
    have := cut_length h
    rw [Nat.add_mul]; omega
theorem Red.count {row : List Int} (v : Int) : ∀ {n : Nat} {l l' : List Int}, Red row n l l' → l'.count v + n * row.count v = l.count v
  | _, _, _, .refl l => by simp
  | _, _, _, .step (p := p) (l := l) h r => by
    have h1 := r.count v
    have h2 : l.count v = (cut row l p).count v + row.count v := by
      conv => lhs; rw [occ_split h]
      unfold cut
      simp only [List.count_append]; omega
    rw [Nat.add_mul]; omega
theorem Red.mem {row : List Int} : ∀ {n : Nat} {l l' : List Int}, Red row n l l' → ∀ x ∈ l', x ∈ l
  | _, _, _, .refl l => fun _ h => h
  | _, _, _, .step h r => fun x hx => by
    have := r.mem x hx
    unfold cut at this
    rcases List.mem_append.mp this with q | q
    · exact List.mem_of_mem_take q
    · exact List.mem_of_mem_drop q
theorem occ_left {row l r : List Int} {p : Nat} (h : occ row l p) : occ row (l ++ r) p ∧ cut row (l ++ r) p = cut row l p ++ r := by
  have := h.1
  refine ⟨⟨by rw [List.length_append]; omega, ?_⟩, ?_⟩
  · rw [List.drop_append_of_le_length (by omega), List.take_append_of_le_length (by rw [List.length_drop]; omega)]; exact h.2
  · unfold cut
    rw [List.take_append_of_le_length (by omega), List.drop_append_of_le_length (by omega), List.append_assoc]
theorem Red.left {row r : List Int} : ∀ {n : Nat} {l l' : List Int}, Red row n l l' → Red row n (l ++ r) (l' ++ r)
  | _, _, _, .refl l => .refl _
  | _, _, _, .step h x => by
    obtain ⟨h1, h2⟩ := occ_left (r := r) h
    exact .step h1 (h2 ▸ x.left)
theorem Red.trans {row : List Int} : ∀ {n m : Nat} {a b c : List Int}, Red row n a b → Red row m b c → ∃ k, Red row k a c
  | _, m, _, _, _, .refl _, y => ⟨m, y⟩
  | _, _, _, _, _, .step h x, y => let ⟨k, z⟩ := x.trans y; ⟨k + 1, .step h z⟩
theorem pil_red {row : List Int} : ∀ (t h : List Int), ∃ n, Red row n (h ++ t) (t.foldl (pstep row) h)
  | [], h => ⟨0, by rw [List.append_nil]; exact .refl _⟩
  | x :: t, h => by
    obtain ⟨n, r⟩ := pil_red t (pstep row h x)
    rw [List.foldl_cons]
    have e : h ++ x :: t = (h ++ [x]) ++ t := by simp
    by_cases hs : row <:+ h ++ [x]
    · have o := suffix_occ hs
      have hc : cut row (h ++ [x]) ((h ++ [x]).length - row.length) = pstep row h x := by
        rw [pstep_hit hs]
        unfold cut
        have := hs.length_le
        rw [Nat.sub_add_cancel this, List.drop_length, List.append_nil]
        congr 1
        simp
      have r1 : Red row 1 ((h ++ [x]) ++ t) (pstep row h x ++ t) := by
        have h1 := Red.step o (Red.refl _)
        rw [hc] at h1
        exact h1.left
      rw [e]
      exact r1.trans r
    · rw [e, ← pstep_miss hs]; exact ⟨n, r⟩
theorem pil_noocc {row : List Int} : ∀ (t h : List Int), noocc row h → noocc row (t.foldl (pstep row) h)
  | [], h, hn => hn
  | x :: t, h, hn => by
    rw [List.foldl_cons]
    apply pil_noocc t
    intro p ho
    by_cases hs : row <:+ h ++ [x]
    · rw [pstep_hit hs] at ho
      have o1 := occ_of_take ho
      have h1 := ho.1
      rw [List.length_take] at h1
      by_cases e : p + row.length ≤ h.length
      · have := occ_to_take o1 e
        rw [List.take_append_of_le_length (Nat.le_refl _), List.take_length] at this
        exact hn p this
      · have h0 : row.length = 0 := by omega
        have : row = [] := List.length_eq_zero_iff.mp h0
        subst this
        exact hn 0 ⟨by simp, by simp⟩
    · rw [pstep_miss hs] at ho
      have h1 := ho.1
      rw [List.length_append, List.length_singleton] at h1
      by_cases e : p + row.length ≤ h.length
      · have := occ_to_take ho e
        rw [List.take_append_of_le_length (Nat.le_refl _), List.take_length] at this
        exact hn p this
      · apply hs
        have := occ_suffix ho
        rwa [List.take_of_length_le (by simp; omega)] at this
theorem pil_ok {row t : List Int} (h0 : 0 < row.length) : (∃ n, Red row n t (pil row t)) ∧ noocc row (pil row t) :=
  ⟨pil_red t [], pil_noocc t [] fun p hp => by have : p + row.length ≤ 0 := hp.1; omega⟩

/-! ## The strike -/
def firstHit (c : Nat → Bool) : Nat → Option Nat
  | 0 => none
  | n + 1 => match firstHit c n with
    | some j => some j
    | none => if c n then some n else none
theorem firstHit_some {c : Nat → Bool} {j : Nat} : ∀ {n}, firstHit c n = some j → j < n ∧ c j = true ∧ ∀ i, i < j → c i = false
  | 0, h => by cases h
  | n + 1, h => by
    unfold firstHit at h
    cases e : firstHit c n with
    | some k =>
      rw [e] at h
      cases h
      obtain ⟨h1, h2, h3⟩ := firstHit_some e
      exact ⟨by omega, h2, h3⟩
    | none =>
      rw [e] at h
      have hno : ∀ i, i < n → c i = false := by
        have : ∀ n, firstHit c n = none → ∀ i, i < n → c i = false := by
          intro n
          induction n with
          | zero => intro _ i hi; omega
          | succ n ih =>
            intro h i hi
            unfold firstHit at h
            cases e : firstHit c n with
            | some k => rw [e] at h; cases h
            | none =>
              rw [e] at h
              by_cases q : c n = true
              · simp [q] at h
              · by_cases w : i = n
                · subst w; simpa using q
                · exact ih e i (by omega)
        exact this n e
      by_cases q : c n = true
      · simp [q] at h
        subst h
        exact ⟨by omega, q, hno⟩
      · simp [q] at h
theorem firstHit_none {c : Nat → Bool} : ∀ {n}, firstHit c n = none → ∀ i, i < n → c i = false
  | 0, _, i, hi => by omega
  | n + 1, h, i, hi => by
    unfold firstHit at h
    cases e : firstHit c n with
    | some k => rw [e] at h; cases h
    | none =>
      rw [e] at h
      by_cases q : c n = true
      · simp [q] at h
      · by_cases w : i = n
        · subst w; simpa using q
        · exact firstHit_none e i (by omega)

def joined (row left : List Int) : List Int := (row ++ [row.headD 0 + 2]) ++ left
theorem joined_length {row left : List Int} : (joined row left).length = row.length + 1 + left.length := by simp [joined]; omega
theorem joined_row {row left : List Int} {i : Nat} (h : i < row.length) : (joined row left)[i]? = row[i]? := by
  unfold joined; rw [List.getElem?_append_left (by simp; omega), List.getElem?_append_left h]
theorem joined_mid {row left : List Int} : (joined row left)[row.length]? = some (row.headD 0 + 2) := by
  unfold joined; rw [List.getElem?_append_left (by simp), List.getElem?_append_right (Nat.le_refl _)]; simp
theorem joined_left {row left : List Int} {i : Nat} : (joined row left)[row.length + 1 + i]? = left[i]? := by
  unfold joined; rw [List.getElem?_append_right (by simp)]; congr 1; simp

/-- the mark stands neither in the row nor in the rest -/
structure Apart (row left : List Int) : Prop where
  ar : row.headD 0 + 2 ∉ row
  al : row.headD 0 + 2 ∉ left
theorem mark_not {l : List Int} {z : Int} {i : Nat} (h : z ∉ l) : l[i]? ≠ some z := fun e => h (List.mem_of_getElem? e)

theorem border_le {row left : List Int} (h : Apart row left) {e b : Nat} (he : e < (joined row left).length) (hb : bd (joined row left) (e + 1) b) : b ≤ row.length := by
  rcases Nat.lt_or_ge row.length b with q | q
  · exfalso
    have h1 := hb.2 row.length q
    have h2 := hb.1
    rw [joined_mid] at h1
    rw [show e + 1 - b + row.length = row.length + 1 + (e - b) by omega, joined_left] at h1
    exact mark_not h.al h1.symm
  · exact q
theorem border_row {row left : List Int} (h : Apart row left) (h0 : 0 < row.length) {e : Nat} (he : e < (joined row left).length) : bd (joined row left) (e + 1) row.length ↔ 2 * row.length ≤ e ∧ occ row left (e - 2 * row.length) := by
  rw [joined_length] at he
  constructor
  · intro hb
    have h2 := hb.1
    have h3 : 2 * row.length ≤ e := by
      rcases Nat.lt_or_ge e (2 * row.length) with q | q
      · exfalso
        have h1 := hb.2 (2 * row.length - e - 1) (by omega)
        rw [joined_row (by omega), show e + 1 - row.length + (2 * row.length - e - 1) = row.length by omega, joined_mid] at h1
        exact mark_not h.ar h1
      · exact q
    refine ⟨h3, by omega, ?_⟩
    apply List.ext_getElem?
    intro i
    by_cases hi : i < row.length
    · rw [List.getElem?_take_of_lt hi, List.getElem?_drop]
      have h1 := hb.2 i hi
      rw [joined_row hi, show e + 1 - row.length + i = row.length + 1 + (e - 2 * row.length + i) by omega, joined_left] at h1
      exact h1.symm
    · rw [List.getElem?_eq_none (by rw [List.length_take]; omega), List.getElem?_eq_none (by omega)]
  · intro ⟨h1, h2, h3⟩
    refine ⟨by omega, fun i hi => ?_⟩
    rw [joined_row hi, show e + 1 - row.length + i = row.length + 1 + (e - 2 * row.length + i) by omega, joined_left]
    conv => lhs; rw [← h3]
    rw [List.getElem?_take_of_lt hi, List.getElem?_drop]
theorem mb_row {row left : List Int} (h : Apart row left) (h0 : 0 < row.length) {e : Nat} (he : e < (joined row left).length) : mb (joined row left) (e + 1) = row.length ↔ 2 * row.length ≤ e ∧ occ row left (e - 2 * row.length) := by
  rw [← border_row h h0 he]
  constructor
  · intro q; rw [← q]; exact mb_bd (by omega)
  · intro q; exact mb_eq q fun c hc => border_le h he hc

def tabs (row left : List Int) : List (List Int) := (ov (joined row left)).map fun s => [s]
def rot {α : Type} (t : List α) (k : Nat) : List α := t.drop k ++ t.take k
theorem rot_length {α : Type} {t : List α} {k : Nat} : (rot t k).length = t.length := by unfold rot; rw [List.length_append, List.length_drop, List.length_take]; omega
theorem rot_get {α : Type} {t : List α} {k i : Nat} (hk : k < t.length) (hi : i < t.length) : (rot t k)[i]? = t[(k + i) % t.length]? := by
  unfold rot
  by_cases q : k + i < t.length
  · rw [List.getElem?_append_left (by rw [List.length_drop]; omega), List.getElem?_drop, Nat.mod_eq_of_lt q]
  · rw [List.getElem?_append_right (by rw [List.length_drop]; omega), List.length_drop, List.getElem?_take_of_lt (by omega)]
    congr 1
    rw [Nat.mod_eq_sub_mod (by omega), Nat.mod_eq_of_lt (by omega)]; omega
theorem tabs_length {row left : List Int} : (tabs row left).length = row.length + 1 + left.length := by unfold tabs; rw [List.length_map, ov_length, joined_length]
theorem tabs_get {row left : List Int} {e : Nat} (he : e < row.length + 1 + left.length) : (tabs row left)[e]? = some [((mb (joined row left) (e + 1) : Nat) : Int)] := by
  unfold tabs
  rw [List.getElem?_map, ov_get (by rw [joined_length]; exact he)]; rfl

def turnOf (row left : List Int) (start : Int) : Nat := (start % ((tabs row left).length : Int)).toNat
def atHit (row left : List Int) (start : Int) (i : Nat) : Bool := (rot (tabs row left) (turnOf row left start)).getD i [] == [(row.length : Int)]
def sidx (row left : List Int) (start : Int) : Option Nat := firstHit (atHit row left start) (tabs row left).length
def spotOf (row left : List Int) (start : Int) (i : Nat) : Nat := (turnOf row left start + i) % (tabs row left).length
theorem turn_lt {row left : List Int} {start : Int} : turnOf row left start < (tabs row left).length := by
  have h : (0 : Int) < ((tabs row left).length : Int) := by rw [tabs_length]; omega
  have h1 := Int.emod_lt_of_pos start h
  have h2 := Int.emod_nonneg start (Int.ne_of_gt h)
  unfold turnOf
  omega
theorem atHit_iff {row left : List Int} {start : Int} {i : Nat} (h : Apart row left) (h0 : 0 < row.length) (hi : i < (tabs row left).length) : atHit row left start i = true ↔ 2 * row.length ≤ spotOf row left start i ∧ occ row left (spotOf row left start i - 2 * row.length) := by
  have hs : spotOf row left start i < (tabs row left).length := Nat.mod_lt _ (by omega)
  have hs' := hs
  rw [tabs_length] at hs'
  unfold atHit
  rw [List.getD_eq_getElem?_getD, rot_get turn_lt hi]
  show ((tabs row left)[spotOf row left start i]?.getD [] == _) = true ↔ _
  rw [tabs_get hs', ← mb_row h h0 (by rw [joined_length]; exact hs')]
  simp
  constructor <;> intro q <;> omega
theorem sidx_some {row left : List Int} {start : Int} {i : Nat} (h : Apart row left) (h0 : 0 < row.length) (he : sidx row left start = some i) :
    i < (tabs row left).length ∧ 2 * row.length ≤ spotOf row left start i ∧ occ row left (spotOf row left start i - 2 * row.length) := by
  obtain ⟨h1, h2, _⟩ := firstHit_some he
  exact ⟨h1, (atHit_iff h h0 h1).mp h2⟩
theorem sidx_none {row left : List Int} {start : Int} (h : Apart row left) (h0 : 0 < row.length) (he : sidx row left start = none) : noocc row left := by
  intro p hp
  have hp1 := hp.1
  have hlen : (tabs row left).length = row.length + 1 + left.length := tabs_length
  have ht := turn_lt (row := row) (left := left) (start := start)
  -- the place that the spot has when it is turned
  obtain ⟨i, hi, hi2⟩ : ∃ i, i < (tabs row left).length ∧ spotOf row left start i = 2 * row.length + p := by
    have hN : 2 * row.length + p < (tabs row left).length := by omega
    by_cases q : turnOf row left start ≤ 2 * row.length + p
    · refine ⟨2 * row.length + p - turnOf row left start, by omega, ?_⟩
      unfold spotOf
      rw [Nat.add_sub_cancel' q, Nat.mod_eq_of_lt hN]
    · refine ⟨2 * row.length + p + (tabs row left).length - turnOf row left start, by omega, ?_⟩
      unfold spotOf
      rw [show turnOf row left start + (2 * row.length + p + (tabs row left).length - turnOf row left start) = 2 * row.length + p + (tabs row left).length by omega, Nat.add_mod_right, Nat.mod_eq_of_lt hN]
  have := firstHit_none he i hi
  have h2 := (atHit_iff (start := start) h h0 hi).mpr (by rw [hi2, Nat.add_sub_cancel_left]; exact ⟨by omega, hp⟩)
  rw [this] at h2; cases h2
theorem sidx_first {row left : List Int} {i : Nat} (h : Apart row left) (h0 : 0 < row.length) (he : sidx row left 0 = some i) : spotOf row left 0 i = i ∧ ∀ q, q < i - 2 * row.length → ¬ occ row left q := by
  obtain ⟨h1, h2, h3⟩ := firstHit_some he
  have ht : turnOf row left 0 = 0 := by unfold turnOf; rw [Int.zero_emod]; rfl
  have hs : ∀ k, k < (tabs row left).length → spotOf row left 0 k = k := fun k hk => by unfold spotOf; rw [ht, Nat.zero_add, Nat.mod_eq_of_lt hk]
  refine ⟨hs i h1, fun q hq ho => ?_⟩
  have hk : 2 * row.length + q < (tabs row left).length := by omega
  have := h3 (2 * row.length + q) (by omega)
  have h4 := (atHit_iff (start := 0) h h0 hk).mpr (by rw [hs _ hk, Nat.add_sub_cancel_left]; exact ⟨by omega, ho⟩)
  rw [this] at h4; cases h4

def strk (row : List Int) : List Int → List Int → List Int
  | [], left => left
  | s :: ss, left => match sidx row left s with
    | none => left
    | some i => strk row ss (cut row left (spotOf row left s i - 2 * row.length))

theorem mem_cut {row left : List Int} {p : Nat} {x : Int} (h : x ∈ cut row left p) : x ∈ left := by
  unfold cut at h
  rcases List.mem_append.mp h with q | q
  · exact List.mem_of_mem_take q
  · exact List.mem_of_mem_drop q
theorem Apart.cut {row left : List Int} {p : Nat} (h : Apart row left) : Apart row (cut row left p) := ⟨h.ar, fun q => h.al (mem_cut q)⟩

/-- with as many starts as there are places nothing is left to strike -/
theorem strk_ok {row : List Int} (h0 : 0 < row.length) : ∀ (ss left : List Int), Apart row left → left.length ≤ ss.length → (∃ n, Red row n left (strk row ss left)) ∧ noocc row (strk row ss left)
  | [], left, h, hl => ⟨⟨0, .refl _⟩, fun p hp => by
      have h1 : p + row.length ≤ left.length := hp.1
      have : left.length ≤ 0 := hl
      omega⟩
  | s :: ss, left, h, hl => by
    unfold strk
    cases e : sidx row left s with
    | none => exact ⟨⟨0, .refl _⟩, sidx_none h h0 e⟩
    | some i =>
      obtain ⟨_, _, ho⟩ := sidx_some h h0 e
      have hc := cut_length ho
      have hl' : left.length ≤ ss.length + 1 := hl
      obtain ⟨⟨n, r⟩, q⟩ := strk_ok h0 ss (Mine.cut row left (spotOf row left s i - 2 * row.length)) h.cut (by omega)
      exact ⟨⟨n + 1, .step ho r⟩, q⟩
/-- always from the front: the pile -/
theorem strk_front {row : List Int} (h0 : 0 < row.length) : ∀ (ss left : List Int), (∀ s ∈ ss, s = 0) → Apart row left → left.length ≤ ss.length → strk row ss left = pil row left
  | [], left, _, h, hl => by
    have : left = [] := List.length_eq_zero_iff.mp (Nat.le_zero.mp hl)
    subst this; rfl
  | s :: ss, left, hz, h, hl => by
    have hs : s = 0 := hz s List.mem_cons_self
    subst hs
    unfold strk
    cases e : sidx row left 0 with
    | none => exact (pil_irr (sidx_none h h0 e)).symm
    | some i =>
      obtain ⟨_, _, ho⟩ := sidx_some h h0 e
      obtain ⟨e1, hf⟩ := sidx_first h h0 e
      have hc := cut_length ho
      have hl' : left.length ≤ ss.length + 1 := hl
      show strk row ss (Mine.cut row left (spotOf row left 0 i - 2 * row.length)) = _
      rw [strk_front h0 ss _ (fun s hs => hz s (List.mem_cons_of_mem _ hs)) h.cut (by omega)]
      rw [e1] at ho ⊢
      exact pil_cut h0 ho hf

/-! ## Confluence -/
/-- every border leaves the same rest at both ends -/
def CB (row : List Int) : Prop := ∀ b, 0 < b → bd row row.length b → row.take (row.length - b) = row.drop b

theorem occ_get {row l : List Int} {p i : Nat} (h : occ row l p) (hi : i < row.length) : l[p + i]? = row[i]? := by
  conv => rhs; rw [← h.2]
  rw [List.getElem?_take_of_lt hi, List.getElem?_drop]
theorem occ_mk {row l : List Int} {p : Nat} (h1 : p + row.length ≤ l.length) (h : ∀ i, i < row.length → l[p + i]? = row[i]?) : occ row l p := by
  refine ⟨h1, ?_⟩
  apply List.ext_getElem?
  intro i
  by_cases hi : i < row.length
  · rw [List.getElem?_take_of_lt hi, List.getElem?_drop, h i hi]
  · rw [List.getElem?_eq_none (by rw [List.length_take]; omega), List.getElem?_eq_none (by omega)]
theorem cut_get_lt {row l : List Int} {p i : Nat} (h : p ≤ l.length) (hi : i < p) : (cut row l p)[i]? = l[i]? := by
  unfold cut
  rw [List.getElem?_append_left (by rw [List.length_take]; omega), List.getElem?_take_of_lt hi]
theorem cut_get_ge {row l : List Int} {p i : Nat} (h : p ≤ l.length) (hi : p ≤ i) : (cut row l p)[i]? = l[i + row.length]? := by
  unfold cut
  rw [List.getElem?_append_right (by rw [List.length_take]; omega), List.getElem?_drop, List.length_take]
  congr 1; omega

theorem diamond {row l : List Int} {p q : Nat} (hc : CB row) (h0 : 0 < row.length) (hp : occ row l p) (hq : occ row l q) (hpq : p < q) :
    cut row l p = cut row l q ∨ ∃ p' q', occ row (cut row l p) p' ∧ occ row (cut row l q) q' ∧ cut row (cut row l p) p' = cut row (cut row l q) q' := by
  have hp1 := hp.1
  have hq1 := hq.1
  have lp := cut_length hp
  have lq := cut_length hq
  by_cases hov : q < p + row.length
  · left
    have hd : 0 < q - p := by omega
    have hb : bd row row.length (row.length - (q - p)) := by
      refine ⟨by omega, fun i hi => ?_⟩
      rw [← occ_get hq (by omega), ← occ_get hp (i := row.length - (row.length - (q - p)) + i) (by omega)]
      congr 1; omega
    have hcb := hc _ (by omega) hb
    rw [show row.length - (row.length - (q - p)) = q - p by omega] at hcb
    apply List.ext_getElem?
    intro i
    by_cases h1 : i < p
    · rw [cut_get_lt (by omega) h1, cut_get_lt (by omega) (by omega)]
    · by_cases h2 : i < q
      · rw [cut_get_ge (by omega) (by omega), cut_get_lt (by omega) h2]
        -- l[i + m] against l[i]
        have e1 : l[i]? = row[i - p]? := by rw [← occ_get hp (by omega)]; congr 1; omega
        have e2 : l[i + row.length]? = row[i + row.length - q]? := by rw [← occ_get hq (by omega)]; congr 1; omega
        rw [e1, e2]
        have e3 : (row.take (q - p))[i - p]? = (row.drop (row.length - (q - p)))[i - p]? := by rw [hcb]
        rw [List.getElem?_take_of_lt (by omega), List.getElem?_drop] at e3
        rw [e3]; congr 1; omega
      · rw [cut_get_ge (by omega) (by omega), cut_get_ge (by omega) (by omega)]
  · right
    have o1 : occ row (cut row l p) (q - row.length) := occ_mk (by omega) fun i hi => by
      rw [cut_get_ge (by omega) (by omega), ← occ_get hq hi]; congr 1; omega
    have o2 : occ row (cut row l q) p := occ_mk (by omega) fun i hi => by
      rw [cut_get_lt (by omega) (by omega), ← occ_get hp hi]
    refine ⟨q - row.length, p, o1, o2, ?_⟩
    have h1 := o1.1
    have h2 := o2.1
    apply List.ext_getElem?
    intro i
    by_cases hi : i < p
    · rw [cut_get_lt (by omega) (by omega), cut_get_lt (by omega) hi, cut_get_lt (by omega) hi, cut_get_lt (by omega) (by omega)]
    · by_cases hi2 : i < q - row.length
      · rw [cut_get_lt (by omega) hi2, cut_get_ge (by omega) (by omega), cut_get_ge (by omega) (by omega), cut_get_lt (by omega) (by omega)]
      · rw [cut_get_ge (by omega) (by omega), cut_get_ge (by omega) (by omega), cut_get_ge (by omega) (by omega), cut_get_ge (by omega) (by omega)]

theorem Red.irr {row : List Int} {n : Nat} {l l' : List Int} (h : Red row n l l') (hn : noocc row l) : l' = l := by
  cases h with
  | refl => rfl
  | step ho _ => exact absurd ho (hn _)
theorem confluent {row : List Int} (hc : CB row) (h0 : 0 < row.length) : ∀ (N : Nat) (l : List Int), l.length ≤ N → ∀ {n m : Nat} {a b : List Int}, Red row n l a → Red row m l b → noocc row a → noocc row b → a = b := by
  intro N
  induction N with
  | zero =>
    intro l hl n m a b ra rb ha hb
    have hn : noocc row l := fun p hp => by have := hp.1; omega
    rw [ra.irr hn, rb.irr hn]
  | succ N ih =>
    intro l hl n m a b ra rb ha hb
    cases ra with
    | refl => exact (rb.irr ha).symm
    | step hp ra =>
      cases rb with
      | refl => exact absurd hp (hb _)
      | step hq rb =>
        rename_i n' p m' q
        have lp := cut_length hp
        have lq := cut_length hq
        have key : ∀ {p q : Nat} {n' m' : Nat} {a b : List Int}, p < q → occ row l p → occ row l q → Red row n' (cut row l p) a → Red row m' (cut row l q) b → noocc row a → noocc row b → a = b := by
          intro p q n' m' a b hpq hp hq ra rb ha hb
          have lp := cut_length hp
          have lq := cut_length hq
          rcases diamond hc h0 hp hq hpq with e | ⟨p', q', o1, o2, e⟩
          · rw [← e] at rb
            exact ih _ (by omega) ra rb ha hb
          · obtain ⟨⟨k, rk⟩, hk⟩ := pil_ok (row := row) (t := cut row (cut row l p) p') h0
            have r1 : Red row (k + 1) (cut row l p) (pil row (cut row (cut row l p) p')) := .step o1 rk
            have r2 : Red row (k + 1) (cut row l q) (pil row (cut row (cut row l p) p')) := by
              rw [e] at rk ⊢
              exact .step o2 rk
            exact (ih _ (by omega) ra r1 ha hk).trans (ih _ (by omega) rb r2 hb hk).symm
        rcases Nat.lt_trichotomy p q with e | e | e
        · exact key e hp hq ra rb ha hb
        · subst e
          exact ih _ (by omega) ra rb ha hb
        · exact (key e hq hp rb ra hb ha).symm

/-! ## Backwards -/
theorem occ_rev {row l : List Int} {p : Nat} (h : occ row l p) : occ row.reverse l.reverse (l.length - row.length - p) ∧ cut row.reverse l.reverse (l.length - row.length - p) = (cut row l p).reverse := by
  have h1 := h.1
  have e := occ_split h
  have hl : (l.drop (p + row.length)).length = l.length - row.length - p := by rw [List.length_drop]; omega
  have er : l.reverse = (l.drop (p + row.length)).reverse ++ row.reverse ++ (l.take p).reverse := by
    conv => lhs; rw [e]
    simp
  have e0 : (l.drop (p + row.length)).reverse.length = l.length - row.length - p := by rw [List.length_reverse, hl]
  constructor
  · refine ⟨by rw [List.length_reverse, List.length_reverse]; omega, ?_⟩
    rw [er, List.append_assoc, List.drop_left' e0, List.take_left' rfl]
  · unfold cut
    rw [er, List.append_assoc, List.take_left' e0, ← List.append_assoc, List.drop_left' (by rw [List.length_append, e0, List.length_reverse]), List.reverse_append]
theorem Red.rev {row : List Int} : ∀ {n : Nat} {l l' : List Int}, Red row n l l' → Red row.reverse n l.reverse l'.reverse
  | _, _, _, .refl l => .refl _
  | _, _, _, .step h r => by
    obtain ⟨h1, h2⟩ := occ_rev h
    exact .step h1 (h2 ▸ r.rev)
theorem noocc_rev {row l : List Int} (h : noocc row l) : noocc row.reverse l.reverse := fun p hp => by
  have := (occ_rev hp).1
  rw [List.reverse_reverse, List.reverse_reverse] at this
  exact h _ this

/-! ## Insertions -/
theorem occ_ins {row a b : List Int} : occ row (a ++ row ++ b) a.length ∧ cut row (a ++ row ++ b) a.length = a ++ b := by
  constructor
  · refine ⟨by simp, ?_⟩
    rw [List.append_assoc, List.drop_left, List.take_left]
  · unfold cut
    rw [List.append_assoc, List.take_left, ← List.append_assoc, List.drop_left' (by simp)]
theorem short_noocc {row l : List Int} (h : l.length < row.length) : noocc row l := fun p hp => by have := hp.1; omega

/-! ## Two ends -/
theorem pil_front {row r : List Int} (h : r.length < row.length) : pil row (row ++ r) = r := by
  have h0 : 0 < row.length := by omega
  have := occ_ins (row := row) (a := []) (b := r)
  simp only [List.nil_append, List.length_nil] at this
  have e := pil_cut h0 this.1 fun q hq => absurd hq (Nat.not_lt_zero _)
  rw [this.2, pil_irr (short_noocc h)] at e
  exact e.symm
theorem border_twice {row : List Int} {c : Nat} (hb : bd row row.length c) : row ++ row.drop c = row.take (row.length - c) ++ row := by
  have hc := hb.1
  have e : row.take c = row.drop (row.length - c) := by
    apply List.ext_getElem?
    intro i
    by_cases hi : i < c
    · rw [List.getElem?_take_of_lt hi, List.getElem?_drop, hb.2 i hi]
    · rw [List.getElem?_eq_none (by rw [List.length_take]; omega), List.getElem?_eq_none (by rw [List.length_drop]; omega)]
  have e1 : row = row.take (row.length - c) ++ row.drop (row.length - c) := (List.take_append_drop _ _).symm
  have e2 : row = row.take c ++ row.drop c := (List.take_append_drop _ _).symm
  calc row ++ row.drop c = (row.take (row.length - c) ++ row.drop (row.length - c)) ++ row.drop c := by rw [← e1]
    _ = row.take (row.length - c) ++ (row.take c ++ row.drop c) := by rw [← e, List.append_assoc]
    _ = _ := by rw [← e2]
/-- what is struck from the rear of the row and its own rest -/
def rearOf (row : List Int) (c : Nat) : List Int := (pil row.reverse (row ++ row.drop c).reverse).reverse
theorem rear_border {row : List Int} {c : Nat} (h0 : 0 < c) (hb : bd row row.length c) : rearOf row c = row.take (row.length - c) := by
  have hc := hb.1
  unfold rearOf
  rw [border_twice hb, List.reverse_append, pil_front (by rw [List.length_reverse, List.length_reverse, List.length_take]; omega), List.reverse_reverse]
theorem rear_red {row : List Int} {c : Nat} (h0 : 0 < row.length) : (∃ n, Red row n (row ++ row.drop c) (rearOf row c)) ∧ noocc row (rearOf row c) := by
  obtain ⟨⟨n, r⟩, hn⟩ := pil_ok (row := row.reverse) (t := (row ++ row.drop c).reverse) (by rw [List.length_reverse]; exact h0)
  refine ⟨⟨n, ?_⟩, ?_⟩
  · have := r.rev
    rw [List.reverse_reverse, List.reverse_reverse] at this
    exact this
  · have := noocc_rev hn
    rw [List.reverse_reverse] at this
    exact this
theorem rear_free {row : List Int} {c : Nat} (hc : CB row) (h0 : 0 < row.length) (h1 : 0 < c) : rearOf row c = row.drop c := by
  obtain ⟨⟨n, r⟩, hn⟩ := rear_red (row := row) (c := c) h0
  by_cases hcl : c < row.length
  · obtain ⟨⟨k, r'⟩, hn'⟩ := pil_ok (row := row) (t := row ++ row.drop c) h0
    rw [pil_front (by rw [List.length_drop]; omega)] at r' hn'
    exact confluent hc h0 _ _ (Nat.le_refl _) r r' hn hn'
  · have e : row.drop c = [] := List.drop_eq_nil_of_le (by omega)
    unfold rearOf
    rw [e, List.append_nil]
    have := pil_front (row := row.reverse) (r := []) (by rw [List.length_reverse]; exact h0)
    rw [List.append_nil] at this
    rw [this]; rfl

/-! ## Which rows are free -/
def freeB (row : List Int) : Bool := mb row row.length == 0 || (row.length % (row.length - mb row row.length) == 0 && mb row (row.length - mb row row.length) == 0)
def cbB (row : List Int) : Bool := (List.range row.length).all fun b => b == 0 || !bdb row row.length b || row.take (row.length - b) == row.drop b
theorem cbB_iff {row : List Int} : cbB row = true ↔ CB row := by
  unfold cbB
  rw [List.all_eq_true]
  constructor
  · intro h b h0 hb
    have := h b (List.mem_range.mpr hb.1)
    have hb' : bdb row row.length b = true := bdb_iff.mpr hb.2
    rw [hb'] at this
    have hne : (b == 0) = false := by simp; omega
    rw [hne] at this
    simpa using this
  · intro h b hb
    have hb := List.mem_range.mp hb
    by_cases h0 : b = 0
    · simp [h0]
    · cases e : bdb row row.length b with
      | false => simp
      | true =>
        have := h b (by omega) ⟨hb, bdb_iff.mp e⟩
        simp [this]
def allw : Nat → List (List Int)
  | 0 => [[]]
  | n + 1 => (allw n).flatMap fun w => [0 :: w, 1 :: w]
theorem mem_allw : ∀ {w : List Int}, (∀ x ∈ w, x = 0 ∨ x = 1) → w ∈ allw w.length
  | [], _ => by simp [allw]
  | x :: w, h => by
    show _ ∈ (allw w.length).flatMap _
    rw [List.mem_flatMap]
    refine ⟨w, mem_allw fun y hy => h y (List.mem_cons_of_mem _ hy), ?_⟩
    rcases h x List.mem_cons_self with e | e <;> simp [e]
theorem check3 : (allw 3).all (fun w => freeB w == cbB w) = true := by decide +kernel
theorem check4 : (allw 4).all (fun w => freeB w == cbB w) = true := by decide +kernel
theorem check5 : (allw 5).all (fun w => freeB w == cbB w) = true := by decide +kernel
theorem check6 : (allw 6).all (fun w => freeB w == cbB w) = true := by decide +kernel
theorem free_bits {w : List Int} (h : ∀ x ∈ w, x = 0 ∨ x = 1) (h3 : 3 ≤ w.length) (h6 : w.length ≤ 6) : freeB w = cbB w := by
  have hm := mem_allw h
  have : w.length = 3 ∨ w.length = 4 ∨ w.length = 5 ∨ w.length = 6 := by omega
  rcases this with e | e | e | e <;> rw [e] at hm
  · simpa using List.all_eq_true.mp check3 w hm
  · simpa using List.all_eq_true.mp check4 w hm
  · simpa using List.all_eq_true.mp check5 w hm
  · simpa using List.all_eq_true.mp check6 w hm

/-! moved along -/
theorem bdb_map {p : List Int} {d : Int} {n b : Nat} : bdb (p.map (d + ·)) n b = bdb p n b := by
  unfold bdb
  congr 1
  funext i
  rw [List.getElem?_map, List.getElem?_map]
  have key : ∀ x y : Int, (d + x == d + y) = (x == y) := fun x y => by rw [Bool.eq_iff_iff, beq_iff_eq, beq_iff_eq]; omega
  cases p[i]? <;> cases p[n - b + i]? <;> simp [key]
theorem mbb_map {p : List Int} {d : Int} {n : Nat} : ∀ k, mbb (p.map (d + ·)) n k = mbb p n k
  | 0 => rfl
  | k + 1 => by unfold mbb; rw [bdb_map, mbb_map k]
theorem mb_map {p : List Int} {d : Int} {n : Nat} : mb (p.map (d + ·)) n = mb p n := mbb_map n
theorem freeB_map {p : List Int} {d : Int} : freeB (p.map (d + ·)) = freeB p := by
  unfold freeB
  rw [List.length_map, mb_map, mb_map]
theorem map_beq {a b : List Int} {d : Int} : (a.map (d + ·) == b.map (d + ·)) = (a == b) := by
  rw [Bool.eq_iff_iff, beq_iff_eq, beq_iff_eq]
  constructor
  · intro h
    exact List.map_inj_right (fun x y e => by have e : d + x = d + y := e; omega) |>.mp h
  · intro h; rw [h]
theorem cbB_map {p : List Int} {d : Int} : cbB (p.map (d + ·)) = cbB p := by
  unfold cbB
  rw [List.length_map]
  congr 1
  funext b
  rw [bdb_map, ← List.map_take, ← List.map_drop, map_beq]
theorem free_line {w : List Int} {d : Int} (h : ∀ x ∈ w, x = 0 ∨ x = 1) (h3 : 3 ≤ w.length) (h6 : w.length ≤ 6) : freeB (w.map (d + ·)) = cbB (w.map (d + ·)) := by
  rw [freeB_map, cbB_map, free_bits h h3 h6]

/-- words over two signs -/
def tv (base : Int) (l : List Int) : Prop := ∀ x ∈ l, x = base ∨ x = base + 1
theorem tv_append {base : Int} {a b : List Int} (h1 : tv base a) (h2 : tv base b) : tv base (a ++ b) := fun x hx => by
  rcases List.mem_append.mp hx with q | q
  · exact h1 x q
  · exact h2 x q
theorem tv_take {base : Int} {a : List Int} {k : Nat} (h : tv base a) : tv base (a.take k) := fun x hx => h x (List.mem_of_mem_take hx)
theorem tv_drop {base : Int} {a : List Int} {k : Nat} (h : tv base a) : tv base (a.drop k) := fun x hx => h x (List.mem_of_mem_drop hx)
theorem tv_rev {base : Int} {a : List Int} (h : tv base a) : tv base a.reverse := fun x hx => h x (List.mem_reverse.mp hx)
theorem tv_apart {base : Int} {row left : List Int} (h0 : 0 < row.length) (h1 : tv base row) (h2 : tv base left) : Apart row left := by
  have hh : row.headD 0 = base ∨ row.headD 0 = base + 1 := by
    cases row with
    | nil => simp at h0
    | cons x r => exact h1 x List.mem_cons_self
  refine ⟨fun h => ?_, fun h => ?_⟩
  · rcases h1 _ h with q | q <;> rcases hh with e | e <;> rw [e] at q <;> omega
  · rcases h2 _ h with q | q <;> rcases hh with e | e <;> rw [e] at q <;> omega
theorem tv_map {base : Int} {w : List Int} (h : ∀ x ∈ w, x = 0 ∨ x = 1) : tv base (w.map (base + ·)) := fun x hx => by
  obtain ⟨y, hy, rfl⟩ := List.mem_map.mp hx
  rcases h y hy with e | e
  · left; show base + y = base; omega
  · right; show base + y = base + 1; omega
theorem tv_count {base : Int} : ∀ {l : List Int}, tv base l → l.count base + l.count (base + 1) = l.length
  | [], _ => rfl
  | x :: l, h => by
    have := tv_count (l := l) fun y hy => h y (List.mem_cons_of_mem _ hy)
    rw [List.count_cons, List.count_cons, List.length_cons]
    rcases h x List.mem_cons_self with e | e <;> subst e
    · have h1 : (x == x + 1) = false := by simp; omega
      rw [h1]; simp; omega
    · have h1 : (base + 1 == base) = false := by simp; omega
      rw [h1]; simp; omega

theorem alike_free {row : List Int} (h0 : 0 < row.length) (hf : freeB row = cbB row) : ((List.range (row.length - 1)).all fun i => row.drop (i + 1) == rearOf row (i + 1)) = freeB row := by
  rw [hf]
  cases e : cbB row with
  | true =>
    have hc := cbB_iff.mp e
    rw [List.all_eq_true]
    intro i hi
    rw [rear_free hc h0 (by omega)]
    simp
  | false =>
    rw [Bool.eq_false_iff]
    intro h
    rw [List.all_eq_true] at h
    have hc : CB row := fun b hb0 hb => by
      have := h (b - 1) (List.mem_range.mpr (by have := hb.1; omega))
      rw [Nat.sub_add_cancel hb0, rear_border hb0 hb] at this
      have := beq_iff_eq.mp this
      exact this.symm
    rw [cbB_iff.mpr hc] at e; cases e

end Mine

open PySem PySem.W PyProof.Rows
namespace Mine

open_top hd for PySem.Challenge.rw_rw0009_01

section
open Sem (wp)
theorem lk_list_gi : typeLookup (.type "list") "__getitem__" = pure (some (.builtin "list.__getitem__")) := by rw [typeLookup_type, builtinLookup_eq_fast]; kernel_rfl
theorem slot_md_get : Slot "method_descriptor" "__get__" "method_descriptor.__get__" :=
  .of (owner := "method_descriptor") (n := "__get__") (by rw [typeLookup_type, builtinLookup_eq_fast]; kernel_rfl) (by decide +kernel) (by decide +kernel) (by decide +kernel)
    (by first | exact .inl (by decide +kernel) | exact .inr (by decide +kernel)) (by rw [isSubtype_type]; kernel_rfl)
theorem no_md_set : typeLookup (.type "method_descriptor") "__set__" = pure none := by rw [typeLookup_type, builtinLookup_eq_fast]; kernel_rfl
theorem no_md_del : typeLookup (.type "method_descriptor") "__delete__" = pure none := by rw [typeLookup_type, builtinLookup_eq_fast]; kernel_rfl
theorem entry_md_get : entryFor table "method_descriptor.__get__" = some Builtin.«method_descriptor.__get__» := entryFor_of_tree (by kernel_rfl)
theorem args_md_get (a b c : Value) : argsOk "method_descriptor.__get__" ⟨[a, b, c], []⟩ := by unfold argsOk; kernel_rfl
theorem owner_gi : (".".intercalate ("list.__getitem__".cutAt '.').dropLast) = "list" := by
  have e0 : "list.__getitem__".cutAt '.' = ["list", "__getitem__"] := by first | rfl | decide +kernel
  rw [e0]; decide +kernel
theorem sub_list_gi_owner : isSubtype (.type "list") (.type (".".intercalate ("list.__getitem__".cutAt '.').dropLast)) = pure true := by
  rw [owner_gi, isSubtype_type]; kernel_rfl
section
variable {prog : Program} {w : World} {A : Around} {E : Value → Shared → Prop} {h : Heap} {g : Array GenState} {d : Drawn} {t : Nat} {os : OsState} {a : Addr} {o : Obj} {its : Array Value} {n : Nat}
theorem gi_get {R : Result → Shared → Prop} (hx : h.get? a = some o) (hc : o.cls = .type "list") (hq : ∀ v h', (∀ b o, h.get? b = some o → h'.get? b = some o) → R (.ok (.ret (.ref v))) ⟨h', g, d, t, os⟩) :
    codeAny (model prog w) A (.call (.builtin "method_descriptor.__get__") ⟨[.builtin "list.__getitem__", .ref a, .type "list"], []⟩) R ⟨h, g, d, t, os⟩ := by
  have hT : (⟨h, g, d, t, os⟩ : Shared).TypeIs (.ref a) "list" := ⟨_, hx, hc⟩
  have hT5 : (⟨h, g, d, t, os⟩ : Shared).TypeIs (.builtin "list.__getitem__") "method_descriptor" := F.type_list_getitem
  have f8 := sub_list_gi_owner
  refine codeAny_call_builtin slot_md_get.plain entry_md_get (slot_md_get.check _ _ _ _ _ _ _ _ hT5 (args_md_get _ _ _) ?_)
  repeat (any_goals (first | assumption | wp_step))
  all_goals (refine hq _ _ ?_)
  all_goals (intro b o' e; exact Heap.get?_push_of_some _ e)

theorem gi_entry {tk : Tok} {Q : Fin → Shared → Prop} (hx : h.get? a = some { cls := .type "list", data := .seq its n }) (hq : ∀ v h', (∀ b o, h.get? b = some o → h'.get? b = some o) → Q (.done (.ret (.ref v))) ⟨h', g, d, t, os⟩) :
    wpAny (model prog w) A (Builtin.«object.__getattribute__» ⟨[.ref a, .str "__getitem__" tk], []⟩) Q E ⟨h, g, d, t, os⟩ := by
  have hT : (⟨h, g, d, t, os⟩ : Shared).TypeIs (.ref a) "list" := ⟨_, hx, rfl⟩
  have hT5 : (⟨h, g, d, t, os⟩ : Shared).TypeIs (.builtin "list.__getitem__") "method_descriptor" := F.type_list_getitem
  have f4 := lk_list_gi
  have f5 := F.type_list_getitem
  have f6 := slot_md_get.lookup
  have f7 := no_md_set
  have f8 := no_md_del
  repeat (any_goals (first | assumption | wp_step))
  refine gi_get hx rfl fun v h' k => ?_
  repeat (any_goals (first | assumption | wp_step))
  exact hq v h' k
theorem gi_call {tk : Tok} {R : Result → Shared → Prop} (hx : h.get? a = some { cls := .type "list", data := .seq its n }) (hq : ∀ v h', (∀ b o, h.get? b = some o → h'.get? b = some o) → R (.ok (.ret (.ref v))) ⟨h', g, d, t, os⟩) :
    codeAny (model prog w) A (.call (.builtin "list.__getattribute__") ⟨[.ref a, .str "__getitem__" tk], []⟩) R ⟨h, g, d, t, os⟩ :=
  codeAny_call_builtin F.slot_list_getattribute.plain F.entry_list_ga (F.slot_list_getattribute.check _ _ _ _ _ _ _ _ (show (⟨h, g, d, t, os⟩ : Shared).TypeIs (.ref a) "list" from ⟨_, hx, rfl⟩) (F.args_list_getattribute_2 _ _) (gi_entry hx hq))
theorem kind_hasattr : builtinKind "hasattr" = none := by decide +kernel
theorem plain_hasattr : plainId "hasattr" = true := by decide +kernel
theorem args_hasattr (a b : Value) : argsOk "hasattr" ⟨[a, b], []⟩ := by unfold argsOk; kernel_rfl
theorem entry_hasattr : entryFor table "hasattr" = some Builtin.«hasattr» := entryFor_of_tree (by kernel_rfl)
theorem sub_list_module : isSubtype (.type "list") (.type "module") = pure false := by rw [isSubtype_type]; kernel_rfl
theorem hasattr_body {tk : Tok} {Q : Fin → Shared → Prop} (hx : h.get? a = some { cls := .type "list", data := .seq its n }) (hq : ∀ h', (∀ b o, h.get? b = some o → h'.get? b = some o) → Q (.done (.ret (.bool true))) ⟨h', g, d, t, os⟩) :
    wpAny (model prog w) A (Builtin.«hasattr» ⟨[.ref a, .str "__getitem__" tk], []⟩) Q E ⟨h, g, d, t, os⟩ := by
  have hT : (⟨h, g, d, t, os⟩ : Shared).TypeIs (.ref a) "list" := ⟨_, hx, rfl⟩
  have f1 := lk_list_gi
  have f2 := F.slot_list_getattribute.lookup
  have f3 := sub_list_module
  have f4 := F.slot_list_getattribute.bind (.ref a)
  unfold Builtin.«hasattr»
  repeat (any_goals (first | assumption | wp_step))
  refine gi_call hx fun v h' k => ?_
  repeat (any_goals (first | assumption | wp_step))
  exact hq h' k
theorem call_hasattr {s : Shared} {tk : Tok} {Q : Value → Shared → Prop} (hx : s.heap.get? a = some { cls := .type "list", data := .seq its n }) (hq : ∀ h', (∀ b o, s.heap.get? b = some o → h'.get? b = some o) → Q (.bool true) { s with heap := h' }) :
    wpAny (model prog w) A (call (.builtin "hasattr") [.ref a, .str "__getitem__" tk]) Q E s := by
  obtain ⟨h, g, d, t, os⟩ := s
  exact Calls.call_function_entry kind_hasattr plain_hasattr entry_hasattr (args_hasattr _ _) (hasattr_body hx fun h' k => ⟨_, rfl, hq h' k⟩)
end

end

/-! ## 1. Worlds, snapshots, data -/

structure Wd where
  prog : Program
  w : World
  K : Frag
  p : Program
  loose : List Str
  mg : Str → Option Value
  mb : Str → Option Value

abbrev Wd.M (W : Wd) : Model := model W.prog W.w

structure Wd.G (W : Wd) (h : Heap) : Prop where
  K : W.K.In h
  T : TopRead W.p W.loose W.mg W.mb h

def Kp (h h' : Heap) : Prop := ∀ b o, h.get? b = some o → h'.get? b = some o
theorem Kp.refl (h : Heap) : Kp h h := fun _ _ e => e
theorem Kp.trans {a b c : Heap} (x : Kp a b) (y : Kp b c) : Kp a c := fun q o e => y q o (x q o e)
theorem Kp.push (h : Heap) (o : Obj) : Kp h (h.push o) := fun _ _ e => Heap.get?_push_of_some _ e
theorem Kp.none {h h' : Heap} (k : Kp h h') {a : Addr} (e : h'.get? a = none) : h.get? a = none := by
  cases q : h.get? a with
  | none => rfl
  | some o => rw [k _ _ q] at e; cases e
theorem get_size (h : Heap) : h.get? h.objs.size = none := by
  cases q : h.get? h.objs.size with
  | none => rfl
  | some o => exact absurd (Heap.lt_size q) (Nat.lt_irrefl _)

theorem Wd.G.keeps {W : Wd} {h h' : Heap} (x : W.G h) (k : Kp h h') : W.G h' := ⟨x.K.keeps k, x.T.keeps k⟩

structure Sn where
  h : Heap
  τ : Tok → Int
  n : Nat

structure Le (a b : Sn) : Prop where
  keep : Kp a.h b.h
  toks : a.n ≤ b.n
  agree : ∀ t, t < a.n → b.τ t = a.τ t

theorem Le.refl (a : Sn) : Le a a := ⟨Kp.refl _, Nat.le_refl _, fun _ _ => rfl⟩
theorem Le.trans {a b c : Sn} (x : Le a b) (y : Le b c) : Le a c :=
  ⟨x.keep.trans y.keep, Nat.le_trans x.toks y.toks, fun t h => (y.agree t (Nat.lt_of_lt_of_le h x.toks)).trans (x.agree t h)⟩
theorem Le.heap {h h' : Heap} {τ : Tok → Int} {n : Nat} (k : Kp h h') : Le ⟨h, τ, n⟩ ⟨h', τ, n⟩ := ⟨k, Nat.le_refl _, fun _ _ => rfl⟩
theorem Le.mk' {h h' : Heap} {τ : Tok → Int} {n n' : Nat} (k : Kp h h') (hn : n ≤ n') : Le ⟨h, τ, n⟩ ⟨h', τ, n'⟩ := ⟨k, hn, fun _ _ => rfl⟩

def upd (τ : Tok → Int) (n : Tok) (i : Int) : Tok → Int := fun t => if t = n then i else τ t
theorem Le.upd {h h' : Heap} {τ : Tok → Int} {n n' : Nat} {i : Int} (k : Kp h h') (hn : n ≤ n') : Le ⟨h, τ, n⟩ ⟨h', upd τ n i, n'⟩ :=
  ⟨k, hn, fun t ht => if_neg (Nat.ne_of_lt ht)⟩

inductive L2 {α β : Type} (R : α → β → Prop) : List α → List β → Prop
  | nil : L2 R [] []
  | cons {a b as bs} : R a b → L2 R as bs → L2 R (a :: as) (b :: bs)

namespace L2
variable {α β γ : Type} {R S : α → β → Prop}
theorem mono (k : ∀ a b, R a b → S a b) : ∀ {as bs}, L2 R as bs → L2 S as bs
  | _, _, .nil => .nil
  | _, _, .cons h r => .cons (k _ _ h) (r.mono k)
theorem length : ∀ {as bs}, L2 R as bs → as.length = bs.length
  | _, _, .nil => rfl
  | _, _, .cons _ r => congrArg (· + 1) r.length
theorem append : ∀ {as bs cs ds}, L2 R as bs → L2 R cs ds → L2 R (as ++ cs) (bs ++ ds)
  | _, _, _, _, .nil, h => h
  | _, _, _, _, .cons h r, h' => .cons h (r.append h')
theorem drop : ∀ {as bs} (k : Nat), L2 R as bs → L2 R (as.drop k) (bs.drop k)
  | _, _, 0, h => h
  | _, _, _ + 1, .nil => .nil
  | _, _, k + 1, .cons _ r => r.drop k
theorem take : ∀ {as bs} (k : Nat), L2 R as bs → L2 R (as.take k) (bs.take k)
  | _, _, 0, _ => .nil
  | _, _, _ + 1, .nil => .nil
  | _, _, k + 1, .cons h r => .cons h (r.take k)
theorem reverse : ∀ {as bs}, L2 R as bs → L2 R as.reverse bs.reverse
  | _, _, .nil => .nil
  | _, _, .cons h r => by
    rw [List.reverse_cons, List.reverse_cons]
    exact r.reverse.append (.cons h .nil)
theorem get : ∀ {as bs} {i : Nat} {a : α}, L2 R as bs → as[i]? = some a → ∃ b, bs[i]? = some b ∧ R a b
  | _, _, _, _, .nil, e => by simp at e
  | _, _, 0, _, .cons h _, e => by simp at e; subst e; exact ⟨_, by simp, h⟩
  | _, _, i + 1, _, .cons _ r, e => by simp at e; obtain ⟨b, hb, hr⟩ := r.get e; exact ⟨b, by simpa using hb, hr⟩
theorem get' : ∀ {as bs} {i : Nat} {b : β}, L2 R as bs → bs[i]? = some b → ∃ a, as[i]? = some a ∧ R a b
  | _, _, _, _, .nil, e => by simp at e
  | _, _, 0, _, .cons h _, e => by simp at e; subst e; exact ⟨_, by simp, h⟩
  | _, _, i + 1, _, .cons _ r, e => by simp at e; obtain ⟨b, hb, hr⟩ := r.get' e; exact ⟨b, by simpa using hb, hr⟩
theorem set : ∀ {as bs} (i : Nat) {a : α} {b : β}, L2 R as bs → R a b → L2 R (as.set i a) (bs.set i b)
  | _, _, _, _, _, .nil, _ => .nil
  | _, _, 0, _, _, .cons _ r, e => .cons e r
  | _, _, i + 1, _, _, .cons h r, e => .cons h (r.set i e)
theorem erase : ∀ {as bs} (i : Nat), L2 R as bs → L2 R (as.eraseIdx i) (bs.eraseIdx i)
  | _, _, _, .nil => .nil
  | _, _, 0, .cons _ r => r
  | _, _, i + 1, .cons h r => .cons h (r.erase i)
theorem mapR {f : β → γ} {T : α → γ → Prop} (k : ∀ a b, R a b → T a (f b)) : ∀ {as bs}, L2 R as bs → L2 T as (bs.map f)
  | _, _, .nil => .nil
  | _, _, .cons h r => .cons (k _ _ h) (r.mapR k)
theorem replicate {a : α} {b : β} (h : R a b) : ∀ n, L2 R (List.replicate n a) (List.replicate n b)
  | 0 => .nil
  | n + 1 => .cons h (L2.replicate h n)
theorem filterMapIdx {is : List Nat} : ∀ {as bs}, L2 R as bs → L2 R (is.filterMap (as[·]?)) (is.filterMap (bs[·]?)) := by
  intro as bs h
  induction is with
  | nil => exact .nil
  | cons i is ih =>
    cases e : as[i]? with
    | none =>
      have : bs[i]? = none := by
        cases e' : bs[i]? with
        | none => rfl
        | some b => obtain ⟨a, ha, _⟩ := h.get' e'; rw [ha] at e; cases e
      rw [List.filterMap_cons_none e, List.filterMap_cons_none this]; exact ih
    | some a =>
      obtain ⟨b, hb, hr⟩ := h.get e
      rw [List.filterMap_cons_some e, List.filterMap_cons_some hb]; exact .cons hr ih
end L2

def GI (σ : Sn) (v : Value) (i : Int) : Prop := ∃ t, v = .int i t ∧ 0 < t ∧ t < σ.n ∧ σ.τ t = i
theorem GI.le {a b : Sn} (x : a.n ≤ b.n) (y : ∀ t, t < a.n → b.τ t = a.τ t) {v : Value} {i : Int} : GI a v i → GI b v i
  | ⟨t, e, h0, h1, h2⟩ => ⟨t, e, h0, Nat.lt_of_lt_of_le h1 x, (y t h1).trans h2⟩

inductive D where
  | none | bool (b : Bool) | int (i : Int) | wint (i : Int) | il (l : List Int) | wl (l : List Int) | rows (l : List (List Int))

def lim : Nat := 1048576
theorem lim_eq : lim = 1048576 := rfl

def RI (P : Addr → Prop) (σ : Sn) (v : Value) (l : List Int) : Prop :=
  ∃ a vs, v = .ref a ∧ P a ∧ σ.h.PlainList a (vs : List Value).toArray ∧ L2 (GI σ) vs l ∧ l.length ≤ lim

def Rel (P : Addr → Prop) (σ : Sn) (v : Value) : D → Prop
  | .none => v = .none
  | .bool b => v = .bool b
  | .int i => GI σ v i
  | .wint i => ∃ t, v = .int i t
  | .il l => RI P σ v l
  | .wl l => ∃ a vs, v = .ref a ∧ P a ∧ σ.h.IsList a (vs : List Value).toArray ∧ IntsAre vs l ∧ l.length ≤ lim
  | .rows ls => ∃ a vs, v = .ref a ∧ P a ∧ σ.h.PlainList a (vs : List Value).toArray ∧ L2 (RI P σ) vs ls ∧ ls.length ≤ lim

theorem RI.monoP {P P' : Addr → Prop} {σ : Sn} {v : Value} {l : List Int} (k : ∀ a, P a → P' a) : RI P σ v l → RI P' σ v l
  | ⟨a, vs, e, p, r⟩ => ⟨a, vs, e, k a p, r⟩
theorem Rel.monoP {P P' : Addr → Prop} {σ : Sn} {v : Value} {d : D} (k : ∀ a, P a → P' a) (h : Rel P σ v d) : Rel P' σ v d := by
  cases d with
  | il l => exact RI.monoP k h
  | wl l => obtain ⟨a, vs, e, p, r⟩ := h; exact ⟨a, vs, e, k a p, r⟩
  | rows l => obtain ⟨a, vs, e, p, h1, h2, h3⟩ := h; exact ⟨a, vs, e, k a p, h1, h2.mono fun _ _ => RI.monoP k, h3⟩
  | _ => exact h

def LObj (o : Obj) : Prop := o.cls = .type "list" ∧ ∃ its n, o.data = .seq its n
/-- what a step keeps of the lists that a datum's addresses hold -/
structure Step (P : Addr → Prop) (a b : Sn) : Prop where
  keep : ∀ x o, P x → LObj o → a.h.get? x = some o → b.h.get? x = some o
  toks : a.n ≤ b.n
  agree : ∀ t, t < a.n → b.τ t = a.τ t
theorem Le.step {a b : Sn} (x : Le a b) (P : Addr → Prop) : Step P a b := ⟨fun q o _ _ e => x.keep q o e, x.toks, x.agree⟩

theorem RI.step {P : Addr → Prop} {σ σ' : Sn} {v : Value} {l : List Int} (k : Step P σ σ') : RI P σ v l → RI P σ' v l
  | ⟨a, vs, e, p, ⟨n, h1⟩, h2, h3⟩ => ⟨a, vs, e, p, ⟨n, k.keep _ _ p ⟨rfl, _, _, rfl⟩ h1⟩, h2.mono fun _ _ => GI.le k.toks k.agree, h3⟩
theorem Rel.step {P : Addr → Prop} {σ σ' : Sn} {v : Value} {d : D} (k : Step P σ σ') (h : Rel P σ v d) : Rel P σ' v d := by
  cases d with
  | int i => exact GI.le k.toks k.agree h
  | il l => exact RI.step k h
  | wl l => obtain ⟨a, vs, e, p, ⟨o, h1, h2, h4⟩, h3⟩ := h; exact ⟨a, vs, e, p, ⟨o, k.keep _ _ p ⟨h2, _, h4⟩ h1, h2, h4⟩, h3⟩
  | rows l => obtain ⟨a, vs, e, p, ⟨n, h1⟩, h2, h3⟩ := h; exact ⟨a, vs, e, p, ⟨n, k.keep _ _ p ⟨rfl, _, _, rfl⟩ h1⟩, h2.mono fun _ _ => RI.step k, h3⟩
  | _ => exact h
theorem Rel.le {P : Addr → Prop} {σ σ' : Sn} {v : Value} {d : D} (k : Le σ σ') (h : Rel P σ v d) : Rel P σ' v d := h.step (k.step P)

/-! ## 2. Frames -/

structure Fm where
  env : Env
  h₀ : Heap
  rk : Nat
  fr : Bool

inductive EK where
  | safe | par | own

abbrev Ent := Str × EK × D

def At (env : Env) (h : Heap) (m : Str → Option Value) (x : Str) (v : Value) : Prop :=
  (env.kindOf x = some .local ∧ m x = some v) ∨
  (∃ c, (env.kindOf x = some .cell ∨ (env.kindOf x = some .free ∧ (x == ("__classdict__" : Str)) = false)) ∧ env.cells.lookup x = some c ∧ h.IsCell c (some v))

abbrev Own := List (Str × Addr)

def Fm.Safe (f : Fm) (O : Own) (a : Addr) : Prop := f.h₀.get? a = none ∧ ∀ y, (y, a) ∉ O
def Fm.Old (f : Fm) (a : Addr) : Prop := f.h₀.get? a ≠ none

def EntOk (f : Fm) (O : Own) (σ : Sn) (e : Ent) (v : Value) : Prop := match e.2.1 with
  | .safe => Rel (f.Safe O) σ v e.2.2
  | .par => Rel f.Old σ v e.2.2
  | .own => ∃ a, (e.1, a) ∈ O ∧ Rel (· = a) σ v e.2.2

structure FmOk (W : Wd) (f : Fm) : Prop where
  kind : f.env.scope.kind = .function
  glob : f.env.globals = mainGlobals
  bi : f.env.builtins = builtinsNs
  g : W.G f.h₀
  apart : ∀ x y c, f.env.cells.lookup x = some c → f.env.cells.lookup y = some c → x = y
  newL : f.h₀.get? f.env.locals = none
  newC : ∀ x c, f.env.cells.lookup x = some c → f.h₀.get? c = none

structure Inv (W : Wd) (f : Fm) (O : Own) (δ : List Ent) (σ : Sn) : Prop where
  ok : FmOk W f
  keep : Kp f.h₀ σ.h
  pos : 0 < σ.n
  own : ∀ x a, (x, a) ∈ O → f.h₀.get? a = none ∧ ∃ its, σ.h.PlainList a its
  inj : ∀ x y a, (x, a) ∈ O → (y, a) ∈ O → x = y
  fn : ∀ x a b, (x, a) ∈ O → (x, b) ∈ O → a = b
  cells : ∀ x c, f.env.cells.lookup x = some c → ∃ v, σ.h.IsCell c v
  loc : ∃ m, σ.h.Ns f.env.locals m ∧ ∀ e ∈ δ, ∃ v, At f.env σ.h m e.1 v ∧ EntOk f O σ e v

theorem Inv.g {W f O δ σ} (I : Inv W f O δ σ) : W.G σ.h := I.ok.g.keeps I.keep
theorem Inv.sub {W f O δ δ' σ} (I : Inv W f O δ σ) (k : ∀ e ∈ δ', e ∈ δ) : Inv W f O δ' σ :=
  { I with loc := let ⟨m, hn, h⟩ := I.loc; ⟨m, hn, fun e he => h e (k e he)⟩ }

theorem At.keep {env : Env} {h h' : Heap} {m : Str → Option Value} {x : Str} {v : Value} (k : Kp h h') : At env h m x v → At env h' m x v
  | .inl h => .inl h
  | .inr ⟨c, h1, h2, h3⟩ => .inr ⟨c, h1, h2, h3.keeps k⟩

theorem EntOk.step {f : Fm} {O : Own} {σ σ' : Sn} {e : Ent} {v : Value} (h1 : Step (f.Safe O) σ σ') (h2 : Step f.Old σ σ') (h3 : ∀ a, (e.1, a) ∈ O → Step (· = a) σ σ') (h : EntOk f O σ e v) : EntOk f O σ' e v := by
  obtain ⟨x, k, d⟩ := e
  cases k with
  | safe => exact Rel.step h1 h
  | par => exact Rel.step h2 h
  | own => obtain ⟨a, ha, hr⟩ := h; exact ⟨a, ha, hr.step (h3 a ha)⟩

theorem Inv.le {W f O δ σ σ'} (I : Inv W f O δ σ) (k : Le σ σ') : Inv W f O δ σ' where
  ok := I.ok
  keep := I.keep.trans k.keep
  pos := Nat.lt_of_lt_of_le I.pos k.toks
  own := fun x a h => let ⟨e, its, q⟩ := I.own x a h; ⟨e, its, q.at fun o e => k.keep _ o e⟩
  inj := I.inj
  fn := I.fn
  cells := fun x c h => let ⟨v, q⟩ := I.cells x c h; ⟨v, q.keeps k.keep⟩
  loc := let ⟨m, hn, h⟩ := I.loc
    ⟨m, hn.keeps k.keep, fun e he => let ⟨v, ha, hr⟩ := h e he; ⟨v, ha.keep k.keep, hr.step (k.step _) (k.step _) fun _ _ => k.step _⟩⟩

/-! ## 3. Judgements -/

inductive RK where
  | fresh | safe | any

def RelK (f : Fm) (O : Own) (h : Heap) (k : RK) (σ : Sn) (v : Value) (d : D) : Prop := match k with
  | .fresh => Rel (fun a => h.get? a = none) σ v d
  | .safe => Rel (f.Safe O) σ v d
  | .any => Rel (fun _ => True) σ v d

structure Room (f : Fm) (A : Around) : Prop where
  hh : A.handled = none
  depth : A.depth + f.rk < recursionLimit
  units : A.units + 8 * f.rk + 8 < cLine
  frs : f.fr = true → f.env.frame = some f.env.locals ∧ ∃ outer, A.frames = some (f.env :: outer) ∧ f.h₀.FunFrames {} outer

/-- the expression gives the datum -/
def Ev (W : Wd) (f : Fm) (e : Expr) (δ : List Ent) (k : RK) (d : D) : Prop :=
  ∀ (A : Around) (s : Shared) (τ : Tok → Int) (O : Own), Room f A → Inv W f O δ ⟨s.heap, τ, s.toks⟩ →
    ∀ (Q : Value → Shared → Prop) (E : Value → Shared → Prop),
      (∀ v h' tk τ', Le ⟨s.heap, τ, s.toks⟩ ⟨h', τ', tk⟩ → RelK f O s.heap k ⟨h', τ', tk⟩ v d → Q v { s with heap := h', toks := tk }) →
      wpAny W.M A (eval e f.env) Q E s

/-- the test is true or false -/
def EvT (W : Wd) (f : Fm) (e : Expr) (δ : List Ent) (b : Bool) : Prop :=
  ∀ (A : Around) (s : Shared) (τ : Tok → Int) (O : Own), Room f A → Inv W f O δ ⟨s.heap, τ, s.toks⟩ →
    ∀ (Q : Bool → Shared → Prop) (E : Value → Shared → Prop),
      (∀ h' tk τ', Le ⟨s.heap, τ, s.toks⟩ ⟨h', τ', tk⟩ → Q b { s with heap := h', toks := tk }) →
      wpAny W.M A (isTrue e f.env (eval e f.env)) Q E s

theorem RelK.safe_of_fresh {W f O δ σ σ' v d} (I : Inv W f O δ σ) (h : Rel (fun a => σ.h.get? a = none) σ' v d) : Rel (f.Safe O) σ' v d :=
  h.monoP fun a e => ⟨I.keep.none e, fun y hy => by obtain ⟨_, its, n, q⟩ := I.own y a hy; rw [q] at e; cases e⟩
theorem RelK.any {f O h k σ v d} (x : RelK f O h k σ v d) : Rel (fun _ => True) σ v d := by
  cases k <;> exact Rel.monoP (fun _ _ => trivial) x
theorem RelK.le {f O h k σ σ' v d} (x : RelK f O h k σ v d) (l : Le σ σ') : RelK f O h k σ' v d := by
  cases k <;> exact Rel.le l x

theorem Ev.toSafe {W f e δ d} (h : Ev W f e δ .fresh d) : Ev W f e δ .safe d := fun A s τ O R I Q E q =>
  h A s τ O R I Q E fun v h' tk τ' l r => q v h' tk τ' l (RelK.safe_of_fresh (σ' := ⟨h', τ', tk⟩) I r)
theorem Ev.toAny {W f e δ k d} (h : Ev W f e δ k d) : Ev W f e δ .any d := fun A s τ O R I Q E q =>
  h A s τ O R I Q E fun v h' tk τ' l r => q v h' tk τ' l (RelK.any (f := f) (O := O) (h := s.heap) (k := k) (σ := ⟨h', τ', tk⟩) r)
theorem Ev.wint {W f e δ k i} (h : Ev W f e δ k (.int i)) : Ev W f e δ k (.wint i) := fun A s τ O R I Q E q =>
  h A s τ O R I Q E fun v h' tk τ' l r => q v h' tk τ' l (by
    cases k <;> obtain ⟨t, e, _⟩ := r <;> exact ⟨t, e⟩)
theorem GI.intsAre {σ : Sn} : ∀ {vs : List Value} {l : List Int}, L2 (GI σ) vs l → IntsAre vs l
  | _, _, .nil => .nil
  | _, _, .cons ⟨t, e, _⟩ r => by subst e; exact .cons _ t (GI.intsAre r)
theorem Rel.wints {P σ v l} (h : Rel P σ v (.il l)) : Rel P σ v (.wl l) := by
  obtain ⟨a, vs, e, p, h1, h2, h3⟩ := h
  exact ⟨a, vs, e, p, h1.isList, GI.intsAre h2, h3⟩
theorem Ev.wints {W f e δ k l} (h : Ev W f e δ k (.il l)) : Ev W f e δ k (.wl l) := fun A s τ O R I Q E q =>
  h A s τ O R I Q E fun v h' tk τ' l r => q v h' tk τ' l (by cases k <;> exact Rel.wints r)
theorem Ev.weaken {W f e δ δ' k d} (h : Ev W f e δ' k d) (s : ∀ e ∈ δ', e ∈ δ) : Ev W f e δ k d := fun A st τ O R I Q E q =>
  h A st τ O R (I.sub s) Q E q

/-! ## 4. Operations on values -/

/-- a state from s with another heap and other tokens -/
abbrev At2 (s : Shared) (h : Heap) (n : Nat) : Shared := { s with heap := h, toks := n }

structure Calm (W : Wd) (A : Around) (σ : Sn) : Prop where
  hh : A.handled = none
  units : A.units < cLine
  g : W.G σ.h
  pos : 0 < σ.n

theorem Inv.calm {W f O δ σ A} (I : Inv W f O δ σ) (R : Room f A) : Calm W A σ := ⟨R.hh, by have := R.units; omega, I.g, I.pos⟩

/-- what follows a value that an operation gives -/
def Out (s : Shared) (τ : Tok → Int) (d : D) (Q : Value → Shared → Prop) : Prop :=
  ∀ v h' tk τ', Le ⟨s.heap, τ, s.toks⟩ ⟨h', τ', tk⟩ → Rel (fun a => s.heap.get? a = none) ⟨h', τ', tk⟩ v d → Q v (At2 s h' tk)

theorem Out.int {s : Shared} {τ : Tok → Int} {i : Int} {Q : Value → Shared → Prop} (h : Out s τ (.int i) Q) (p : 0 < s.toks) : Q (.int i s.toks) { s with toks := s.toks + 1 } :=
  h _ s.heap _ (upd τ s.toks i) (Le.upd (Kp.refl _) (Nat.le_succ _)) ⟨_, rfl, p, Nat.lt_succ_self _, if_pos rfl⟩
theorem Out.bool {s : Shared} {τ : Tok → Int} {b : Bool} {Q : Value → Shared → Prop} (h : Out s τ (.bool b) Q) : Q (.bool b) s :=
  h _ s.heap _ τ (Le.refl _) rfl
theorem Out.nul {s : Shared} {τ : Tok → Int} {Q : Value → Shared → Prop} (h : Out s τ .none Q) : Q .none s :=
  h _ s.heap _ τ (Le.refl _) rfl
theorem Out.push {s : Shared} {τ : Tok → Int} {l : List Int} {vs : List Value} {Q : Value → Shared → Prop} (h : Out s τ (.il l) Q) (r : L2 (GI ⟨s.heap, τ, s.toks⟩) vs l) (hl : l.length ≤ lim) :
    Q (.ref s.heap.objs.size) { s with heap := s.heap.push { cls := .type "list", data := .seq vs.toArray } } :=
  h _ _ _ τ (Le.heap (Kp.push _ _)) ⟨_, vs, rfl, get_size _, ⟨_, Heap.get?_push_size _ rfl⟩, r, hl⟩

def Op1 (W : Wd) (t : Value → Sem Value) (d₁ d : D) : Prop :=
  ∀ (A : Around) (s : Shared) (τ : Tok → Int) (v₁ : Value), Calm W A ⟨s.heap, τ, s.toks⟩ → Rel (fun _ => True) ⟨s.heap, τ, s.toks⟩ v₁ d₁ →
    ∀ Q E, Out s τ d Q → wpAny W.M A (t v₁) Q E s
def Op2 (W : Wd) (t : Value → Value → Sem Value) (d₁ d₂ d : D) : Prop :=
  ∀ (A : Around) (s : Shared) (τ : Tok → Int) (v₁ v₂ : Value), Calm W A ⟨s.heap, τ, s.toks⟩ → Rel (fun _ => True) ⟨s.heap, τ, s.toks⟩ v₁ d₁ → Rel (fun _ => True) ⟨s.heap, τ, s.toks⟩ v₂ d₂ →
    ∀ Q E, Out s τ d Q → wpAny W.M A (t v₁ v₂) Q E s

theorem Rel.fresh_back {σ σ' : Sn} {v d} (k : Kp σ.h σ'.h) {σ''} (h : Rel (fun a => σ'.h.get? a = none) σ'' v d) : Rel (fun a => σ.h.get? a = none) σ'' v d :=
  h.monoP fun _ e => k.none e

/-! ## 5. Operations: ints -/
section
variable {W : Wd} {a b : Int}
theorem op_add : Op2 W (binaryOp .Add) (.wint a) (.wint b) (.int (a + b)) := by
  rintro A s τ v₁ v₂ C ⟨t, rfl⟩ ⟨u, rfl⟩ Q E h
  exact P.add_int (h.int C.pos)
theorem op_iadd : Op2 W (inplaceOp .Add) (.wint a) (.wint b) (.int (a + b)) := by
  rintro A s τ v₁ v₂ C ⟨t, rfl⟩ ⟨u, rfl⟩ Q E h
  exact P.iadd_int (h.int C.pos)
theorem op_sub : Op2 W (binaryOp .Sub) (.wint a) (.wint b) (.int (a - b)) := by
  rintro A s τ v₁ v₂ C ⟨t, rfl⟩ ⟨u, rfl⟩ Q E h
  exact P.sub_int (h.int C.pos)
theorem op_mul (h1 : -(2 ^ 64) < a) (h2 : a < 2 ^ 64) : Op2 W (binaryOp .Mult) (.wint a) (.wint b) (.int (a * b)) := by
  rintro A s τ v₁ v₂ C ⟨t, rfl⟩ ⟨u, rfl⟩ Q E h
  exact P.mul_int (h.int C.pos) (IntMulOk.of_left (intBits_le_64 h1 h2))
theorem op_mod (h1 : 0 < b) : Op2 W (binaryOp .Mod) (.wint a) (.wint b) (.int (a % b)) := by
  rintro A s τ v₁ v₂ C ⟨t, rfl⟩ ⟨u, rfl⟩ Q E h
  refine mod_int' (by omega) ?_
  rw [Int.fmod_eq_emod_of_nonneg a (Int.le_of_lt h1)]
  exact h.int C.pos
theorem op_div (h1 : 0 < b) (h2 : b < 1000000) : Op2 W (binaryOp .FloorDiv) (.wint a) (.wint b) (.int (a / b)) := by
  rintro A s τ v₁ v₂ C ⟨t, rfl⟩ ⟨u, rfl⟩ Q E h
  refine floordiv_int (by omega) ?_ (Or.inl (PyProof.noPylong_small (by omega)))
  rw [Int.fdiv_eq_ediv_of_nonneg a (Int.le_of_lt h1)]
  exact h.int C.pos
theorem op_neg : Op1 W (unaryOp .USub) (.wint a) (.int (-a)) := by
  rintro A s τ v₁ C ⟨t, rfl⟩ Q E h
  exact P.neg_int (h.int C.pos)
theorem op_eq : Op2 W (compareOp .Eq) (.wint a) (.wint b) (.bool (a == b)) := by
  rintro A s τ v₁ v₂ C ⟨t, rfl⟩ ⟨u, rfl⟩ Q E h
  exact P.eq_int h.bool
theorem op_ne : Op2 W (compareOp .NotEq) (.wint a) (.wint b) (.bool (a != b)) := by
  rintro A s τ v₁ v₂ C ⟨t, rfl⟩ ⟨u, rfl⟩ Q E h
  exact P.ne_int h.bool
theorem op_lt : Op2 W (compareOp .Lt) (.wint a) (.wint b) (.bool (decide (a < b))) := by
  rintro A s τ v₁ v₂ C ⟨t, rfl⟩ ⟨u, rfl⟩ Q E h
  exact P.lt_int h.bool
theorem op_le : Op2 W (compareOp .LtE) (.wint a) (.wint b) (.bool (decide (a ≤ b))) := by
  rintro A s τ v₁ v₂ C ⟨t, rfl⟩ ⟨u, rfl⟩ Q E h
  exact P.le_int h.bool
theorem op_gt : Op2 W (compareOp .Gt) (.wint a) (.wint b) (.bool (decide (b < a))) := by
  rintro A s τ v₁ v₂ C ⟨t, rfl⟩ ⟨u, rfl⟩ Q E h
  exact P.gt_int h.bool
theorem op_ge : Op2 W (compareOp .GtE) (.wint a) (.wint b) (.bool (decide (b ≤ a))) := by
  rintro A s τ v₁ v₂ C ⟨t, rfl⟩ ⟨u, rfl⟩ Q E h
  exact P.ge_int h.bool
theorem op_not {b : Bool} : Op1 W (unaryOp .Not) (.bool b) (.bool (!b)) := by
  rintro A s τ v₁ C rfl Q E h
  exact not_value (wpAny_truthy_bool h.bool)
theorem op_isNot_none : Op2 W (compareOp .IsNot) .none .none (.bool false) := by
  rintro A s τ v₁ v₂ C rfl rfl Q E h
  exact isNot_none h.bool
end

/-! ## 6. Operations: lists of ints -/
theorem Heap.PlainList.typeIs' {s : Shared} {a : Addr} {its : Array Value} (x : s.heap.PlainList a its) : s.TypeIs (.ref a) "list" := x.isList.typeIs
theorem lim_line {n : Nat} (h : n ≤ lim) : n ≤ sizeLine := by rw [lim_eq] at h; rw [sizeLine_eq]; omega

section
variable {W : Wd}
theorem op_addL {a b : List Int} (hl : (a ++ b).length ≤ lim) : Op2 W (binaryOp .Add) (.il a) (.il b) (.il (a ++ b)) := by
  rintro A s τ v₁ v₂ C ⟨l, vs, rfl, _, ⟨n, ho⟩, h1, _⟩ ⟨l2, ws, rfl, _, ⟨n2, ho2⟩, h2, _⟩ Q E h
  have e : vs.toArray ++ ws.toArray = (vs ++ ws).toArray := by simp
  have hsz : (vs ++ ws).length ≤ sizeLine := by rw [(h1.append h2).length]; exact lim_line hl
  rw [List.length_append] at hsz
  refine concat_meets ⟨_, ho, rfl⟩ ⟨_, ho2, rfl⟩ noFill_list_add seq_list_add PySem.F.slot_list_add PySem.F.entry_list_add (PySem.F.args_list_add_2 _ _) (list_addW l l2 vs.toArray ws.toArray n n2 none none #[] #[] (by simpa using hsz)) ⟨ho, ho2, ?_⟩
  rw [e]
  exact h.push (h1.append h2) hl

theorem rep_flat (l : List Value) : ∀ n : Nat, List.foldl (fun (x1 x2 : Array Value) => x1 ++ x2) #[] (List.replicate n l.toArray) = (List.replicate n l).flatten.toArray := by
  have key : ∀ (n : Nat) (z : List Value), List.foldl (fun (x1 x2 : Array Value) => x1 ++ x2) z.toArray (List.replicate n l.toArray) = (z ++ (List.replicate n l).flatten).toArray := by
    intro n
    induction n with
    | zero => intro z; simp
    | succ n ih =>
      intro z
      rw [List.replicate_succ, List.foldl_cons, List.replicate_succ, List.flatten_cons]
      have : z.toArray ++ l.toArray = (z ++ l).toArray := by simp
      rw [this, ih]
      simp
  intro n
  simpa using key n []
theorem L2.flat {α β : Type} {R : α → β → Prop} {as : List α} {bs : List β} (h : L2 R as bs) : ∀ n, L2 R (List.replicate n as).flatten (List.replicate n bs).flatten
  | 0 => .nil
  | n + 1 => by rw [List.replicate_succ, List.replicate_succ, List.flatten_cons, List.flatten_cons]; exact h.append (h.flat n)

theorem op_mulL {a : List Int} {x : Int} (h0 : 0 ≤ x) (hl : ((List.replicate x.toNat a).flatten).length ≤ lim) (hx : x < 2 ^ 40) : Op2 W (binaryOp .Mult) (.il a) (.wint x) (.il ((List.replicate x.toNat a).flatten)) := by
  rintro A s τ v₁ v₂ C ⟨l, vs, rfl, _, ⟨n, ho⟩, h1, _⟩ ⟨u, rfl⟩ Q E h
  have hlen : vs.toArray.size * x.toNat ≤ 2 ^ 24 := by
    have := (h1.flat x.toNat).length
    have h3 : (List.replicate x.toNat vs).flatten.length = vs.length * x.toNat := by simp [Nat.mul_comm]
    rw [lim_eq] at hl
    rw [List.size_toArray]
    omega
  have key : wpAny W.M A (binaryOp .Mult (.ref l) (.int x u)) (fun v s' => v = .ref s.heap.objs.size ∧ s' = { s with heap := s.heap.push { cls := .type "list", data := .seq (List.foldl (fun x1 x2 => x1 ++ x2) #[] (List.replicate (if vs.toArray.isEmpty = true then 0 else x.toNat) vs.toArray)) } }) E s :=
    wpAny_binaryOp_repeat_ref (T := "list") (U := "int") (by decide) ⟨_, ho, rfl⟩ (fun s' => typeIs_int s' x u) noFill_list_mul F.fills_int_mul F.slot_int_rmul repeat_list F.slot_int_index.lookup
      (call_meets F.slot_int_rmul (typeIs_int s x u) F.entry_int_rmul (F.args_int_rmul_2 _ _) (int___rmul___int_list x u l vs.toArray n)
        ⟨ho, rfl, ⟨_, ho, rfl⟩, call_meets F.slot_list_mul ⟨_, ho, rfl⟩ F.entry_list_mul (F.args_list_mul_2 _ _)
          (AutoListH.list___mul___list_int_3 l vs.toArray n x u (by simp [Builtin.List.listFitsIndex]; omega) (by omega) (by simp [Builtin.List.listTooLong, sizeLine]; omega))
          ⟨ho, rfl, rfl⟩⟩)
  refine wpAny_mono key (fun v s' hv => ?_) fun _ _ e => e
  obtain ⟨rfl, rfl⟩ := hv
  have e : List.foldl (fun (x1 x2 : Array Value) => x1 ++ x2) #[] (List.replicate (if vs.toArray.isEmpty = true then 0 else x.toNat) vs.toArray) = ((List.replicate x.toNat vs).flatten).toArray := by
    by_cases hv : vs = []
    · subst hv; simp
    · have : vs.toArray.isEmpty = false := by cases vs with | nil => exact absurd rfl hv | cons _ _ => rfl
      rw [this]
      exact rep_flat vs _
  rw [e]
  exact h.push (h1.flat _) hl

theorem eqAt_ints {A : Around} {s : Shared} {p q : Int} {t u : Tok} : SeqAt.EqAt A s (.int p t) (.int q u) (p == q) := fun prog w E Q h => wpAny_eqBool_int h

theorem all_eq_of_length {a b : List Int} (h : a.length = b.length) : (List.range a.length).all (fun i => a.getD i 0 == b.getD i 0) = (a == b) := by
  rw [Bool.eq_iff_iff, List.all_eq_true, beq_iff_eq]
  constructor
  · intro k
    apply List.ext_getElem h
    intro i h1 h2
    have := k i (List.mem_range.mpr h1)
    simpa [List.getD_eq_getElem?_getD, h1, h2] using this
  · rintro rfl i _
    exact beq_self_eq_true _

theorem L2.eqAts {A : Around} {s : Shared} {σ : Sn} {vs ws : List Value} {a b : List Int} (h1 : L2 (GI σ) vs a) (h2 : L2 (GI σ) ws b) :
    ∀ j (p : j < vs.toArray.size) (q : j < ws.toArray.size), SeqAt.EqAt A s vs.toArray[j] ws.toArray[j] (a.getD j 0 == b.getD j 0) := by
  intro j p q
  simp only [List.size_toArray] at p q
  obtain ⟨x, hx, t, ex, _⟩ := h1.get (List.getElem?_eq_getElem p)
  obtain ⟨y, hy, u, ey, _⟩ := h2.get (List.getElem?_eq_getElem q)
  simp only [List.getElem_toArray]
  rw [ex, ey, List.getD_eq_getElem?_getD, List.getD_eq_getElem?_getD, hx, hy]
  exact eqAt_ints

theorem op_eqL {a b : List Int} : Op2 W (compareOp .Eq) (.il a) (.il b) (.bool (a == b)) := by
  rintro A s τ v₁ v₂ C ⟨l, vs, rfl, _, hp, h1, _⟩ ⟨l2, ws, rfl, _, hp2, h2, _⟩ Q E h
  by_cases hsz : a.length = b.length
  · refine SeqAt.eq_listAt hp.isList hp2.isList (by simp [h1.length, h2.length, hsz]) C.units (h1.eqAts h2) ?_
    have : vs.toArray.size = a.length := by simp [h1.length]
    rw [this, all_eq_of_length hsz]
    exact h.bool
  · have : (a == b) = false := by
      apply Bool.eq_false_iff.mpr
      intro q; exact hsz (congrArg List.length (beq_iff_eq.mp q))
    rw [this] at h
    exact SeqAt.eq_list_lengthsAt hp.isList hp2.isList (by simp [h1.length, h2.length, hsz]) C.units h.bool

theorem op_neL {a b : List Int} : Op2 W (compareOp .NotEq) (.il a) (.il b) (.bool (a != b)) := by
  rintro A s τ v₁ v₂ C ⟨l, vs, rfl, _, hp, h1, _⟩ ⟨l2, ws, rfl, _, hp2, h2, _⟩ Q E h
  by_cases hsz : a.length = b.length
  · refine SeqAt.RcNeAt.lists hp.isList hp2.isList (by simp [h1.length, h2.length, hsz]) C.units (h1.eqAts h2) _ _ _ _ ?_
    have : vs.toArray.size = a.length := by simp [h1.length]
    rw [this, all_eq_of_length hsz]
    exact h.bool
  · have : (a != b) = true := by
      unfold bne
      have : (a == b) = false := by
        apply Bool.eq_false_iff.mpr
        intro q; exact hsz (congrArg List.length (beq_iff_eq.mp q))
      rw [this]; rfl
    rw [this] at h
    exact SeqAt.RcNeAt.lists_lengths hp.isList hp2.isList (by simp [h1.length, h2.length, hsz]) C.units _ _ _ _ h.bool

/-- an index as Python has it -/
def ix (k : Int) (n : Nat) : Nat := if 0 ≤ k then k.toNat else (k + n).toNat

theorem op_item {l : List Int} {k x : Int} (h0 : -(l.length : Int) ≤ k) (hx : l[ix k l.length]? = some x) : Op2 W getItem (.il l) (.wint k) (.int x) := by
  rintro A s τ v₁ v₂ C ⟨a, vs, rfl, _, hp, h1, hl⟩ ⟨u, rfl⟩ Q E h
  obtain ⟨v, hv, hr⟩ := h1.get' hx
  have hlt : ix k l.length < l.length := by
    rcases Nat.lt_or_ge (ix k l.length) l.length with z | z
    · exact z
    · rw [List.getElem?_eq_none z] at hx; cases hx
  have hQ : Q v s := h v s.heap s.toks τ (Le.refl _) hr
  rw [lim_eq] at hl
  by_cases hk : 0 ≤ k
  · rw [ix, if_pos hk] at hv hlt
    exact wpAny_getItem_list hp.isList hk (by omega) (by simpa using hv) hQ
  · rw [ix, if_neg hk] at hv
    refine wpAny_getItem_list_neg hp.isList (by omega) (by simp [h1.length]; omega) (by omega) ?_ hQ
    simp only [List.size_toArray, h1.length]
    simpa using hv

/-- a slice as Python has it -/
def pick {α : Type} (l : List α) (lo hi st : Option Int) : List α :=
  (sliceRange (sliceBounds lo hi st l.length).1 (sliceBounds lo hi st l.length).2.1 (sliceBounds lo hi st l.length).2.2).filterMap (l[·]?)

theorem pick_rel {α β : Type} {R : α → β → Prop} {as : List α} {bs : List β} (h : L2 R as bs) (lo hi st : Option Int) : L2 R (pick as lo hi st) (pick bs lo hi st) := by
  unfold pick
  rw [h.length]
  exact h.filterMapIdx
theorem pick_value (vs : List Value) (lo hi st : Option Int) : slicePick vs.toArray lo hi st = (pick vs lo hi st).toArray := by
  unfold slicePick pick
  simp
theorem pick_map {α β : Type} (f : α → β) (l : List α) (lo hi st : Option Int) : pick (l.map f) lo hi st = (pick l lo hi st).map f := by
  unfold pick
  rw [List.length_map, List.map_filterMap]
  congr 1
  funext i
  simp
theorem pick_length {α : Type} (l : List α) (lo hi st : Option Int) : (pick l lo hi st).length ≤ l.length := by
  have := slicePick_size_le (l.map fun _ => Value.none).toArray lo hi st
  rw [pick_value, pick_map] at this
  simpa using this

theorem op_slice {l : List Int} {s : Shared} {τ : Tok → Int} {A : Around} {a sl : Addr} {vs : List Value} {vl vu vt : Value} {lo hi st : Option Int} {Q : Value → Shared → Prop} {E : Value → Shared → Prop}
    (hp : s.heap.PlainList a vs.toArray) (h1 : L2 (GI ⟨s.heap, τ, s.toks⟩) vs l) (hl : l.length ≤ lim) (hs : s.heap.IsSliceOf sl vl vu vt)
    (pl : IsPart vl lo) (pu : IsPart vu hi) (ps : IsPart vt st) (h0 : st ≠ some 0) (h : Out s τ (.il (pick l lo hi st)) Q) :
    wpAny W.M A (getItem (.ref a) (.ref sl)) Q E s := by
  refine wpAny_getItem_list_slice hp.isList hs pl pu ps h0 ?_ (by rw [List.size_toArray, h1.length]; exact lim_line hl)
  rw [pick_value]
  exact h.push (pick_rel h1 lo hi st) (Nat.le_trans (pick_length _ _ _ _) hl)

theorem op_sliceW {l : List Int} {s : Shared} {τ : Tok → Int} {A : Around} {a sl : Addr} {vs : List Value} {vl vu vt : Value} {lo hi st : Option Int} {Q : Value → Shared → Prop} {E : Value → Shared → Prop}
    (hp : s.heap.IsList a vs.toArray) (h1 : IntsAre vs l) (hl : l.length ≤ lim) (hs : s.heap.IsSliceOf sl vl vu vt)
    (pl : IsPart vl lo) (pu : IsPart vu hi) (ps : IsPart vt st) (h0 : st ≠ some 0) (h : Out s τ (.wl (pick l lo hi st)) Q) :
    wpAny W.M A (getItem (.ref a) (.ref sl)) Q E s := by
  have h2 : L2 (fun v (i : Int) => ∃ t, v = Value.int i t) vs l := by
    clear hp h hl
    induction h1 with
    | nil => exact .nil
    | cons n t _ ih => exact .cons ⟨t, rfl⟩ ih
  have back : ∀ {vs : List Value} {l : List Int}, L2 (fun v (i : Int) => ∃ t, v = Value.int i t) vs l → IntsAre vs l := by
    intro vs l q
    induction q with
    | nil => exact .nil
    | cons e _ ih => obtain ⟨t, rfl⟩ := e; exact .cons _ t ih
  refine wpAny_getItem_list_slice hp hs pl pu ps h0 ?_ (by rw [List.size_toArray, h2.length]; exact lim_line hl)
  rw [pick_value]
  exact h _ _ _ τ (Le.heap (Kp.push _ _)) ⟨_, _, rfl, get_size _, (⟨_, Heap.get?_push_size _ rfl, rfl, _, rfl⟩ : Heap.IsList _ _ _), back (pick_rel h2 lo hi st), Nat.le_trans (pick_length _ _ _ _) hl⟩

theorem op_sliceR {l : List (List Int)} {s : Shared} {τ : Tok → Int} {A : Around} {a sl : Addr} {vs : List Value} {vl vu vt : Value} {lo hi st : Option Int} {Q : Value → Shared → Prop} {E : Value → Shared → Prop} {P : Addr → Prop}
    (hp : s.heap.PlainList a vs.toArray) (h1 : L2 (RI P ⟨s.heap, τ, s.toks⟩) vs l) (hl : l.length ≤ lim) (hs : s.heap.IsSliceOf sl vl vu vt)
    (pl : IsPart vl lo) (pu : IsPart vu hi) (ps : IsPart vt st) (h0 : st ≠ some 0)
    (h : ∀ v h' tk τ', Le ⟨s.heap, τ, s.toks⟩ ⟨h', τ', tk⟩ → Rel (fun _ => True) ⟨h', τ', tk⟩ v (.rows (pick l lo hi st)) → Q v (At2 s h' tk)) :
    wpAny W.M A (getItem (.ref a) (.ref sl)) Q E s := by
  refine wpAny_getItem_list_slice hp.isList hs pl pu ps h0 ?_ (by rw [List.size_toArray, h1.length]; exact lim_line hl)
  rw [pick_value]
  have k : Le ⟨s.heap, τ, s.toks⟩ ⟨s.heap.push { cls := .type "list", data := .seq (pick vs lo hi st).toArray }, τ, s.toks⟩ := Le.heap (Kp.push _ _)
  exact h _ _ _ τ k ⟨_, _, rfl, trivial, ⟨_, Heap.get?_push_size _ rfl⟩, (pick_rel h1 lo hi st).mono fun _ _ q => (RI.monoP (fun _ _ => trivial) q).step (k.step _), Nat.le_trans (pick_length _ _ _ _) hl⟩

theorem op_len {l : List Int} : Op1 W (fun v => call (.builtin "len") [v]) (.wl l) (.int l.length) := by
  rintro A s τ v₁ C ⟨a, vs, rfl, _, hp, h1, hl⟩ Q E h
  have hsz : vs.toArray.size = l.length := by rw [List.size_toArray, h1.length]
  rw [lim_eq] at hl
  refine Calls.call_len_list hp (by omega) ?_
  rw [hsz]
  exact h _ s.heap _ (upd τ (s.toks + 1) l.length) ⟨Kp.refl _, by show s.toks ≤ s.toks + 1 + 1; omega, fun t ht => if_neg (Nat.ne_of_lt (Nat.lt_succ_of_lt ht))⟩ ⟨_, rfl, Nat.succ_pos _, by show s.toks + 1 < s.toks + 1 + 1; omega, if_pos rfl⟩
theorem op_lenR {l : List (List Int)} : Op1 W (fun v => call (.builtin "len") [v]) (.rows l) (.int l.length) := by
  rintro A s τ v₁ C ⟨a, vs, rfl, _, hp, h1, hl⟩ Q E h
  have hsz : vs.toArray.size = l.length := by rw [List.size_toArray, h1.length]
  rw [lim_eq] at hl
  refine Calls.call_len_list hp.isList (by omega) ?_
  rw [hsz]
  exact h _ s.heap _ (upd τ (s.toks + 1) l.length) ⟨Kp.refl _, by show s.toks ≤ s.toks + 1 + 1; omega, fun t ht => if_neg (Nat.ne_of_lt (Nat.lt_succ_of_lt ht))⟩ ⟨_, rfl, Nat.succ_pos _, by show s.toks + 1 < s.toks + 1 + 1; omega, if_pos rfl⟩
theorem op_sum {l : List Int} : Op1 W (fun v => call (.builtin "sum") [v]) (.wl l) (.wint l.sum) := by
  rintro A s τ v₁ C ⟨a, vs, rfl, _, hp, h1, hl⟩ Q E h
  obtain ⟨xs, hx⟩ := (IntsAre.allInts h1).items
  rw [hx] at hp
  refine wpAny_with_toks (n := s.toks) (Nat.le_refl _) (sum_intListG C.hh hp fun h' tk t' hk htk => ?_)
  have e : preSum (numAt xs) xs.size = l.sum := by
    rw [preSum_eq, List.take_of_length_le (by simp), ← nums_intItems, ← hx]
    exact congrArg List.sum h1.numsOf
  rw [e]
  exact h _ h' tk τ (Le.mk' hk htk) ⟨t', rfl⟩
theorem op_isList {l : List Int} : Op2 W (fun v t => call (.builtin "isinstance") [v, .type "list"]) (.il l) .none (.bool true) := by
  rintro A s τ v₁ v₂ C ⟨a, vs, rfl, _, ⟨n, ho⟩, _⟩ _ Q E h
  exact IsiPair.list_list ho rfl h.bool
theorem op_int_bool {i : Int} : Op1 W (fun v => call (.builtin "isinstance") [v, .type "bool"]) (.wint i) (.bool false) := by
  rintro A s τ v₁ C ⟨t, rfl⟩ Q E h
  exact IsiPair.int_bool (h _ s.heap _ τ (Le.mk' (Kp.refl _) (Nat.le_succ _)) rfl)
theorem op_int_int {i : Int} : Op1 W (fun v => call (.builtin "isinstance") [v, .type "int"]) (.wint i) (.bool true) := by
  rintro A s τ v₁ C ⟨t, rfl⟩ Q E h
  exact IsiPair.int_int h.bool
end

/-! ## 7. Writers -/
section
variable {W : Wd} {A : Around} {s : Shared} {E : Value → Shared → Prop}
theorem wr_append {a : Addr} {vs : List Value} {x : Value} {Q : Value → Shared → Prop} (hp : s.heap.PlainList a vs.toArray) (hl : vs.length ≤ lim)
    (h : ∀ h', h'.PlainList a (vs ++ [x]).toArray → Heap.SameBut a s.heap h' → Q .none { s with heap := h' }) :
    wpAny W.M A (call (.builtin "list.append") [.ref a, x]) Q E s :=
  wpAny_list_append_plain (hsz := by rw [List.size_toArray]; exact lim_line hl) hp fun h' h1 h2 => h h' (by simpa using h1) h2
theorem wr_set {a : Addr} {vs : List Value} {x : Value} {k : Int} {t : Tok} {Q : Unit → Shared → Prop} (hp : s.heap.PlainList a vs.toArray) (hl : vs.length ≤ lim) (h0 : 0 ≤ k) (h1 : k < vs.length)
    (h : ∀ h', h'.PlainList a (vs.set k.toNat x).toArray → Heap.SameBut a s.heap h' → Q () { s with heap := h' }) :
    wpAny W.M A (setItem (.ref a) (.int k t) x) Q E s := by
  obtain ⟨n, ho⟩ := hp
  rw [lim_eq] at hl
  have key : wpAny W.M A (setItem (.ref a) (.int k t) x) (fun _ s' => ∃ h', s' = { s with heap := h' } ∧ h' = s.heap.update a (Obj.mapSeq (·.setIfInBounds k.toNat x))) E s := by
    unfold setItem
    try with_reducible refine wpAny_holding ?_
    first | refine wpAny_bind (wpAny_pure ?_) | skip
    refine wpAny_bind (wpAny_sequenceKey (⟨_, ho, rfl⟩ : s.TypeIs (.ref a) "list") (by decide) ?_)
    refine wpAny_bind (wpAny_callSpecial?_slot (name := Str.ofString "__setitem__") (⟨_, ho, rfl⟩ : s.TypeIs (.ref a) "list") slot_list_setitem
      (wpAny_call_entry slot_list_setitem (⟨_, ho, rfl⟩ : s.TypeIs (.ref a) "list") entry_list_setitem ?_ (args_list_setitem _ _ _)))
    show wpAny _ _ (Builtin.List.listSubscript? (.int k t) >>= _) _ _ s
    refine wpAny_bind (wpAny_listSubscript_int (fitsIndex_of h0 (by omega)) ?_)
    obtain ⟨j, rfl⟩ := Int.eq_ofNat_of_zero_le h0
    have hj : j < vs.toArray.size := by simp; omega
    have hx' : vs.toArray[j]? = some vs.toArray[j] := Array.getElem?_eq_getElem hj
    show wpAny _ _ ((seqItemAt a j >>= fun r => pure (r.map (j, ·))) >>= _) _ _ s
    refine wpAny_bind (wpAny_bind (wpAny_seqItemAt ho rfl (wpAny_pure ?_)))
    rw [hx']
    show wpAny _ _ (setSeqItemAt a j x >>= _) _ _ s
    refine wpAny_bind (wpAny_setSeqItemAt ho rfl ?_)
    first
      | exact wpAny_bind (wpAny_pure (wpAny_pure ⟨.none, rfl, wpAny_pure ⟨_, rfl, rfl⟩⟩))
      | exact wpAny_pure ⟨.none, rfl, wpAny_pure ⟨_, rfl, rfl⟩⟩
  refine wpAny_mono key (fun u s' hv => ?_) fun _ _ e => e
  obtain ⟨h', rfl, rfl⟩ := hv
  cases u
  refine h _ ⟨n, ?_⟩ (Heap.SameBut.update ..)
  rw [Heap.get?_update_self _ ho (by simp [Obj.mapSeq, Obj.isFreed])]
  simp [Obj.mapSeq]
theorem wr_del {a : Addr} {vs : List Value} {k : Int} {t : Tok} {Q : Unit → Shared → Prop} (hp : s.heap.PlainList a vs.toArray) (hl : vs.length ≤ lim) (h0 : -(vs.length : Int) ≤ k) (h1 : k < vs.length)
    (h : ∀ h', h'.PlainList a (vs.eraseIdx (ix k vs.length)).toArray → Heap.SameBut a s.heap h' → Q () { s with heap := h' }) :
    wpAny W.M A (delItem (.ref a) (.int k t)) Q E s := by
  rw [lim_eq] at hl
  have hk : seqIndex? k vs.toArray.size = some (ix k vs.length) := by
    unfold seqIndex? ix
    simp only [List.size_toArray]
    by_cases q : 0 ≤ k
    · rw [if_neg (Int.not_lt.mpr q), if_pos q, if_pos (by rw [Bool.and_eq_true, decide_eq_true_eq, decide_eq_true_eq]; exact ⟨q, h1⟩)]
    · rw [if_pos (Int.not_le.mp q), if_neg q, if_pos (by rw [Bool.and_eq_true, decide_eq_true_eq, decide_eq_true_eq]; constructor <;> omega)]
  have hlt : ix k vs.length < vs.length := by unfold ix; split <;> omega
  refine wpAny_delItem_plain hp (by simp [Builtin.List.listFitsIndex]; omega) hk (fun h' h2 h3 => h h' ?_ h3) (by rw [List.size_toArray]; exact lim_line (by rw [lim_eq]; exact hl))
  have : vs.toArray.eraseIdxIfInBounds (ix k vs.length) = (vs.eraseIdx (ix k vs.length)).toArray := by
    rw [Array.eraseIdxIfInBounds, dif_pos (by simpa using hlt)]
    simp
  rwa [this] at h2
end
theorem Rel.toW {P : Addr → Prop} {σ : Sn} {v : Value} {i : Int} (h : Rel P σ v (.int i)) : Rel P σ v (.wint i) := by
  obtain ⟨t, e, _⟩ := h; exact ⟨t, e⟩
theorem Rel.toWL {P : Addr → Prop} {σ : Sn} {v : Value} {l : List Int} (h : Rel P σ v (.il l)) : Rel P σ v (.wl l) := Rel.wints h
theorem Op2.ii {W : Wd} {t : Value → Value → Sem Value} {a b : Int} {d : D} (h : Op2 W t (.wint a) (.wint b) d) : Op2 W t (.int a) (.int b) d := fun A s τ v₁ v₂ C h1 h2 => h A s τ v₁ v₂ C (Rel.toW (P := fun _ => True) h1) (Rel.toW (P := fun _ => True) h2)
theorem Op2.xi {W : Wd} {t : Value → Value → Sem Value} {d₁ : D} {b : Int} {d : D} (h : Op2 W t d₁ (.wint b) d) : Op2 W t d₁ (.int b) d := fun A s τ v₁ v₂ C h1 h2 => h A s τ v₁ v₂ C h1 (Rel.toW (P := fun _ => True) h2)
theorem Op1.i {W : Wd} {t : Value → Sem Value} {a : Int} {d : D} (h : Op1 W t (.wint a) d) : Op1 W t (.int a) d := fun A s τ v₁ C h1 => h A s τ v₁ C (Rel.toW (P := fun _ => True) h1)
theorem Op1.l {W : Wd} {t : Value → Sem Value} {a : List Int} {d : D} (h : Op1 W t (.wl a) d) : Op1 W t (.il a) d := fun A s τ v₁ C h1 => h A s τ v₁ C (Rel.toWL (P := fun _ => True) h1)

/-! ## 8. Expressions -/
theorem load_at {M : Model} {A : Around} {s : Shared} {env : Env} {m : Str → Option Value} {x : Str} {v : Value} {Q : Value → Shared → Prop} {E : Value → Shared → Prop}
    (hk : env.scope.kind = .function) (hn : s.heap.Ns env.locals m) (ha : At env s.heap m x v) (h : Q v s) : wpAny M A (loadName env x) Q E s := by
  rcases ha with ⟨h1, h2⟩ | ⟨c, h1 | ⟨h1, h4⟩, h2, h3⟩
  · exact wpAny_loadName_local hk h1 hn h2 h
  · exact wpAny_loadName_cell hk h1 h2 h3 h
  · exact wpAny_loadName_free hk h1 h2 h3 h h4

def NS (e : Expr) : Prop := ∀ (env : Env) (rest : List Expr), starEach (e :: rest) env = (false, eval e env) :: starEach rest env

section
variable {W : Wd} {f : Fm} {δ : List Ent}

theorem Inv.load {O σ} (I : Inv W f O δ σ) {e : Ent} (he : e ∈ δ) : ∃ m v, σ.h.Ns f.env.locals m ∧ At f.env σ.h m e.1 v ∧ EntOk f O σ e v :=
  let ⟨m, hn, h⟩ := I.loc; let ⟨v, ha, hr⟩ := h e he; ⟨m, v, hn, ha, hr⟩

theorem Ev.safe {x : Str} {p : Pos} {d : D} (he : (x, EK.safe, d) ∈ δ) (hd : (x == ("__debug__" : Str)) = false := by decide) : Ev W f (.Name x p) δ .safe d := by
  intro A s τ O R I Q E q
  obtain ⟨m, v, hn, ha, hr⟩ := I.load he
  exact wpAny_Name (load_at I.ok.kind hn ha (q v s.heap s.toks τ (Le.refl _) hr)) hd
theorem Ev.par {x : Str} {p : Pos} {d : D} (he : (x, EK.par, d) ∈ δ) (hd : (x == ("__debug__" : Str)) = false := by decide) : Ev W f (.Name x p) δ .any d := by
  intro A s τ O R I Q E q
  obtain ⟨m, v, hn, ha, hr⟩ := I.load he
  exact wpAny_Name (load_at I.ok.kind hn ha (q v s.heap s.toks τ (Le.refl _) (Rel.monoP (fun _ _ => trivial) hr))) hd
theorem Ev.own {x : Str} {p : Pos} {d : D} (he : (x, EK.own, d) ∈ δ) (hd : (x == ("__debug__" : Str)) = false := by decide) : Ev W f (.Name x p) δ .any d := by
  intro A s τ O R I Q E q
  obtain ⟨m, v, hn, ha, ⟨a, _, hr⟩⟩ := I.load he
  exact wpAny_Name (load_at I.ok.kind hn ha (q v s.heap s.toks τ (Le.refl _) (Rel.monoP (fun _ _ => trivial) hr))) hd

theorem Ev.cint {i : Int} {k : Nat} {p : Pos} : Ev W f (.Constant (.int i) k p) δ .fresh (.int i) := by
  intro A s τ O R I Q E q
  refine wpAny_Constant_int ?_
  exact q _ s.heap _ (upd τ s.toks i) (Le.upd (Kp.refl _) (Nat.le_succ _)) ⟨_, rfl, I.pos, Nat.lt_succ_self _, if_pos rfl⟩
theorem Ev.cbool {b : Bool} {k : Nat} {p : Pos} : Ev W f (.Constant (.bool b) k p) δ .fresh (.bool b) := by
  intro A s τ O R I Q E q
  exact wpAny_Constant_bool (q _ s.heap s.toks τ (Le.refl _) rfl)
theorem Ev.cnone {k : Nat} {p : Pos} : Ev W f (.Constant .none k p) δ .fresh .none := by
  intro A s τ O R I Q E q
  exact wpAny_Constant_none (q _ s.heap s.toks τ (Le.refl _) rfl)

theorem args_plain {M : Model} {A : Around} {s : Shared} {E : Value → Shared → Prop} {fv : Value} {e : Expr} {es : List Expr} {env : Env} {pos : Pos} {Q : Args → Shared → Prop} (hn : NS e)
    (h : wpAny M A (spliced (backTo pos (starEach (e :: es) env))) (fun vs s₁ => Q ⟨vs, []⟩ s₁) E s) : wpAny M A (evalArgs fv true (backTo pos (starEach (e :: es) env)) []) Q E s := by
  have e0 : backTo pos (starEach (e :: es) env) = (false, eval e env) :: backTo pos (starEach es env) := by rw [hn]; rfl
  rw [e0] at h ⊢
  exact Calls.evalArgs_plain h

/-- two expressions, one behind the other -/
theorem Ev.two {l r : Expr} {k₁ k₂ : RK} {d₁ d₂ : D} (hl : Ev W f l δ k₁ d₁) (hr : Ev W f r δ k₂ d₂)
    {A : Around} {s : Shared} {τ : Tok → Int} {O : Own} (R : Room f A) (I : Inv W f O δ ⟨s.heap, τ, s.toks⟩) {Q : Value → Value → Shared → Prop} {E : Value → Shared → Prop}
    (q : ∀ v₁ v₂ h' tk τ', Le ⟨s.heap, τ, s.toks⟩ ⟨h', τ', tk⟩ → Inv W f O δ ⟨h', τ', tk⟩ → RelK f O s.heap k₁ ⟨h', τ', tk⟩ v₁ d₁ → RelK f O s.heap k₂ ⟨h', τ', tk⟩ v₂ d₂ → Q v₁ v₂ (At2 s h' tk)) :
    wpAny W.M A (eval l f.env) (fun v₁ s₁ => wpAny W.M A (eval r f.env) (fun v₂ s₂ => Q v₁ v₂ s₂) E s₁) E s := by
  refine hl A s τ O R I _ _ fun v₁ h₁ tk₁ τ₁ l₁ r₁ => ?_
  have I₁ : Inv W f O δ ⟨h₁, τ₁, tk₁⟩ := I.le l₁
  refine hr A (At2 s h₁ tk₁) τ₁ O R I₁ _ _ fun v₂ h₂ tk₂ τ₂ l₂ r₂ => ?_
  refine q v₁ v₂ h₂ tk₂ τ₂ (l₁.trans l₂) (I₁.le l₂) (r₁.le l₂) ?_
  cases k₂ with
  | fresh => exact Rel.monoP (fun a e => l₁.keep.none e) r₂
  | safe => exact r₂
  | any => exact r₂

theorem Out.of {s : Shared} {τ : Tok → Int} {d : D} {h₁ : Heap} {tk₁ : Nat} {τ₁ : Tok → Int} (l : Le ⟨s.heap, τ, s.toks⟩ ⟨h₁, τ₁, tk₁⟩) {Q : Value → Shared → Prop}
    (q : ∀ v h' tk τ', Le ⟨s.heap, τ, s.toks⟩ ⟨h', τ', tk⟩ → Rel (fun a => s.heap.get? a = none) ⟨h', τ', tk⟩ v d → Q v (At2 s h' tk)) : Out (At2 s h₁ tk₁) τ₁ d Q :=
  fun v h' tk τ' l' r => q v h' tk τ' (l.trans l') (r.monoP fun a e => l.keep.none e)

theorem Ev.bin {op : Operator} {l r : Expr} {pos : Pos} {k₁ k₂ : RK} {d₁ d₂ d : D} (hl : Ev W f l δ k₁ d₁) (hr : Ev W f r δ k₂ d₂) (ho : Op2 W (binaryOp op) d₁ d₂ d) :
    Ev W f (.BinOp l op r pos) δ .fresh d := by
  intro A s τ O R I Q E q
  refine wpAny_BinOp (hl.two hr R I fun v₁ v₂ h' tk τ' l' I' r₁ r₂ => ?_)
  exact ho A _ τ' v₁ v₂ (I'.calm R) r₁.any r₂.any _ _ (Out.of l' q)
theorem Ev.cmp {op : CmpOp} {l r : Expr} {pos : Pos} {k₁ k₂ : RK} {d₁ d₂ d : D} (hl : Ev W f l δ k₁ d₁) (hr : Ev W f r δ k₂ d₂) (ho : Op2 W (compareOp op) d₁ d₂ d)
    (hm : behindInMarks op r = false := by with_unfolding_all rfl) : Ev W f (.Compare l [op] [r] pos) δ .fresh d := by
  intro A s τ O R I Q E q
  refine wpAny_Compare1 (hl.two hr R I fun v₁ v₂ h' tk τ' l' I' r₁ r₂ => ?_) hm
  exact ho A _ τ' v₁ v₂ (I'.calm R) r₁.any r₂.any _ _ (Out.of l' q)
theorem Ev.un {op : UnaryOp} {x : Expr} {pos : Pos} {k₁ : RK} {d₁ d : D} (hx : Ev W f x δ k₁ d₁) (ho : Op1 W (unaryOp op) d₁ d) : Ev W f (.UnaryOp op x pos) δ .fresh d := by
  intro A s τ O R I Q E q
  refine wpAny_UnaryOp (hx A s τ O R I _ _ fun v₁ h₁ tk₁ τ₁ l₁ r₁ => ?_)
  exact ho A _ τ₁ v₁ ((I.le l₁).calm R) r₁.any _ _ (Out.of l₁ q)

theorem sub_raw {prog : Program} {w : World} {A : Around} {s : Shared} {env : Env} {value slice : Expr} {pos : Pos} {Q : Value → Shared → Prop} {E : Value → Shared → Prop}
    (h : wpAny (model prog w) A (eval value env) (fun o s₁ => wpAny (model prog w) A (eval slice env) (fun i s₂ => s₂.TypeIs o "list" ∧ wpAny (model prog w) A (getItem o i) Q E s₂) E s₁) E s) :
    wpAny (model prog w) A (eval (.Subscript value slice pos) env) Q E s := by
  rw [eval_Subscript]
  refine wpAny_bind (wpAny_mono h (fun o s₁ h₁ => wpAny_bind (wpAny_holding (wpAny_mono h₁ (fun i s₂ h₂ => wpAny_bind (wpAny_standAt ?_)) fun _ _ x => x)))
    fun _ _ x => x)
  have fin : wpAny (model prog w) A (subscripted slice false o i) (fun r s₃ => wpAny (model prog w) A (letTemporaryGo value o r >>= fun _ => pure r) Q E s₃) E s₂ := by
    have g : wpAny (model prog w) A (getItem o i) (fun r s₃ => wpAny (model prog w) A (letTemporaryGo value o r >>= fun _ => pure r) Q E s₃) E s₂ :=
      wpAny_mono h₂.2 (fun r s₃ h₃ => wpAny_bind (wpAny_letTemporaryGo (wpAny_pure h₃))) fun _ _ x => x
    unfold subscripted
    split
    · exact wpAny_operating g
    · contradiction
    · exact wpAny_operating g
  refine wpAny_bind ?_
  rw [getitemInPython_of_ne h₂.1.not_modules]
  refine wpAny_bind (wpAny_specialOf h₂.1 list_getitem_lookup ?_)
  first
    | exact wpAny_pure (wpAny_bind fin)
    | exact wpAny_bind (wpAny_pure (wpAny_bind fin))
    | exact wpAny_bind fin

theorem Rel.typeL {s : Shared} {τ : Tok → Int} {P : Addr → Prop} {v : Value} {l : List Int} (r : Rel P ⟨s.heap, τ, s.toks⟩ v (.il l)) : s.TypeIs v "list" := by
  obtain ⟨a, vs, rfl, _, hp, _⟩ := r
  exact hp.isList.typeIs

theorem Ev.item {e i : Expr} {pos : Pos} {k₁ k₂ : RK} {l : List Int} {k x : Int} (hl : Ev W f e δ k₁ (.il l)) (hi : Ev W f i δ k₂ (.int k)) (h0 : -(l.length : Int) ≤ k) (hx : l[ix k l.length]? = some x) :
    Ev W f (.Subscript e i pos) δ .fresh (.int x) := by
  intro A s τ O R I Q E q
  refine sub_raw (hl.two hi R I fun v₁ v₂ h' tk τ' l' I' r₁ r₂ => ⟨Rel.typeL (s := At2 s h' tk) r₁.any, ?_⟩)
  exact op_item h0 hx A (At2 s h' tk) τ' v₁ v₂ (I'.calm R) r₁.any (by obtain ⟨t, e, _⟩ := r₂.any; exact ⟨t, e⟩) _ _ (Out.of l' q)

/-- a slice's part -/
def EvP (W : Wd) (f : Fm) (e : Option Expr) (δ : List Ent) (lo : Option Int) : Prop :=
  ∀ (A : Around) (s : Shared) (τ : Tok → Int) (O : Own), Room f A → Inv W f O δ ⟨s.heap, τ, s.toks⟩ →
    ∀ (Q : Value → Shared → Prop) (E : Value → Shared → Prop),
      (∀ v h' tk τ', Le ⟨s.heap, τ, s.toks⟩ ⟨h', τ', tk⟩ → IsPart v lo → Q v (At2 s h' tk)) → wpAny W.M A (evalPart e f.env) Q E s
theorem EvP.none : EvP W f none δ none := fun A s τ O R I Q E q => wpAny_pure (q _ s.heap s.toks τ (Le.refl _) .none)
theorem EvP.some {e : Expr} {k : RK} {i : Int} (h : Ev W f e δ k (.int i)) : EvP W f (some e) δ (some i) := fun A s τ O R I Q E q =>
  h A s τ O R I Q E fun v h' tk τ' l r => q v h' tk τ' l (by obtain ⟨t, e, _⟩ := r.any; subst e; exact .int i t)

theorem slice_raw {lower upper step : Option Expr} {lo hi st : Option Int} (h1 : EvP W f lower δ lo) (h2 : EvP W f upper δ hi) (h3 : EvP W f step δ st) {p : Pos}
    {A : Around} {s : Shared} {τ : Tok → Int} {O : Own} (R : Room f A) (I : Inv W f O δ ⟨s.heap, τ, s.toks⟩) {Q : Value → Shared → Prop} {E : Value → Shared → Prop}
    (q : ∀ sl vl vu vt h' tk τ', Le ⟨s.heap, τ, s.toks⟩ ⟨h', τ', tk⟩ → Inv W f O δ ⟨h', τ', tk⟩ → h'.IsSliceOf sl vl vu vt → IsPart vl lo → IsPart vu hi → IsPart vt st → Q (.ref sl) (At2 s h' tk)) :
    wpAny W.M A (eval (.Slice lower upper step p) f.env) Q E s := by
  refine wpAny_Slice (h1 A s τ O R I _ _ fun vl h₁ tk₁ τ₁ l₁ p₁ => ?_)
  have I₁ : Inv W f O δ ⟨h₁, τ₁, tk₁⟩ := I.le l₁
  refine h2 A (At2 s h₁ tk₁) τ₁ O R I₁ _ _ fun vu h₂ tk₂ τ₂ l₂ p₂ => ?_
  have I₂ : Inv W f O δ ⟨h₂, τ₂, tk₂⟩ := I₁.le l₂
  refine h3 A (At2 s h₂ tk₂) τ₂ O R I₂ _ _ fun vt h₃ tk₃ τ₃ l₃ p₃ => ?_
  have l₄ : Le ⟨h₃, τ₃, tk₃⟩ ⟨h₃.push { cls := .type "slice", data := .fields #[vl, vu, vt] }, τ₃, tk₃⟩ := Le.heap (Kp.push _ _)
  exact q _ vl vu vt _ _ τ₃ (((l₁.trans l₂).trans l₃).trans l₄) ((I₂.le l₃).le l₄) (Heap.IsSliceOf.new ..) p₁ p₂ p₃

theorem Ev.slice {e : Expr} {lower upper step : Option Expr} {p pos : Pos} {k₁ : RK} {l : List Int} {lo hi st : Option Int} (hl : Ev W f e δ k₁ (.il l)) (h1 : EvP W f lower δ lo) (h2 : EvP W f upper δ hi) (h3 : EvP W f step δ st)
    (h0 : st ≠ some 0) : Ev W f (.Subscript e (.Slice lower upper step p) pos) δ .fresh (.il (pick l lo hi st)) := by
  intro A s τ O R I Q E q
  refine sub_raw (hl A s τ O R I _ _ fun v₁ h₁ tk₁ τ₁ l₁ r₁ => ?_)
  have I₁ : Inv W f O δ ⟨h₁, τ₁, tk₁⟩ := I.le l₁
  refine slice_raw (s := At2 s h₁ tk₁) h1 h2 h3 R I₁ fun sl vl vu vt h₂ tk₂ τ₂ l₂ I₂ hs p₁ p₂ p₃ => ?_
  have r₂ : Rel (fun _ => True) ⟨h₂, τ₂, tk₂⟩ v₁ (.il l) := r₁.any.le l₂
  refine ⟨Rel.typeL (s := At2 s h₂ tk₂) r₂, ?_⟩
  obtain ⟨a, vs, rfl, _, hp, hg, hln⟩ := r₂
  exact op_slice (s := At2 s h₂ tk₂) (τ := τ₂) hp hg hln hs p₁ p₂ p₃ h0 (Out.of (l₁.trans l₂) q)

theorem Ev.sliceW {e : Expr} {lower upper step : Option Expr} {p pos : Pos} {k₁ : RK} {l : List Int} {lo hi st : Option Int} (hl : Ev W f e δ k₁ (.wl l)) (h1 : EvP W f lower δ lo) (h2 : EvP W f upper δ hi) (h3 : EvP W f step δ st)
    (h0 : st ≠ some 0) : Ev W f (.Subscript e (.Slice lower upper step p) pos) δ .fresh (.wl (pick l lo hi st)) := by
  intro A s τ O R I Q E q
  refine sub_raw (hl A s τ O R I _ _ fun v₁ h₁ tk₁ τ₁ l₁ r₁ => ?_)
  have I₁ : Inv W f O δ ⟨h₁, τ₁, tk₁⟩ := I.le l₁
  refine slice_raw (s := At2 s h₁ tk₁) h1 h2 h3 R I₁ fun sl vl vu vt h₂ tk₂ τ₂ l₂ I₂ hs p₁ p₂ p₃ => ?_
  have r₂ : Rel (fun _ => True) ⟨h₂, τ₂, tk₂⟩ v₁ (.wl l) := r₁.any.le l₂
  obtain ⟨a, vs, rfl, _, hp, hg, hln⟩ := r₂
  exact ⟨Heap.IsList.typeIs (s := At2 s h₂ tk₂) hp, op_sliceW (s := At2 s h₂ tk₂) (τ := τ₂) hp hg hln hs p₁ p₂ p₃ h0 (Out.of (l₁.trans l₂) q)⟩

theorem Ev.sliceR {e : Expr} {lower upper step : Option Expr} {p pos : Pos} {k₁ : RK} {l : List (List Int)} {lo hi st : Option Int} (hl : Ev W f e δ k₁ (.rows l)) (h1 : EvP W f lower δ lo) (h2 : EvP W f upper δ hi) (h3 : EvP W f step δ st)
    (h0 : st ≠ some 0) : Ev W f (.Subscript e (.Slice lower upper step p) pos) δ .any (.rows (pick l lo hi st)) := by
  intro A s τ O R I Q E q
  refine sub_raw (hl A s τ O R I _ _ fun v₁ h₁ tk₁ τ₁ l₁ r₁ => ?_)
  have I₁ : Inv W f O δ ⟨h₁, τ₁, tk₁⟩ := I.le l₁
  refine slice_raw (s := At2 s h₁ tk₁) h1 h2 h3 R I₁ fun sl vl vu vt h₂ tk₂ τ₂ l₂ I₂ hs p₁ p₂ p₃ => ?_
  have r₂ : Rel (fun _ => True) ⟨h₂, τ₂, tk₂⟩ v₁ (.rows l) := r₁.any.le l₂
  obtain ⟨a, vs, rfl, _, hp, hg, hln⟩ := r₂
  exact ⟨Heap.IsList.typeIs (s := At2 s h₂ tk₂) hp.isList, op_sliceR (s := At2 s h₂ tk₂) (τ := τ₂) hp hg hln hs p₁ p₂ p₃ h0 fun v h' tk τ' l' r => q v h' tk τ' ((l₁.trans l₂).trans l') r⟩

/-! ### arguments and displays -/

def EvS (W : Wd) (f : Fm) (es : List Expr) (δ : List Ent) (k : RK) (ds : List D) : Prop :=
  ∀ (A : Around) (s : Shared) (τ : Tok → Int) (O : Own) (pos : Pos), Room f A → Inv W f O δ ⟨s.heap, τ, s.toks⟩ →
    ∀ (Q : List Value → Shared → Prop) (E : Value → Shared → Prop),
      (∀ vs h' tk τ', Le ⟨s.heap, τ, s.toks⟩ ⟨h', τ', tk⟩ → L2 (RelK f O s.heap k ⟨h', τ', tk⟩) vs ds → Q vs (At2 s h' tk)) →
      wpAny W.M A (spliced (backTo pos (starEach es f.env))) Q E s
theorem EvS.nil {k : RK} : EvS W f [] δ k [] := fun A s τ O pos R I Q E q => wpAny_pure (q [] s.heap s.toks τ (Le.refl _) .nil)
theorem EvS.cons {e : Expr} {es : List Expr} {k : RK} {d : D} {ds : List D} (h : Ev W f e δ k d) (hs : EvS W f es δ k ds) (hn : NS e := by intro _ _; rfl) : EvS W f (e :: es) δ k (d :: ds) := by
  intro A s τ O pos R I Q E q
  refine wpAny_items_cons (h A s τ O R I _ _ fun v₁ h₁ tk₁ τ₁ l₁ r₁ => ?_) (hn _ _)
  have I₁ : Inv W f O δ ⟨h₁, τ₁, tk₁⟩ := I.le l₁
  refine hs A (At2 s h₁ tk₁) τ₁ O pos R I₁ _ _ fun vs h₂ tk₂ τ₂ l₂ r₂ => ?_
  refine q (v₁ :: vs) h₂ tk₂ τ₂ (l₁.trans l₂) (.cons (r₁.le l₂) (r₂.mono fun v d z => ?_))
  cases k with
  | fresh => exact Rel.monoP (fun a e => l₁.keep.none e) z
  | safe => exact z
  | any => exact z
theorem EvS.toAny {es : List Expr} {k : RK} {ds : List D} (h : EvS W f es δ k ds) : EvS W f es δ .any ds := fun A s τ O pos R I Q E q =>
  h A s τ O pos R I Q E fun vs h' tk τ' l r => q vs h' tk τ' l (r.mono fun _ _ z => z.any)

theorem L2.gi {P : Addr → Prop} {σ : Sn} : ∀ {vs : List Value} {l : List Int}, L2 (Rel P σ) vs (l.map D.int) → L2 (GI σ) vs l := by
  intro vs l
  induction l generalizing vs with
  | nil => intro h; cases h; exact .nil
  | cons i l ih => intro h; rw [List.map_cons] at h; cases h with | cons a b => exact .cons a (ih b)
theorem L2.ri {P : Addr → Prop} {σ : Sn} : ∀ {vs : List Value} {l : List (List Int)}, L2 (Rel P σ) vs (l.map D.il) → L2 (RI P σ) vs l := by
  intro vs l
  induction l generalizing vs with
  | nil => intro h; cases h; exact .nil
  | cons i l ih => intro h; rw [List.map_cons] at h; cases h with | cons a b => exact .cons a (ih b)

theorem Ev.listI {es : List Expr} {pos : Pos} {k : RK} {l : List Int} (h : EvS W f es δ k (l.map D.int)) (hl : l.length ≤ lim) : Ev W f (.List es pos) δ .fresh (.il l) := by
  intro A s τ O R I Q E q
  refine wpAny_List (h A s τ O pos R I _ _ fun vs h₁ tk₁ τ₁ l₁ r₁ => ?_)
  have r₂ : L2 (GI ⟨h₁, τ₁, tk₁⟩) vs l := L2.gi (r₁.mono fun _ _ z => z.any)
  refine ⟨by rw [r₂.length]; exact lim_line hl, ?_⟩
  have l₂ : Le ⟨h₁, τ₁, tk₁⟩ ⟨h₁.push { cls := .type "list", data := .seq vs.toArray }, τ₁, tk₁⟩ := Le.heap (Kp.push _ _)
  exact q _ _ _ τ₁ (l₁.trans l₂) ⟨_, vs, rfl, l₁.keep.none (get_size _), ⟨_, Heap.get?_push_size _ rfl⟩, r₂, hl⟩
theorem Ev.listR {es : List Expr} {pos : Pos} {l : List (List Int)} (h : EvS W f es δ .safe (l.map D.il)) (hl : l.length ≤ lim) : Ev W f (.List es pos) δ .safe (.rows l) := by
  intro A s τ O R I Q E q
  refine wpAny_List (h A s τ O pos R I _ _ fun vs h₁ tk₁ τ₁ l₁ r₁ => ?_)
  have r₂ : L2 (RI (f.Safe O) ⟨h₁, τ₁, tk₁⟩) vs l := L2.ri r₁
  refine ⟨by rw [r₂.length]; exact lim_line hl, ?_⟩
  have l₂ : Le ⟨h₁, τ₁, tk₁⟩ ⟨h₁.push { cls := .type "list", data := .seq vs.toArray }, τ₁, tk₁⟩ := Le.heap (Kp.push _ _)
  have e : f.Safe O h₁.objs.size := by
    have := RelK.safe_of_fresh (d := .il []) (v := .ref h₁.objs.size) (σ' := ⟨h₁.push { cls := .type "list", data := .seq ([] : List Value).toArray }, τ₁, tk₁⟩) I ⟨_, [], rfl, l₁.keep.none (get_size _), ⟨_, Heap.get?_push_size _ rfl⟩, .nil, Nat.zero_le _⟩
    obtain ⟨a, _, e, p, _⟩ := this
    cases e; exact p
  exact q _ _ _ τ₁ (l₁.trans l₂) ⟨_, vs, rfl, e, ⟨_, Heap.get?_push_size _ rfl⟩, r₂.mono fun _ _ z => z.step (l₂.step _), hl⟩
end

/-! ### names of the top, calls -/
structure Bn (W : Wd) (f : Fm) (x : Str) (v : Value) : Prop where
  kind : f.env.kindOf x = some .globalImplicit
  miss : nsIn W.K mainGlobals x = some none
  boot : bootBuiltins x = some v
  nn : x ≠ "__name__"
  nd : (x == ("__debug__" : Str)) = false

structure Fun (W : Wd) (x : Str) (a : Addr) (fd : FuncData) : Prop where
  name : nsIn W.K mainGlobals x = some (some (.ref a))
  obj : ∃ oc od osl, W.K.lookup a = some ⟨oc, od, .func fd, osl⟩
  nd : (x == ("__debug__" : Str)) = false

section
variable {W : Wd} {f : Fm} {δ : List Ent}
theorem Bn.ev {x : Str} {v : Value} {p : Pos} (b : Bn W f x v) {A : Around} {s : Shared} {τ : Tok → Int} {O : Own} (I : Inv W f O δ ⟨s.heap, τ, s.toks⟩) {Q : Value → Shared → Prop} {E : Value → Shared → Prop} (h : Q v s) :
    wpAny W.M A (eval (.Name x p) f.env) Q E s :=
  Calls.Name_function_global I.ok.kind b.kind (Calls.loadGlobal_builtin (env := f.env) (show s.heap.Ns f.env.globals W.mg from I.ok.glob ▸ I.g.T.g) (mg_none_of I.g.K I.g.T.g b.miss) (show s.heap.Ns f.env.builtins W.mb from I.ok.bi ▸ I.g.T.b) ((I.g.T.builtins x b.nn).trans b.boot) h) b.nd
theorem Fun.ev {x : Str} {a : Addr} {fd : FuncData} {p : Pos} (b : Fun W x a fd) (hk : f.env.kindOf x = some .globalImplicit) {A : Around} {s : Shared} {τ : Tok → Int} {O : Own} (I : Inv W f O δ ⟨s.heap, τ, s.toks⟩) {Q : Value → Shared → Prop} {E : Value → Shared → Prop} (h : Q (.ref a) s) :
    wpAny W.M A (eval (.Name x p) f.env) Q E s :=
  Calls.Name_function_global I.ok.kind hk (Calls.loadGlobal_global (env := f.env) (show s.heap.Ns f.env.globals W.mg from I.ok.glob ▸ I.g.T.g) (mg_of I.g.K I.g.T.g b.name) h) b.nd

theorem Ev.call1 {x : Str} {id : String} {p pos : Pos} {e : Expr} {k₁ : RK} {d₁ d : D} (b : Bn W f x (.builtin id)) (h : Ev W f e δ k₁ d₁) (ho : Op1 W (fun v => call (.builtin id) [v]) d₁ d) (hn : NS e := by intro _ _; rfl) :
    Ev W f (.Call (.Name x p) [e] [] pos) δ .fresh d := by
  intro A s τ O R I Q E q
  refine wpAny_Call_NameR (b.ev I ?_)
  have hs : (backTo pos (starEach [e] f.env)).any (·.1) = false := by rw [hn]; rfl
  refine Calls.callWith_builtin hs (args_plain hn (EvS.cons h EvS.nil hn A s τ O pos R I _ _ fun vs h₁ tk₁ τ₁ l₁ r₁ => ?_))
  cases r₁ with
  | cons r₁ r₂ =>
    cases r₂
    exact ho A _ τ₁ _ ((I.le l₁).calm R) r₁.any _ _ (Out.of l₁ q)

/-- isinstance(e, T) with a type that is a name of the built-ins -/
theorem Ev.isi {x y : Str} {T : String} {p p' pos : Pos} {e : Expr} {k₁ : RK} {d₁ d : D} (b : Bn W f x (.builtin "isinstance")) (b' : Bn W f y (.type T)) (h : Ev W f e δ k₁ d₁)
    (ho : Op1 W (fun v => call (.builtin "isinstance") [v, .type T]) d₁ d) (hn : NS e := by intro _ _; rfl) :
    Ev W f (.Call (.Name x p) [e, .Name y p'] [] pos) δ .fresh d := by
  intro A s τ O R I Q E q
  refine wpAny_Call_NameR (b.ev I ?_)
  have hs : (backTo pos (starEach [e, .Name y p'] f.env)).any (·.1) = false := by rw [hn]; rfl
  refine Calls.callWith_builtin hs (args_plain hn (wpAny_items_cons (h A s τ O R I _ _ fun v₁ h₁ tk₁ τ₁ l₁ r₁ => ?_) (hn _ _)))
  refine wpAny_items_cons (b'.ev (s := At2 s h₁ tk₁) (I.le l₁) (wpAny_items_nil ?_))
  exact ho A _ τ₁ _ ((I.le l₁).calm R) r₁.any _ _ (Out.of l₁ q)

def KP (k : RK) (h : Heap) : Addr → Prop := match k with
  | .fresh => fun a => h.get? a = none
  | _ => fun _ => True

/-- the frames under way, told -/
def FrOk (A : Around) (h : Heap) : Prop := ∃ outer, A.frames = some outer ∧ h.FunFrames {} outer

theorem empty_get (a : Addr) : ({} : Heap).get? a = none := by simp [Heap.get?]

theorem Room.told {A : Around} {O : Own} {σ : Sn} (R : Room f A) (I : Inv W f O δ σ) (hf : f.fr = true) : FrOk A σ.h := by
  obtain ⟨e, outer, h1, h2⟩ := R.frs hf
  obtain ⟨m, hn, _⟩ := I.loc
  exact ⟨_, h1, Heap.FunFrames.cons (by rw [I.ok.kind]; decide) e hn (empty_get _) (h2.of_keeps fun b o e _ => ⟨o, I.keep b o e, rfl⟩)⟩

/-- a def's contract -/
def Fn (W : Wd) (rk : Nat) (fx : Bool) (a : Addr) (ds : List D) (k : RK) (d : D) : Prop :=
  ∀ (A : Around) (s : Shared) (τ : Tok → Int) (vs : List Value), A.handled = none → A.depth + rk < recursionLimit → A.units + 8 * rk + 8 < cLine → (fx = true → FrOk A s.heap) → 0 < s.toks → W.G s.heap → L2 (Rel (fun _ => True) ⟨s.heap, τ, s.toks⟩) vs ds →
    ∀ (Q : Value → Shared → Prop) (E : Value → Shared → Prop), (∀ v h' tk τ', Le ⟨s.heap, τ, s.toks⟩ ⟨h', τ', tk⟩ → Rel (KP k s.heap) ⟨h', τ', tk⟩ v d → Q v (At2 s h' tk)) →
      wpAny W.M A (call (.ref a) vs) Q E s

theorem callWith_fun {a : Addr} {fd : FuncData} {x : Str} {e : Expr} {es : List Expr} {pos : Pos} {k₁ : RK} {ds : List D} (b : Fun W x a fd) (hn : NS e) (hs : EvS W f (e :: es) δ k₁ ds)
    {A : Around} {s : Shared} {τ : Tok → Int} {O : Own} (R : Room f A) (I : Inv W f O δ ⟨s.heap, τ, s.toks⟩) {Q : Value → Shared → Prop} {E : Value → Shared → Prop}
    (h : ∀ vs h₁ tk₁ τ₁, Le ⟨s.heap, τ, s.toks⟩ ⟨h₁, τ₁, tk₁⟩ → Inv W f O δ ⟨h₁, τ₁, tk₁⟩ → L2 (Rel (fun _ => True) ⟨h₁, τ₁, tk₁⟩) vs ds → wpAny W.M A (call (.ref a) vs) Q E (At2 s h₁ tk₁)) :
    wpAny W.M A (callWith pos (.ref a) [] (backTo pos (starEach (e :: es) f.env)) []) Q E s := by
  obtain ⟨oc, od, osl, ho⟩ := b.obj
  refine callWith_function_kw (o := ⟨oc, od, .func fd, osl⟩) (fd := fd) (args_plain hn (hs A s τ O pos R I _ _ fun vs h₁ tk₁ τ₁ l₁ r₁ => ?_))
  exact ⟨⟨(I.le l₁).g.K _ _ ho, rfl⟩, h vs h₁ tk₁ τ₁ l₁ (I.le l₁) (r₁.mono fun _ _ z => z.any)⟩

theorem Ev.call {x : Str} {a : Addr} {fd : FuncData} {p pos : Pos} {e : Expr} {es : List Expr} {k₁ k : RK} {ds : List D} {d : D} {rk : Nat} {fx : Bool} (b : Fun W x a fd) (hk : f.env.kindOf x = some .globalImplicit) (hs : EvS W f (e :: es) δ k₁ ds) (hc : Fn W rk fx a ds k d) (hr : rk ≤ f.rk) (hx : fx = true → f.fr = true)
    (hkk : k ≠ .safe := by intro h; cases h) (hn : NS e := by intro _ _; rfl) : Ev W f (.Call (.Name x p) (e :: es) [] pos) δ k d := by
  intro A s τ O R I Q E q
  refine wpAny_Call_NameR (b.ev hk I (callWith_fun b hn hs R I fun vs h₁ tk₁ τ₁ l₁ I₁ r₁ => ?_))
  have h1 := R.depth
  have h2 := R.units
  refine hc A (At2 s h₁ tk₁) τ₁ vs R.hh (by omega) (by omega) (fun q => R.told I₁ (hx q)) I₁.pos I₁.g r₁ _ _ fun v h₂ tk₂ τ₂ l₂ r₂ => ?_
  refine q v h₂ tk₂ τ₂ (l₁.trans l₂) ?_
  cases k with
  | fresh => exact Rel.monoP (fun a e => l₁.keep.none e) r₂
  | safe => exact absurd rfl hkk
  | any => exact r₂

/-! ### tests -/
theorem Ev.ite {t b o : Expr} {pos : Pos} {c : Bool} {k : RK} {d : D} (ht : EvT W f t δ c) (h1 : c = true → Ev W f b δ k d) (h2 : c = false → Ev W f o δ k d) : Ev W f (.IfExp t b o pos) δ k d := by
  intro A s τ O R I Q E q
  refine wpAny_IfExp (ht A s τ O R I _ _ fun h₁ tk₁ τ₁ l₁ => ?_)
  have back : ∀ v h' tk τ', Le ⟨h₁, τ₁, tk₁⟩ ⟨h', τ', tk⟩ → RelK f O h₁ k ⟨h', τ', tk⟩ v d → Q v (At2 s h' tk) := fun v h' tk τ' l r => q v h' tk τ' (l₁.trans l) (by
    cases k with
    | fresh => exact Rel.monoP (fun a e => l₁.keep.none e) r
    | safe => exact r
    | any => exact r)
  cases c with
  | true => exact h1 rfl A (At2 s h₁ tk₁) τ₁ O R (I.le l₁) _ _ back
  | false => exact h2 rfl A (At2 s h₁ tk₁) τ₁ O R (I.le l₁) _ _ back

theorem EvT.val {e : Expr} {k : RK} {b : Bool} (h : Ev W f e δ k (.bool b)) (he : ∀ whole, isTrue e f.env whole = (do let v ← whole; standAt e.pos; holding [v] (truthy v)) := by intro _; rfl) : EvT W f e δ b := by
  intro A s τ O R I Q E q
  refine wpAny_isTrue_value (h A s τ O R I _ _ fun v h₁ tk₁ τ₁ l₁ r₁ => ?_) (he _)
  have : v = .bool b := r₁.any
  subst this
  exact wpAny_truthy_bool (q h₁ tk₁ τ₁ l₁)
theorem EvT.cmp {op : CmpOp} {l r : Expr} {pos : Pos} {k₁ k₂ : RK} {d₁ d₂ : D} {b : Bool} (hl : Ev W f l δ k₁ d₁) (hr : Ev W f r δ k₂ d₂) (ho : Op2 W (compareOp op) d₁ d₂ (.bool b))
    (hm : behindInMarks op r = false := by with_unfolding_all rfl) : EvT W f (.Compare l [op] [r] pos) δ b := by
  intro A s τ O R I Q E q
  refine wpAny_isTrue_Compare1 (hl.two hr R I fun v₁ v₂ h' tk τ' l' I' r₁ r₂ => ?_) hm
  refine ho A _ τ' v₁ v₂ (I'.calm R) r₁.any r₂.any _ _ fun v h₂ tk₂ τ₂ l₂ r => ?_
  have : v = .bool b := r
  subst this
  exact wpAny_truthy_bool (q h₂ tk₂ τ₂ (l'.trans l₂))
theorem EvT.not {x : Expr} {pos : Pos} {b : Bool} (h : EvT W f x δ b) : EvT W f (.UnaryOp .Not x pos) δ (!b) := by
  intro A s τ O R I Q E q
  exact wpAny_isTrue_Not (h A s τ O R I _ _ fun h₁ tk₁ τ₁ l₁ => q h₁ tk₁ τ₁ l₁)

def EvA (W : Wd) (f : Fm) (op : BoolOp) (es : List Expr) (δ : List Ent) (b : Bool) : Prop :=
  ∀ (A : Around) (s : Shared) (τ : Tok → Int) (O : Own), Room f A → Inv W f O δ ⟨s.heap, τ, s.toks⟩ →
    ∀ (Q : Bool → Shared → Prop) (E : Value → Shared → Prop), (∀ h' tk τ', Le ⟨s.heap, τ, s.toks⟩ ⟨h', τ', tk⟩ → Q b (At2 s h' tk)) → wpAny W.M A (allTrue op es f.env) Q E s
theorem EvA.and_nil : EvA W f .And [] δ true := fun A s τ O R I Q E q => wpAny_allTrue_And_nil (q s.heap s.toks τ (Le.refl _))
theorem EvA.or_nil : EvA W f .Or [] δ false := fun A s τ O R I Q E q => wpAny_allTrue_Or_nil (q s.heap s.toks τ (Le.refl _))
theorem EvA.and_cons {x : Expr} {es : List Expr} {b c : Bool} (h : EvT W f x δ b) (hs : b = true → EvA W f .And es δ c) : EvA W f .And (x :: es) δ (b && c) := by
  intro A s τ O R I Q E q
  refine wpAny_allTrue_And_cons (h A s τ O R I _ _ fun h₁ tk₁ τ₁ l₁ => ?_)
  cases b with
  | true => exact hs rfl A (At2 s h₁ tk₁) τ₁ O R (I.le l₁) _ _ fun h₂ tk₂ τ₂ l₂ => q h₂ tk₂ τ₂ (l₁.trans l₂)
  | false => exact q h₁ tk₁ τ₁ l₁
theorem EvA.or_cons {x : Expr} {es : List Expr} {b c : Bool} (h : EvT W f x δ b) (hs : b = false → EvA W f .Or es δ c) : EvA W f .Or (x :: es) δ (b || c) := by
  intro A s τ O R I Q E q
  refine wpAny_allTrue_Or_cons (h A s τ O R I _ _ fun h₁ tk₁ τ₁ l₁ => ?_)
  cases b with
  | true => exact q h₁ tk₁ τ₁ l₁
  | false => exact hs rfl A (At2 s h₁ tk₁) τ₁ O R (I.le l₁) _ _ fun h₂ tk₂ τ₂ l₂ => q h₂ tk₂ τ₂ (l₁.trans l₂)
theorem EvT.bool {op : BoolOp} {es : List Expr} {pos : Pos} {b : Bool} (h : EvA W f op es δ b) : EvT W f (.BoolOp op es pos) δ b := by
  intro A s τ O R I Q E q
  exact wpAny_isTrue_BoolOp (h A s τ O R I _ _ q)

theorem Ev.and2 {x y : Expr} {pos : Pos} {k₁ k₂ : RK} {b c : Bool} (h1 : Ev W f x δ k₁ (.bool b)) (h2 : b = true → Ev W f y δ k₂ (.bool c)) : Ev W f (.BoolOp .And [x, y] pos) δ .fresh (.bool (b && c)) := by
  intro A s τ O R I Q E q
  refine wpAny_And2 (h1 A s τ O R I _ _ fun v h₁ tk₁ τ₁ l₁ r₁ => ?_)
  have : v = .bool b := r₁.any
  subst this
  refine wpAny_truthy_bool ?_
  cases b with
  | true => exact h2 rfl A (At2 s h₁ tk₁) τ₁ O R (I.le l₁) _ _ fun v h₂ tk₂ τ₂ l₂ r₂ => q v h₂ tk₂ τ₂ (l₁.trans l₂) (show v = .bool c from r₂.any)
  | false => exact q _ h₁ tk₁ τ₁ l₁ rfl
theorem Ev.or2 {x y : Expr} {pos : Pos} {k₁ k₂ : RK} {b c : Bool} (h1 : Ev W f x δ k₁ (.bool b)) (h2 : b = false → Ev W f y δ k₂ (.bool c)) : Ev W f (.BoolOp .Or [x, y] pos) δ .fresh (.bool (b || c)) := by
  intro A s τ O R I Q E q
  refine wpAny_Or2 (h1 A s τ O R I _ _ fun v h₁ tk₁ τ₁ l₁ r₁ => ?_)
  have : v = .bool b := r₁.any
  subst this
  refine wpAny_truthy_bool ?_
  cases b with
  | true => exact q _ h₁ tk₁ τ₁ l₁ rfl
  | false => exact h2 rfl A (At2 s h₁ tk₁) τ₁ O R (I.le l₁) _ _ fun v h₂ tk₂ τ₂ l₂ r₂ => q v h₂ tk₂ τ₂ (l₁.trans l₂) (show v = .bool c from r₂.any)

/-- 0 <= e <= t, all ints -/
theorem EvT.chain {op₁ op₂ : CmpOp} {a b c : Expr} {pos : Pos} {k₁ k₂ k₃ : RK} {d₁ d₂ d₃ : D} {x y : Bool} (h1 : Ev W f a δ k₁ d₁) (h2 : Ev W f b δ k₂ d₂) (h3 : Ev W f c δ k₃ d₃)
    (o1 : Op2 W (compareOp op₁) d₁ d₂ (.bool x)) (o2 : Op2 W (compareOp op₂) d₂ d₃ (.bool y)) (hm : ∀ ea eb, markedEach [op₁, op₂] [b, c] [ea, eb] = [ea, eb] := by intro _ _; rfl) :
    EvT W f (.Compare a [op₁, op₂] [b, c] pos) δ (x && y) := by
  intro A s τ O R I Q E q
  have e0 : isTrue (.Compare a [op₁, op₂] [b, c] pos) f.env (eval (.Compare a [op₁, op₂] [b, c] pos) f.env) = (do testChain pos (← eval a f.env) [op₁, op₂] (markedEach [op₁, op₂] [b, c] [eval b f.env, eval c f.env])) := rfl
  rw [e0, hm]
  refine wpAny_bind (h1 A s τ O R I _ _ fun v₁ h₁ tk₁ τ₁ l₁ r₁ => ?_)
  show wpAny W.M A (do
    let rv ← holding [v₁] (eval b f.env)
    standAt pos
    let cc ← holding [v₁, rv] (compareOp op₁ v₁ rv)
    release [v₁, rv] [cc]
    if ← holding [cc, rv] (truthy cc) then testChain pos rv [op₂] [eval c f.env] else pure false) Q E _
  have I₁ : Inv W f O δ ⟨h₁, τ₁, tk₁⟩ := I.le l₁
  refine wpAny_bind (wpAny_holding (h2 A (At2 s h₁ tk₁) τ₁ O R I₁ _ _ fun v₂ h₂ tk₂ τ₂ l₂ r₂ => ?_))
  have I₂ : Inv W f O δ ⟨h₂, τ₂, tk₂⟩ := I₁.le l₂
  refine wpAny_bind (wpAny_standAt (wpAny_bind (wpAny_holding (o1 A (At2 s h₂ tk₂) τ₂ v₁ v₂ (I₂.calm R) (r₁.any.le l₂) r₂.any _ _ fun v h₃ tk₃ τ₃ l₃ r₃ => ?_))))
  have : v = .bool x := r₃
  subst this
  refine wpAny_bind (wpAny_release (wpAny_bind (wpAny_holding (wpAny_truthy_bool ?_))))
  have I₃ : Inv W f O δ ⟨h₃, τ₃, tk₃⟩ := I₂.le l₃
  have l₀ := (l₁.trans l₂).trans l₃
  cases x with
  | false => exact wpAny_pure (q h₃ tk₃ τ₃ l₀)
  | true =>
    show wpAny W.M A (do
      let rv ← holding [v₂] (eval c f.env)
      standAt pos
      let cc ← operate [v₂, rv] (compareOp op₂ v₂ rv)
      holding [cc] (truthy cc)) Q E _
    refine wpAny_bind (wpAny_holding (h3 A (At2 s h₃ tk₃) τ₃ O R I₃ _ _ fun v₃ h₄ tk₄ τ₄ l₄ r₄ => ?_))
    have I₄ : Inv W f O δ ⟨h₄, τ₄, tk₄⟩ := I₃.le l₄
    refine wpAny_bind (wpAny_standAt (wpAny_bind (wpAny_operating (o2 A (At2 s h₄ tk₄) τ₄ v₂ v₃ (I₄.calm R) (r₂.any.le (l₃.trans l₄)) r₄.any _ _ fun v h₅ tk₅ τ₅ l₅ r₅ => ?_))))
    have : v = .bool y := r₅
    subst this
    exact wpAny_holding (wpAny_truthy_bool (q h₅ tk₅ τ₅ ((l₀.trans l₄).trans l₅)))
end

/-! ## 9. Identity of ints -/
theorem ns_none_of {K : Frag} {h : Heap} {a : Addr} {m : Str → Option Value} {n : Str} (X : K.In h) (G : h.Ns a m) (e : nsIn K a n = some none) : m n = none := by
  obtain ⟨o, es, ep, ho, hd, _, hf⟩ := G
  unfold nsIn at e
  split at e
  · rename_i q
    have := X _ _ q
    rw [ho] at this
    cases this
    cases hd
    split at e
    · cases e
    · rename_i he
      rw [← hf]
      unfold nsFind findBy
      rw [← Array.find?_toList, he]
      rfl
  · cases e

section
variable {W : Wd}
theorem told_none {A : Around} {s : Shared} {t : Tok} {Q : Bool → Shared → Prop} {E : Value → Shared → Prop} (g : W.G s.heap) (hS : nsIn W.K cStatics sharingNotToldKey = some none) (h : Q false s) :
    wpAny W.M A (sharingNotTold t) Q E s := by
  obtain ⟨mc, hn, _⟩ := g.T.nolimit
  unfold sharingNotTold
  refine wpAny_bind (wpAny_nsGet hn ?_)
  rw [ns_none_of g.K hn hS]
  exact wpAny_pure h

theorem same_int {A : Around} {s : Shared} {τ : Tok → Int} {v₁ v₂ : Value} {p q : Int} {Q : Bool → Shared → Prop} {E : Value → Shared → Prop} (g : W.G s.heap) (hS : nsIn W.K cStatics sharingNotToldKey = some none)
    (h1 : GI ⟨s.heap, τ, s.toks⟩ v₁ p) (h2 : GI ⟨s.heap, τ, s.toks⟩ v₂ q) (h : ∀ b, (b = true → p = q) → Q b s) : wpAny W.M A (isSame v₁ v₂) Q E s := by
  obtain ⟨t, rfl, t0, _, tp⟩ := h1
  obtain ⟨u, rfl, u0, _, up⟩ := h2
  have z : ¬ ((t == 0 || u == 0) = true) := fun x => by
    rcases (Bool.or_eq_true _ _).mp x with y | y
    · rw [beq_iff_eq.mp y] at t0; exact Nat.lt_irrefl _ t0
    · rw [beq_iff_eq.mp y] at u0; exact Nat.lt_irrefl _ u0
  show wpAny W.M A (if (p == q && smallInt p) = true then isSame.cachedInt t u else isSame.created (p == q) t u) Q E s
  by_cases e : (p == q && smallInt p) = true
  · rw [if_pos e]
    unfold isSame.cachedInt
    rw [if_neg z]
    refine wpAny_bind (wpAny_rule (wpAny_pure (h true fun _ => ?_)))
    rw [Bool.and_eq_true] at e
    exact beq_iff_eq.mp e.1
  · rw [if_neg e]
    unfold isSame.created
    rw [if_neg z]
    by_cases tu : (t == u) = true
    · have : t = u := beq_iff_eq.mp tu
      subst this
      rw [if_pos tu]
      exact wpAny_pure (h true fun _ => tp.symm.trans up)
    · rw [if_neg tu]
      by_cases pq : p = q
      · have : (!(p == q)) = false := by simp [pq]
        rw [this]
        show wpAny W.M A (sharingNotTold t >>= _) Q E s
        refine wpAny_bind (told_none g hS ?_)
        show wpAny W.M A (sharingNotTold u >>= _) Q E s
        refine wpAny_bind (told_none g hS ?_)
        show wpAny W.M A (rule _ >>= _) Q E s
        refine wpAny_bind (wpAny_rule ?_)
        refine wpAny_bind (wpAny_askSetting ?_)
        exact wpAny_pure (h _ fun _ => pq)
      · have : (!(p == q)) = true := by simp [pq]
        rw [this]
        exact wpAny_pure (h false fun x => by cases x)
end

/-- i is b or i == b, for ints -/
theorem EvT.isOr {W : Wd} {f : Fm} {δ : List Ent} {l r l' r' : Expr} {p₁ p₂ p₃ : Pos} {k₁ k₂ : RK} {p q : Int} (hS : nsIn W.K cStatics sharingNotToldKey = some none) (hl : Ev W f l δ k₁ (.int p)) (hr : Ev W f r δ k₂ (.int q))
    (hl' : Ev W f l' δ k₁ (.int p)) (hr' : Ev W f r' δ k₂ (.int q))
    (hm : behindInMarks .Is r = false := by with_unfolding_all rfl) (hm' : behindInMarks .Eq r' = false := by with_unfolding_all rfl) :
    EvT W f (.BoolOp .Or [.Compare l [.Is] [r] p₁, .Compare l' [.Eq] [r'] p₂] p₃) δ (p == q) := by
  refine EvT.bool ?_
  intro A s τ O R I Q E k
  refine wpAny_allTrue_Or_cons (wpAny_isTrue_Compare1 (hl.two hr R I fun v₁ v₂ h' tk τ' l' I' r₁ r₂ => ?_) hm)
  show wpAny W.M A (isSame v₁ v₂ >>= fun b => pure (Value.bool b)) _ E _
  refine wpAny_bind (same_int (s := At2 s h' tk) (τ := τ') I'.g hS r₁.any r₂.any fun b hb => wpAny_pure (wpAny_truthy_bool ?_))
  cases b with
  | true =>
    have : (p == q) = true := beq_iff_eq.mpr (hb rfl)
    rw [this] at k
    exact k h' tk τ' l'
  | false =>
    have := (EvA.or_cons (EvT.cmp hl' hr' (Op2.ii (op_eq (W := W))) hm' (pos := p₂)) fun _ => EvA.or_nil (W := W) (f := f) (δ := δ)) A (At2 s h' tk) τ' O R I' Q E fun h₂ tk₂ τ₂ l₂ => by
      rw [Bool.or_false]; exact k h₂ tk₂ τ₂ (l'.trans l₂)
    exact this

/-! ## 10. Iterators -/
structure ItL (P : Addr → Prop) (σ : Sn) (I l : Addr) (ds : List D) (j : Nat) : Prop where
  iter : σ.h.IsListIter I l j
  lst : ∃ vs : List Value, σ.h.IsList l vs.toArray ∧ L2 (Rel P σ) vs ds
structure ItR (σ : Sn) (I : Addr) (a : Int) (ds : List D) (j : Nat) : Prop where
  iter : IsRangeIter σ.h I (a + (j : Int)) ((ds.length : Int) - (j : Int)) 1
  all : ∀ k, k < ds.length → ds[k]? = some (.int (a + (k : Int)))

def It (P : Addr → Prop) (σ : Sn) (I : Addr) (S : List Addr) (ds : List D) (j : Nat) : Prop :=
  (∃ l, S = [l] ∧ ItL P σ I l ds j) ∨ (S = [] ∧ ∃ a, ItR σ I a ds j)

theorem It.step {P : Addr → Prop} {σ σ' : Sn} {I : Addr} {S : List Addr} {ds : List D} {j : Nat} (x : It P σ I S ds j) (hI : ∀ o, σ.h.get? I = some o → σ'.h.get? I = some o) (hS : ∀ l ∈ S, ∀ o, σ.h.get? l = some o → σ'.h.get? l = some o) (k : Step P σ σ') : It P σ' I S ds j := by
  rcases x with ⟨l, rfl, ⟨o, h1, h2, h3⟩, vs, ⟨o', h4, h5, h6⟩, h7⟩ | ⟨rfl, a, h1, h2⟩
  · exact .inl ⟨l, rfl, ⟨o, hI _ h1, h2, h3⟩, vs, ⟨o', hS l (.head _) _ h4, h5, h6⟩, h7.mono fun _ _ z => z.step k⟩
  · exact .inr ⟨rfl, a, hI _ h1, h2⟩

theorem It.here {P : Addr → Prop} {σ : Sn} {I : Addr} {S : List Addr} {ds : List D} {j : Nat} (x : It P σ I S ds j) : ∃ o, σ.h.get? I = some o ∧ (o.cls = .type "list_iterator" ∨ o.cls = .type "range_iterator") ∧ ∃ vs, o.data = .fields vs := by
  rcases x with ⟨l, rfl, ⟨o, h1, h2, h3⟩, _⟩ | ⟨rfl, a, h1, h2⟩
  · exact ⟨o, h1, .inl h2, _, h3⟩
  · exact ⟨_, h1, .inr rfl, _, rfl⟩
theorem It.notList {P : Addr → Prop} {σ : Sn} {I : Addr} {S : List Addr} {ds : List D} {j : Nat} (x : It P σ I S ds j) {a : Addr} {o : Obj} (h : σ.h.get? a = some o) (hc : o.cls = .type "list") : a ≠ I := by
  rintro rfl
  obtain ⟨o', h1, h2, _⟩ := x.here
  rw [h] at h1
  cases h1
  rw [hc] at h2
  rcases h2 with h2 | h2
  · exact absurd (Value.type.inj h2) (by decide)
  · exact absurd (Value.type.inj h2) (by decide)
theorem It.off {P : Addr → Prop} {σ : Sn} {I : Addr} {S : List Addr} {ds : List D} {j : Nat} (x : It P σ I S ds j) : ∀ l ∈ S, l ≠ I := by
  intro l hl
  rcases x with ⟨l', rfl, h1, vs, ⟨o', h4, h5, h6⟩, h7⟩ | ⟨rfl, _⟩
  · rw [List.mem_singleton.mp hl]
    exact It.notList (σ := σ) (P := P) (S := [l']) (.inl ⟨l', rfl, h1, vs, ⟨o', h4, h5, h6⟩, h7⟩) h4 h5
  · cases hl

section
variable {W : Wd} {A : Around} {s : Shared} {τ : Tok → Int} {E : Value → Shared → Prop} {P : Addr → Prop} {I : Addr} {S : List Addr} {ds : List D} {j : Nat}
theorem Step.but {h' : Heap} {tk : Nat} {τ' : Tok → Int} (x : It P ⟨s.heap, τ, s.toks⟩ I S ds j) (hs : Heap.SameBut I s.heap h') (ht : s.toks ≤ tk) (ha : ∀ t, t < s.toks → τ' t = τ t) (P' : Addr → Prop) : Step P' ⟨s.heap, τ, s.toks⟩ ⟨h', τ', tk⟩ :=
  ⟨fun b o _ hc e => (hs.2 b (x.notList e hc.1)).trans e, ht, ha⟩

theorem It.next {d : D} {Q : Option Value → Shared → Prop} (x : It P ⟨s.heap, τ, s.toks⟩ I S ds j) (hd : ds[j]? = some d) (p : 0 < s.toks)
    (h : ∀ v h' tk τ', Heap.SameBut I s.heap h' → s.toks ≤ tk → (∀ t, t < s.toks → τ' t = τ t) → Rel P ⟨h', τ', tk⟩ v d → It P ⟨h', τ', tk⟩ I S ds (j + 1) → Q (some v) (At2 s h' tk)) :
    wpAny W.M A (pyNext (.ref I)) Q E s := by
  have x0 := x
  rcases x with ⟨l, rfl, h1, vs, hl, hr⟩ | ⟨rfl, a, h1, h2⟩
  · obtain ⟨v, hv, hrel⟩ := hr.get' hd
    refine wpAny_pyNext_list_item h1 hl (by simpa using hv) fun h' hi hs => ?_
    have st : Step P ⟨s.heap, τ, s.toks⟩ ⟨h', τ, s.toks⟩ := Step.but x0 hs (Nat.le_refl _) (fun _ _ => rfl) P
    refine h v h' s.toks τ hs (Nat.le_refl _) (fun _ _ => rfl) (hrel.step st) (.inl ⟨l, rfl, hi, vs, ?_, hr.mono fun _ _ z => z.step st⟩)
    obtain ⟨o, ho, hc, r⟩ := hl
    exact ⟨o, (hs.2 l (x0.notList ho hc)).trans ho, hc, r⟩
  · have hlt : j < ds.length := by
      rcases Nat.lt_or_ge j ds.length with z | z
      · exact z
      · rw [List.getElem?_eq_none z] at hd; cases hd
    have e := (h2 j hlt).symm.trans hd
    cases e
    refine wpAny_pyNext_range_item h1 (by show 0 < (ds.length : Int) - (j : Int); omega) fun h' hi hs => ?_
    refine h _ h' _ (upd τ s.toks (a + (j : Int))) hs (Nat.le_succ _) (fun t ht => if_neg (Nat.ne_of_lt ht)) ⟨_, rfl, p, Nat.lt_succ_self _, if_pos rfl⟩ (.inr ⟨rfl, a, ?_, h2⟩)
    have e1 : a + ((j + 1 : Nat) : Int) = a + (j : Int) + 1 := by push_cast; omega
    have e2 : (ds.length : Int) - ((j + 1 : Nat) : Int) = (ds.length : Int) - (j : Int) - 1 := by push_cast; omega
    show IsRangeIter h' I (a + ((j + 1 : Nat) : Int)) _ 1
    rw [e1, e2]
    exact hi

theorem It.fin {Q : Option Value → Shared → Prop} (x : It P ⟨s.heap, τ, s.toks⟩ I S ds j) (hj : ds.length ≤ j) (hh : A.handled = none)
    (h : ∀ h', Heap.ExtBut I s.heap h' → Q none { s with heap := h' }) : wpAny W.M A (pyNext (.ref I)) Q E s := by
  rcases x with ⟨l, rfl, h1, vs, hl, hr⟩ | ⟨rfl, a, h1, h2⟩
  · refine wpAny_pyNext_list_end hh h1 hl ?_ h
    have := hr.length
    simp; omega
  · exact wpAny_pyNext_range_end hh h1 (by show (ds.length : Int) - (j : Int) ≤ 0; omega) h

theorem It.self {Q : Value → Shared → Prop} (x : It P ⟨s.heap, τ, s.toks⟩ I S ds j) (h : Q (.ref I) s) : wpAny W.M A (pyIter (.ref I)) Q E s := by
  rcases x with ⟨l, rfl, h1, vs, hl, hr⟩ | ⟨rfl, a, h1, h2⟩
  · exact wpAny_pyIter_listiter h1 h
  · exact wpAny_pyIter_rangeiter h1 h
end

/-- the expression is evaluated and an iterator is made of its value -/
def EvI (W : Wd) (f : Fm) (e : Expr) (δ : List Ent) (ds : List D) : Prop :=
  ∀ (A : Around) (s : Shared) (τ : Tok → Int) (O : Own), Room f A → Inv W f O δ ⟨s.heap, τ, s.toks⟩ →
    ∀ (Q : Value → Shared → Prop) (E : Value → Shared → Prop),
      (∀ I S h₁ h' tk τ', Le ⟨s.heap, τ, s.toks⟩ ⟨h₁, τ', tk⟩ → Kp h₁ h' → h₁.get? I = none → (∀ l ∈ S, (∃ o, h₁.get? l = some o ∧ o.cls = .type "list") ∧ ∀ y, (y, l) ∉ O) → It (f.Safe O) ⟨h', τ', tk⟩ I S ds 0 → Q (.ref I) (At2 s h' tk)) →
      wpAny W.M A (eval e f.env) (fun x s₁ => wpAny W.M A (pyIter x) Q E s₁) E s

section
variable {W : Wd} {f : Fm} {δ : List Ent}
theorem L2.toRel {P : Addr → Prop} {σ : Sn} : ∀ {vs : List Value} {l : List Int}, L2 (GI σ) vs l → L2 (Rel P σ) vs (l.map D.int)
  | _, _, .nil => .nil
  | _, _, .cons a b => .cons a (L2.toRel b)
theorem L2.toRelR {P : Addr → Prop} {σ : Sn} : ∀ {vs : List Value} {l : List (List Int)}, L2 (RI P σ) vs l → L2 (Rel P σ) vs (l.map D.il)
  | _, _, .nil => .nil
  | _, _, .cons a b => .cons a (L2.toRelR b)

theorem evI_list {A : Around} {s : Shared} {h₁ : Heap} {tk : Nat} {τ τ' : Tok → Int} {O : Own} {l : Addr} {vs : List Value} {ds : List D} {Q : Value → Shared → Prop} {E : Value → Shared → Prop} (k : Le ⟨s.heap, τ, s.toks⟩ ⟨h₁, τ', tk⟩)
    (hl : h₁.IsList l vs.toArray) (hr : L2 (Rel (f.Safe O) ⟨h₁, τ', tk⟩) vs ds) (hO : ∀ y, (y, l) ∉ O)
    (h : ∀ I S h₁ h' tk τ', Le ⟨s.heap, τ, s.toks⟩ ⟨h₁, τ', tk⟩ → Kp h₁ h' → h₁.get? I = none → (∀ l ∈ S, (∃ o, h₁.get? l = some o ∧ o.cls = .type "list") ∧ ∀ y, (y, l) ∉ O) → It (f.Safe O) ⟨h', τ', tk⟩ I S ds 0 → Q (.ref I) (At2 s h' tk)) :
    wpAny W.M A (pyIter (.ref l)) Q E (At2 s h₁ tk) := by
  refine wpAny_pyIter_list hl ?_
  have k' : Le ⟨h₁, τ', tk⟩ ⟨h₁.push { cls := .type "list_iterator", data := .fields #[.ref l, .int 0 0] }, τ', tk⟩ := Le.heap (Kp.push _ _)
  refine h _ [l] h₁ _ tk τ' k (Kp.push _ _) (get_size _) (fun l' hl' => ?_) (.inl ⟨l, rfl, ⟨_, Heap.get?_push_size _ rfl, rfl, rfl⟩, vs, hl.push _, hr.mono fun _ _ z => z.le k'⟩)
  rw [List.mem_singleton.mp hl']
  obtain ⟨o, ho, hc, _⟩ := hl
  exact ⟨⟨o, ho, hc⟩, hO⟩

theorem EvI.safe {e : Expr} {l : List Int} (h : Ev W f e δ .safe (.il l)) : EvI W f e δ (l.map D.int) := by
  intro A s τ O R I Q E q
  refine h A s τ O R I _ _ fun v h₁ tk₁ τ₁ l₁ r₁ => ?_
  obtain ⟨a, vs, rfl, p, hp, hg, _⟩ := r₁
  exact evI_list l₁ hp.isList (L2.toRel hg) p.2 q
theorem EvI.rows {e : Expr} {l : List (List Int)} (h : Ev W f e δ .safe (.rows l)) : EvI W f e δ (l.map D.il) := by
  intro A s τ O R I Q E q
  refine h A s τ O R I _ _ fun v h₁ tk₁ τ₁ l₁ r₁ => ?_
  obtain ⟨a, vs, rfl, p, hp, hg, _⟩ := r₁
  exact evI_list l₁ hp.isList (L2.toRelR hg) p.2 q
theorem EvI.par {x : Str} {p : Pos} {l : List Int} (he : (x, EK.par, D.il l) ∈ δ) (hd : (x == ("__debug__" : Str)) = false := by decide) : EvI W f (.Name x p) δ (l.map D.int) := by
  intro A s τ O R I Q E q
  obtain ⟨m, v, hn, ha, hr⟩ := I.load he
  obtain ⟨a, vs, rfl, pa, hp, hg, _⟩ := hr
  refine wpAny_Name (load_at I.ok.kind hn ha ?_) hd
  exact evI_list (Le.refl _) hp.isList (L2.toRel hg) (fun y hy => pa (I.own y a hy).1) q

theorem small_lim {a b : Int} (h1 : -1048576 ≤ a) (h2 : a ≤ 1048576) (h3 : -1048576 ≤ b) (h4 : b ≤ 1048576) : Builtin.Range.small a b 1 = true := small_one (by omega) (by omega) (by omega) (by omega)

def rng (a b : Int) : List Int := (List.range (b - a).toNat).map fun (k : Nat) => a + (k : Int)
theorem rng_length (a b : Int) : (rng a b).length = (b - a).toNat := by simp [rng]
theorem rng_get {a b : Int} {k : Nat} (h : k < (b - a).toNat) : (rng a b)[k]? = some (a + (k : Int)) := by simp [rng, h]

theorem itR_new {h : Heap} {τ : Tok → Int} {n : Nat} {a b : Int} {o : Obj} (hs : Builtin.Range.rangeSize a b 1 = ((b - a).toNat : Int)) :
    It (f.Safe O) ⟨h.push { cls := .type "range_iterator", data := .fields #[rawInt a, rawInt (Builtin.Range.rangeSize a b 1), rawInt 1] }, τ, n⟩ h.objs.size [] ((rng a b).map D.int) 0 := by
  refine .inr ⟨rfl, a, ?_, fun k hk => ?_⟩
  · show IsRangeIter _ _ (a + ((0 : Nat) : Int)) (((List.map D.int (rng a b)).length : Int) - ((0 : Nat) : Int)) 1
    have e1 : a + ((0 : Nat) : Int) = a := by simp
    have e2 : (((List.map D.int (rng a b)).length : Int) - ((0 : Nat) : Int)) = Builtin.Range.rangeSize a b 1 := by rw [hs, List.length_map, rng_length]; simp
    rw [e1, e2]
    exact Heap.get?_push_size _ rfl
  · rw [List.length_map, rng_length] at hk
    rw [List.getElem?_map, rng_get hk]; rfl
theorem rsize (a b : Int) : Builtin.Range.rangeSize a b 1 = ((b - a).toNat : Int) := by rw [rangeSize_one]; split <;> omega

theorem EvI.range1 {x : Str} {p pos : Pos} {e : Expr} {k₁ : RK} {n : Int} (b : Bn W f x (.type "range")) (h : Ev W f e δ k₁ (.int n)) (h1 : -1048576 ≤ n) (h2 : n ≤ 1048576) (hn : NS e := by intro _ _; rfl) :
    EvI W f (.Call (.Name x p) [e] [] pos) δ ((rng 0 n).map D.int) := by
  intro A s τ O R I Q E q
  refine wpAny_Call_NameR (b.ev I ?_)
  have hs : (backTo pos (starEach [e] f.env)).any (·.1) = false := by rw [hn]; rfl
  refine PySem.callWith_type hs (args_plain hn (EvS.cons h EvS.nil hn A s τ O pos R I _ _ fun vs h₁ tk₁ τ₁ l₁ r₁ => ?_))
  cases r₁ with
  | cons r₁ r₂ =>
    cases r₂
    obtain ⟨t, rfl, _⟩ := r₁.any
    refine call_range_1 ?_
    refine wpAny_pyIter_range (IsRange.new ..) (small_lim (by omega) (by omega) h1 h2) ?_
    refine q _ [] _ _ _ τ₁ (l₁.trans (Le.mk' (Kp.push _ _) (by show tk₁ ≤ tk₁ + 1 + 1; omega))) (Kp.push _ _) (get_size _) (fun l hl => nomatch hl) (itR_new (o := default) (rsize 0 n))
theorem EvI.range2 {x : Str} {p pos : Pos} {e e' : Expr} {k₁ : RK} {m n : Int} (b : Bn W f x (.type "range")) (h0 : Ev W f e δ k₁ (.int m)) (h : Ev W f e' δ k₁ (.int n)) (h1 : -1048576 ≤ n) (h2 : n ≤ 1048576) (h3 : -1048576 ≤ m) (h4 : m ≤ 1048576)
    (hn : NS e := by intro _ _; rfl) (hn' : NS e' := by intro _ _; rfl) : EvI W f (.Call (.Name x p) [e, e'] [] pos) δ ((rng m n).map D.int) := by
  intro A s τ O R I Q E q
  refine wpAny_Call_NameR (b.ev I ?_)
  have hs : (backTo pos (starEach [e, e'] f.env)).any (·.1) = false := by rw [hn, hn']; rfl
  refine PySem.callWith_type hs (args_plain hn (EvS.cons h0 (EvS.cons h EvS.nil hn') hn A s τ O pos R I _ _ fun vs h₁ tk₁ τ₁ l₁ r₁ => ?_))
  cases r₁ with
  | cons r₁ r₂ =>
    cases r₂ with
    | cons r₂ r₃ =>
      cases r₃
      obtain ⟨t, rfl, _⟩ := r₁.any
      obtain ⟨u, rfl, _⟩ := r₂.any
      refine call_range_2 ?_
      refine wpAny_pyIter_range (IsRange.new ..) (small_lim h3 h4 h1 h2) ?_
      exact q _ [] _ _ _ τ₁ (l₁.trans (Le.mk' (Kp.push _ _) (by show tk₁ ≤ tk₁ + 1; omega))) (Kp.push _ _) (get_size _) (fun l hl => nomatch hl) (itR_new (o := default) (rsize m n))
end

/-! ## 11. List comprehensions -/
def Fm.cf (f : Fm) (scope : Scope) (cl : List (Str × Addr)) (C : Addr) : Fm := ⟨compEnvC scope cl C f.env, f.h₀, f.rk, false⟩

/-- what a comprehension's block sees of its frame -/
structure Cap (f : Fm) (scope : Scope) (cl : List (Str × Addr)) (y : Str) : Prop where
  cell : f.env.kindOf y = some .cell
  same : cl.lookup y = f.env.cells.lookup y
  kind : (relabel scope f.env).names.lookup y = some .cell

structure Blk (f : Fm) (scope : Scope) (cl : List (Str × Addr)) (x : Str) : Prop where
  clos : closureFor scope f.env = pure cl
  cell : ∀ y ∈ scope.names, y.2 ≠ .cell
  kind : scope.kind = .function
  names : ∀ y ∈ scope.names, y.2 = .local → scope.names.lookup y.1 = some .local
  var : scope.names.lookup x = some .local
  sub : ∀ y c, cl.lookup y = some c → f.env.cells.lookup y = some c

theorem At.cap {f : Fm} {scope : Scope} {cl : List (Str × Addr)} {C : Addr} {h : Heap} {m m' : Str → Option Value} {y : Str} {v : Value} (c : Cap f scope cl y) (a : At f.env h m y v) : At (f.cf scope cl C).env h m' y v := by
  rcases a with ⟨h1, _⟩ | ⟨c', _, h2, h3⟩
  · rw [c.cell] at h1; cases h1
  · exact .inr ⟨c', .inl c.kind, by show cl.lookup y = _; rw [c.same]; exact h2, h3⟩

theorem Inv.comp {W : Wd} {f : Fm} {O : Own} {δ δc : List Ent} {σ : Sn} {scope : Scope} {cl : List (Str × Addr)} {C : Addr} {x : Str} {m : Str → Option Value} {v : Value} {d : D} (I : Inv W f O δ σ) (B : Blk f scope cl x)
    (hC : f.h₀.get? C = none) (hn : σ.h.Ns C m) (hv : m x = some v) (hr : Rel (f.Safe O) σ v d) (caps : ∀ e ∈ δc, e ∈ δ ∧ Cap f scope cl e.1) : Inv W (f.cf scope cl C) O ((x, .safe, d) :: δc) σ where
  ok := ⟨B.kind, I.ok.glob, I.ok.bi, I.ok.g, fun a b c h1 h2 => I.ok.apart a b c (B.sub _ _ h1) (B.sub _ _ h2), hC, fun a c h => I.ok.newC a c (B.sub _ _ h)⟩
  keep := I.keep
  pos := I.pos
  own := I.own
  inj := I.inj
  fn := I.fn
  cells := fun a c h => I.cells a c (B.sub _ _ h)
  loc := by
    refine ⟨m, hn, fun e he => ?_⟩
    rcases List.mem_cons.mp he with rfl | he
    · exact ⟨v, .inl ⟨lookup_relabel_local B.var, hv⟩, hr⟩
    · obtain ⟨m', _, h⟩ := I.loc
      obtain ⟨v', ha, hk⟩ := h e (caps e he).1
      exact ⟨v', ha.cap (caps e he).2, hk⟩

theorem Room.cf {f : Fm} {A : Around} {scope cl C} (R : Room f A) : Room (f.cf scope cl C) A := ⟨R.hh, R.depth, R.units, fun h => by cases h⟩

/-- the tests of a clause -/
def EvC (W : Wd) (f : Fm) (ifs : List Expr) (δ : List Ent) (b : Bool) : Prop := (ifs = [] ∧ b = true) ∨ ∃ c, ifs = [c] ∧ EvT W f c δ b

theorem ne_of_data {h : Heap} {a b : Addr} {o o' : Obj} (h1 : h.get? a = some o) (h2 : h.get? b = some o') (hd : o.data ≠ o'.data) : a ≠ b := by
  rintro rfl
  rw [h1] at h2; cases h2; exact hd rfl
theorem none_ne {h : Heap} {a b : Addr} {o : Obj} (h1 : h.get? a = none) (h2 : h.get? b = some o) : b ≠ a := by
  rintro rfl; rw [h1] at h2; cases h2

section
variable {W : Wd} {f : Fm} {δ δc : List Ent} {scope : Scope} {cl : List (Str × Addr)} {x : Str} {px : Pos} {elt iter : Expr} {ifs : List Expr} {pos : Pos} {l : List Int} {p : Int → Bool} {g : Int → D} {k : RK}

theorem L2.toNo {P P' : Addr → Prop} {σ : Sn} : ∀ {vs : List Value} {l : List Int}, L2 (Rel P σ) vs (l.map D.int) → L2 (Rel P' σ) vs (l.map D.int) := fun h => L2.toRel (L2.gi h)
theorem It.toNo {P P' : Addr → Prop} {σ : Sn} {I : Addr} {S : List Addr} {l : List Int} {j : Nat} (h : It P σ I S (l.map D.int) j) : It P' σ I S (l.map D.int) j := by
  rcases h with ⟨a, rfl, h1, vs, h2, h3⟩ | h
  · exact .inl ⟨a, rfl, h1, vs, h2, h3.toNo⟩
  · exact .inr h

theorem comp_block (B : Blk f scope cl x) (hl : l.length ≤ lim) (caps : ∀ e ∈ δc, e ∈ δ ∧ Cap f scope cl e.1)
    (htest : ∀ C i, i ∈ l → EvC W (f.cf scope cl C) ifs ((x, .safe, .int i) :: δc) (p i))
    (helt : ∀ C i, i ∈ l → p i = true → Ev W (f.cf scope cl C) elt ((x, .safe, .int i) :: δc) .fresh (g i))
    {A : Around} {s : Shared} {h₀ : Heap} {n₀ : Nat} {τ₀ τ : Tok → Int} {O : Own} {Ia : Addr} {S : List Addr} (R : Room f A) (I : Inv W f O δ ⟨h₀, τ₀, n₀⟩) (hle : Le ⟨h₀, τ₀, n₀⟩ ⟨s.heap, τ, s.toks⟩) (hI : h₀.get? Ia = none)
    (hS : ∀ a ∈ S, ∃ o, h₀.get? a = some o) (it : It (fun _ => False) ⟨s.heap, τ, s.toks⟩ Ia S (l.map D.int) 0) {RR : Value → Addr → Result → Shared → Prop} {E : Value → Shared → Prop}
    (hRR : ∀ D' C h' tk τ' m (ys : List Value), Le ⟨h₀, τ₀, n₀⟩ ⟨h', τ', tk⟩ → h₀.get? D' = none → h₀.get? C = none → D' ≠ C → h'.Ns C m → h'.PlainList D' ys.toArray → L2 (Rel (fun a => f.Safe O a ∧ a ≠ D') ⟨h', τ', tk⟩) ys ((l.filter p).map g) → RR (.ref D') C (.ok .next) (At2 s h' tk)) :
    wpAny W.M A (newList []) (fun acc s₃ => wpAny W.M A (newFunctionEnv scope f.env.globals cl [] f.env.qual none .none (some f.env)) (fun cenv s₄ =>
      codeAny W.M A (.compStart (.ListComp elt [⟨.Name x px, iter, ifs, 0⟩] scope pos) 0 (.ref Ia) acc { cenv with scope := relabel scope f.env }) (RR acc cenv.locals) s₄) E s₃) E s := by
  refine wpAny_newObj_type (wpAny_newFunctionEnv B.cell (by intro y hy; simp at hy) (fun h₁ hns₁ hsb₁ => ?_) B.kind)
  dsimp only at hns₁ hsb₁ ⊢
  generalize hH2 : s.heap.push { cls := .type "list", dict := none, data := .seq ([] : List Value).toArray } = H2 at hns₁ hsb₁ ⊢
  generalize hDd : s.heap.objs.size = Da at *
  have hC : H2.objs.size = Da + 1 := by rw [← hH2, Heap.size_push, hDd]
  generalize H2.objs.size = Ca at *
  have hDC : Da ≠ Ca := by rw [hC]; exact Nat.ne_of_lt (Nat.lt_succ_self _)
  have lt2 : ∀ b o, s.heap.get? b = some o → b ≠ Ca := fun b o e => by have := Heap.lt_size e; rw [hDd] at this; rw [hC]; exact Nat.ne_of_lt (Nat.lt_succ_of_lt this)
  have ltD : ∀ b o, s.heap.get? b = some o → b ≠ Da := fun b o e => by have := Heap.lt_size e; rw [hDd] at this; exact Nat.ne_of_lt this
  have hDnone : s.heap.get? Da = none := by rw [← hDd]; exact get_size _
  have old : Kp s.heap h₁ := fun b o e => hsb₁.extBut b o (lt2 b o e) (Heap.get?_push_of_some _ (hH2 ▸ Heap.get?_push_of_some _ e))
  have hacc : h₁.PlainList Da ([] : List Value).toArray := ⟨_, hsb₁.extBut _ _ hDC (Heap.get?_push_of_some _ (by rw [← hH2, ← hDd]; exact Heap.get?_push_size _ rfl))⟩
  have hD₀ : h₀.get? Da = none := hle.keep.none hDnone
  have hC₀ : h₀.get? Ca = none := hle.keep.none (by
    cases q : s.heap.get? Ca with
    | none => rfl
    | some o => exact absurd rfl (lt2 _ o q))
  have hIs := it.here
  have hIC : Ia ≠ Ca := by obtain ⟨o, e, _⟩ := hIs; exact lt2 _ o e
  have hID : Ia ≠ Da := by obtain ⟨o, e, _⟩ := hIs; exact ltD _ o e
  have hCf : f.h₀.get? Ca = none := I.keep.none hC₀
  have le₁ : Le ⟨s.heap, τ, s.toks⟩ ⟨h₁, τ, s.toks + ([] : List (Str × Value)).length⟩ := Le.mk' old (Nat.le_add_right _ _)
  have hSD : ∀ a ∈ S, a ≠ Ca ∧ a ≠ Da := fun a ha => by
    obtain ⟨o, e⟩ := hS a ha
    exact ⟨lt2 _ o (hle.keep _ _ e), ltD _ o (hle.keep _ _ e)⟩
  have it₁ : It (fun _ => False) ⟨h₁, τ, s.toks + ([] : List (Str × Value)).length⟩ Ia S (l.map D.int) 0 := it.step (fun o e => old _ _ e) (fun a _ o e => old _ _ e) (le₁.step _)
  let J : Nat → Shared → Prop := fun n s' => ∃ h' tk τ' j ys m, s' = At2 s h' tk ∧ n = l.length + 1 - j ∧ j ≤ l.length ∧ Le ⟨h₀, τ₀, n₀⟩ ⟨h', τ', tk⟩ ∧ It (fun _ => False) ⟨h', τ', tk⟩ Ia S (l.map D.int) j ∧
        h'.PlainList Da (ys : List Value).toArray ∧ L2 (Rel (fun a => f.Safe O a ∧ a ≠ Da) ⟨h', τ', tk⟩) ys (((l.take j).filter p).map g) ∧ h'.Ns Ca m
  have loop : ∀ s₃ : Shared, s₃ = { s with heap := h₁, toks := s.toks + ([] : List (Str × Value)).length } →
      codeAny W.M A (.compLoop (.ListComp elt [⟨.Name x px, iter, ifs, 0⟩] scope pos) 0 (.ref Ia) (.ref Da) (compEnvC scope cl Ca f.env))
        (RR (.ref Da) Ca) s₃ := by
    rintro s₃ rfl
    refine codeAny_compLoop_tests J ?_ (l.length + 1) ⟨h₁, _, τ, 0, [], _, rfl, by omega, Nat.zero_le _, hle.trans le₁, it₁, hacc, by simpa using L2.nil, hns₁⟩
    rintro n s' ⟨h', tk, τ', j, ys, m, rfl, rfl, hj, l', it', hp', hys, hn'⟩
    have I' : Inv W f O δ ⟨h', τ', tk⟩ := I.le l'
    by_cases hlt : j < l.length
    · have hget : l[j]? = some l[j] := List.getElem?_eq_getElem hlt
      generalize l[j] = i at hget
      have him : i ∈ l := List.mem_of_getElem? hget
      have htake : l.take (j + 1) = l.take j ++ [i] := by rw [List.take_add_one, hget]; rfl
      refine It.next (s := At2 s h' tk) it' (d := .int i) (by rw [List.getElem?_map, hget]; rfl) I'.pos fun v h₂ tk₂ τ₂ hs₂ ht₂ ha₂ hr₂ it₂ => ?_
      have keep₂ : Kp h₀ h₂ := fun b o e => (hs₂.2 b (none_ne hI e)).trans (l'.keep b o e)
      have l₂ : Le ⟨h₀, τ₀, n₀⟩ ⟨h₂, τ₂, tk₂⟩ := ⟨keep₂, Nat.le_trans l'.toks ht₂, fun t ht => (ha₂ t (Nat.lt_of_lt_of_le ht l'.toks)).trans (l'.agree t ht)⟩
      have hn₂ : h₂.Ns Ca m := hn'.sameBut hs₂ (Ne.symm hIC)
      refine wpAny_assign_Name (wpAny_storeName_local (s := At2 s h₂ tk₂) (lookup_relabel_local B.var) hn₂ (fun h₃ hn₃ hs₃ => ?_) (by simp [compEnvC, relabel, B.kind]))
      have hs₃' : Heap.SameBut Ca h₂ h₃ := hs₃
      have keep₃ : Kp h₀ h₃ := fun b o e => (hs₃'.2 b (none_ne hC₀ e)).trans (keep₂ b o e)
      have l₃ : Le ⟨h₀, τ₀, n₀⟩ ⟨h₃, τ₂, tk₂ + 1⟩ := ⟨keep₃, Nat.le_succ_of_le l₂.toks, l₂.agree⟩
      have nC : ∀ b o, h₂.get? b = some o → LObj o → b ≠ Ca := fun b o e hc => by
        obtain ⟨oc, es, ep, e1, e2, _⟩ := hn₂
        obtain ⟨_, its, n, hd⟩ := hc
        exact ne_of_data e e1 (by rw [hd, e2]; intro z; cases z)
      have st₃ : ∀ P, Step P ⟨h₂, τ₂, tk₂⟩ ⟨h₃, τ₂, tk₂ + 1⟩ := fun P => ⟨fun b o _ hc e => (hs₃'.2 b (nC b o e hc)).trans e, Nat.le_succ _, fun _ _ => rfl⟩
      have st₂ : ∀ P, Step P ⟨h', τ', tk⟩ ⟨h₂, τ₂, tk₂⟩ := fun P => Step.but (s := At2 s h' tk) it' hs₂ ht₂ ha₂ P
      have I₃ : Inv W f O δ ⟨h₃, τ₂, tk₂ + 1⟩ := I.le l₃
      have Ic : Inv W (f.cf scope cl Ca) O ((x, .safe, .int i) :: δc) ⟨h₃, τ₂, tk₂ + 1⟩ := I₃.comp (d := .int i) B hCf hn₃ (by simp) (hr₂.step (st₃ _)) caps
      have it₃ : It (fun _ => False) ⟨h₃, τ₂, tk₂ + 1⟩ Ia S (l.map D.int) (j + 1) := it₂.step (fun o e => (hs₃'.2 _ hIC).trans e) (fun a ha o e => (hs₃'.2 _ (hSD a ha).1).trans e) (st₃ _)
      obtain ⟨nD, hpD⟩ := hp'
      have hD₃ : h₃.PlainList Da ys.toArray := ⟨nD, (hs₃'.2 _ hDC).trans ((hs₂.2 _ (Ne.symm hID)).trans hpD)⟩
      have hys₃ : L2 (Rel (fun a => f.Safe O a ∧ a ≠ Da) ⟨h₃, τ₂, tk₂ + 1⟩) ys (((l.take j).filter p).map g) := hys.mono fun _ _ z => (z.step (st₂ _)).step (st₃ _)
      have turn : ∀ (b : Bool), p i = b → ∀ h₄ tk₄ τ₄, Le ⟨h₃, τ₂, tk₂ + 1⟩ ⟨h₄, τ₄, tk₄⟩ →
          (if b = true then wpAny W.M A (eval elt (compEnvC scope cl Ca f.env)) (fun x s₄ => wpAny W.M A (call (.builtin "list.append") [.ref Da, x]) (fun _ s₅ => ∃ m, m < l.length + 1 - j ∧ J m s₅)
              (notedBy W.M A (compEnvC scope cl Ca f.env) fun e s' => RR (.ref Da) Ca (.error e) s') s₄) (notedBy W.M A (compEnvC scope cl Ca f.env) fun e s' => RR (.ref Da) Ca (.error e) s') (At2 s h₄ tk₄)
          else ∃ m, m < l.length + 1 - j ∧ J m (At2 s h₄ tk₄)) := by
        intro b hb h₄ tk₄ τ₄ l₄
        have it₄ : It (fun _ => False) ⟨h₄, τ₄, tk₄⟩ Ia S (l.map D.int) (j + 1) := it₃.step (fun o e => l₄.keep _ _ e) (fun a _ o e => l₄.keep _ _ e) (l₄.step _)
        have hD₄ : h₄.PlainList Da ys.toArray := hD₃.at fun o e => l₄.keep _ _ e
        have hys₄ : L2 (Rel (fun a => f.Safe O a ∧ a ≠ Da) ⟨h₄, τ₄, tk₄⟩) ys (((l.take j).filter p).map g) := hys₃.mono fun _ _ z => z.le l₄
        cases b with
        | false =>
          rw [if_neg Bool.false_ne_true]
          refine ⟨_, ?_, h₄, tk₄, τ₄, j + 1, ys, _, rfl, rfl, hlt, l₃.trans l₄, it₄, hD₄, ?_, hn₃.keeps l₄.keep⟩
          · omega
          · rw [htake, List.filter_append, List.filter_cons_of_neg (by rw [hb]; exact Bool.false_ne_true)]
            simpa using hys₄
        | true =>
          rw [if_pos rfl]
          refine helt Ca i him hb A (At2 s h₄ tk₄) τ₄ O R.cf (Ic.le l₄) _ _ fun y h₅ tk₅ τ₅ l₅ r₅ => ?_
          have hD₅ : h₅.PlainList Da ys.toArray := hD₄.at fun o e => l₅.keep _ _ e
          have r₆ : Rel (fun a => f.Safe O a ∧ a ≠ Da) ⟨h₅, τ₅, tk₅⟩ y (g i) := by
            have : Rel (fun a => h₄.get? a = none) ⟨h₅, τ₅, tk₅⟩ y (g i) := r₅
            refine this.monoP fun a e => ⟨⟨(I₃.le l₄).keep.none e, fun z hz => ?_⟩, ?_⟩
            · obtain ⟨_, its, n, q⟩ := (I₃.le l₄).own z a hz; rw [q] at e; cases e
            · rintro rfl
              obtain ⟨n, q⟩ := hD₄
              rw [q] at e; cases e
          have hlen : ys.length ≤ lim := by
            rw [hys.length, List.length_map]
            exact Nat.le_trans (List.length_filter_le _ _) (Nat.le_trans (by rw [List.length_take]; exact Nat.min_le_right _ _) hl)
          refine wr_append (s := At2 s h₅ tk₅) hD₅ hlen fun h₆ hp₆ hs₆ => ?_
          have hs₆' : Heap.SameBut Da h₅ h₆ := hs₆
          have l₅' := (l₃.trans l₄).trans l₅
          have keep₆ : Kp h₀ h₆ := fun b o e => (hs₆'.2 b (none_ne hD₀ e)).trans (l₅'.keep _ _ e)
          have l₆ : Le ⟨h₀, τ₀, n₀⟩ ⟨h₆, τ₅, tk₅⟩ := ⟨keep₆, l₅'.toks, l₅'.agree⟩
          have st₆ : Step (fun a => f.Safe O a ∧ a ≠ Da) ⟨h₅, τ₅, tk₅⟩ ⟨h₆, τ₅, tk₅⟩ := ⟨fun b o q _ e => (hs₆'.2 b q.2).trans e, Nat.le_refl _, fun _ _ => rfl⟩
          have it₅ : It (fun _ => False) ⟨h₅, τ₅, tk₅⟩ Ia S (l.map D.int) (j + 1) := it₄.step (fun o e => l₅.keep _ _ e) (fun a _ o e => l₅.keep _ _ e) (l₅.step _)
          have hn₆ := ((hn₃.keeps l₄.keep).keeps l₅.keep).sameBut hs₆' (Ne.symm hDC)
          refine ⟨_, ?_, h₆, tk₅, τ₅, j + 1, ys ++ [y], _, rfl, rfl, hlt, l₆, it₅.step (fun o e => (hs₆'.2 _ hID).trans e) (fun a ha o e => (hs₆'.2 _ (hSD a ha).2).trans e) ⟨fun _ _ z => z.elim, Nat.le_refl _, fun _ _ => rfl⟩, hp₆, ?_, hn₆⟩
          · omega
          · rw [htake, List.filter_append, List.filter_cons_of_pos (by rw [hb])]
            rw [List.map_append]
            exact (hys₄.mono fun _ _ z => (z.le l₅).step st₆).append (.cons (r₆.step st₆) .nil)
      rcases htest Ca i him with ⟨rfl, hb⟩ | ⟨c, rfl, ht⟩
      · refine wpAny_tests_nil ?_
        exact turn true hb h₃ _ τ₂ (Le.refl _)
      · refine wpAny_tests_one (ht A (At2 s h₃ (tk₂ + 1)) τ₂ O R.cf Ic _ _ fun h₄ tk₄ τ₄ l₄ => ?_)
        exact turn (p i) rfl h₄ tk₄ τ₄ l₄
    · have hje : j = l.length := by omega
      subst hje
      refine It.fin (s := At2 s h' tk) it' (by simp) R.hh fun h₂ he₂ => ?_
      have keep₂ : Kp h₀ h₂ := fun b o e => he₂ b o (none_ne hI e) (l'.keep b o e)
      have st₂ : ∀ P, Step P ⟨h', τ', tk⟩ ⟨h₂, τ', tk⟩ := fun P => ⟨fun b o _ hc e => he₂ b o (it'.notList e hc.1) e, Nat.le_refl _, fun _ _ => rfl⟩
      obtain ⟨n, hp⟩ := hp'
      refine hRR _ _ h₂ tk τ' m ys ⟨keep₂, l'.toks, l'.agree⟩ hD₀ hC₀ hDC (hn'.extBut he₂ (Ne.symm hIC)) ⟨n, he₂ _ _ (Ne.symm hID) hp⟩ ?_
      rw [List.take_length] at hys
      exact hys.mono fun _ _ z => z.step (st₂ _)
  exact codeAny_compStart_list (loop _ rfl) (It.self it₁ (loop _ rfl))

/-- what a comprehension gives, by what its elements are -/
def compD (r : List D) (d : D) (k : RK) : Prop := (∃ l, r = l.map D.int ∧ d = .il l ∧ l.length ≤ lim ∧ k = .fresh) ∨ (∃ l, r = l.map D.il ∧ d = .rows l ∧ l.length ≤ lim ∧ k = .safe)

theorem compD.rel {O : Own} {r : List D} {d : D} {σ : Sn} {Da : Addr} {h₀ : Heap} {ys : List Value} (c : compD r d k) (hD : h₀.get? Da = none) (hS : f.Safe O Da) (hp : σ.h.PlainList Da ys.toArray) (hr : L2 (Rel (f.Safe O) σ) ys r) : RelK f O h₀ k σ (.ref Da) d := by
  rcases c with ⟨l, rfl, rfl, hl, rfl⟩ | ⟨l, rfl, rfl, hl, rfl⟩
  · exact ⟨Da, ys, rfl, hD, hp, L2.gi hr, hl⟩
  · exact ⟨Da, ys, rfl, hS, hp, L2.ri hr, hl⟩

theorem safe_new {O : Own} {σ : Sn} {a : Addr} (I : Inv W f O δ σ) (h : σ.h.get? a = none) : f.Safe O a :=
  ⟨I.keep.none h, fun y hy => by obtain ⟨_, its, n, q⟩ := I.own y a hy; rw [q] at h; cases h⟩

theorem Ev.comp {d : D} (B : Blk f scope cl x) (hi : EvI W f iter δ (l.map D.int)) (hl : l.length ≤ lim) (caps : ∀ e ∈ δc, e ∈ δ ∧ Cap f scope cl e.1)
    (htest : ∀ C i, i ∈ l → EvC W (f.cf scope cl C) ifs ((x, .safe, .int i) :: δc) (p i))
    (helt : ∀ C i, i ∈ l → p i = true → Ev W (f.cf scope cl C) elt ((x, .safe, .int i) :: δc) .fresh (g i)) (hd : compD ((l.filter p).map g) d k)
    (hs : ∀ v, foldedSetIterable iter f.env v = pure v := by intro _; rfl) : Ev W f (.ListComp elt [⟨.Name x px, iter, ifs, 0⟩] scope pos) δ k d := by
  intro A s τ O R I Q E q
  rw [eval_ListComp]
  refine wpAny_comprehension_free (use := none) rfl hs B.clos B.kind B.names (hi A s τ O R I _ _ fun Ia S h₁ h' tk τ' l₁ k₁ hI hS it => ?_)
  have I₁ : Inv W f O δ ⟨h₁, τ', tk⟩ := I.le l₁
  refine comp_block (s := At2 s h' tk) (RR := fun acc C => compPost W.M A E none Q acc C) B hl caps htest helt R I₁ (Le.heap k₁) hI (fun a ha => let ⟨⟨o, e, _⟩, _⟩ := hS a ha; ⟨o, e⟩) it.toNo fun Da C h₂ tk₂ τ₂ m ys l₂ hD hC hDC hn hp hys => ?_
  refine ⟨m, hn, fun h₃ hs₃ => ?_⟩
  have hs₃' : Heap.SameBut C h₂ h₃ := hs₃
  have keep₃ : Kp s.heap h₃ := fun b o e => (hs₃'.2 b (none_ne hC (l₁.keep _ _ e))).trans (l₂.keep _ _ (l₁.keep _ _ e))
  have nC : ∀ b o, h₂.get? b = some o → LObj o → b ≠ C := fun b o e hc => by
    obtain ⟨oc, es, ep, e1, e2, _⟩ := hn
    obtain ⟨_, its, n, hd⟩ := hc
    exact ne_of_data e e1 (by rw [hd, e2]; intro z; cases z)
  have st₃ : ∀ P, Step P ⟨h₂, τ₂, tk₂⟩ ⟨h₃, τ₂, tk₂⟩ := fun P => ⟨fun b o _ hc e => (hs₃'.2 b (nC b o e hc)).trans e, Nat.le_refl _, fun _ _ => rfl⟩
  obtain ⟨n, hpn⟩ := hp
  refine q _ h₃ tk₂ τ₂ ⟨keep₃, (l₁.trans l₂).toks, (l₁.trans l₂).agree⟩ (hd.rel (σ := ⟨h₃, τ₂, tk₂⟩) (l₁.keep.none hD) (safe_new I₁ hD) ⟨n, (hs₃'.2 _ hDC).trans hpn⟩ (hys.mono fun _ _ z => ((z.monoP fun _ y => y.1).step (st₃ _))))
end

/-! ## 12. Statements -/
theorem RI.there {P P' : Addr → Prop} {σ : Sn} {v : Value} {l : List Int} (k : ∀ b o, P b → σ.h.get? b = some o → P' b) : RI P σ v l → RI P' σ v l
  | ⟨a, vs, e, p, ⟨n, h1⟩, r⟩ => ⟨a, vs, e, k a _ p h1, ⟨n, h1⟩, r⟩
theorem Rel.there {P P' : Addr → Prop} {σ : Sn} {v : Value} {d : D} (h : Rel P σ v d) (k : ∀ b o, P b → σ.h.get? b = some o → P' b) : Rel P' σ v d := by
  cases d with
  | il l => exact RI.there k h
  | wl l => obtain ⟨a, vs, e, p, ⟨o, h1, h2⟩, r⟩ := h; exact ⟨a, vs, e, k a _ p h1, ⟨o, h1, h2⟩, r⟩
  | rows l => obtain ⟨a, vs, e, p, ⟨n, h1⟩, h2, h3⟩ := h; exact ⟨a, vs, e, k a _ p h1, ⟨n, h1⟩, h2.mono fun _ _ => RI.there k, h3⟩
  | _ => exact h
structure Tr (f : Fm) (O O' : Own) (σ σ' : Sn) : Prop where
  keep : ∀ b o, σ.h.get? b = some o → (∀ y, (y, b) ∉ O) → b ≠ f.env.locals → (∀ x, f.env.cells.lookup x ≠ some b) → σ'.h.get? b = some o
  alive : ∀ b o, σ.h.get? b = some o → ∃ o', σ'.h.get? b = some o'
  toks : σ.n ≤ σ'.n
  agree : ∀ t, t < σ.n → σ'.τ t = σ.τ t
  own : ∀ y a, (y, a) ∈ O' → (y, a) ∈ O ∨ σ.h.get? a = none

theorem Tr.refl {f O σ} : Tr f O O σ σ := ⟨fun _ _ e _ _ _ => e, fun _ o e => ⟨o, e⟩, Nat.le_refl _, fun _ _ => rfl, fun _ _ h => .inl h⟩
theorem Tr.trans {f O O' O'' σ σ' σ''} (x : Tr f O O' σ σ') (y : Tr f O' O'' σ' σ'') : Tr f O O'' σ σ'' where
  keep := fun b o e h1 h2 h3 => y.keep b o (x.keep b o e h1 h2 h3) (fun z hz => by
    rcases x.own z b hz with q | q
    · exact h1 z q
    · rw [q] at e; cases e) h2 h3
  alive := fun b o e => let ⟨o', e'⟩ := x.alive b o e; y.alive b o' e'
  toks := Nat.le_trans x.toks y.toks
  agree := fun t h => (y.agree t (Nat.lt_of_lt_of_le h x.toks)).trans (x.agree t h)
  own := fun z a h => by
    rcases y.own z a h with q | q
    · exact x.own z a q
    · right
      cases e : σ.h.get? a with
      | none => rfl
      | some o => obtain ⟨o', e'⟩ := x.alive a o e; rw [q] at e'; cases e'
theorem Tr.le {f O σ σ'} (l : Le σ σ') : Tr f O O σ σ' := ⟨fun b o e _ _ _ => l.keep b o e, fun b o e => ⟨o, l.keep b o e⟩, l.toks, l.agree, fun _ _ h => .inl h⟩

inductive Fl where
  | next | brk | cont | ret (d : D)

def FlR (f : Fm) (σ : Sn) (w : Flow) (l : Fl) : Prop := match l with
  | .next => w = .next
  | .brk => w = .brk
  | .cont => w = .cont
  | .ret d => ∃ v, w = .ret v ∧ Rel (fun a => f.h₀.get? a = none) σ v d

abbrev Pst := Fl → List Ent → Prop

/-- a statement, by what holds behind it -/
def W1 (W : Wd) (f : Fm) (st : Stmt) (δ : List Ent) (P : Pst) : Prop :=
  ∀ (A : Around) (s : Shared) (τ : Tok → Int) (O : Own), Room f A → Inv W f O δ ⟨s.heap, τ, s.toks⟩ →
    ∀ (Q : Flow → Shared → Prop) (E : Value → Shared → Prop),
      (∀ l w O' δ' h' tk τ', P l δ' → FlR f ⟨h', τ', tk⟩ w l → Inv W f O' δ' ⟨h', τ', tk⟩ → Tr f O O' ⟨s.heap, τ, s.toks⟩ ⟨h', τ', tk⟩ → Q w (At2 s h' tk)) →
      wpAny W.M A (exec st f.env) Q E s
def WS (W : Wd) (f : Fm) (ss : List Stmt) (δ : List Ent) (P : Pst) : Prop :=
  ∀ (A : Around) (s : Shared) (τ : Tok → Int) (O : Own), Room f A → Inv W f O δ ⟨s.heap, τ, s.toks⟩ →
    ∀ (Q : Flow → Shared → Prop) (E : Value → Shared → Prop),
      (∀ l w O' δ' h' tk τ', P l δ' → FlR f ⟨h', τ', tk⟩ w l → Inv W f O' δ' ⟨h', τ', tk⟩ → Tr f O O' ⟨s.heap, τ, s.toks⟩ ⟨h', τ', tk⟩ → Q w (At2 s h' tk)) →
      wpAny W.M A (execs ss f.env) Q E s

def seq (W : Wd) (f : Fm) (ss : List Stmt) (P : Pst) : Pst := fun l δ => match l with
  | .next => WS W f ss δ P
  | l => P l δ

section
variable {W : Wd} {f : Fm} {δ δ' : List Ent} {P : Pst}
theorem WS.nil (h : P .next δ) : WS W f [] δ P := fun A s τ O R I Q E q => wpAny_execs_nil (q .next .next O δ s.heap s.toks τ h rfl I Tr.refl)
theorem WS.cons {st : Stmt} {ss : List Stmt} (h : W1 W f st δ (seq W f ss P)) : WS W f (st :: ss) δ P := by
  intro A s τ O R I Q E q
  refine wpAny_execs_cons (h A s τ O R I _ _ fun l w O' δ' h' tk τ' hp hf I' T => ?_)
  cases l with
  | next =>
    have : w = .next := hf
    subst this
    exact hp A (At2 s h' tk) τ' O' R I' Q E fun l₂ w₂ O₂ δ₂ h₂ tk₂ τ₂ hp₂ hf₂ I₂ T₂ => q l₂ w₂ O₂ δ₂ h₂ tk₂ τ₂ hp₂ hf₂ I₂ (T.trans T₂)
  | brk => have : w = .brk := hf; subst this; exact q .brk _ O' δ' h' tk τ' hp hf I' T
  | cont => have : w = .cont := hf; subst this; exact q .cont _ O' δ' h' tk τ' hp hf I' T
  | ret d => have hf' := hf; obtain ⟨v, rfl, _⟩ := hf'; exact q (.ret d) _ O' δ' h' tk τ' hp hf I' T
theorem WS.mono {ss : List Stmt} {P' : Pst} (h : WS W f ss δ P) (k : ∀ l δ', P l δ' → P' l δ') : WS W f ss δ P' := fun A s τ O R I Q E q =>
  h A s τ O R I Q E fun l w O' δ' h' tk τ' hp => q l w O' δ' h' tk τ' (k _ _ hp)
theorem W1.mono {st : Stmt} {P' : Pst} (h : W1 W f st δ P) (k : ∀ l δ', P l δ' → P' l δ') : W1 W f st δ P' := fun A s τ O R I Q E q =>
  h A s τ O R I Q E fun l w O' δ' h' tk τ' hp => q l w O' δ' h' tk τ' (k _ _ hp)
theorem WS.sub {ss : List Stmt} (h : WS W f ss δ' P) (k : ∀ e ∈ δ', e ∈ δ) : WS W f ss δ P := fun A s τ O R I Q E q => h A s τ O R (I.sub k) Q E q
theorem W1.sub {st : Stmt} (h : W1 W f st δ' P) (k : ∀ e ∈ δ', e ∈ δ) : W1 W f st δ P := fun A s τ O R I Q E q => h A s τ O R (I.sub k) Q E q

theorem Inv.notL {O σ} (I : Inv W f O δ σ) {b : Addr} {o : Obj} (e : σ.h.get? b = some o) (h : LObj o) : b ≠ f.env.locals ∧ ∀ x, f.env.cells.lookup x ≠ some b := by
  obtain ⟨_, its, n, hd⟩ := h
  constructor
  · obtain ⟨m, ⟨ol, es, ep, e1, e2, _⟩, _⟩ := I.loc
    exact ne_of_data e e1 (by rw [hd, e2]; intro z; cases z)
  · intro x hx
    obtain ⟨v, oc, e1, e2⟩ := I.cells x b hx
    exact ne_of_data e e1 (by rw [hd, e2]; intro z; cases z) rfl

/-- x can be stored -/
def St (f : Fm) (x : Str) : Prop := f.env.kindOf x = some .local ∨ (f.env.kindOf x = some .cell ∧ (f.env.cells.lookup x).isSome = true)

theorem store_raw {O : Own} {A : Around} {s : Shared} {τ : Tok → Int} {x : Str} {v : Value} {m : Str → Option Value} {Q : Unit → Shared → Prop} {E : Value → Shared → Prop} (I : Inv W f O δ ⟨s.heap, τ, s.toks⟩) (hn : s.heap.Ns f.env.locals m) (hx : St f x)
    (h : ∀ h' tk m', s.toks ≤ tk → (∀ b o, s.heap.get? b = some o → b ≠ f.env.locals → (∀ y, f.env.cells.lookup y ≠ some b) → h'.get? b = some o) → (∀ b o, s.heap.get? b = some o → ∃ o', h'.get? b = some o') →
      (∀ y c, f.env.cells.lookup y = some c → ∃ v, h'.IsCell c v) → h'.Ns f.env.locals m' → (∀ y u, y ≠ x → At f.env s.heap m y u → At f.env h' m' y u) → At f.env h' m' x v →
      Q () (At2 s h' tk)) : wpAny W.M A (storeName f.env x v) Q E s := by
  have up : ∀ {a : Addr} {h' : Heap}, Heap.SameBut a s.heap h' → (∃ o, h'.get? a = some o) → ∀ b o, s.heap.get? b = some o → ∃ o', h'.get? b = some o' := fun {a h'} hs ha b o e => by
    by_cases q : b = a
    · subst q; exact ha
    · exact ⟨o, (hs.2 b q).trans e⟩
  rcases hx with hl | ⟨hc, hs⟩
  · refine wpAny_storeName_local hl hn (fun h' hn' hs' => ?_) (by rw [I.ok.kind]; rfl)
    have cl : ∀ y c, f.env.cells.lookup y = some c → c ≠ f.env.locals := fun y c e => by
      obtain ⟨v, oc, e1, e2⟩ := I.cells y c e
      obtain ⟨ol, es, ep, e3, e4, _⟩ := hn
      exact ne_of_data e1 e3 (by rw [e2, e4]; intro z; cases z)
    refine h h' _ _ (Nat.le_succ _) (fun b o e h1 _ => (hs'.2 b h1).trans e) (up hs' (by obtain ⟨o, _, _, e, _⟩ := hn'; exact ⟨o, e⟩)) (fun y c e => ?_) hn' (fun y u hy ha => ?_) (.inl ⟨hl, by simp⟩)
    · obtain ⟨v, q⟩ := I.cells y c e
      exact ⟨v, q.sameBut hs' (cl y c e)⟩
    · rcases ha with ⟨h1, h2⟩ | ⟨c, h1, h2, h3⟩
      · exact .inl ⟨h1, by simp [hy, h2]⟩
      · exact .inr ⟨c, h1, h2, h3.sameBut hs' (cl y c h2)⟩
  · obtain ⟨c, hcl⟩ := Option.isSome_iff_exists.mp hs
    obtain ⟨v₀, hv₀⟩ := I.cells x c hcl
    refine wpAny_storeName_cell I.ok.kind hc hcl hv₀ fun h' hv' hs' => ?_
    have hcL : c ≠ f.env.locals := by
      obtain ⟨oc, e1, e2⟩ := hv₀
      obtain ⟨ol, es, ep, e3, e4, _⟩ := hn
      exact ne_of_data e1 e3 (by rw [e2, e4]; intro z; cases z)
    refine h h' s.toks m (Nat.le_refl _) (fun b o e _ h2 => (hs'.2 b (fun q => h2 x (by rw [q]; exact hcl))).trans e) (up hs' (by obtain ⟨o, e, _⟩ := hv'; exact ⟨o, e⟩)) (fun y c' e => ?_) (hn.sameBut hs' (Ne.symm hcL)) (fun y u hy ha => ?_) (.inr ⟨c, .inl hc, hcl, hv'⟩)
    · by_cases q : c' = c
      · subst q; exact ⟨_, hv'⟩
      · obtain ⟨v, q'⟩ := I.cells y c' e
        exact ⟨v, q'.sameBut hs' q⟩
    · rcases ha with ⟨h1, h2⟩ | ⟨c', h1, h2, h3⟩
      · exact .inl ⟨h1, h2⟩
      · refine .inr ⟨c', h1, h2, h3.sameBut hs' fun q => hy (I.ok.apart y x c (by rw [← q]; exact h2) hcl)⟩

/-- facts that say nothing of x -/
def Off (δ' δ : List Ent) (x : Str) : Prop := ∀ e ∈ δ', e ∈ δ ∧ e.1 ≠ x

theorem Inv.restep {O : Own} {σ σ' : Sn} (I : Inv W f O δ σ) (keep : ∀ b o, σ.h.get? b = some o → b ≠ f.env.locals → (∀ y, f.env.cells.lookup y ≠ some b) → σ'.h.get? b = some o) (ht : σ.n ≤ σ'.n) (ha : ∀ t, t < σ.n → σ'.τ t = σ.τ t) :
    Kp f.h₀ σ'.h ∧ (∀ P, Step P σ σ') ∧ ∀ y a, (y, a) ∈ O → f.h₀.get? a = none ∧ ∃ its, σ'.h.PlainList a its := by
  refine ⟨fun b o e => keep b o (I.keep b o e) (none_ne I.ok.newL e) (fun y hy => none_ne (I.ok.newC y b hy) e rfl), fun P => ⟨fun b o _ hl e => keep b o e (I.notL e hl).1 (I.notL e hl).2, ht, ha⟩, fun y a h => ?_⟩
  obtain ⟨e, its, n, q⟩ := I.own y a h
  exact ⟨e, its, n, keep _ _ q (I.notL q ⟨rfl, _, _, rfl⟩).1 (I.notL q ⟨rfl, _, _, rfl⟩).2⟩

theorem store_safe {O : Own} {A : Around} {s : Shared} {τ : Tok → Int} {x : Str} {v : Value} {d : D} {Q : Unit → Shared → Prop} {E : Value → Shared → Prop} (I : Inv W f O δ ⟨s.heap, τ, s.toks⟩) (hx : St f x) (off : Off δ' δ x) (r : Rel (f.Safe O) ⟨s.heap, τ, s.toks⟩ v d)
    (h : ∀ h' tk, Inv W f O ((x, .safe, d) :: δ') ⟨h', τ, tk⟩ → Tr f O O ⟨s.heap, τ, s.toks⟩ ⟨h', τ, tk⟩ → (∀ P, Step P ⟨s.heap, τ, s.toks⟩ ⟨h', τ, tk⟩) → Q () (At2 s h' tk)) : wpAny W.M A (storeName f.env x v) Q E s := by
  obtain ⟨m, hn, loc⟩ := I.loc
  refine store_raw I hn hx fun h' tk m' ht keep alive cells hn' at' atx => ?_
  obtain ⟨hk, st, hown⟩ := I.restep (σ' := ⟨h', τ, tk⟩) keep ht (fun _ _ => rfl)
  refine h h' tk ⟨I.ok, hk, Nat.lt_of_lt_of_le I.pos ht, hown, I.inj, I.fn, cells, m', hn', fun e he => ?_⟩ ⟨fun b o e _ h2 h3 => keep b o e h2 h3, alive, ht, fun _ _ => rfl, fun _ _ z => .inl z⟩ st
  rcases List.mem_cons.mp he with rfl | he
  · exact ⟨v, atx, r.step (st _)⟩
  · obtain ⟨u, ha, hr⟩ := loc e (off e he).1
    exact ⟨u, at' _ _ (off e he).2 ha, hr.step (st _) (st _) fun _ _ => st _⟩

def Own.put (O : Own) (x : Str) (a : Addr) : Own := (x, a) :: O.filter (fun e => e.1 != x)

/-- x becomes the only name of a list that was made since the heap h₁ stood -/
theorem store_own {O : Own} {A : Around} {s : Shared} {τ : Tok → Int} {x : Str} {v : Value} {l : List Int} {h₁ : Heap} {τ₁ : Tok → Int} {n₁ : Nat} {Q : Unit → Shared → Prop} {E : Value → Shared → Prop} (I₁ : Inv W f O δ ⟨h₁, τ₁, n₁⟩) (l₁ : Le ⟨h₁, τ₁, n₁⟩ ⟨s.heap, τ, s.toks⟩) (hx : St f x) (off : Off δ' δ x)
    (r : Rel (fun a => h₁.get? a = none) ⟨s.heap, τ, s.toks⟩ v (.il l))
    (h : ∀ h' tk a, h₁.get? a = none → Inv W f (O.put x a) ((x, .own, .il l) :: δ') ⟨h', τ, tk⟩ → Tr f O (O.put x a) ⟨h₁, τ₁, n₁⟩ ⟨h', τ, tk⟩ → Q () (At2 s h' tk)) : wpAny W.M A (storeName f.env x v) Q E s := by
  have I : Inv W f O δ ⟨s.heap, τ, s.toks⟩ := I₁.le l₁
  obtain ⟨a, vs, rfl, ha, hp, hg, hl⟩ := r
  obtain ⟨m, hn₁, loc⟩ := I₁.loc
  refine store_raw I (hn₁.keeps l₁.keep) hx fun h' tk m' ht keep alive cells hn' at' atx => ?_
  obtain ⟨hk, st, hown⟩ := I.restep (σ' := ⟨h', τ, tk⟩) keep ht (fun _ _ => rfl)
  have hp' : h'.PlainList a vs.toArray := by obtain ⟨n, e⟩ := hp; exact ⟨n, (st (fun _ => True)).keep _ _ trivial ⟨rfl, _, _, rfl⟩ e⟩
  have new : ∀ y, (y, a) ∉ O := fun y hy => by obtain ⟨_, its, n, q⟩ := I₁.own y a hy; rw [q] at ha; cases ha
  have mem : ∀ y b, (y, b) ∈ O.put x a → (y = x ∧ b = a) ∨ ((y, b) ∈ O ∧ y ≠ x) := fun y b hm => by
    rcases List.mem_cons.mp hm with e | hm
    · cases e; exact .inl ⟨rfl, rfl⟩
    · obtain ⟨h1, h2⟩ := List.mem_filter.mp hm
      exact .inr ⟨h1, by simpa using h2⟩
  refine h h' tk a ha ⟨I.ok, hk, Nat.lt_of_lt_of_le I.pos ht, fun y b hm => ?_, fun y z b h1 h2 => ?_, fun y b c h1 h2 => ?_, cells, m', hn', fun e he => ?_⟩ ⟨fun b o e _ h2 h3 => keep b o (l₁.keep _ _ e) h2 h3, fun b o e => alive b o (l₁.keep _ _ e), Nat.le_trans l₁.toks ht, l₁.agree, fun y b hm => ?_⟩
  · rcases mem y b hm with ⟨_, rfl⟩ | ⟨hm, _⟩
    · exact ⟨I₁.keep.none ha, _, hp'⟩
    · exact hown y b hm
  · rcases mem y b h1 with ⟨e1, e2⟩ | ⟨h1, _⟩ <;> rcases mem z b h2 with ⟨e3, e4⟩ | ⟨h2, _⟩
    · rw [e1, e3]
    · rw [e2] at h2; exact absurd h2 (new z)
    · rw [e4] at h1; exact absurd h1 (new y)
    · exact I.inj y z b h1 h2
  · rcases mem y b h1 with ⟨e1, e2⟩ | ⟨h1, n1⟩ <;> rcases mem y c h2 with ⟨e3, e4⟩ | ⟨h2, n2⟩
    · rw [e2, e4]
    · exact absurd e1 n2
    · exact absurd e3 n1
    · exact I.fn y b c h1 h2
  · rcases List.mem_cons.mp he with rfl | he
    · exact ⟨_, atx, a, .head _, a, vs, rfl, rfl, hp', hg.mono fun _ _ z => GI.le (a := ⟨s.heap, τ, s.toks⟩) (b := ⟨h', τ, tk⟩) ht (fun _ _ => rfl) z, hl⟩
    · obtain ⟨u, hau, hr⟩ := loc e (off e he).1
      refine ⟨u, at' _ _ (off e he).2 (hau.keep l₁.keep), ?_⟩
      have hne := (off e he).2
      obtain ⟨y, k, d⟩ := e
      cases k with
      | safe =>
        have r₂ : Rel (fun b => f.Safe O b ∧ b ≠ a) ⟨h₁, τ₁, n₁⟩ u d := Rel.there (P := f.Safe O) hr fun b o p e => ⟨p, by rintro rfl; rw [ha] at e; cases e⟩
        exact ((r₂.le l₁).step (st _)).monoP fun b q => ⟨q.1.1, fun z hz => by
          rcases mem z b hz with ⟨_, rfl⟩ | ⟨hz, _⟩
          · exact q.2 rfl
          · exact q.1.2 z hz⟩
      | par => exact Rel.step (st _) (Rel.le l₁ hr)
      | own =>
        obtain ⟨b, hb, hr'⟩ := hr
        exact ⟨b, List.mem_cons_of_mem _ (List.mem_filter.mpr ⟨hb, by simpa using hne⟩), (hr'.le l₁).step (st _)⟩
  · rcases mem y b hm with ⟨_, rfl⟩ | ⟨hm, _⟩
    · exact .inr ha
    · exact .inl hm
end

/-- all facts but those of x -/
def er (x : Str) (δ : List Ent) : List Ent := δ.filter fun e => e.1 != x
theorem mem_er {x y : Str} {k : EK} {d : D} {δ : List Ent} (h : (y, k, d) ∈ δ) (hne : (y == x) = false) : (y, k, d) ∈ er x δ := List.mem_filter.mpr ⟨h, by show (!(y == x)) = true; rw [hne]; rfl⟩
theorem off_er {x : Str} {δ : List Ent} : Off (er x δ) δ x := fun e he => by
  obtain ⟨h1, h2⟩ := List.mem_filter.mp he
  exact ⟨h1, by simpa using h2⟩

section
variable {W : Wd} {f : Fm} {δ δ' : List Ent} {P : Pst}

theorem Inv.ownAt {O : Own} {σ : Sn} {x : Str} {l : List Int} (I : Inv W f O δ σ) (he : (x, EK.own, D.il l) ∈ δ) :
    ∃ m a vs, σ.h.Ns f.env.locals m ∧ At f.env σ.h m x (.ref a) ∧ (x, a) ∈ O ∧ σ.h.PlainList a (vs : List Value).toArray ∧ L2 (GI σ) vs l ∧ l.length ≤ lim := by
  obtain ⟨m, v, hn, ha, a, hO, a', vs, rfl, rfl, hp, hg, hl⟩ := I.load he
  exact ⟨m, a', vs, hn, ha, hO, hp, hg, hl⟩

theorem own_upd {O : Own} {h h' : Heap} {τ : Tok → Int} {n : Nat} {x : Str} {a : Addr} {l l' : List Int} {vs' : List Value} (I : Inv W f O δ ⟨h, τ, n⟩) (he : (x, EK.own, D.il l) ∈ δ) (hO : (x, a) ∈ O) (hs : Heap.SameBut a h h') (hp : h'.PlainList a vs'.toArray)
    (hg : L2 (GI ⟨h, τ, n⟩) vs' l') (hl : l'.length ≤ lim) (off : Off δ' δ x) : Inv W f O ((x, .own, .il l') :: δ') ⟨h', τ, n⟩ ∧ Tr f O O ⟨h, τ, n⟩ ⟨h', τ, n⟩ := by
  obtain ⟨ha0, its, na, hpa⟩ := I.own x a hO
  have hpa' : h.get? a = some _ := hpa
  have lo : LObj { cls := .type "list", data := .seq its na } := ⟨rfl, _, _, rfl⟩
  obtain ⟨nL, nC⟩ := I.notL hpa' lo
  have keep : ∀ b o, h.get? b = some o → b ≠ a → h'.get? b = some o := fun b o e q => (hs.2 b q).trans e
  have st : ∀ P : Addr → Prop, (∀ b, P b → b ≠ a) → Step P ⟨h, τ, n⟩ ⟨h', τ, n⟩ := fun P k => ⟨fun b o p _ e => keep b o e (k b p), Nat.le_refl _, fun _ _ => rfl⟩
  obtain ⟨m, hn, loc⟩ := I.loc
  have at' : ∀ y u, At f.env h m y u → At f.env h' m y u := fun y u hau => by
    rcases hau with q | ⟨c, h1, h2, h3⟩
    · exact .inl q
    · exact .inr ⟨c, h1, h2, h3.sameBut hs (fun e => nC y (e ▸ h2))⟩
  refine ⟨⟨I.ok, fun b o e => keep b o (I.keep b o e) (none_ne ha0 e), I.pos, fun y b hb => ?_, I.inj, I.fn, fun y c hc => ?_, m, hn.sameBut hs (Ne.symm nL), fun e he' => ?_⟩, ⟨fun b o e h1 _ _ => keep b o e fun q => h1 x (q ▸ hO), fun b o e => ?_, Nat.le_refl _, fun _ _ => rfl, fun _ _ z => .inl z⟩⟩
  · by_cases q : b = a
    · subst q; exact ⟨ha0, _, hp⟩
    · obtain ⟨e0, its', n', e1⟩ := I.own y b hb
      exact ⟨e0, its', n', keep b _ e1 q⟩
  · obtain ⟨v, q⟩ := I.cells y c hc
    exact ⟨v, q.sameBut hs (fun e => nC y (e ▸ hc))⟩
  · rcases List.mem_cons.mp he' with rfl | he'
    · obtain ⟨v, ha, b, hb, hr⟩ := loc _ he
      have : b = a := I.fn x b a hb hO
      subst this
      obtain ⟨a', vs, rfl, rfl, _⟩ := hr
      exact ⟨_, at' _ _ ha, a', hO, a', vs', rfl, rfl, hp, hg.mono fun _ _ z => GI.le (a := ⟨h, τ, n⟩) (b := ⟨h', τ, n⟩) (Nat.le_refl _) (fun _ _ => rfl) z, hl⟩
    · obtain ⟨u, hau, hr⟩ := loc e (off e he').1
      have hne := (off e he').2
      refine ⟨u, at' _ _ hau, ?_⟩
      obtain ⟨y, k, d⟩ := e
      cases k with
      | safe => exact Rel.step (st _ fun b p q => p.2 x (q ▸ hO)) hr
      | par => exact Rel.step (st _ fun b p q => p (q ▸ ha0)) hr
      | own =>
        obtain ⟨b, hb, hr⟩ := hr
        exact ⟨b, hb, hr.step (st _ fun c p q => hne (I.inj y x a (by rw [← q, p]; exact hb) hO))⟩
  · by_cases q : b = a
    · subst q; obtain ⟨n', e'⟩ := hp; exact ⟨_, e'⟩
    · exact ⟨o, keep b o e q⟩

/-! ### assignments -/
theorem W1.assign {x : Str} {p pos : Pos} {e : Expr} {d : D} (he : Ev W f e δ .safe d) (hx : St f x) (h : P .next ((x, .safe, d) :: er x δ)) (hs : swapsWith e (some (.Name x p)) pos.line f.env = pure false := by rfl) :
    W1 W f (.Assign [.Name x p] e pos) δ P := by
  intro A s τ O R I Q E q
  refine wpAny_Assign_Name (he A s τ O R I _ _ fun v h₁ tk₁ τ₁ l₁ r₁ => ?_) hs
  exact store_safe (s := At2 s h₁ tk₁) (τ := τ₁) (I.le l₁) hx off_er r₁ fun h' tk I' T _ => q .next .next O _ h' tk τ₁ h rfl I' ((Tr.le l₁).trans T)

theorem W1.assignOwn {x : Str} {p pos : Pos} {e : Expr} {l : List Int} (he : Ev W f e δ .fresh (.il l)) (hx : St f x) (h : P .next ((x, .own, .il l) :: er x δ)) (hs : swapsWith e (some (.Name x p)) pos.line f.env = pure false := by rfl) :
    W1 W f (.Assign [.Name x p] e pos) δ P := by
  intro A s τ O R I Q E q
  refine wpAny_Assign_Name (he A s τ O R I _ _ fun v h₁ tk₁ τ₁ l₁ r₁ => ?_) hs
  exact store_own (s := At2 s h₁ tk₁) (τ := τ₁) I l₁ hx off_er r₁ fun h' tk a ha I' T => q .next .next _ _ h' tk τ₁ h rfl I' T

theorem Inv.butC {O : Own} {σ : Sn} {C : Addr} {m : Str → Option Value} {h' : Heap} (I : Inv W f O δ σ) (h0 : f.h₀.get? C = none) (hL : C ≠ f.env.locals) (hc : ∀ x, f.env.cells.lookup x ≠ some C) (hn : σ.h.Ns C m) (hs : Heap.SameBut C σ.h h') :
    Inv W f O δ ⟨h', σ.τ, σ.n⟩ := by
  have nC : ∀ b o, σ.h.get? b = some o → LObj o → b ≠ C := fun b o e hc => by
    obtain ⟨oc, es, ep, e1, e2, _⟩ := hn
    obtain ⟨_, its, n, hd⟩ := hc
    exact ne_of_data e e1 (by rw [hd, e2]; intro z; cases z)
  have st : ∀ P, Step P σ ⟨h', σ.τ, σ.n⟩ := fun P => ⟨fun b o _ hl e => (hs.2 b (nC b o e hl)).trans e, Nat.le_refl _, fun _ _ => rfl⟩
  obtain ⟨m', hn', loc⟩ := I.loc
  refine ⟨I.ok, fun b o e => (hs.2 b (none_ne h0 e)).trans (I.keep b o e), I.pos, fun y b hb => ?_, I.inj, I.fn, fun y c e => ?_, m', hn'.sameBut hs (Ne.symm hL), fun e he => ?_⟩
  · obtain ⟨e0, its, n, e1⟩ := I.own y b hb
    exact ⟨e0, its, n, (hs.2 b (nC b _ e1 ⟨rfl, _, _, rfl⟩)).trans e1⟩
  · obtain ⟨v, q⟩ := I.cells y c e
    exact ⟨v, q.sameBut hs (fun z => hc y (z ▸ e))⟩
  · obtain ⟨v, ha, hr⟩ := loc e he
    refine ⟨v, ?_, hr.step (st _) (st _) fun _ _ => st _⟩
    rcases ha with z | ⟨c, h1, h2, h3⟩
    · exact .inl z
    · exact .inr ⟨c, h1, h2, h3.sameBut hs (fun z => hc _ (z ▸ h2))⟩

theorem W1.assignC {x y : Str} {px p pos cpos : Pos} {elt iter : Expr} {ifs : List Expr} {scope : Scope} {cl : List (Str × Addr)} {δc : List Ent} {l : List Int} {pr : Int → Bool} {g : Int → D} {k : RK} {d : D}
    (B : Blk f scope cl x) (hi : EvI W f iter δ (l.map D.int)) (hl : l.length ≤ lim) (caps : ∀ e ∈ δc, e ∈ δ ∧ Cap f scope cl e.1)
    (htest : ∀ C i, i ∈ l → EvC W (f.cf scope cl C) ifs ((x, .safe, .int i) :: δc) (pr i))
    (helt : ∀ C i, i ∈ l → pr i = true → Ev W (f.cf scope cl C) elt ((x, .safe, .int i) :: δc) .fresh (g i)) (hd : compD ((l.filter pr).map g) d k) (hx : St f y) (h : P .next ((y, .safe, d) :: er y δ))
    (hsw : swapsWith (.ListComp elt [⟨.Name x px, iter, ifs, 0⟩] scope cpos) (some (.Name y p)) pos.line f.env = pure true) (hs : ∀ v, foldedSetIterable iter f.env v = pure v := by intro _; rfl) :
    W1 W f (.Assign [.Name y p] (.ListComp elt [⟨.Name x px, iter, ifs, 0⟩] scope cpos) pos) δ P := by
  intro A s τ O R I Q E q
  rw [exec_Assign_Name_used _ _ _ _ hsw]
  refine wpAny_bind (wpAny_standAt (wpAny_bind ?_))
  show wpAny _ A (do let _ ← comprehension (.ListComp elt [⟨.Name x px, iter, ifs, 0⟩] scope cpos) scope f.env _ (newList []) false (eval iter f.env) (some (PySem.assign (.Name y p) f.env))) _ _ s
  refine wpAny_bind (wpAny_mono (wpAny_comprehension_free (use := some (PySem.assign (.Name y p) f.env)) (Q := fun _ s' => Q .next s') rfl hs B.clos B.kind B.names
    (hi A s τ O R I _ _ fun Ia S h₁ h' tk τ' l₁ k₁ hI hS it => ?_)) (fun _ s' hq => wpAny_pure (wpAny_pure hq)) fun _ _ e => e)
  have I₁ : Inv W f O δ ⟨h₁, τ', tk⟩ := I.le l₁
  refine comp_block (s := At2 s h' tk) (RR := fun acc C => compPost W.M A E (some (PySem.assign (.Name y p) f.env)) (fun _ s' => Q .next s') acc C) B hl caps htest helt R I₁ (Le.heap k₁) hI (fun a ha => let ⟨⟨o, e, _⟩, _⟩ := hS a ha; ⟨o, e⟩) it.toNo fun Da C h₂ tk₂ τ₂ m ys l₂ hD hC hDC hn hp hys => ?_
  show wpAny W.M A (PySem.assign (.Name y p) f.env (.ref Da)) _ E _
  have I₂ : Inv W f O δ ⟨h₂, τ₂, tk₂⟩ := I₁.le l₂
  have hr : Rel (f.Safe O) ⟨h₂, τ₂, tk₂⟩ (.ref Da) d := by
    have r := hd.rel (f := f) (O := O) (σ := ⟨h₂, τ₂, tk₂⟩) hD (safe_new I₁ hD) hp (hys.mono fun _ _ z => z.monoP fun _ w => w.1)
    rcases hd with ⟨l', e, e', _, rfl⟩ | ⟨l', e, e', _, rfl⟩
    · exact RelK.safe_of_fresh (σ := ⟨h₁, τ', tk⟩) I₁ r
    · exact r
  have hCL : C ≠ f.env.locals := by
    obtain ⟨m₁, ⟨o, _, _, e, _⟩, _⟩ := I₁.loc
    exact Ne.symm (none_ne hC e)
  have hCc : ∀ z, f.env.cells.lookup z ≠ some C := fun z e => by
    obtain ⟨v, o, e1, _⟩ := I₁.cells z C e
    rw [hC] at e1; cases e1
  refine wpAny_assign_Name (store_safe (s := At2 s h₂ tk₂) (τ := τ₂) I₂ hx off_er hr fun h₃ tk₃ I₃ T₃ st₃ => ?_)
  obtain ⟨oC, es, ep, hCo, hCd⟩ := hn
  have hn₃ : h₃.Ns C m := ⟨oC, es, ep, T₃.keep C oC hCo (fun z hz => by obtain ⟨_, its, n, e⟩ := I₂.own z C hz; have e' : h₂.get? C = some _ := e; rw [hCo] at e'; cases e'; cases hCd.1) hCL hCc, hCd⟩
  refine ⟨m, hn₃, fun h₄ hs₄ => ?_⟩
  have I₄ := I₃.butC (I₁.keep.none hC) hCL hCc hn₃ hs₄
  refine q .next .next O _ h₄ tk₃ τ₂ h rfl I₄ ?_
  have T₁ : Tr f O O ⟨s.heap, τ, s.toks⟩ ⟨h₁, τ', tk⟩ := Tr.le l₁
  have T₂ : Tr f O O ⟨h₁, τ', tk⟩ ⟨h₂, τ₂, tk₂⟩ := Tr.le l₂
  have T₁₃ := (T₁.trans T₂).trans T₃
  refine ⟨fun b o e h1 h2 h3 => (hs₄.2 b (none_ne hC (l₁.keep _ _ e))).trans (T₁₃.keep b o e h1 h2 h3), fun b o e => ?_, T₁₃.toks, T₁₃.agree, T₁₃.own⟩
  obtain ⟨o', e'⟩ := T₁₃.alive b o e
  exact ⟨o', (hs₄.2 b (none_ne hC (l₁.keep _ _ e))).trans e'⟩

theorem W1.aug {x : Str} {p pos : Pos} {e : Expr} {k : RK} {a b : Int} (hx' : (x, EK.safe, D.int a) ∈ δ) (he : Ev W f e δ k (.int b)) (hx : St f x) (h : P .next ((x, .safe, .int (a + b)) :: er x δ)) :
    W1 W f (.AugAssign (.Name x p) .Add e pos) δ P := by
  intro A s τ O R I Q E q
  obtain ⟨m, v, hn, ha, hr⟩ := I.load hx'
  refine wpAny_AugAssign_Name (load_at I.ok.kind hn ha (he A s τ O R I _ _ fun w h₁ tk₁ τ₁ l₁ r₁ => ?_))
  have hrv : Rel (fun _ => True) ⟨h₁, τ₁, tk₁⟩ v (.int a) := (show Rel (fun _ => True) ⟨s.heap, τ, s.toks⟩ v (.int a) from hr).le l₁
  refine Op2.ii op_iadd A (At2 s h₁ tk₁) τ₁ v w ((I.le l₁).calm R) hrv r₁.any _ _ fun u h₂ tk₂ τ₂ l₂ r₂ => ?_
  have I₂ := (I.le l₁).le l₂
  exact store_safe (s := At2 s h₂ tk₂) (τ := τ₂) I₂ hx off_er (d := .int (a + b)) r₂ fun h' tk I' T _ => q .next .next O _ h' tk τ₂ h rfl I' ((Tr.le (l₁.trans l₂)).trans T)

/-- x[i] = e for a list that x alone names -/
theorem W1.setItem {x : Str} {p p' pos : Pos} {i e : Expr} {k₁ k₂ : RK} {l : List Int} {j v : Int} (hx : (x, EK.own, D.il l) ∈ δ) (he : Ev W f e δ k₁ (.int v)) (hi : Ev W f i δ k₂ (.int j)) (h0 : 0 ≤ j) (h1 : j < l.length) (hd : (x == ("__debug__" : Str)) = false)
    (h : P .next ((x, .own, .il (l.set j.toNat v)) :: er x δ)) (hs : swapsWith e (some (.Subscript (.Name x p) i p')) pos.line f.env = pure false := by rfl) :
    W1 W f (.Assign [.Subscript (.Name x p) i p'] e pos) δ P := by
  intro A s τ O R I Q E q
  refine wpAny_Assign_Subscript (he A s τ O R I _ _ fun w h₁ tk₁ τ₁ l₁ r₁ => ?_) hs
  have I₁ := I.le l₁
  obtain ⟨m, a, vs, hn, ha, hO, hp, hg, hl⟩ := I₁.ownAt hx
  refine wpAny_Name (load_at (s := At2 s h₁ tk₁) I₁.ok.kind hn ha ?_) hd
  refine hi A (At2 s h₁ tk₁) τ₁ O R I₁ _ _ fun iv h₂ tk₂ τ₂ l₂ r₂ => ?_
  have I₂ := I₁.le l₂
  obtain ⟨t, rfl, _⟩ := r₂.any
  have hp₂ : h₂.PlainList a vs.toArray := hp.at fun o e => l₂.keep _ _ e
  have hg₂ : L2 (GI ⟨h₂, τ₂, tk₂⟩) vs l := hg.mono fun _ _ z => GI.le l₂.toks l₂.agree z
  refine wr_set (s := At2 s h₂ tk₂) hp₂ (by rw [hg.length]; exact hl) h0 (by rw [hg.length]; exact h1) fun h₃ hp₃ hs₃ => ?_
  have rw₂ : GI ⟨h₂, τ₂, tk₂⟩ w v := (r₁.any.le l₂ : Rel (fun _ => True) ⟨h₂, τ₂, tk₂⟩ w (.int v))
  obtain ⟨I₃, T₃⟩ := own_upd I₂ hx hO hs₃ hp₃ (hg₂.set j.toNat rw₂) (by rw [List.length_set]; exact hl) off_er
  exact q .next .next O _ h₃ tk₂ τ₂ h rfl I₃ ((Tr.le (l₁.trans l₂)).trans T₃)

/-- x.append(e) for a list that x alone names -/
theorem W1.append {x : Str} {p ap cp pos : Pos} {e : Expr} {k : RK} {l : List Int} {v : Int} (hx : (x, EK.own, D.il l) ∈ δ) (he : Ev W f e δ k (.int v)) (hl : l.length < lim) (hd : (x == ("__debug__" : Str)) = false)
    (h : P .next ((x, .own, .il (l ++ [v])) :: er x δ)) (hline : (ap.endLine == cp.line) = true := by rfl) (hi : interactive f.env = false := by rfl) (hs : swapsWith (.Call (.Attribute (.Name x p) "append" ap) [e] [] cp) none pos.line f.env = pure false := by rfl) (hn : NS e := by intro _ _; rfl) :
    W1 W f (.Expr (.Call (.Attribute (.Name x p) "append" ap) [e] [] cp) pos) δ P := by
  intro A s τ O R I Q E q
  have ht : backTo cp (starEach [e] f.env) = [(false, eval e f.env)] := by rw [hn]; rfl
  refine wpAny_Expr_any (wpAny_Call_append rfl (by rw [ht]; rfl) hline ht ?_) hi hs
  obtain ⟨m, a, vs, hnm, ha, hO, hp, hg, hl'⟩ := I.ownAt hx
  refine wpAny_Name (load_at I.ok.kind hnm ha ?_) hd
  refine ⟨a, vs.toArray, rfl, ?_, ?_⟩
  · obtain ⟨n, e⟩ := hp
    exact ⟨_, n, e, rfl, rfl, rfl⟩
  refine he A s τ O R I _ _ fun w h₁ tk₁ τ₁ l₁ r₁ => ?_
  have I₁ := I.le l₁
  have hp₁ : h₁.PlainList a vs.toArray := hp.at fun o e => l₁.keep _ _ e
  have hg₁ : L2 (GI ⟨h₁, τ₁, tk₁⟩) vs l := hg.mono fun _ _ z => GI.le l₁.toks l₁.agree z
  refine wr_append (s := At2 s h₁ tk₁) hp₁ (by rw [hg.length]; exact hl') fun h₂ hp₂ hs₂ => ?_
  have rw₁ : GI ⟨h₁, τ₁, tk₁⟩ w v := r₁.any
  obtain ⟨I₂, T₂⟩ := own_upd I₁ hx hO hs₂ hp₂ (hg₁.append (.cons rw₁ .nil)) (by rw [List.length_append]; exact hl) off_er
  exact q .next .next O _ h₂ tk₁ τ₁ h rfl I₂ ((Tr.le l₁).trans T₂)

/-! ### control -/
theorem W1.ret {e : Expr} {pos : Pos} {d : D} (he : Ev W f e δ .safe d) (h : P (.ret d) δ) : W1 W f (.Return (some e) pos) δ P := by
  intro A s τ O R I Q E q
  refine wpAny_Return_some (he A s τ O R I _ _ fun v h₁ tk₁ τ₁ l₁ r₁ => ?_)
  exact q (.ret d) _ O δ h₁ tk₁ τ₁ h ⟨v, rfl, Rel.monoP (fun _ z => z.1) r₁⟩ (I.le l₁) (Tr.le l₁)
theorem W1.retOwn {x : Str} {p pos : Pos} {l : List Int} (hx : (x, EK.own, D.il l) ∈ δ) (hd : (x == ("__debug__" : Str)) = false) (h : P (.ret (.il l)) δ) : W1 W f (.Return (some (.Name x p)) pos) δ P := by
  intro A s τ O R I Q E q
  obtain ⟨m, a, vs, hnm, ha, hO, hp, hg, hl'⟩ := I.ownAt hx
  refine wpAny_Return_some (wpAny_Name (load_at I.ok.kind hnm ha ?_) hd)
  exact q (.ret (.il l)) _ O δ s.heap s.toks τ h ⟨_, rfl, a, vs, rfl, (I.own x a hO).1, hp, hg, hl'⟩ I Tr.refl
theorem W1.brk {pos : Pos} (h : P .brk δ) : W1 W f (.Break pos) δ P := fun A s τ O R I Q E q => wpAny_Break (q .brk .brk O δ s.heap s.toks τ h rfl I Tr.refl)
theorem W1.ite {t : Expr} {b o : List Stmt} {pos : Pos} {c : Bool} (ht : EvT W f t δ c) (h1 : c = true → WS W f b δ P) (h2 : c = false → WS W f o δ P) : W1 W f (.If t b o pos) δ P := by
  intro A s τ O R I Q E q
  refine wpAny_If (ht A s τ O R I _ _ fun h₁ tk₁ τ₁ l₁ => ?_)
  have back := fun l w O' δ' h' tk τ' hp hf I' T => q l w O' δ' h' tk τ' hp hf I' ((Tr.le l₁).trans T)
  cases c with
  | true => exact h1 rfl A (At2 s h₁ tk₁) τ₁ O R (I.le l₁) Q E back
  | false => exact h2 rfl A (At2 s h₁ tk₁) τ₁ O R (I.le l₁) Q E back

/-- a while by a measure and an invariant over its own data -/
theorem W1.while {α : Type} {t : Expr} {b o : List Stmt} {pos : Pos} (F : α → List Ent) (J : Nat → α → Prop) (n₀ : Nat) (x₀ : α) (h0 : J n₀ x₀) (hsub : ∀ e ∈ F x₀, e ∈ δ)
    (turn : ∀ n x, J n x → ∃ c, EvT W f t (F x) c ∧ (c = true → WS W f b (F x) fun l δ' => match l with
        | .next | .cont => ∃ m y, m < n ∧ J m y ∧ ∀ e ∈ F y, e ∈ δ'
        | .brk => P .next δ'
        | .ret d => P (.ret d) δ') ∧ (c = false → WS W f o (F x) P)) : W1 W f (.While t b o pos) δ P := by
  intro A s τ O R I Q E q
  have main : ∀ n, ∀ (s' : Shared), (∃ h' tk τ' O' x, s' = At2 s h' tk ∧ J n x ∧ Inv W f O' (F x) ⟨h', τ', tk⟩ ∧ Tr f O O' ⟨s.heap, τ, s.toks⟩ ⟨h', τ', tk⟩) →
      codeAny W.M (A.mark none) (.whileLoop t b o f.env) (fun r s' => match r with | .ok f => Q f s' | .error e => cameBackBy W.M A f.env E e s') s' := by
    intro n s' hs'
    refine codeAny_whileLoop (fun n s' => ∃ h' tk τ' O' x, s' = At2 s h' tk ∧ J n x ∧ Inv W f O' (F x) ⟨h', τ', tk⟩ ∧ Tr f O O' ⟨s.heap, τ, s.toks⟩ ⟨h', τ', tk⟩) ?_ n hs'
    rintro n s' ⟨h', tk, τ', O', x, rfl, hJ, I', T⟩
    have R' : Room f (A.mark none) := ⟨R.hh, R.depth, R.units, R.frs⟩
    obtain ⟨c, ht, hb, ho⟩ := turn n x hJ
    refine ht _ (At2 s h' tk) τ' O' R' I' _ _ fun h₁ tk₁ τ₁ l₁ => ?_
    have I₁ := I'.le l₁
    have T₁ := T.trans (Tr.le l₁)
    cases c with
    | true =>
      rw [if_pos rfl]
      refine hb rfl _ (At2 s h₁ tk₁) τ₁ O' R' I₁ _ _ fun l w O₂ δ₂ h₂ tk₂ τ₂ hp hf I₂ T₂ => ?_
      cases l with
      | next =>
        have : w = .next := hf
        subst this
        obtain ⟨m, y, hm, hJ', hsub'⟩ := hp
        exact ⟨m, hm, h₂, tk₂, τ₂, O₂, y, rfl, hJ', I₂.sub hsub', T₁.trans T₂⟩
      | cont =>
        have : w = .cont := hf
        subst this
        obtain ⟨m, y, hm, hJ', hsub'⟩ := hp
        exact ⟨m, hm, h₂, tk₂, τ₂, O₂, y, rfl, hJ', I₂.sub hsub', T₁.trans T₂⟩
      | brk =>
        have : w = .brk := hf
        subst this
        exact q .next .next O₂ δ₂ h₂ tk₂ τ₂ hp rfl I₂ (T₁.trans T₂)
      | ret d =>
        obtain ⟨v, rfl, hr⟩ := id hf
        exact q (.ret d) _ O₂ δ₂ h₂ tk₂ τ₂ hp ⟨v, rfl, hr⟩ I₂ (T₁.trans T₂)
    | false =>
      rw [if_neg Bool.false_ne_true]
      exact ho rfl _ (At2 s h₁ tk₁) τ₁ O' R' I₁ _ _ fun l w O₂ δ₂ h₂ tk₂ τ₂ hp hf I₂ T₂ => q l w O₂ δ₂ h₂ tk₂ τ₂ hp hf I₂ (T₁.trans T₂)
  exact wpAny_While (main n₀ s ⟨s.heap, s.toks, τ, O, x₀, rfl, h0, I.sub hsub, Tr.refl⟩)
end

section
variable {W : Wd} {f : Fm} {δ δ' : List Ent} {P : Pst}

/-! ### for -/
theorem Inv.but {O : Own} {σ σ' : Sn} {C : Addr} {oC : Obj} (I : Inv W f O δ σ) (h0 : f.h₀.get? C = none) (ho : σ.h.get? C = some oC) (hf : ∃ vs, oC.data = .fields vs) (hs : Heap.ExtBut C σ.h σ'.h) (ht : σ.n ≤ σ'.n) (ha : ∀ t, t < σ.n → σ'.τ t = σ.τ t) :
    Inv W f O δ σ' ∧ C ≠ f.env.locals ∧ ∀ x, f.env.cells.lookup x ≠ some C := by
  obtain ⟨vs, hf⟩ := hf
  have nC : ∀ b o, σ.h.get? b = some o → LObj o → b ≠ C := fun b o e hc => by
    obtain ⟨_, its, n, hd⟩ := hc
    exact ne_of_data e ho (by rw [hd, hf]; intro z; cases z)
  have st : ∀ P, Step P σ σ' := fun P => ⟨fun b o _ hl e => hs b o (nC b o e hl) e, ht, ha⟩
  have hc : ∀ x, f.env.cells.lookup x ≠ some C := fun x e => by
    obtain ⟨v, o, e1, e2⟩ := I.cells x C e
    exact ne_of_data e1 ho (by rw [e2, hf]; intro z; cases z) rfl
  obtain ⟨m', hn', loc⟩ := I.loc
  have hL : C ≠ f.env.locals := by
    obtain ⟨o, es, ep, e1, e2, _⟩ := hn'
    exact Ne.symm (ne_of_data e1 ho (by rw [e2, hf]; intro z; cases z))
  refine ⟨⟨I.ok, fun b o e => hs b o (none_ne h0 e) (I.keep b o e), Nat.lt_of_lt_of_le I.pos ht, fun y b hb => ?_, I.inj, I.fn, fun y c e => ?_, m', hn'.extBut hs (Ne.symm hL), fun e he => ?_⟩, hL, hc⟩
  · obtain ⟨e0, its, n, e1⟩ := I.own y b hb
    exact ⟨e0, its, n, hs b _ (nC b _ e1 ⟨rfl, _, _, rfl⟩) e1⟩
  · obtain ⟨v, o, e1, e2⟩ := I.cells y c e
    exact ⟨v, o, hs c o (fun z => hc y (z ▸ e)) e1, e2⟩
  · obtain ⟨v, ha, hr⟩ := loc e he
    refine ⟨v, ?_, hr.step (st _) (st _) fun _ _ => st _⟩
    rcases ha with z | ⟨c, h1, h2, h3⟩
    · exact .inl z
    · obtain ⟨o, e1, e2⟩ := h3
      exact .inr ⟨c, h1, h2, o, hs c o (fun z => hc _ (z ▸ h2)) e1, e2⟩

theorem It.tr {O O' : Own} {σ σ' : Sn} {Ia : Addr} {S : List Addr} {ds : List D} {j : Nat} (I : Inv W f O δ σ) (it : It (f.Safe O) σ Ia S ds j) (hS : ∀ l ∈ S, ∀ y, (y, l) ∉ O) (T : Tr f O O' σ σ') :
    It (f.Safe O') σ' Ia S ds j ∧ ∀ l ∈ S, ∀ y, (y, l) ∉ O' := by
  have lobj : ∀ l ∈ S, ∃ o, σ.h.get? l = some o ∧ LObj o := fun l hl => by
    rcases it with ⟨l', rfl, _, vs, ⟨o, h4, h5, n, h6⟩, _⟩ | ⟨rfl, _⟩
    · rw [List.mem_singleton.mp hl]; exact ⟨o, h4, h5, _, n, h6⟩
    · cases hl
  obtain ⟨oI, hI, hcls, vsI, hdI⟩ := it.here
  have nO : ∀ y, (y, Ia) ∉ O := fun y hy => by
    obtain ⟨_, its, n, e⟩ := I.own y Ia hy
    rw [hI] at e; cases e; cases hdI
  have nL : Ia ≠ f.env.locals := by
    obtain ⟨m, ⟨o, es, ep, e1, e2, _⟩, _⟩ := I.loc
    exact Ne.symm (ne_of_data e1 hI (by rw [e2, hdI]; intro z; cases z))
  have nC : ∀ x, f.env.cells.lookup x ≠ some Ia := fun x e => by
    obtain ⟨v, o, e1, e2⟩ := I.cells x Ia e
    exact ne_of_data e1 hI (by rw [e2, hdI]; intro z; cases z) rfl
  have stp : ∀ {v : Value} {d : D}, Rel (f.Safe O) σ v d → Rel (f.Safe O') σ' v d := fun {v d} z => by
    have z₁ : Rel (fun b => f.Safe O b ∧ ∃ o, σ.h.get? b = some o) σ v d := z.there fun b o p e => ⟨p, o, e⟩
    refine (z₁.step (σ' := σ') ⟨fun b o p hl e => T.keep b o e p.1.2 (I.notL e hl).1 (I.notL e hl).2, T.toks, T.agree⟩).monoP fun b p => ⟨p.1.1, fun y hy => ?_⟩
    obtain ⟨o, e⟩ := p.2
    rcases T.own y b hy with q | q
    · exact p.1.2 y q
    · rw [e] at q; cases q
  refine ⟨?_, fun l hl y hy => ?_⟩
  · rcases it with ⟨l', rfl, ⟨o, h1, h2, h3⟩, vs, ⟨o', h4, h5, n, h6⟩, h7⟩ | ⟨rfl, a, h1, h2⟩
    · refine .inl ⟨l', rfl, ⟨o, T.keep _ _ h1 nO nL nC, h2, h3⟩, vs, ⟨o', T.keep _ _ h4 (hS l' (.head _)) (I.notL h4 ⟨h5, _, n, h6⟩).1 (I.notL h4 ⟨h5, _, n, h6⟩).2, h5, n, h6⟩, h7.mono fun _ _ z => stp z⟩
    · exact .inr ⟨rfl, a, T.keep _ _ h1 nO nL nC, h2⟩
  · obtain ⟨o, e, _⟩ := lobj l hl
    rcases T.own y l hy with q | q
    · exact hS l hl y q
    · rw [e] at q; cases q

theorem W1.for {α : Type} {x : Str} {px pos : Pos} {iter : Expr} {b o : List Stmt} {ds : List D} (hi : EvI W f iter δ ds) (F : α → List Ent) (J : Nat → α → Prop) (x₀ : α) (h0 : J 0 x₀) (hsub : ∀ e ∈ F x₀, e ∈ δ) (hoff : ∀ y, ∀ e ∈ F y, e.1 ≠ x) (hx : St f x)
    (turn : ∀ j y d, ds[j]? = some d → J j y → WS W f b ((x, .safe, d) :: F y) fun l δ' => match l with
        | .next | .cont => ∃ y', J (j + 1) y' ∧ ∀ e ∈ F y', e ∈ δ'
        | .brk => P .next δ'
        | .ret d => P (.ret d) δ')
    (fin : ∀ y, J ds.length y → WS W f o (F y) P) (hs : ∀ v, foldedSetIterable iter f.env v = pure v := by intro _; rfl) : W1 W f (.For (.Name x px) iter b o pos) δ P := by
  intro A s τ O R I Q E q
  refine wpAny_For (hi A s τ O R I _ _ fun Ia S h₁ h' tk τ' l₁ k₁ hI hS it => ?_) hs
  have I₁ : Inv W f O δ ⟨h₁, τ', tk⟩ := I.le l₁
  have l₂ : Le ⟨h₁, τ', tk⟩ ⟨h', τ', tk⟩ := Le.heap k₁
  have hI0 : f.h₀.get? Ia = none := I₁.keep.none hI
  refine codeAny_forLoop (A := A) (fun n s' => ∃ h' tk τ' O' j y, s' = At2 s h' tk ∧ n = ds.length + 1 - j ∧ j ≤ ds.length ∧ J j y ∧ Inv W f O' (F y) ⟨h', τ', tk⟩ ∧ Tr f O O' ⟨s.heap, τ, s.toks⟩ ⟨h', τ', tk⟩ ∧
      It (f.Safe O') ⟨h', τ', tk⟩ Ia S ds j ∧ ∀ l ∈ S, ∀ z, (z, l) ∉ O') ?_ (ds.length + 1) ⟨h', tk, τ', O, 0, x₀, rfl, by omega, Nat.zero_le _, h0, (I₁.le l₂).sub hsub, Tr.le (l₁.trans l₂), it, fun l hl => (hS l hl).2⟩
  rintro n s' ⟨h', tk, τ', O', j, y, rfl, rfl, hj, hJ, I', T, it', hS'⟩
  obtain ⟨oI, hIo, hcls, vsI, hdI⟩ := it'.here
  by_cases hlt : j < ds.length
  · have hget : ds[j]? = some ds[j] := List.getElem?_eq_getElem hlt
    generalize ds[j] = d at hget
    refine It.next (s := At2 s h' tk) it' hget I'.pos fun v h₂ tk₂ τ₂ hs₂ ht₂ ha₂ hr₂ it₂ => ?_
    obtain ⟨I₂, nL, nC⟩ := I'.but (σ' := ⟨h₂, τ₂, tk₂⟩) hI0 hIo ⟨_, hdI⟩ hs₂.extBut ht₂ ha₂
    have T₂ : Tr f O O' ⟨s.heap, τ, s.toks⟩ ⟨h₂, τ₂, tk₂⟩ := ⟨fun b o e h1 h2 h3 => (hs₂.2 b (none_ne hI (l₁.keep _ _ e))).trans (T.keep b o e h1 h2 h3), fun b o e => by
      obtain ⟨o', e'⟩ := T.alive b o e
      exact ⟨o', (hs₂.2 b (none_ne hI (l₁.keep _ _ e))).trans e'⟩, Nat.le_trans T.toks ht₂, fun t ht => (ha₂ t (Nat.lt_of_lt_of_le ht T.toks)).trans (T.agree t ht), T.own⟩
    refine wpAny_assign_Name (store_safe (s := At2 s h₂ tk₂) (τ := τ₂) (δ' := F y) I₂ hx (fun e he => ⟨he, hoff y e he⟩) hr₂ fun h₃ tk₃ I₃ T₃ st₃ => ?_)
    obtain ⟨it₃, hS₃⟩ := it₂.tr I₂ hS' T₃
    refine turn j y d hget hJ A (At2 s h₃ tk₃) τ₂ O' R I₃ _ _ fun l w O₄ δ₄ h₄ tk₄ τ₄ hp hf I₄ T₄ => ?_
    have T₀₄ := (T₂.trans T₃).trans T₄
    obtain ⟨it₄, hS₄⟩ := it₃.tr I₃ hS₃ T₄
    cases l with
    | next =>
      have : w = .next := hf
      subst this
      obtain ⟨y', hJ', hsub'⟩ := hp
      exact ⟨_, by omega, h₄, tk₄, τ₄, O₄, j + 1, y', rfl, rfl, hlt, hJ', I₄.sub hsub', T₀₄, it₄, hS₄⟩
    | cont =>
      have : w = .cont := hf
      subst this
      obtain ⟨y', hJ', hsub'⟩ := hp
      exact ⟨_, by omega, h₄, tk₄, τ₄, O₄, j + 1, y', rfl, rfl, hlt, hJ', I₄.sub hsub', T₀₄, it₄, hS₄⟩
    | brk =>
      have : w = .brk := hf
      subst this
      exact q .next .next O₄ δ₄ h₄ tk₄ τ₄ hp rfl I₄ T₀₄
    | ret d =>
      obtain ⟨v, rfl, hr⟩ := id hf
      exact q (.ret d) _ O₄ δ₄ h₄ tk₄ τ₄ hp ⟨v, rfl, hr⟩ I₄ T₀₄
  · have hje : j = ds.length := by omega
    subst hje
    refine It.fin (s := At2 s h' tk) it' (Nat.le_refl _) R.hh fun h₂ he₂ => ?_
    obtain ⟨I₂, nL, nC⟩ := I'.but (σ' := ⟨h₂, τ', tk⟩) hI0 hIo ⟨_, hdI⟩ he₂ (Nat.le_refl _) (fun _ _ => rfl)
    have T₂ : Tr f O O' ⟨s.heap, τ, s.toks⟩ ⟨h₂, τ', tk⟩ := ⟨fun b o e h1 h2 h3 => he₂ b o (none_ne hI (l₁.keep _ _ e)) (T.keep b o e h1 h2 h3), fun b o e => by
      obtain ⟨o', e'⟩ := T.alive b o e
      exact ⟨o', he₂ b o' (none_ne hI (l₁.keep _ _ e)) e'⟩, T.toks, T.agree, T.own⟩
    exact fin y hJ A (At2 s h₂ tk) τ' O' R I₂ _ _ fun l w O₄ δ₄ h₄ tk₄ τ₄ hp hf I₄ T₄ => q l w O₄ δ₄ h₄ tk₄ τ₄ hp hf I₄ (T₂.trans T₄)
end

/-! ## 13. A call of a def -/
section
variable {M : Model} {A : Around} {E : Value → Shared → Prop} {s₀ s : Shared} {m cm : Str → Option Value} {env : Env}
def locals (kindOf : Str → Option NameKind) (binds : List (Str × Value)) : Nat := (binds.filter fun x => kindOf x.1 == some NameKind.local).length

theorem bindT (f : Str × Value → PUnit → Sem (ForInStep PUnit)) (hf : ∀ n v u, f (n, v) u = (do storeName env n v; pure (.yield ⟨⟩))) (hk : env.scope.kind = .function) :
    ∀ (binds : List (Str × Value)) (m cm : Str → Option Value) (s : Shared) (Q : PUnit → Shared → Prop), InCallC s₀ env.locals m env.cells cm s →
      (∀ x ∈ binds, env.kindOf x.1 = some .local ∨ (env.kindOf x.1 = some .cell ∧ (env.cells.lookup x.1).isSome = true)) →
      (∀ s', InCallC s₀ env.locals (bindL env.kindOf binds m) env.cells (bindC env.kindOf binds cm) s' → s.toks + locals env.kindOf binds ≤ s'.toks → Q ⟨⟩ s') → wpAny M A (forIn binds ⟨⟩ f) Q E s
  | [], m, cm, s, Q, x, _, h => by rw [List.forIn_nil]; exact wpAny_pure (h s x (Nat.le_refl _))
  | (n, v) :: r, m, cm, s, Q, x, hkind, h => by
    rw [List.forIn_cons, hf]
    have hr : ∀ y ∈ r, env.kindOf y.1 = some .local ∨ (env.kindOf y.1 = some .cell ∧ (env.cells.lookup y.1).isSome = true) := fun y hy => hkind y (List.mem_cons_of_mem _ hy)
    rcases hkind (n, v) List.mem_cons_self with hl | ⟨hl, hc⟩
    · have hl' : env.kindOf n = some .local := hl
      have e1 : locals env.kindOf ((n, v) :: r) = locals env.kindOf r + 1 := by
        unfold locals
        rw [List.filter_cons_of_pos (by rw [hl']; rfl)]
        rfl
      refine wpAny_bind (wpAny_bind (wpAny_storeName_local hl' x.toInCall.ns (fun h' hn' hs' => ?_) (by rw [hk]; rfl)))
      have x₁ : InCallC s₀ env.locals (fun y => if y = n then some v else m y) env.cells cm { s with heap := h', toks := s.toks + 1 } := by
        refine ⟨⟨?_, hn', fun b o e => ?_, x.toInCall.fresh⟩, fun k c hc => ?_, x.apart, x.above⟩
        · obtain ⟨h₁, tk, e⟩ := x.toInCall.same
          exact ⟨h', _, by rw [e]⟩
        · exact hs'.extBut b o (Nat.ne_of_lt (Nat.lt_of_lt_of_le (Heap.lt_size e) x.toInCall.fresh)) (x.toInCall.keep b o e)
        · exact (x.cell k c hc).sameBut hs' (Nat.ne_of_gt (x.above k c (mem_of_lookup hc)))
      refine wpAny_pure (bindT f hf hk r _ _ _ Q x₁ hr fun s'' x'' ht => h s'' ?_ ?_)
      · unfold bindL bindC; rw [if_pos hl, if_pos hl]; exact x''
      · rw [e1]
        have : s.toks + 1 + locals env.kindOf r ≤ s''.toks := ht
        omega
    · obtain ⟨c, hc⟩ := Option.isSome_iff_exists.mp hc
      have hnl : ¬ env.kindOf n = some .local := by rw [show env.kindOf n = some .cell from hl]; decide
      have e1 : locals env.kindOf ((n, v) :: r) = locals env.kindOf r := by
        unfold locals
        rw [List.filter_cons_of_neg (by show ¬ ((env.kindOf n == some NameKind.local) = true); rw [show env.kindOf n = some .cell from hl]; decide)]
      refine wpAny_bind (wpAny_bind (wpAny_with_toks (n := s.toks) (Nat.le_refl _) (stCC x hk hl hc fun s' x' ht => wpAny_pure (bindT f hf hk r _ _ s' Q x' hr fun s'' x'' ht' => h s'' ?_ ?_))))
      · unfold bindL bindC; rw [if_neg hnl, if_neg hnl]; exact x''
      · rw [e1]; omega

theorem newEnvT {scope : Scope} {globals : Addr} {binds : List (Str × Value)} {qual : Str} {func : Option Addr} {code : Value} {builtins : Addr} {Q : Env → Shared → Prop}
    (hk : scope.kind = .function)
    (hkind : ∀ x ∈ binds, scope.names.lookup x.1 = some .local ∨ (scope.names.lookup x.1 = some .cell ∧ ((cellsFrom (s.heap.objs.size + 1) scope.names []).lookup x.1).isSome = true))
    (hQ : ∀ env, env = newEnv scope s.heap.objs.size globals (cellsFrom (s.heap.objs.size + 1) scope.names []) qual func code none builtins →
      ∀ s', InCallC s env.locals (bindL env.kindOf binds fun _ => none) env.cells (bindC env.kindOf binds fun _ => none) s' → s.toks + locals env.kindOf binds ≤ s'.toks → Q env s') :
    wpAny M A (newFunctionEnv scope globals [] binds qual func code none builtins) Q E s := by
  simp only [newFunctionEnv, Option.isSome_none, Bool.false_eq_true, if_false]
  refine wpAny_bind (wpAny_alloc ?_)
  refine wpAny_bind (wpAny_layCells _ (fun name kind cells => by cases hkc : kind == NameKind.cell <;> simp [hkc]) _ _ _ _ ?_)
  have ok := cellsFrom_ok scope.names (s.heap.push { cls := .type "frame", data := .dict #[] }) (s.heap.objs.size + 1) [] ⟨fun _ _ hm => (nomatch hm), List.Pairwise.nil⟩ (by rw [Heap.size_push]; exact Nat.le_refl _)
  rw [Heap.size_push] at ok
  rw [show ({ s with heap := s.heap.push { cls := .type "frame", data := .dict #[] } } : Shared).heap.objs.size = s.heap.objs.size + 1 from Heap.size_push ..]
  refine wpAny_bind (bindT (s₀ := s) (env := newEnv scope s.heap.objs.size globals (cellsFrom (s.heap.objs.size + 1) scope.names []) qual func code none builtins)
    _ (fun _ _ _ => rfl) hk binds (fun _ => none) (fun _ => none) _ _
    ⟨⟨⟨_, _, rfl⟩, (Heap.Ns.new s.heap (.type "frame")).keeps (pushCells_keeps _ _), fun b o e => pushCells_keeps _ _ b o (Heap.get?_push_of_some _ e), Nat.le_refl _⟩,
      fun n c hc => (ok.empty n c (mem_of_lookup hc)).1, ok.apart, fun n c hm => (ok.empty n c hm).2⟩
    hkind fun s' x ht => wpAny_pure (hQ _ rfl s' x ht))

theorem bindL_skip {kindOf : Str → Option NameKind} {p : Str} : ∀ {binds : List (Str × Value)} {m : Str → Option Value}, p ∉ binds.map (·.1) → bindL kindOf binds m p = m p
  | [], _, _ => rfl
  | (n, v) :: r, m, h => by
    have hp : p ≠ n := fun e => h (by rw [e]; exact List.mem_cons_self)
    have hr : p ∉ r.map (·.1) := fun q => h (List.mem_cons_of_mem _ q)
    unfold bindL
    rw [bindL_skip hr]
    split
    · simp [hp]
    · rfl
theorem bindC_skip {kindOf : Str → Option NameKind} {p : Str} : ∀ {binds : List (Str × Value)} {m : Str → Option Value}, p ∉ binds.map (·.1) → bindC kindOf binds m p = m p
  | [], _, _ => rfl
  | (n, v) :: r, m, h => by
    have hp : p ≠ n := fun e => h (by rw [e]; exact List.mem_cons_self)
    have hr : p ∉ r.map (·.1) := fun q => h (List.mem_cons_of_mem _ q)
    unfold bindC
    rw [bindC_skip hr]
    split
    · rfl
    · simp [hp]
theorem bindL_get {kindOf : Str → Option NameKind} {p : Str} {w : Value} (hk : kindOf p = some .local) : ∀ {binds : List (Str × Value)} {m : Str → Option Value}, (binds.map (·.1)).Nodup → (p, w) ∈ binds → bindL kindOf binds m p = some w
  | (n, v) :: r, m, hn, h => by
    rw [List.map_cons, List.nodup_cons] at hn
    unfold bindL
    rcases List.mem_cons.mp h with e | h
    · cases e
      rw [if_pos hk, bindL_skip hn.1]
      simp
    · exact bindL_get hk hn.2 h
theorem bindC_get {kindOf : Str → Option NameKind} {p : Str} {w : Value} (hk : kindOf p = some .cell) : ∀ {binds : List (Str × Value)} {m : Str → Option Value}, (binds.map (·.1)).Nodup → (p, w) ∈ binds → bindC kindOf binds m p = some w
  | (n, v) :: r, m, hn, h => by
    rw [List.map_cons, List.nodup_cons] at hn
    unfold bindC
    rcases List.mem_cons.mp h with e | h
    · cases e
      rw [if_neg (by rw [hk]; decide), bindC_skip hn.1]
      simp
    · exact bindC_get hk hn.2 h
end

/-- what is looked up of a def before its body runs -/
structure Def (W : Wd) (a : Addr) (fd : FuncData) (ps : List Str) (body : List Stmt) : Prop where
  obj : ∃ oc od osl, W.K.lookup a = some ⟨oc, od, .func fd, osl⟩
  code : codeIn W.K fd.code fd.qualname = true
  body : fd.body = .stmts body
  clo : fd.closure = []
  glob : fd.globals = mainGlobals
  bi : fd.builtins = builtinsNs
  kind : fd.scope.kind = .function
  co : fd.scope.isCoroutine = false
  gen : fd.scope.isGenerator = false
  nd : ps.Nodup
  ar : ∀ x ∈ ps, fd.scope.names.lookup x = some .local ∨ fd.scope.names.lookup x = some .cell
  cells : ∀ n x, fd.scope.names.lookup x = some .cell → ((cellsFrom n fd.scope.names []).lookup x).isSome = true

/-- a def's frame -/
def Fd (fd : FuncData) (a : Addr) (h₀ : Heap) (rk : Nat) (fr : Bool) : Fm := ⟨callEnvC fd h₀.objs.size a, h₀, rk, fr⟩

theorem mem_zip_get {α β : Type} {R : β → D → Prop} : ∀ {ps : List α} {vs : List β} {ds : List D} {p : α} {d : D}, L2 R vs ds → (p, d) ∈ ps.zip ds → ∃ v, (p, v) ∈ ps.zip vs ∧ R v d
  | [], _, _, _, _, _, h => by simp at h
  | _ :: _, _, _, _, _, .nil, h => by simp at h
  | q :: ps, _, _, p, d, .cons (a := v) hr r, h => by
    rw [List.zip_cons_cons] at h ⊢
    rcases List.mem_cons.mp h with e | h
    · cases e; exact ⟨v, List.mem_cons_self, hr⟩
    · obtain ⟨w, h1, h2⟩ := mem_zip_get r h
      exact ⟨w, List.mem_cons_of_mem _ h1, h2⟩

theorem zip_fst {α β : Type} : ∀ {ps : List α} {vs : List β}, vs.length = ps.length → (ps.zip vs).map (·.1) = ps
  | [], _, _ => by simp
  | p :: ps, [], h => by simp at h
  | p :: ps, v :: vs, h => by rw [List.zip_cons_cons, List.map_cons, zip_fst (by simpa using h)]

section
variable {W : Wd}
theorem Def.enter {a : Addr} {fd : FuncData} {ps : List Str} {body : List Stmt} (D₀ : Def W a fd ps body) {ds : List D} {rk : Nat} {fr : Bool} {A : Around} {s : Shared} {τ : Tok → Int} {vs : List Value} {R : Result → Shared → Prop}
    (hbind : bindArgs fd ⟨vs, []⟩ = pure (ps.zip vs)) (hlen : ds.length = ps.length) (hd : A.depth < recursionLimit) (hg : W.G s.heap) (hp : 0 < s.toks ∨ ∃ x ∈ ps, fd.scope.names.lookup x = some .local) (hr : L2 (Rel (fun _ => True) ⟨s.heap, τ, s.toks⟩) vs ds)
    (h : ∀ h₁ tk₁, Le ⟨s.heap, τ, s.toks⟩ ⟨h₁, τ, tk₁⟩ → Inv W (Fd fd a s.heap rk fr) [] ((ps.zip ds).map fun x => (x.1, EK.par, x.2)) ⟨h₁, τ, tk₁⟩ → (∃ m, h₁.Ns (Fd fd a s.heap rk fr).env.locals m ∧ ∀ x ∈ ps.zip vs, At (Fd fd a s.heap rk fr).env h₁ m x.1 x.2) →
      wpAny W.M (A.deeper (Fd fd a s.heap rk fr).env) (execs body (Fd fd a s.heap rk fr).env) (fun f s' => R (.ok (.ret (match f with | .ret v => v | _ => .none))) s')
        (fun e s' => wpAny W.M (A.deeper (Fd fd a s.heap rk fr).env) (leaving (Fd fd a s.heap rk fr).env e) (fun _ s'' => R (.error e) s'') (fun e' s'' => R (.error e') s'') s') (At2 s h₁ tk₁)) :
    codeAny W.M A (.call (.ref a) ⟨vs, []⟩) R s := by
  obtain ⟨oc, od, osl, ho⟩ := D₀.obj
  have hvl : vs.length = ps.length := by rw [hr.length, hlen]
  have hz : (ps.zip vs).map (·.1) = ps := zip_fst hvl
  have hmem : ∀ x ∈ ps.zip vs, x.1 ∈ ps := fun x hx => by rw [← hz]; exact List.mem_map_of_mem hx
  refine codeAny_call_function hd (hg.K _ _ ho) rfl D₀.co D₀.gen D₀.body (codeRec_of hg.K D₀.code) ?_
  rw [hbind, D₀.clo]
  refine wpAny_pure (newEnvT D₀.kind (fun x hx => (D₀.ar x.1 (hmem x hx)).imp id fun q => ⟨q, D₀.cells _ _ q⟩) fun env he s' x ht => ?_)
  subst he
  obtain ⟨h₁, tk₁, e₁⟩ := x.toInCall.same
  subst e₁
  refine ⟨hg.T.nolimit.keeps x.toInCall.keep, codeAny_func ?_⟩
  have e0 : newEnv fd.scope s.heap.objs.size fd.globals (cellsFrom (s.heap.objs.size + 1) fd.scope.names []) (fd.qualname ++ ".<locals>.") (some a) fd.code none fd.builtins = (Fd fd a s.heap rk fr).env := rfl
  rw [e0]
  have ht' : s.toks + locals (Fd fd a s.heap rk fr).env.kindOf (ps.zip vs) ≤ tk₁ := ht
  have le : Le ⟨s.heap, τ, s.toks⟩ ⟨h₁, τ, tk₁⟩ := Le.mk' x.toInCall.keep (by omega)
  have hAt : ∀ y ∈ ps.zip vs, At (Fd fd a s.heap rk fr).env h₁ (bindL (Fd fd a s.heap rk fr).env.kindOf (ps.zip vs) fun _ => none) y.1 y.2 := by
    rintro ⟨p, v⟩ hv
    rcases D₀.ar p (hmem _ hv) with hl | hc
    · exact .inl ⟨hl, bindL_get hl (by rw [hz]; exact D₀.nd) hv⟩
    · obtain ⟨c, hcl⟩ := Option.isSome_iff_exists.mp (D₀.cells (s.heap.objs.size + 1) p hc)
      refine .inr ⟨c, .inl hc, hcl, ?_⟩
      have hcell := x.cell p c hcl
      rw [bindC_get (w := v) hc (by rw [hz]; exact D₀.nd) hv] at hcell
      exact hcell
  refine h h₁ tk₁ le ⟨⟨D₀.kind, D₀.glob, D₀.bi, hg, fun y z c h1 h2 => name_of_addr x.apart (mem_of_lookup h1) (mem_of_lookup h2), get_size _, fun y c hc => ?_⟩, x.toInCall.keep, ?_, fun _ _ q => (by cases q), fun _ _ _ q => (by cases q), fun _ _ _ q => (by cases q), fun y c hc => ⟨_, x.cell y c hc⟩, _, x.toInCall.ns, fun e he => ?_⟩ ⟨_, x.toInCall.ns, hAt⟩
  · have := x.above y c (mem_of_lookup hc)
    exact Heap.get?_none_of_le (Nat.le_of_lt this)
  · show 0 < tk₁
    rcases hp with q | ⟨y, hy, hl⟩
    · omega
    · have : 0 < locals (Fd fd a s.heap rk fr).env.kindOf (ps.zip vs) := by
        rw [← hz] at hy
        obtain ⟨b, hb, rfl⟩ := List.mem_map.mp hy
        exact List.length_pos_of_mem (List.mem_filter.mpr ⟨hb, by
          have : (Fd fd a s.heap rk fr).env.kindOf b.1 = some .local := hl
          rw [this]; rfl⟩)
      omega
  · obtain ⟨⟨p, d⟩, hpd, rfl⟩ := List.mem_map.mp he
    obtain ⟨v, hv, hrel⟩ := mem_zip_get hr hpd
    exact ⟨v, hAt _ hv, Rel.le le (hrel.there fun b o _ e q => by have e' : s.heap.get? b = some o := e; have q' : s.heap.get? b = none := q; rw [e'] at q'; cases q')⟩

def Ret (d : D) : Pst := fun l _ => l = .ret d

theorem Fn.of {a : Addr} {fd : FuncData} {ps : List Str} {body : List Stmt} (D₀ : Def W a fd ps body) {ds : List D} {d : D} {rk : Nat} {fx : Bool} (hbind : ∀ vs : List Value, vs.length = ps.length → bindArgs fd ⟨vs, []⟩ = pure (ps.zip vs)) (hlen : ds.length = ps.length)
    (h : ∀ h₀, WS W (Fd fd a h₀ rk fx) body ((ps.zip ds).map fun x => (x.1, EK.par, x.2)) (Ret d)) : Fn W (rk + 1) fx a ds .fresh d := by
  intro A s τ vs hh hd hu hfx hpos hg hr Q E q
  refine wpAny_call (D₀.enter (rk := rk) (fr := fx) (hbind vs (by rw [hr.length, hlen])) hlen (by omega) hg (.inl hpos) hr fun h₁ tk₁ l₁ I _ => ?_)
  have R : Room (Fd fd a s.heap rk fx) (A.deeper (Fd fd a s.heap rk fx).env) := by
    refine ⟨hh, ?_, ?_, fun e => ⟨rfl, ?_⟩⟩
    · show A.depth + 1 + rk < recursionLimit; omega
    · show A.units + 3 + 8 * rk + 8 < cLine; omega
    · obtain ⟨outer, h1, h2⟩ := hfx e
      exact ⟨outer, Around.frames_deeper h1, h2⟩
  refine h s.heap _ (At2 s h₁ tk₁) τ [] R I _ _ fun l w O' δ' h' tk τ' hp hf I' T => ?_
  cases hp
  obtain ⟨v, rfl, hv⟩ := hf
  exact q v h' tk τ' ⟨I'.keep, Nat.le_trans l₁.toks T.toks, fun t ht => (T.agree t (Nat.lt_of_lt_of_le ht l₁.toks)).trans (l₁.agree t ht)⟩ hv
end

def fparts (n : Nat) : Arguments × List Stmt × Scope := match PySem.Challenge.pw_rw0009_01.main.body[n]? with
  | some (.FunctionDef _ a b _ _ _ s _ _ _) => (a, b, s)
  | _ => ({ posonlyargs := [], args := [], vararg := none, kwonlyargs := [], kw_defaults := [], kwarg := none, defaults := [] }, [], default)
abbrev bodyn (n : Nat) : List Stmt := (fparts n).2.1
def fdn (n : Nat) (name : Str) (pm : Value) (cd : Addr) : FuncData := fnOf name name (fparts n).1 (fparts n).2.1 (fparts n).2.2 .none .none .none pm none (.ref cd) .none

theorem kind_fd {n : Nat} {name : Str} {pm : Value} {cd a rk fr h₀ x k} (h : (fparts n).2.2.names.lookup x = some k) : (Fd (fdn n name pm cd) a h₀ rk fr).env.kindOf x = some k := h
theorem st_fd {n : Nat} {name : Str} {pm : Value} {cd a rk fr h₀ x} (h : (fparts n).2.2.names.lookup x = some .local) : St (Fd (fdn n name pm cd) a h₀ rk fr) x := .inl h
theorem all_nil {p : Ent → Prop} : ∀ e ∈ ([] : List Ent), p e := fun _ h => nomatch h
theorem all_cons {p : Ent → Prop} {a : Ent} {l : List Ent} (h1 : p a) (h2 : ∀ e ∈ l, p e) : ∀ e ∈ a :: l, p e := List.forall_mem_cons.mpr ⟨h1, h2⟩
theorem ne_key {x y : Str} {k : EK} {d : D} (h : (y == x) = false) : (y, k, d).1 ≠ x := fun e => by rw [show y = x from e, beq_self_eq_true] at h; cases h

local macro_rules | `(tactic| walk_at "st") => `(tactic| exact st_fd (by decide +kernel))
local macro_rules | `(tactic| walk_at "mem") => `(tactic| (repeat (first | (with_reducible exact List.mem_cons_self) | (refine mem_er ?_ (by decide +kernel)) | (refine List.mem_cons_of_mem _ ?_))))
local macro_rules | `(tactic| walk_at "sub") => `(tactic| ((repeat (refine all_cons (by walk_at "mem") ?_)); exact all_nil))
local macro_rules | `(tactic| walk_at "off") => `(tactic| (intro _; (repeat (refine all_cons (ne_key (by decide +kernel)) ?_)); exact all_nil))
local macro_rules | `(tactic| walk_at "name") => `(tactic| first | (refine Ev.safe ?_ (by decide +kernel); walk_at "mem"; done) | (refine Ev.par ?_ (by decide +kernel); walk_at "mem"; done) | (refine Ev.own ?_ (by decide +kernel); walk_at "mem"; done))
local macro_rules | `(tactic| walk_at "ev") => `(tactic| first | exact Ev.cint | exact Ev.cbool | exact Ev.cnone | walk_at "name")

theorem int_get {l : List Int} {j : Nat} {d : D} (h : (l.map D.int)[j]? = some d) : ∃ i, l[j]? = some i ∧ d = .int i := by
  rw [List.getElem?_map] at h
  cases e : l[j]? with
  | none => rw [e] at h; cases h
  | some i => rw [e] at h; cases h; exact ⟨i, rfl, rfl⟩

section
variable {W : Wd} {a : Addr} {h₀ : Heap} {rk : Nat} {pm : Value} {cd : Addr} {fx : Bool}

theorem ws_countOf (hS : nsIn W.K cStatics sharingNotToldKey = some none) {l : List Int} {v : Int} :
   WS W (Fd (fdn 2 "countOf" pm cd) a h₀ rk fx) (bodyn 2) [("a", .par, .il l), ("b", .par, .int v)] (Ret (.int (l.count v))) := by
  refine WS.cons (W1.assign Ev.cint.toSafe (by walk_at "st") ?_)
  refine WS.cons (W1.for (EvI.par (l := l) ?_) (fun c : Int => [("a", .par, .il l), ("b", .par, .int v), ("count", .safe, .int c)]) (fun j c => c = ((l.take j).count v : Nat)) 0 (by simp) (by walk_at "sub") (by walk_at "off") (by walk_at "st") ?_ ?_)
  · walk_at "mem"
  · intro j c d hd hJ
    obtain ⟨i, hl, rfl⟩ := int_get hd
    subst hJ
    refine WS.cons (W1.ite (c := i == v) ?_ ?_ ?_)
    · refine EvT.isOr hS (k₁ := .safe) (k₂ := .any) (p := i) (q := v) ?_ ?_ ?_ ?_ <;> walk_at "ev"
    · intro hc
      refine WS.cons (W1.aug (by walk_at "mem") Ev.cint (by walk_at "st") ?_)
      refine WS.nil (WS.nil ⟨_, ?_, by walk_at "sub"⟩)
      rw [List.take_add_one, hl, List.count_append]
      simp at hc
      simp [hc]
    · intro hc
      refine WS.nil (WS.nil ⟨_, ?_, by walk_at "sub"⟩)
      rw [List.take_add_one, hl, List.count_append]
      simp at hc
      simp [List.count_singleton, hc]
  · intro y hJ
    rw [List.length_map, List.take_length] at hJ
    subst hJ
    refine WS.nil (WS.cons (W1.ret ?_ rfl))
    walk_at "ev"
end

/-- what is known of the world: names of the built-ins that no def hides -/
structure Wf (W : Wd) : Prop where
  told : nsIn W.K cStatics sharingNotToldKey = some none
  miss : ∀ x ∈ (["len", "range", "sum", "isinstance", "list", "bool", "int", "enumerate", "hasattr", "ValueError"] : List Str), nsIn W.K mainGlobals x = some none

section
variable {W : Wd} {f : Fm} {δ : List Ent}
theorem Ev.to {e : Expr} {k : RK} {d d' : D} (h : Ev W f e δ k d) (e' : d = d') : Ev W f e δ k d' := e' ▸ h
theorem EvT.to {e : Expr} {b b' : Bool} (h : EvT W f e δ b) (e' : b = b') : EvT W f e δ b' := e' ▸ h
theorem Ev.nS {x : Str} {p : Pos} {d : D} (he : (x, EK.safe, d) ∈ δ) (hd : (x == ("__debug__" : Str)) = false) : Ev W f (.Name x p) δ .any d := (Ev.safe he hd).toAny
theorem Ev.fresh_any {e : Expr} {d : D} (h : Ev W f e δ .fresh d) : Ev W f e δ .any d := h.toAny
theorem Ev.fresh_safe {e : Expr} {d : D} (h : Ev W f e δ .fresh d) : Ev W f e δ .safe d := h.toSafe
theorem Ev.safe_any {e : Expr} {d : D} (h : Ev W f e δ .safe d) : Ev W f e δ .any d := h.toAny
variable {d : D} {l r x : Expr} {pos : Pos} {a b : Int} {u v : List Int}
theorem Ev.add (h1 : Ev W f l δ .any (.int a)) (h2 : Ev W f r δ .any (.int b)) : Ev W f (.BinOp l .Add r pos) δ .fresh (.int (a + b)) := h1.bin h2 (Op2.ii op_add)
theorem Ev.sub (h1 : Ev W f l δ .any (.int a)) (h2 : Ev W f r δ .any (.int b)) : Ev W f (.BinOp l .Sub r pos) δ .fresh (.int (a - b)) := h1.bin h2 (Op2.ii op_sub)
theorem Ev.neg (h1 : Ev W f x δ .any (.int a)) : Ev W f (.UnaryOp .USub x pos) δ .fresh (.int (-a)) := h1.un (Op1.i op_neg)
theorem Ev.len {y : Str} {p : Pos} (b : Bn W f y (.builtin "len")) (h : Ev W f x δ .any (.il u)) (hn : NS x := by intro _ _; rfl) : Ev W f (.Call (.Name y p) [x] [] pos) δ .fresh (.int u.length) := Ev.call1 b h (Op1.l op_len) hn
theorem EvT.eqI (h1 : Ev W f l δ .any (.int a)) (h2 : Ev W f r δ .any (.int b)) (hm : behindInMarks .Eq r = false := by with_unfolding_all rfl) : EvT W f (.Compare l [.Eq] [r] pos) δ (a == b) := EvT.cmp h1 h2 (Op2.ii op_eq) hm
theorem EvT.neI (h1 : Ev W f l δ .any (.int a)) (h2 : Ev W f r δ .any (.int b)) (hm : behindInMarks .NotEq r = false := by with_unfolding_all rfl) : EvT W f (.Compare l [.NotEq] [r] pos) δ (a != b) := EvT.cmp h1 h2 (Op2.ii op_ne) hm
theorem EvT.ltI (h1 : Ev W f l δ .any (.int a)) (h2 : Ev W f r δ .any (.int b)) (hm : behindInMarks .Lt r = false := by with_unfolding_all rfl) : EvT W f (.Compare l [.Lt] [r] pos) δ (decide (a < b)) := EvT.cmp h1 h2 (Op2.ii op_lt) hm
theorem EvT.leI (h1 : Ev W f l δ .any (.int a)) (h2 : Ev W f r δ .any (.int b)) (hm : behindInMarks .LtE r = false := by with_unfolding_all rfl) : EvT W f (.Compare l [.LtE] [r] pos) δ (decide (a ≤ b)) := EvT.cmp h1 h2 (Op2.ii op_le) hm
theorem EvT.gtI (h1 : Ev W f l δ .any (.int a)) (h2 : Ev W f r δ .any (.int b)) (hm : behindInMarks .Gt r = false := by with_unfolding_all rfl) : EvT W f (.Compare l [.Gt] [r] pos) δ (decide (b < a)) := EvT.cmp h1 h2 (Op2.ii op_gt) hm
theorem EvT.eqL (h1 : Ev W f l δ .any (.il u)) (h2 : Ev W f r δ .any (.il v)) (hm : behindInMarks .Eq r = false := by with_unfolding_all rfl) : EvT W f (.Compare l [.Eq] [r] pos) δ (u == v) := EvT.cmp h1 h2 op_eqL hm
theorem EvT.neL (h1 : Ev W f l δ .any (.il u)) (h2 : Ev W f r δ .any (.il v)) (hm : behindInMarks .NotEq r = false := by with_unfolding_all rfl) : EvT W f (.Compare l [.NotEq] [r] pos) δ (u != v) := EvT.cmp h1 h2 op_neL hm
theorem EvS.one (h : Ev W f x δ .any d) (hn : NS x := by intro _ _; rfl) : EvS W f [x] δ .any [d] := EvS.cons h EvS.nil hn
theorem Ev.slice1 {lo : Expr} {p : Pos} (h : Ev W f x δ .any (.il u)) (h1 : Ev W f lo δ .any (.int a)) : Ev W f (.Subscript x (.Slice (some lo) none none p) pos) δ .fresh (.il (pick u (some a) none none)) := Ev.slice h (.some h1) .none .none (by simp)
theorem Ev.slice2 {hi : Expr} {p : Pos} (h : Ev W f x δ .any (.il u)) (h1 : Ev W f hi δ .any (.int a)) : Ev W f (.Subscript x (.Slice none (some hi) none p) pos) δ .fresh (.il (pick u none (some a) none)) := Ev.slice h .none (.some h1) .none (by simp)
theorem Ev.slice12 {lo hi : Expr} {p : Pos} (h : Ev W f x δ .any (.il u)) (h1 : Ev W f lo δ .any (.int a)) (h2 : Ev W f hi δ .any (.int b)) : Ev W f (.Subscript x (.Slice (some lo) (some hi) none p) pos) δ .fresh (.il (pick u (some a) (some b) none)) := Ev.slice h (.some h1) (.some h2) .none (by simp)
theorem Ev.slice0 {p : Pos} (h : Ev W f x δ .any (.il u)) : Ev W f (.Subscript x (.Slice none none none p) pos) δ .fresh (.il (pick u none none none)) := Ev.slice h .none .none .none (by simp)
theorem Ev.sliceS {st : Expr} {p : Pos} (h : Ev W f x δ .any (.il u)) (h1 : Ev W f st δ .any (.int a)) (h0 : a ≠ 0) : Ev W f (.Subscript x (.Slice none none (some st) p) pos) δ .fresh (.il (pick u none none (some a))) := Ev.slice h .none .none (.some h1) (by simpa using h0)
end

/-! the parts that are picked -/
section
variable {α : Type} {l : List α}
theorem pick_run (s : Nat) : ∀ c : Nat, ((List.range c).map fun (k : Nat) => ((s : Int) + 1 * (k : Int)).toNat).filterMap (l[·]?) = (l.drop s).take c
  | 0 => by simp
  | c + 1 => by
    rw [List.range_succ, List.map_append, List.filterMap_append, pick_run s c, List.take_add_one, List.getElem?_drop]
    congr 1
    have e : ((s : Int) + 1 * (c : Int)).toNat = s + c := by omega
    simp only [List.map_cons, List.map_nil, e]
    cases h : l[s + c]? <;> simp [h]
theorem pick_up {lo hi : Option Int} {s e : Nat} (hb : sliceBounds lo hi none l.length = ((s : Int), (e : Int), 1)) : pick l lo hi none = (l.drop s).take (e - s) := by
  unfold pick
  rw [hb]
  unfold sliceRange
  show List.filterMap _ (List.map (fun (k : Nat) => ((s : Int) + 1 * (k : Int)).toNat) _) = _
  have : (if (1 : Int) > 0 then (if (s : Int) < (e : Int) then ((e : Int) - s + 1 - 1) / 1 else 0) else (if (s : Int) > (e : Int) then ((s : Int) - e - 1 - 1) / (-1) else 0)).toNat = e - s := by
    rw [if_pos (by omega)]
    split <;> omega
  simp only [this]
  exact pick_run s (e - s)
theorem pick_all : pick l none none none = l := by
  rw [pick_up (s := 0) (e := l.length) rfl]; simp
theorem pick_from {a : Int} {k : Nat} (h : a = (k : Int)) : pick l (some a) none none = l.drop k := by
  subst h
  by_cases q : k ≤ l.length
  · rw [pick_up (s := k) (e := l.length) (by
      show ((if (1 : Int) > 0 then max 0 (min (if (k : Int) < 0 then (k : Int) + l.length else k) (l.length : Int)) else _), ((l.length : Nat) : Int), (1 : Int)) = _
      rw [if_pos (by omega), if_neg (by omega)]
      congr 1; omega)]
    rw [List.take_of_length_le (by simp)]
  · rw [pick_up (s := l.length) (e := l.length) (by
      show ((if (1 : Int) > 0 then max 0 (min (if (k : Int) < 0 then (k : Int) + l.length else k) (l.length : Int)) else _), ((l.length : Nat) : Int), (1 : Int)) = _
      rw [if_pos (by omega), if_neg (by omega)]
      congr 1; omega)]
    simp; omega
theorem pick_to {a : Int} {k : Nat} (h : a = (k : Int)) : pick l none (some a) none = l.take k := by
  subst h
  have e : sliceBounds none (some (k : Int)) none l.length = (((0 : Nat) : Int), ((min k l.length : Nat) : Int), 1) := by
    show ((0 : Int), (if (1 : Int) > 0 then max 0 (min (if (k : Int) < 0 then (k : Int) + l.length else k) (l.length : Int)) else _), (1 : Int)) = _
    rw [if_pos (by omega), if_neg (by omega)]
    congr 2; omega
  rw [pick_up e, List.drop_zero, Nat.sub_zero]
  by_cases q : k ≤ l.length
  · rw [Nat.min_eq_left q]
  · rw [Nat.min_eq_right (by omega), List.take_of_length_le (Nat.le_refl _), List.take_of_length_le (by omega)]
theorem pick_to_neg {a : Int} {c : Nat} (h : a = -(c : Int)) (h0 : 0 < c) : pick l none (some a) none = l.take (l.length - c) := by
  subst h
  have e : sliceBounds none (some (-(c : Int))) none l.length = (((0 : Nat) : Int), ((l.length - c : Nat) : Int), 1) := by
    show ((0 : Int), (if (1 : Int) > 0 then max 0 (min (if (-(c : Int)) < 0 then -(c : Int) + l.length else -(c : Int)) (l.length : Int)) else _), (1 : Int)) = _
    rw [if_pos (by omega), if_pos (by omega)]
    congr 2; omega
  rw [pick_up e, List.drop_zero, Nat.sub_zero]
theorem pick_mid {a b : Int} {s e : Nat} (h : a = (s : Int)) (h' : b = (e : Int)) (he : e ≤ l.length) (hs : s ≤ e) : pick l (some a) (some b) none = (l.drop s).take (e - s) := by
  subst h; subst h'
  refine pick_up ?_
  show ((if (1 : Int) > 0 then max 0 (min (if (s : Int) < 0 then (s : Int) + l.length else s) (l.length : Int)) else _), (if (1 : Int) > 0 then max 0 (min (if (e : Int) < 0 then (e : Int) + l.length else e) (l.length : Int)) else _), (1 : Int)) = _
  rw [if_pos (by omega), if_neg (by omega), if_pos (by omega), if_neg (by omega)]
  refine Prod.ext ?_ (Prod.ext ?_ rfl)
  · show max (0 : Int) (min (s : Int) l.length) = s; omega
  · show max (0 : Int) (min (e : Int) l.length) = e; omega
theorem pick_rev : pick l none none (some (-1)) = l.reverse := by
  unfold pick
  have e : sliceBounds none none (some (-1)) l.length = ((l.length : Int) - 1, -1, -1) := rfl
  rw [e]
  unfold sliceRange
  have : (if (-1 : Int) > 0 then (if (l.length : Int) - 1 < -1 then (-1 - ((l.length : Int) - 1) + -1 - 1) / -1 else 0) else (if (l.length : Int) - 1 > -1 then ((l.length : Int) - 1 - -1 - -1 - 1) / (- -1) else 0)).toNat = l.length := by
    rw [if_neg (by omega)]
    split
    · rw [show (- -1 : Int) = 1 from rfl]; omega
    · omega
  simp only [this]
  have key : ∀ c, c ≤ l.length → ((List.range c).map fun (k : Nat) => ((l.length : Int) - 1 + -1 * (k : Int)).toNat).filterMap (l[·]?) = l.reverse.take c := by
    intro c
    induction c with
    | zero => intro _; simp
    | succ c ih =>
      intro hc
      rw [List.range_succ, List.map_append, List.filterMap_append, ih (by omega), List.take_add_one, List.getElem?_reverse (by omega)]
      congr 1
      have e : ((l.length : Int) - 1 + -1 * (c : Int)).toNat = l.length - 1 - c := by omega
      simp only [List.map_cons, List.map_nil, e]
      cases h : l[l.length - 1 - c]? <;> simp [h]
  rw [key l.length (Nat.le_refl _), List.take_of_length_le (by simp)]
end

local macro_rules | `(tactic| walk_at "bn") => `(tactic| exact ⟨kind_fd (by decide +kernel), (Wf.miss (by assumption) _ (by decide +kernel)), by rfl, by decide +kernel, by decide +kernel⟩)
local macro_rules | `(tactic| walk_at "any") => `(tactic| first | exact Ev.cint.toAny | exact Ev.cbool.toAny | exact Ev.cnone.toAny | (refine Ev.par ?_ (by decide +kernel); walk_at "mem"; done) | (refine Ev.nS ?_ (by decide +kernel); walk_at "mem"; done) | (refine Ev.own ?_ (by decide +kernel); walk_at "mem"; done) | (refine Ev.fresh_any ?_; walk_at "fresh"; done))
local macro_rules | `(tactic| walk_at "safe") => `(tactic| first | (refine Ev.safe ?_ (by decide +kernel); walk_at "mem"; done) | (refine Ev.fresh_safe ?_; walk_at "fresh"; done))
local macro_rules | `(tactic| walk_at "fresh") => `(tactic| first | exact Ev.cint | exact Ev.cbool | exact Ev.cnone | (apply Ev.add <;> walk_at "any"; done) | (apply Ev.sub <;> walk_at "any"; done) | (apply Ev.neg <;> walk_at "any"; done) | (refine Ev.len (by walk_at "bn") ?_; walk_at "any"; done) | (apply Ev.slice1 <;> walk_at "any"; done) | (apply Ev.slice2 <;> walk_at "any"; done) | (apply Ev.slice12 <;> walk_at "any"; done) | (apply Ev.slice0 <;> walk_at "any"; done) | (refine Ev.sliceS ?_ (Ev.neg Ev.cint.toAny).toAny (by decide); walk_at "any"; done))
local macro_rules | `(tactic| walk_at "test") => `(tactic| first | (apply EvT.eqI <;> first | walk_at "any" | with_unfolding_all rfl) | (apply EvT.neI <;> first | walk_at "any" | with_unfolding_all rfl) | (apply EvT.ltI <;> first | walk_at "any" | with_unfolding_all rfl) | (apply EvT.leI <;> first | walk_at "any" | with_unfolding_all rfl) | (apply EvT.gtI <;> first | walk_at "any" | with_unfolding_all rfl) | (apply EvT.eqL <;> first | walk_at "any" | with_unfolding_all rfl) | (apply EvT.neL <;> first | walk_at "any" | with_unfolding_all rfl))



section
variable {W : Wd} {a : Addr} {h₀ : Heap} {rk : Nat} {pm : Value} {cd : Addr} {fx : Bool}

theorem ix_nat {i : Int} {k n : Nat} (h : i = (k : Int)) : ix i n = k := by subst h; unfold ix; rw [if_pos (by omega)]; rfl
theorem Ev.at {W : Wd} {f : Fm} {δ : List Ent} {e i : Expr} {pos : Pos} {l : List Int} {k : Int} (j : Nat) {x : Int} (hl : Ev W f e δ .any (.il l)) (hi : Ev W f i δ .any (.int k)) (hk : k = (j : Int)) (hx : l[j]? = some x) : Ev W f (.Subscript e i pos) δ .fresh (.int x) :=
  Ev.item hl hi (by omega) (by rw [ix_nat hk]; exact hx)
theorem Ev.last {W : Wd} {f : Fm} {δ : List Ent} {e i : Expr} {pos : Pos} {l : List Int} {k : Int} {x : Int} (hl : Ev W f e δ .any (.il l)) (hi : Ev W f i δ .any (.int k)) (hk : k = -1) (hx : l.getLast? = some x) : Ev W f (.Subscript e i pos) δ .fresh (.int x) :=
  Ev.item hl hi (by have : l ≠ [] := (by rintro rfl; cases hx); have := List.length_pos_iff.mpr this; omega) (by
    have : l ≠ [] := by rintro rfl; cases hx
    have := List.length_pos_iff.mpr this
    rw [show ix k l.length = l.length - 1 by unfold ix; rw [if_neg (by omega)]; omega, ← List.getLast?_eq_getElem?]; exact hx)
theorem rng_at {a b i : Int} {j : Nat} (h : (rng a b)[j]? = some i) : i = a + j ∧ a + j < b := by
  have hj : j < (b - a).toNat := by
    rw [← rng_length]
    exact (List.getElem?_eq_some_iff.mp h).1
  rw [rng_get hj] at h
  cases h
  exact ⟨rfl, by omega⟩

theorem ws_overlap (hW : Wf W) {p : List Int} (hl : p.length ≤ lim) :
   WS W (Fd (fdn 6 "_generate_overlap_table" pm cd) a h₀ rk fx) (bodyn 6) [("prefix", .par, .il p)] (Ret (.il (ov p))) := by
  rw [lim_eq] at hl
  refine WS.cons (W1.assignOwn (l := tb p 1) ?_ (by walk_at "st") ?_)
  · refine Ev.to (Ev.bin (op := .Mult) (d₂ := .int (p.length : Int)) (Ev.listI (k := .fresh) (l := [0]) (EvS.cons Ev.cint EvS.nil) (by decide)) (k₂ := .fresh) ?_ (Op2.xi (op_mulL (by omega) ?_ (by omega)))) ?_
    · walk_at "fresh"
    · rw [List.flatten_replicate_singleton]; simp; rw [lim_eq]; omega
    · rw [Int.toNat_natCast, tb_one]
  refine WS.cons (W1.for (ds := (rng 1 (p.length : Int)).map D.int) ?_ (fun (t : List Int) => [("prefix", .par, .il p), ("table", .own, .il t)]) (fun j t => t = tb p (j + 1)) (tb p 1) rfl (by walk_at "sub") (by walk_at "off") (by walk_at "st") ?_ ?_)
  · exact EvI.range2 (by walk_at "bn") Ev.cint (k₁ := .fresh) (by walk_at "fresh") (by omega) (by omega) (by omega) (by omega)
  · intro j t d hd hJ
    obtain ⟨i, hi, rfl⟩ := int_get hd
    subst hJ
    obtain ⟨rfl, hlt⟩ := rng_at hi
    have hj : j < p.length := by omega
    have get : ∀ k, k < p.length → p[k]? = some (p.getD k 0) := fun k hk => by rw [List.getD_eq_getElem?_getD, List.getElem?_eq_getElem hk]; rfl
    refine WS.cons (W1.assign (d := .int ((mb p (j + 1) : Nat) : Int)) (Ev.fresh_safe (Ev.at j (k := 1 + (j : Int) - 1) ?_ ?_ (by omega) (tb_get (k := j + 1) hj (by omega)))) (by walk_at "st") ?_)
    · walk_at "any"
    · walk_at "any"
    refine WS.cons (W1.while (fun (k : Nat) => [("idx", .safe, .int (k : Int)), ("i", .safe, .int (1 + (j : Int))), ("prefix", .par, .il p), ("table", .own, .il (tb p (j + 1)))]) (fun n k => n = k ∧ Kmp p (j + 1) k) (mb p (j + 1)) (mb p (j + 1)) ⟨rfl, Kmp.start (by omega)⟩ (by walk_at "sub") ?_)
    rintro k _ ⟨rfl, hk⟩
    have hkl := hk.bd.1
    refine ⟨p.getD (j + 1) 0 != p.getD k 0, EvT.neI (Ev.fresh_any (Ev.at (j + 1) (k := 1 + (j : Int)) ?_ ?_ (by omega) (get _ (by omega)))) (Ev.fresh_any (Ev.at k (k := (k : Int)) ?_ ?_ rfl (get _ (by omega)))), ?_, ?_⟩
    · walk_at "any"
    · walk_at "any"
    · walk_at "any"
    · walk_at "any"
    · intro hne
      have hne' : p[j + 1]? ≠ p[k]? := by rw [get _ (by omega), get _ (by omega)]; simpa using hne
      refine WS.cons (W1.ite (c := (k : Int) == 0) (by walk_at "test") ?_ ?_)
      · intro h0
        have : k = 0 := by simpa using h0
        subst this
        refine WS.cons (W1.setItem (k₁ := .fresh) (k₂ := .safe) (x := "table") (l := tb p (j + 1)) (j := 1 + (j : Int)) (v := 0) (by walk_at "mem") Ev.cint (by walk_at "safe") (by omega) (by rw [tb_length]; omega) (by decide +kernel) ?_)
        refine WS.cons (W1.brk ?_)
        refine WS.nil ⟨tb p (j + 1 + 1), rfl, ?_⟩
        rw [show (1 + (j : Int)).toNat = j + 1 by omega, tb_set (by rw [hk.miss hne']; rfl)]
        walk_at "sub"
      · intro h0
        have h0 : 0 < k := by have : ¬ k = 0 := by simpa using h0
                              omega
        refine WS.nil (WS.cons (W1.assign (d := .int ((mb p k : Nat) : Int)) (Ev.fresh_safe (Ev.at (k - 1) (k := (k : Int) - 1) ?_ ?_ (by omega) (show (tb p (j + 1))[k - 1]? = some ((mb p k : Nat) : Int) by rw [tb_get (by omega) (by omega), Nat.sub_add_cancel h0]))) (by walk_at "st") ?_))
        · walk_at "any"
        · walk_at "any"
        exact WS.nil ⟨mb p k, mb p k, mb_lt h0, ⟨rfl, hk.next h0 hne'⟩, by walk_at "sub"⟩
    · intro he
      have he' : p[j + 1]? = p[k]? := by rw [get _ (by omega), get _ (by omega)]; simpa using he
      refine WS.cons (W1.setItem (k₁ := .fresh) (k₂ := .safe) (x := "table") (l := tb p (j + 1)) (j := 1 + (j : Int)) (v := (k : Int) + 1) (by walk_at "mem") (by walk_at "fresh") (by walk_at "safe") (by omega) (by rw [tb_length]; omega) (by decide +kernel) ?_)
      refine WS.nil (WS.nil ⟨tb p (j + 1 + 1), rfl, ?_⟩)
      rw [show (1 + (j : Int)).toNat = j + 1 by omega, tb_set (by rw [hk.hit he']; rfl)]
      walk_at "sub"
  · intro t hJ
    subst hJ
    rw [List.length_map, rng_length]
    refine WS.nil (WS.cons (W1.retOwn (x := "table") (l := tb p (((p.length : Int) - 1).toNat + 1)) ?_ (by decide +kernel) ?_))
    · walk_at "mem"
    · rw [tb_all (by omega)]; rfl
end



/-- a def of the program, found -/
structure Dn (W : Wd) (x : Str) (n : Nat) where
  a : Addr
  pm : Value
  cd : Addr
  f : Fun W x a (fdn n x pm cd)
  code : codeIn W.K (.ref cd) x = true
def okAr (names : List (Str × NameKind)) (x : Str) : Bool := match names.lookup x with | some .local => true | some .cell => true | _ => false
def okDef (n : Nat) (ps : List Str) : Bool := (fparts n).2.2.kind == .function && !(fparts n).2.2.isCoroutine && !(fparts n).2.2.isGenerator && ps.all (okAr (fparts n).2.2.names) && decide (ps.Nodup)
theorem okAr_iff {names : List (Str × NameKind)} {x : Str} (h : okAr names x = true) : names.lookup x = some .local ∨ names.lookup x = some .cell := by
  unfold okAr at h
  split at h
  · rename_i e; exact .inl e
  · rename_i e; exact .inr e
  · cases h
theorem kind_eq {k : ScopeKind} (h : (k == .function) = true) : k = .function := by cases k <;> first | rfl | cases h
theorem Dn.def {W : Wd} {x : Str} {n : Nat} (D : Dn W x n) {ps : List Str} (h : okDef n ps = true) : Def W D.a (fdn n x D.pm D.cd) ps (bodyn n) := by
  unfold okDef at h
  simp only [Bool.and_eq_true, Bool.not_eq_true', decide_eq_true_eq, List.all_eq_true] at h
  obtain ⟨⟨⟨⟨h1, h2⟩, h3⟩, h4⟩, h5⟩ := h
  exact ⟨D.f.obj, D.code, rfl, rfl, rfl, rfl, kind_eq h1, h2, h3, h5, fun x hx => okAr_iff (h4 x hx), fun n x hx => cellsFrom_some _ n [] (.inl hx)⟩

theorem compD.ints {l : List Int} (h : l.length ≤ lim) : compD (l.map D.int) (.il l) .fresh := .inl ⟨l, rfl, rfl, h, rfl⟩
theorem compD.lists {l : List (List Int)} (h : l.length ≤ lim) : compD (l.map D.il) (.rows l) .safe := .inr ⟨l, rfl, rfl, h, rfl⟩

section
variable {W : Wd} {a : Addr} {h₀ : Heap} {rk : Nat} {pm : Value} {cd : Addr} {fx : Bool}
theorem ws_whole (hW : Wf W) {l : List Int} (hl : l.length ≤ lim) :
   WS W (Fd (fdn 12 "_law_whole" pm cd) a h₀ rk fx) (bodyn 12) [("numbers", .par, .il l)] (Ret (.bool true)) := by
  refine WS.cons (W1.assignC (x := "one") (y := "odd") (cl := []) (δc := []) (l := l) (pr := fun _ => false) (g := fun i => .int i) (k := .fresh) (d := .il []) ⟨rfl, by decide +kernel, rfl, by decide +kernel, by decide +kernel, fun _ _ h => by cases h⟩ (EvI.par (by walk_at "mem") (by decide +kernel)) hl all_nil ?_ ?_ ?_ (by walk_at "st") ?_ rfl)
  · intro C i hi
    refine .inr ⟨_, rfl, EvT.to (EvT.bool (EvA.or_cons (EvT.val (k := .fresh) (b := false) ?_) fun _ => EvA.or_cons (EvT.not (b := true) (EvT.val (k := .fresh) ?_)) fun _ => EvA.or_nil)) rfl⟩
    · refine Ev.isi ⟨rfl, hW.miss _ (by decide +kernel), rfl, by decide +kernel, by decide +kernel⟩ ⟨rfl, hW.miss _ (by decide +kernel), rfl, by decide +kernel, by decide +kernel⟩ (k₁ := .any) (d₁ := .int i) (by walk_at "any") (Op1.i op_int_bool)
    · refine Ev.isi ⟨rfl, hW.miss _ (by decide +kernel), rfl, by decide +kernel, by decide +kernel⟩ ⟨rfl, hW.miss _ (by decide +kernel), rfl, by decide +kernel, by decide +kernel⟩ (k₁ := .any) (d₁ := .int i) (by walk_at "any") (Op1.i op_int_int)
  · intro C i hi h; cases h
  · rw [List.filter_eq_nil_iff.mpr (by simp)]
    exact compD.ints (l := []) (by decide)
  refine WS.cons (W1.ret (d := .bool true) (Ev.fresh_safe (Ev.to (Ev.and2 (k₁ := .fresh) (k₂ := .fresh) (b := true) (c := true) ?_ fun _ => ?_) rfl)) rfl)
  · exact Ev.isi (by walk_at "bn") (by walk_at "bn") (k₁ := .any) (d₁ := .il l) (by walk_at "any") fun A s τ v₁ C h1 Q E q => op_isList A s τ v₁ .none C h1 rfl Q E q
  · exact Ev.to (Ev.cmp (k₁ := .any) (k₂ := .any) (d₁ := .il []) (d₂ := .il []) (by walk_at "any") (Ev.fresh_any (Ev.listI (k := .any) (l := []) EvS.nil (by decide))) op_eqL) rfl
theorem fn_whole (hW : Wf W) (D : Dn W "_law_whole" 12) {l : List Int} (hl : l.length ≤ lim) : Fn W 1 fx D.a [.il l] .fresh (.bool true) :=
  Fn.of (rk := 0) (D.def (ps := ["numbers"]) (by decide +kernel)) (fun vs h => by match vs, h with | [_], _ => rfl) rfl fun h₀ => ws_whole hW hl
theorem fn_countOf (hW : Wf W) (D : Dn W "countOf" 2) {l : List Int} {v : Int} : Fn W 1 fx D.a [.il l, .int v] .fresh (.int (l.count v)) :=
  Fn.of (rk := 0) (D.def (ps := ["a", "b"]) (by decide +kernel)) (fun vs h => by match vs, h with | [_, _], _ => rfl) rfl fun h₀ => ws_countOf hW.told
theorem fn_overlap (hW : Wf W) (D : Dn W "_generate_overlap_table" 6) {l : List Int} (hl : l.length ≤ lim) : Fn W 1 fx D.a [.il l] .fresh (.il (ov l)) :=
  Fn.of (rk := 0) (D.def (ps := ["prefix"]) (by decide +kernel)) (fun vs h => by match vs, h with | [_], _ => rfl) rfl fun h₀ => ws_overlap hW hl
theorem ws_counts (hW : Wf W) (Dc : Dn W "countOf" 2) (Dw : Dn W "_law_whole" 12) {l : List Int} {v : Int} (hr : 1 ≤ rk) :
   WS W (Fd (fdn 13 "_law_counts" pm cd) a h₀ rk fx) (bodyn 13) [("row", .par, .il l), ("low", .par, .int v)] (Ret (.il [(l.count v : Int), (l.count (v + 1) : Int)])) := by
  refine WS.cons (W1.assign (d := .il [(l.count v : Int), (l.count (v + 1) : Int)]) (Ev.fresh_safe (Ev.listI (k := .fresh) (EvS.cons (d := .int (l.count v)) ?_ (EvS.cons (d := .int (l.count (v + 1))) ?_ EvS.nil)) (show 2 ≤ lim by decide))) (by walk_at "st") ?_)
  · refine Ev.call (k₁ := .any) Dc.f (kind_fd (by decide +kernel)) (EvS.cons ?_ (EvS.cons ?_ EvS.nil)) (fn_countOf (fx := false) hW Dc) hr (by intro h; cases h) <;> walk_at "any"
  · refine Ev.call (k₁ := .any) Dc.f (kind_fd (by decide +kernel)) (EvS.cons ?_ (EvS.cons ?_ EvS.nil)) (fn_countOf (fx := false) hW Dc) hr (by intro h; cases h) <;> walk_at "any"
  refine WS.cons (W1.ret (Ev.ite (c := true) (EvT.val (k := .fresh) ?_) (fun _ => ?_) fun h => by cases h) rfl)
  · refine Ev.call (k₁ := .any) Dw.f (kind_fd (by decide +kernel)) (EvS.cons ?_ EvS.nil) (fn_whole (fx := false) (l := [(l.count v : Int), (l.count (v + 1) : Int)]) hW Dw (show 2 ≤ lim by decide)) hr (by intro h; cases h)
    walk_at "any"
  · walk_at "safe"
theorem fn_counts (hW : Wf W) (Dc : Dn W "countOf" 2) (Dw : Dn W "_law_whole" 12) (D : Dn W "_law_counts" 13) {l : List Int} {v : Int} : Fn W 2 fx D.a [.il l, .int v] .fresh (.il [(l.count v : Int), (l.count (v + 1) : Int)]) :=
  Fn.of (rk := 1) (D.def (ps := ["row", "low"]) (by decide +kernel)) (fun vs h => by match vs, h with | [_, _], _ => rfl) rfl fun h₀ => ws_counts hW Dc Dw (Nat.le_refl _)
end



section
variable {W : Wd} {f : Fm} {δ δ' : List Ent} {P : Pst}

/-- a new list is kept for x, before x names it -/
theorem Inv.claim {O : Own} {x : Str} {a : Addr} {its : Array Value} {h₁ h₂ : Heap} {τ₁ τ₂ : Tok → Int} {n₁ n₂ : Nat} (I₁ : Inv W f O δ ⟨h₁, τ₁, n₁⟩) (l₁ : Le ⟨h₁, τ₁, n₁⟩ ⟨h₂, τ₂, n₂⟩) (off : Off δ' δ x) (ha : h₁.get? a = none) (hp : h₂.PlainList a its) :
    Inv W f (O.put x a) δ' ⟨h₂, τ₂, n₂⟩ ∧ Tr f O (O.put x a) ⟨h₁, τ₁, n₁⟩ ⟨h₂, τ₂, n₂⟩ := by
  have I : Inv W f O δ ⟨h₂, τ₂, n₂⟩ := I₁.le l₁
  obtain ⟨m, hn₁, loc⟩ := I₁.loc
  have new : ∀ y, (y, a) ∉ O := fun y hy => by obtain ⟨_, its, n, q⟩ := I₁.own y a hy; rw [q] at ha; cases ha
  have mem : ∀ y b, (y, b) ∈ O.put x a → (y = x ∧ b = a) ∨ ((y, b) ∈ O ∧ y ≠ x) := fun y b hm => by
    rcases List.mem_cons.mp hm with e | hm
    · cases e; exact .inl ⟨rfl, rfl⟩
    · obtain ⟨h1, h2⟩ := List.mem_filter.mp hm
      exact .inr ⟨h1, by simpa using h2⟩
  refine ⟨⟨I.ok, I.keep, I.pos, fun y b hm => ?_, fun y z b h1 h2 => ?_, fun y b c h1 h2 => ?_, I.cells, m, hn₁.keeps l₁.keep, fun e he => ?_⟩, ⟨fun b o e _ _ _ => l₁.keep _ _ e, fun b o e => ⟨o, l₁.keep _ _ e⟩, l₁.toks, l₁.agree, fun y b hm => ?_⟩⟩
  · rcases mem y b hm with ⟨_, rfl⟩ | ⟨hm, _⟩
    · exact ⟨I₁.keep.none ha, _, hp⟩
    · exact I.own y b hm
  · rcases mem y b h1 with ⟨e1, e2⟩ | ⟨h1, _⟩ <;> rcases mem z b h2 with ⟨e3, e4⟩ | ⟨h2, _⟩
    · rw [e1, e3]
    · rw [e2] at h2; exact absurd h2 (new z)
    · rw [e4] at h1; exact absurd h1 (new y)
    · exact I.inj y z b h1 h2
  · rcases mem y b h1 with ⟨e1, e2⟩ | ⟨h1, n1⟩ <;> rcases mem y c h2 with ⟨e3, e4⟩ | ⟨h2, n2⟩
    · rw [e2, e4]
    · exact absurd e1 n2
    · exact absurd e3 n1
    · exact I.fn y b c h1 h2
  · obtain ⟨u, hau, hr⟩ := loc e (off e he).1
    refine ⟨u, hau.keep l₁.keep, ?_⟩
    have hne := (off e he).2
    obtain ⟨y, k, d⟩ := e
    cases k with
    | safe =>
      have r₂ : Rel (fun b => f.Safe O b ∧ b ≠ a) ⟨h₁, τ₁, n₁⟩ u d := Rel.there (P := f.Safe O) hr fun b o p e => ⟨p, by rintro rfl; rw [ha] at e; cases e⟩
      exact (r₂.le l₁).monoP fun b q => ⟨q.1.1, fun z hz => by
        rcases mem z b hz with ⟨_, rfl⟩ | ⟨hz, _⟩
        · exact q.2 rfl
        · exact q.1.2 z hz⟩
    | par => exact Rel.le l₁ hr
    | own =>
      obtain ⟨b, hb, hr'⟩ := hr
      exact ⟨b, List.mem_cons_of_mem _ (List.mem_filter.mpr ⟨hb, by simpa using hne⟩), hr'.le l₁⟩
  · rcases mem y b hm with ⟨_, rfl⟩ | ⟨hm, _⟩
    · exact .inr ha
    · exact .inl hm

/-- x gets the list that is kept for it -/
theorem store_kept {O : Own} {A : Around} {s : Shared} {τ : Tok → Int} {x : Str} {a : Addr} {v : Value} {l : List Int} {Q : Unit → Shared → Prop} {E : Value → Shared → Prop} (I : Inv W f O δ ⟨s.heap, τ, s.toks⟩) (hx : St f x) (off : Off δ' δ x) (hO : (x, a) ∈ O)
    (r : Rel (· = a) ⟨s.heap, τ, s.toks⟩ v (.il l))
    (h : ∀ h' tk, Inv W f O ((x, .own, .il l) :: δ') ⟨h', τ, tk⟩ → Tr f O O ⟨s.heap, τ, s.toks⟩ ⟨h', τ, tk⟩ → (∀ P, Step P ⟨s.heap, τ, s.toks⟩ ⟨h', τ, tk⟩) → Q () (At2 s h' tk)) : wpAny W.M A (storeName f.env x v) Q E s := by
  obtain ⟨m, hn, loc⟩ := I.loc
  refine store_raw I hn hx fun h' tk m' ht keep alive cells hn' at' atx => ?_
  obtain ⟨hk, st, hown⟩ := I.restep (σ' := ⟨h', τ, tk⟩) keep ht (fun _ _ => rfl)
  refine h h' tk ⟨I.ok, hk, Nat.lt_of_lt_of_le I.pos ht, hown, I.inj, I.fn, cells, m', hn', fun e he => ?_⟩ ⟨fun b o e _ h2 h3 => keep b o e h2 h3, alive, ht, fun _ _ => rfl, fun _ _ z => .inl z⟩ st
  rcases List.mem_cons.mp he with rfl | he
  · exact ⟨v, atx, a, hO, r.step (st _)⟩
  · obtain ⟨u, ha, hr⟩ := loc e (off e he).1
    exact ⟨u, at' _ _ (off e he).2 ha, hr.step (st _) (st _) fun _ _ => st _⟩

theorem Kp.ext {h h' : Heap} (k : Heap.ExtBut h.objs.size h h') : Kp h h' := fun b o e => k b o (Nat.ne_of_lt (Heap.lt_size e)) e

/-- a tuple of data, and its items out of it -/
theorem tup_swap {es : List Expr} {k : Nat} {tpos : Pos} {n : Nat} {kd : RK} {ds : List D} (hs : EvS W f es δ kd ds) (hn : n = ds.length) (hl : ds.length ≤ 3) {A : Around} {s : Shared} {τ : Tok → Int} {O : Own} (R : Room f A) (I : Inv W f O δ ⟨s.heap, τ, s.toks⟩) {Q : List Value → Shared → Prop} {E : Value → Shared → Prop}
    (q : ∀ vs h' tk τ', Le ⟨s.heap, τ, s.toks⟩ ⟨h', τ', tk⟩ → L2 (RelK f O s.heap kd ⟨h', τ', tk⟩) vs ds → Q vs (At2 s h' tk)) :
    wpAny W.M A (eval (.Tuple es k tpos) f.env) (fun v s₁ => wpAny W.M A (unpackItems v n none) Q E s₁) E s := by
  refine wpAny_Tuple_spliced (hs A s τ O tpos R I _ _ fun vs h₁ tk₁ τ₁ l₁ r₁ => ?_)
  have hvl : vs.length = ds.length := r₁.length
  refine ⟨by rw [hvl]; exact lim_line (by rw [lim_eq]; omega), ?_⟩
  have hz : n = vs.toArray.size := by rw [List.size_toArray, hvl, hn]
  subst hz
  refine wpAny_unpackItems_tuple R.hh ⟨_, Heap.get?_push_size _ rfl, rfl, _, rfl⟩ fun h' he => ?_
  have k2 : Kp h₁ h' := (Kp.push _ _).trans (Kp.ext he)
  have l₂ : Le ⟨s.heap, τ, s.toks⟩ ⟨h', τ₁, tk₁⟩ := l₁.trans (Le.heap k2)
  rw [List.toList_toArray]
  exact q vs h' tk₁ τ₁ l₂ (r₁.mono fun _ _ z => RelK.le (f := f) (σ := ⟨h₁, τ₁, tk₁⟩) (σ' := ⟨h', τ₁, tk₁⟩) z (Le.heap k2))

theorem L2.two {α β : Type} {R : α → β → Prop} {vs : List α} {a b : β} (h : L2 R vs [a, b]) : ∃ u v, vs = [u, v] ∧ R u a ∧ R v b := by
  cases h with
  | cons h1 h => cases h with
    | cons h2 h => cases h; exact ⟨_, _, rfl, h1, h2⟩
theorem L2.three {α β : Type} {R : α → β → Prop} {vs : List α} {a b c : β} (h : L2 R vs [a, b, c]) : ∃ u v w, vs = [u, v, w] ∧ R u a ∧ R v b ∧ R w c := by
  cases h with
  | cons h1 h => obtain ⟨v, w, rfl, h2, h3⟩ := h.two; exact ⟨_, _, _, rfl, h1, h2, h3⟩

/-- x, y = e1, e2 (the stores are swapped) -/
theorem W1.tuple2 {x y : Str} {px py tp vp pos : Pos} {k k' : Nat} {e1 e2 : Expr} {d1 d2 : D} (h1 : Ev W f e1 δ .safe d1) (h2 : Ev W f e2 δ .safe d2) (hx : St f x) (hy : St f y) (hn1 : NS e1) (hn2 : NS e2)
    (h : P .next ((x, .safe, d1) :: er x ((y, .safe, d2) :: er y δ)))
    (hw : swappedStores [.Tuple [.Name x px, .Name y py] k tp] (.Tuple [e1, e2] k' vp) f.env = pure (some [x, y])) :
    W1 W f (.Assign [.Tuple [.Name x px, .Name y py] k tp] (.Tuple [e1, e2] k' vp) pos) δ P := by
  intro A s τ O R I Q E q
  refine Assign_Tuple_swapped ?_ rfl hw
  refine tup_swap (EvS.cons h1 (EvS.cons h2 EvS.nil hn2) hn1) rfl (by show 2 ≤ 3; omega) R I fun vs h₁ tk₁ τ₁ l₁ r₁ => ?_
  obtain ⟨u, v, rfl, r1, r2⟩ := r₁.two
  have I₁ : Inv W f O δ ⟨h₁, τ₁, tk₁⟩ := I.le l₁
  refine wpAny_assignInOrder_more (wpAny_bindName (store_safe (s := At2 s h₁ tk₁) (τ := τ₁) I₁ hy off_er r2 fun h₂ tk₂ I₂ T₂ st₂ => ?_))
  refine wpAny_assignInOrder_more (wpAny_bindName (store_safe (s := At2 s h₂ tk₂) (τ := τ₁) I₂ hx off_er (Rel.step (st₂ _) r1) fun h₃ tk₃ I₃ T₃ _ => ?_))
  exact wpAny_assignInOrder_none (q .next .next O _ h₃ tk₃ τ₁ h rfl I₃ (((Tr.le l₁).trans T₂).trans T₃))

theorem W1.tuple3 {x y z : Str} {px py pz tp vp pos : Pos} {k k' : Nat} {e1 e2 e3 : Expr} {d1 d2 d3 : D} (h1 : Ev W f e1 δ .safe d1) (h2 : Ev W f e2 δ .safe d2) (h3 : Ev W f e3 δ .safe d3) (hx : St f x) (hy : St f y) (hz : St f z) (hn1 : NS e1) (hn2 : NS e2) (hn3 : NS e3)
    (h : P .next ((x, .safe, d1) :: er x ((y, .safe, d2) :: er y ((z, .safe, d3) :: er z δ))))
    (hw : swappedStores [.Tuple [.Name x px, .Name y py, .Name z pz] k tp] (.Tuple [e1, e2, e3] k' vp) f.env = pure (some [x, y, z])) :
    W1 W f (.Assign [.Tuple [.Name x px, .Name y py, .Name z pz] k tp] (.Tuple [e1, e2, e3] k' vp) pos) δ P := by
  intro A s τ O R I Q E q
  refine Assign_Tuple_swapped ?_ rfl hw
  refine tup_swap (EvS.cons h1 (EvS.cons h2 (EvS.cons h3 EvS.nil hn3) hn2) hn1) rfl (by show 3 ≤ 3; omega) R I fun vs h₁ tk₁ τ₁ l₁ r₁ => ?_
  obtain ⟨u, v, w, rfl, r1, r2, r3⟩ := r₁.three
  have I₁ : Inv W f O δ ⟨h₁, τ₁, tk₁⟩ := I.le l₁
  refine wpAny_assignInOrder_more (wpAny_bindName (store_safe (s := At2 s h₁ tk₁) (τ := τ₁) I₁ hz off_er r3 fun h₂ tk₂ I₂ T₂ st₂ => ?_))
  refine wpAny_assignInOrder_more (wpAny_bindName (store_safe (s := At2 s h₂ tk₂) (τ := τ₁) I₂ hy off_er (Rel.step (st₂ _) r2) fun h₃ tk₃ I₃ T₃ st₃ => ?_))
  refine wpAny_assignInOrder_more (wpAny_bindName (store_safe (s := At2 s h₃ tk₃) (τ := τ₁) I₃ hx off_er (Rel.step (st₃ _) (Rel.step (st₂ _) r1)) fun h₄ tk₄ I₄ T₄ _ => ?_))
  exact wpAny_assignInOrder_none (q .next .next O _ h₄ tk₄ τ₁ h rfl I₄ ((((Tr.le l₁).trans T₂).trans T₃).trans T₄))

/-- x, y = e1, e2 in order (names that are cells) -/
theorem W1.tuple2c {x y : Str} {px py tp vp pos : Pos} {k k' : Nat} {e1 e2 : Expr} {d1 d2 : D} (h1 : Ev W f e1 δ .safe d1) (h2 : Ev W f e2 δ .safe d2) (hx : St f x) (hy : St f y) (hn1 : NS e1) (hn2 : NS e2)
    (h : P .next ((y, .safe, d2) :: er y ((x, .safe, d1) :: er x δ)))
    (hw : swappedStores [.Tuple [.Name x px, .Name y py] k tp] (.Tuple [e1, e2] k' vp) f.env = pure none) :
    W1 W f (.Assign [.Tuple [.Name x px, .Name y py] k tp] (.Tuple [e1, e2] k' vp) pos) δ P := by
  intro A s τ O R I Q E q
  refine Assign_Tuple ?_ rfl hw
  refine wpAny_Tuple_spliced (EvS.cons h1 (EvS.cons h2 EvS.nil hn2) hn1 A s τ O vp R I _ _ fun vs h₁ tk₁ τ₁ l₁ r₁ => ?_)
  obtain ⟨u, v, rfl, r1, r2⟩ := r₁.two
  refine ⟨lim_line (show 2 ≤ lim by decide), ?_⟩
  refine wpAny_assign_Tuple (items := #[u, v]) R.hh ⟨_, Heap.get?_push_size _ rfl, rfl, _, rfl⟩ rfl rfl fun h' he => ?_
  have k2 : Kp h₁ h' := (Kp.push _ _).trans (Kp.ext he)
  have l₂ : Le ⟨s.heap, τ, s.toks⟩ ⟨h', τ₁, tk₁⟩ := l₁.trans (Le.heap k2)
  have I₁ : Inv W f O δ ⟨h', τ₁, tk₁⟩ := I.le l₂
  have r1' : Rel (f.Safe O) ⟨h', τ₁, tk₁⟩ u d1 := Rel.le (σ := ⟨h₁, τ₁, tk₁⟩) (Le.heap k2) r1
  have r2' : Rel (f.Safe O) ⟨h', τ₁, tk₁⟩ v d2 := Rel.le (σ := ⟨h₁, τ₁, tk₁⟩) (Le.heap k2) r2
  refine wpAny_assignInOrder_more (PyProof.Rows.assign_Name (store_safe (s := At2 s h' tk₁) (τ := τ₁) I₁ hx off_er r1' fun h₂ tk₂ I₂ T₂ st₂ => ?_))
  refine wpAny_assignInOrder_more (PyProof.Rows.assign_Name (store_safe (s := At2 s h₂ tk₂) (τ := τ₁) I₂ hy off_er (Rel.step (st₂ _) r2') fun h₃ tk₃ I₃ T₃ _ => ?_))
  exact wpAny_assignInOrder_none (q .next .next O _ h₃ tk₃ τ₁ h rfl I₃ (((Tr.le l₂).trans T₂).trans T₃))

/-- x, y = e1, e2: two new lists, each with its own name -/
theorem W1.tuple2o {x y : Str} {px py tp vp pos : Pos} {k k' : Nat} {e1 e2 : Expr} {l1 l2 : List Int} (h1 : Ev W f e1 δ .fresh (.il l1)) (h2 : Ev W f e2 (er x δ) .fresh (.il l2)) (hx : St f x) (hy : St f y) (hxy : x ≠ y) (hn1 : NS e1) (hn2 : NS e2)
    (h : P .next ((x, .own, .il l1) :: er x ((y, .own, .il l2) :: er y (er x δ))))
    (hw : swappedStores [.Tuple [.Name x px, .Name y py] k tp] (.Tuple [e1, e2] k' vp) f.env = pure (some [x, y])) :
    W1 W f (.Assign [.Tuple [.Name x px, .Name y py] k tp] (.Tuple [e1, e2] k' vp) pos) δ P := by
  intro A s τ O R I Q E q
  refine Assign_Tuple_swapped ?_ rfl hw
  refine wpAny_Tuple_spliced (wpAny_items_cons (h1 A s τ O R I _ _ fun u h₁ tk₁ τ₁ l₁ r₁ => ?_) (hn1 _ _))
  obtain ⟨a1, vs1, rfl, ha1, hp1, hg1, hl1⟩ := r₁
  obtain ⟨I₁, T₁⟩ := I.claim (x := x) l₁ off_er ha1 hp1
  refine wpAny_items_cons (h2 A (At2 s h₁ tk₁) τ₁ _ R I₁ _ _ fun v h₂ tk₂ τ₂ l₂ r₂ => wpAny_items_nil ?_) (hn2 _ _)
  obtain ⟨a2, vs2, rfl, ha2, hp2, hg2, hl2⟩ := r₂
  obtain ⟨I₂, T₂⟩ := I₁.claim (x := y) l₂ off_er ha2 hp2
  refine ⟨lim_line (show 2 ≤ lim by decide), ?_⟩
  refine wpAny_unpackItems_tuple (items := #[.ref a1, .ref a2]) R.hh ⟨_, Heap.get?_push_size _ rfl, rfl, _, rfl⟩ fun h' he => ?_
  have k2 : Kp h₂ h' := (Kp.push _ _).trans (Kp.ext he)
  have l₃ : Le ⟨h₂, τ₂, tk₂⟩ ⟨h', τ₂, tk₂⟩ := Le.heap k2
  have I₃ := I₂.le l₃
  have m2 : (y, a2) ∈ Own.put (Own.put O x a1) y a2 := .head _
  have m1 : (x, a1) ∈ Own.put (Own.put O x a1) y a2 := List.mem_cons_of_mem _ (List.mem_filter.mpr ⟨.head _, by simpa using hxy⟩)
  have q1 : Rel (· = a1) ⟨h', τ₂, tk₂⟩ (.ref a1) (.il l1) := Rel.le (σ := ⟨h₁, τ₁, tk₁⟩) (l₂.trans l₃) (show RI _ _ _ _ from ⟨a1, vs1, rfl, rfl, hp1, hg1, hl1⟩)
  have q2 : Rel (· = a2) ⟨h', τ₂, tk₂⟩ (.ref a2) (.il l2) := Rel.le (σ := ⟨h₂, τ₂, tk₂⟩) l₃ (show RI _ _ _ _ from ⟨a2, vs2, rfl, rfl, hp2, hg2, hl2⟩)
  refine wpAny_assignInOrder_more (wpAny_bindName (store_kept (s := At2 s h' tk₂) (τ := τ₂) I₃ hy (δ' := er y (er x δ)) (fun e he => ⟨he, (off_er e he).2⟩) m2 q2 fun h₄ tk₄ I₄ T₄ st₄ => ?_))
  refine wpAny_assignInOrder_more (wpAny_bindName (store_kept (s := At2 s h₄ tk₄) (τ := τ₂) I₄ hx off_er m1 (Rel.step (st₄ _) q1) fun h₅ tk₅ I₅ T₅ _ => ?_))
  exact wpAny_assignInOrder_none (q .next .next _ _ h₅ tk₅ τ₂ h rfl I₅ ((((T₁.trans T₂).trans (Tr.le l₃)).trans T₄).trans T₅))
end



section
variable {W : Wd} {a : Addr} {h₀ : Heap} {rk : Nat} {pm : Value} {cd : Addr} {fx : Bool}

theorem some_getD {l : List Int} {k : Nat} (h : k < l.length) : l[k]? = some (l.getD k 0) := by rw [List.getD_eq_getElem?_getD, List.getElem?_eq_getElem h]; rfl

theorem ws_pile (hW : Wf W) (Do : Dn W "_generate_overlap_table" 6) {row text : List Int} (h0 : 0 < row.length) (hr : row.length ≤ 1000) (ht : text.length ≤ 1000) (hrk : 1 ≤ rk) :
   WS W (Fd (fdn 11 "_law_pile" pm cd) a h₀ rk fx) (bodyn 11) [("row", .par, .il row), ("text", .par, .il text)] (Ret (.il (pil row text))) := by
  have hl : row.length ≤ lim := by rw [lim_eq]; omega
  refine WS.cons (W1.assign (d := .il (ov row)) (Ev.fresh_safe ?_) (by walk_at "st") ?_)
  · refine Ev.call (k₁ := .any) Do.f (kind_fd (by decide +kernel)) (EvS.cons ?_ EvS.nil) (fn_overlap (fx := false) hW Do hl) hrk (by intro h; cases h)
    walk_at "any"
  refine WS.cons (W1.tuple2o (l1 := []) (l2 := [0]) (Ev.listI (k := .any) (l := []) EvS.nil (by decide)) (Ev.listI (k := .fresh) (l := [0]) (EvS.cons Ev.cint EvS.nil) (by decide)) (by walk_at "st") (by walk_at "st") (by decide +kernel) (by intro _ _; rfl) (by intro _ _; rfl) ?_ rfl)
  refine WS.cons (W1.for (ds := text.map D.int) ?_ (fun (y : List Int × List Int) => [("row", .par, .il row), ("text", .par, .il text), ("table", .safe, .il (ov row)), ("held", .own, .il y.1), ("sizes", .own, .il y.2)])
    (fun j y => y.1 = pil row (text.take j) ∧ y.1.length ≤ j ∧ Szs row y.1 y.2) ([], [0]) ⟨rfl, Nat.le_refl _, Szs.nil h0⟩ (by walk_at "sub") (by walk_at "off") (by walk_at "st") ?_ ?_)
  · exact EvI.par (by walk_at "mem") (by decide +kernel)
  · rintro j ⟨h, sz⟩ d hd ⟨hJ, hlen, hS⟩
    obtain ⟨x, hx, rfl⟩ := int_get hd
    have hj : j < text.length := (List.getElem?_eq_some_iff.mp hx).1
    obtain ⟨b, hb, hPM⟩ := hS.last
    simp only at hJ hlen hS hb hPM
    have hszl := hS.len
    refine WS.cons (W1.assign (d := .int (b : Int)) (Ev.fresh_safe (Ev.last (k := -1) ?_ ?_ rfl hb)) (by walk_at "st") ?_)
    · walk_at "any"
    · walk_at "any"
    refine WS.cons (W1.while (fun (k : Nat) => [("size", .safe, .int (k : Int)), ("sign", .safe, .int x), ("row", .par, .il row), ("text", .par, .il text), ("table", .safe, .il (ov row)), ("held", .own, .il h), ("sizes", .own, .il sz)]) (fun n k => n = k ∧ PK row h x k) b b ⟨rfl, hPM.start⟩ (by walk_at "sub") ?_)
    rintro k _ ⟨rfl, hk⟩
    have hkr := hk.2.1
    refine ⟨decide ((0 : Int) < (k : Int)) && (row.getD k 0 != x), EvT.to (EvT.bool (EvA.and_cons (b := decide ((0 : Int) < (k : Int))) (by walk_at "test") fun _ => EvA.and_cons (b := row.getD k 0 != x) (EvT.neI (Ev.fresh_any (Ev.at k (k := (k : Int)) ?_ ?_ rfl (some_getD hkr))) ?_) fun _ => EvA.and_nil)) (by simp), ?_, ?_⟩
    · walk_at "any"
    · walk_at "any"
    · walk_at "any"
    · intro hc
      rw [Bool.and_eq_true, decide_eq_true_eq] at hc
      have hk0 : 0 < k := by omega
      have hne : row[k]? ≠ some x := by rw [some_getD hkr]; simpa using hc.2
      refine WS.cons (W1.assign (d := .int ((mb row k : Nat) : Int)) (Ev.fresh_safe (Ev.at (k - 1) (k := (k : Int) - 1) ?_ ?_ (by omega) (show (ov row)[k - 1]? = some ((mb row k : Nat) : Int) by rw [ov_get (by omega), Nat.sub_add_cancel hk0]))) (by walk_at "st") ?_)
      · walk_at "any"
      · walk_at "any"
      exact WS.nil ⟨mb row k, mb row k, mb_lt hk0, ⟨rfl, hk.next hk0 hne⟩, by walk_at "sub"⟩
    · intro hc
      refine WS.nil (WS.cons (W1.append (k := .any) (l := h) (v := x) (by walk_at "mem") (by walk_at "any") (by rw [lim_eq]; omega) (by decide +kernel) ?_))
      obtain ⟨z, hz, hz1, hz2⟩ : ∃ z : Nat, (row[k]? = some x → z = k + 1) ∧ (row[k]? ≠ some x → z = 0 ∧ k = 0) ∧ z ≤ row.length := by
        by_cases e : row[k]? = some x
        · exact ⟨k + 1, fun _ => rfl, fun q => absurd e q, by omega⟩
        · refine ⟨0, fun q => absurd q e, fun _ => ⟨rfl, ?_⟩, by omega⟩
          by_cases k0 : k = 0
          · exact k0
          · exfalso
            have : decide ((0 : Int) < (k : Int)) = true := by simp; omega
            rw [this, Bool.true_and] at hc
            rw [some_getD hkr] at e
            apply e
            simpa using hc
      refine WS.cons (W1.append (k := .any) (l := sz) (v := (z : Int)) (by walk_at "mem") (Ev.fresh_any (Ev.ite (c := row.getD k 0 == x) (EvT.eqI (Ev.fresh_any (Ev.at k (k := (k : Int)) ?_ ?_ rfl (some_getD hkr))) ?_) (fun hc => ?_) fun hc => ?_)) (by rw [lim_eq]; omega) (by decide +kernel) ?_)
      · walk_at "any"
      · walk_at "any"
      · walk_at "any"
      · have : z = k + 1 := hz (by rw [some_getD hkr]; simpa using hc)
        subst this
        refine Ev.to (d := .int ((k : Int) + 1)) ?_ (by simp)
        walk_at "fresh"
      · have : z = 0 := (hz1 (by rw [some_getD hkr]; simpa using hc)).1
        subst this
        walk_at "fresh"
      refine WS.cons (W1.ite (c := (z : Int) == (row.length : Int)) (EvT.eqI (Ev.fresh_any (Ev.last (k := -1) ?_ ?_ rfl (show (sz ++ [(z : Int)]).getLast? = some (z : Int) by simp))) ?_) ?_ ?_)
      · walk_at "any"
      · walk_at "any"
      · walk_at "any"
      · intro he
        have he : z = row.length := by have : (z : Int) = row.length := by simpa using he
                                       omega
        have hkx : row[k]? = some x := by
          by_cases e : row[k]? = some x
          · exact e
          · have := (hz1 e).1; omega
        have hz' := hz hkx
        have hsuf := (hk.hit hkx).1 (by omega)
        have hkl := hk.1.1
        have e1 : pick (h ++ [x]) none (some (-(row.length : Int))) none = (h ++ [x]).take (h.length + 1 - row.length) := by rw [pick_to_neg rfl h0]; simp
        have e2 : pick (sz ++ [(z : Int)]) none (some (-(row.length : Int))) none = (sz ++ [(z : Int)]).take (h.length + 1 - row.length + 1) := by
          rw [pick_to_neg rfl h0, List.length_append, hszl]
          congr 1
          simp
          omega
        refine WS.cons (W1.assignOwn (l := pick (h ++ [x]) none (some (-(row.length : Int))) none) (by walk_at "fresh") (by walk_at "st") ?_)
        refine WS.cons (W1.assignOwn (l := pick (sz ++ [(z : Int)]) none (some (-(row.length : Int))) none) (by walk_at "fresh") (by walk_at "st") ?_)
        rw [e1, e2]
        refine WS.nil (WS.nil ⟨((h ++ [x]).take (h.length + 1 - row.length), (sz ++ [(z : Int)]).take (h.length + 1 - row.length + 1)), ⟨?_, ?_, ?_⟩, by walk_at "sub"⟩)
        · rw [pil_take hx, ← hJ, pstep_hit hsuf]
        · simp; omega
        · exact hS.pop (by omega)
      · intro he
        have he : z ≠ row.length := by intro q; subst q; simp at he
        refine WS.nil (WS.nil ⟨(h ++ [x], sz ++ [(z : Int)]), ?_, by walk_at "sub"⟩)
        by_cases e : row[k]? = some x
        · have hz' := hz e
          subst hz'
          obtain ⟨h1, h2⟩ := (hk.hit e).2 he
          exact ⟨by rw [pil_take hx, ← hJ, pstep_miss h1], by simp; omega, hS.push h2⟩
        · obtain ⟨hz', hk0⟩ := hz1 e
          subst hz'
          subst hk0
          obtain ⟨h1, h2⟩ := hk.miss e
          exact ⟨by rw [pil_take hx, ← hJ, pstep_miss h1], by simp; omega, hS.push h2⟩
  · rintro ⟨h, sz⟩ ⟨hJ, _, _⟩
    rw [List.length_map, List.take_length] at hJ
    simp only at hJ
    subst hJ
    refine WS.nil (WS.cons (W1.retOwn (x := "held") (l := pil row text) ?_ (by decide +kernel) rfl))
    walk_at "mem"
theorem fn_pile (hW : Wf W) (Do : Dn W "_generate_overlap_table" 6) (D : Dn W "_law_pile" 11) {row text : List Int} (h0 : 0 < row.length) (hr : row.length ≤ 1000) (ht : text.length ≤ 1000) : Fn W 2 fx D.a [.il row, .il text] .fresh (.il (pil row text)) :=
  Fn.of (rk := 1) (D.def (ps := ["row", "text"]) (by decide +kernel)) (fun vs h => by match vs, h with | [_, _], _ => rfl) rfl fun h₀ => ws_pile hW Do h0 hr ht (Nat.le_refl _)
end



section
variable {W : Wd} {a : Addr} {h₀ : Heap} {rk : Nat} {pm : Value} {cd : Addr} {fx : Bool}
theorem Ev.addL {f : Fm} {δ : List Ent} {l r : Expr} {pos : Pos} {u v : List Int} (h1 : Ev W f l δ .any (.il u)) (h2 : Ev W f r δ .any (.il v)) (hl : (u ++ v).length ≤ lim) : Ev W f (.BinOp l .Add r pos) δ .fresh (.il (u ++ v)) := h1.bin h2 (op_addL hl)

theorem pick_occ {row l : List Int} {p : Nat} (h : p + row.length ≤ l.length) : pick l (some (p : Int)) (some ((p : Int) + (row.length : Int))) none = (l.drop p).take row.length := by
  rw [pick_mid (s := p) (e := p + row.length) rfl (by omega) h (by omega), Nat.add_sub_cancel_left]
theorem pick_cut {row l : List Int} {p : Nat} : pick l none (some (p : Int)) none ++ pick l (some ((p : Int) + (row.length : Int))) none none = cut row l p := by
  rw [pick_to rfl, pick_from (k := p + row.length) (by omega)]; rfl

theorem ws_plain (hW : Wf W) {row text : List Int} (h0 : 0 < row.length) (hr : row.length ≤ 1000) (ht : text.length ≤ 1000) :
   WS W (Fd (fdn 10 "_law_plain" pm cd) a h₀ rk fx) (bodyn 10) [("row", .par, .il row), ("text", .par, .il text)] (Ret (.il (pil row text))) := by
  refine WS.cons (W1.tuple2 (d1 := .il text) (d2 := .int ((0 : Nat) : Int)) (Ev.fresh_safe (Ev.to (Ev.slice0 ?_) (by rw [pick_all]))) (Ev.fresh_safe (Ev.to Ev.cint rfl)) (by walk_at "st") (by walk_at "st") (by intro _ _; rfl) (by intro _ _; rfl) ?_ rfl)
  · walk_at "any"
  refine WS.cons (W1.while (fun (y : List Int × Nat) => [("row", .par, .il row), ("text", .par, .il text), ("left", .safe, .il y.1), ("spot", .safe, .int (y.2 : Int))])
    (fun n y => n = y.1.length * 2000 + (y.1.length + 1 - y.2) ∧ y.1.length ≤ 1000 ∧ pil row y.1 = pil row text ∧ y.2 ≤ y.1.length + 1 ∧ ∀ q, q < y.2 → ¬ occ row y.1 q) _ (text, 0) ⟨rfl, ht, rfl, Nat.zero_le _, fun q h => absurd h (Nat.not_lt_zero _)⟩ (by walk_at "sub") ?_)
  rintro n ⟨l, p⟩ ⟨hn, hl, hp, hs, hq⟩
  simp only at hn hl hp hs hq
  subst hn
  refine ⟨decide ((p : Int) + (row.length : Int) ≤ (l.length : Int)), by walk_at "test", ?_, ?_⟩
  · intro hc
    have hc : p + row.length ≤ l.length := by have := of_decide_eq_true hc; omega
    refine WS.cons (W1.ite (c := pick l (some (p : Int)) (some ((p : Int) + (row.length : Int))) none == row) (by walk_at "test") ?_ ?_)
    · intro he
      rw [pick_occ hc] at he
      have ho : occ row l p := ⟨hc, by simpa using he⟩
      have hcl := cut_length ho
      refine WS.cons (W1.assign (d := .il (cut row l p)) (Ev.fresh_safe (Ev.to (Ev.addL (u := pick l none (some (p : Int)) none) (v := pick l (some ((p : Int) + (row.length : Int))) none none) ?_ ?_ (by rw [pick_cut, lim_eq]; omega)) (by rw [pick_cut]))) (by walk_at "st") ?_)
      · walk_at "any"
      · walk_at "any"
      refine WS.cons (W1.assign (d := .int ((0 : Nat) : Int)) (Ev.fresh_safe (Ev.to Ev.cint rfl)) (by walk_at "st") ?_)
      refine WS.nil (WS.nil ⟨(cut row l p).length * 2000 + ((cut row l p).length + 1 - 0), (cut row l p, 0), ?_, ⟨rfl, ?_, ?_, Nat.zero_le _, fun q h => absurd h (Nat.not_lt_zero _)⟩, by walk_at "sub"⟩)
      · omega
      · show (cut row l p).length ≤ 1000; omega
      · show pil row (cut row l p) = _; rw [pil_cut h0 ho hq, hp]
    · intro he
      rw [pick_occ hc] at he
      refine WS.cons (W1.assign (d := .int ((p + 1 : Nat) : Int)) (Ev.fresh_safe (Ev.to (d := .int ((p : Int) + 1)) ?_ (by simp))) (by walk_at "st") ?_)
      · walk_at "fresh"
      refine WS.nil (WS.nil ⟨l.length * 2000 + (l.length + 1 - (p + 1)), (l, p + 1), by omega, ⟨rfl, hl, hp, by show p + 1 ≤ l.length + 1; omega, fun q h => ?_⟩, by walk_at "sub"⟩)
      by_cases e : q = p
      · subst e; intro ho; rw [ho.2] at he; simp at he
      · exact hq q (by have : q < p + 1 := h; omega)
  · intro hc
    have hc : ¬ p + row.length ≤ l.length := by intro h; have := of_decide_eq_false hc; omega
    have hirr : noocc row l := fun q ho => by
      have := ho.1
      exact hq q (by omega) ho
    rw [pil_irr hirr] at hp
    refine WS.nil (WS.cons (W1.ret (d := .il (pil row text)) ?_ rfl))
    rw [← hp]
    walk_at "safe"
theorem fn_plain (hW : Wf W) (D : Dn W "_law_plain" 10) {row text : List Int} (h0 : 0 < row.length) (hr : row.length ≤ 1000) (ht : text.length ≤ 1000) : Fn W 1 fx D.a [.il row, .il text] .fresh (.il (pil row text)) :=
  Fn.of (rk := 0) (D.def (ps := ["row", "text"]) (by decide +kernel)) (fun vs h => by match vs, h with | [_, _], _ => rfl) rfl fun h₀ => ws_plain hW h0 hr ht
end



/-! ## Blocks of comprehensions that see cells -/
def clo (f : Fm) (fs : List Str) : List (Str × Addr) := fs.map fun y => (y, (f.env.cells.lookup y).getD 0)
theorem clo_some {cells : List (Str × Addr)} : ∀ {fs : List Str}, (∀ y ∈ fs, (cells.lookup y).isSome = true) → ∀ y c, (fs.map fun y => (y, (cells.lookup y).getD 0)).lookup y = some c → cells.lookup y = some c
  | [], _, y, c, h => by cases h
  | x :: fs, hf, y, c, h => by
    rw [List.map_cons, List.lookup_cons] at h
    by_cases e : (y == x) = true
    · rw [e] at h
      have e' : y = x := beq_iff_eq.mp e
      subst e'
      have := hf y List.mem_cons_self
      obtain ⟨c', hc⟩ := Option.isSome_iff_exists.mp this
      rw [hc] at h
      rw [hc]
      exact h
    · have e' : (y == x) = false := by simpa using e
      rw [e'] at h
      exact clo_some (fun z hz => hf z (List.mem_cons_of_mem _ hz)) y c h
theorem clo_mem {cells : List (Str × Addr)} : ∀ {fs : List Str}, (∀ y ∈ fs, (cells.lookup y).isSome = true) → ∀ y ∈ fs, (fs.map fun y => (y, (cells.lookup y).getD 0)).lookup y = cells.lookup y
  | x :: fs, hf, y, h => by
    rw [List.map_cons, List.lookup_cons]
    by_cases e : (y == x) = true
    · rw [e]
      have e' : y = x := beq_iff_eq.mp e
      subst e'
      obtain ⟨c', hc⟩ := Option.isSome_iff_exists.mp (hf y List.mem_cons_self)
      rw [hc]; rfl
    · have e' : (y == x) = false := by simpa using e
      rw [e']
      rcases List.mem_cons.mp h with q | q
      · exact absurd (beq_iff_eq.mpr q) e
      · exact clo_mem (fun z hz => hf z (List.mem_cons_of_mem _ hz)) y q
theorem cells_fd {n : Nat} {name : Str} {pm : Value} {cd a rk fr h₀ x} (h : (fparts n).2.2.names.lookup x = some .cell) : ((Fd (fdn n name pm cd) a h₀ rk fr).env.cells.lookup x).isSome = true := cellsFrom_some _ _ [] (.inl h)
theorem blk_fd {n : Nat} {name : Str} {pm : Value} {cd a rk fr h₀ x} {scope : Scope} (fs : List Str) (hfs : ∀ y ∈ fs, (fparts n).2.2.names.lookup y = some .cell) (h1 : closureFor scope (Fd (fdn n name pm cd) a h₀ rk fr).env = pure (clo (Fd (fdn n name pm cd) a h₀ rk fr) fs))
    (h2 : ∀ y ∈ scope.names, y.2 ≠ .cell) (h3 : scope.kind = .function) (h4 : ∀ y ∈ scope.names, y.2 = .local → scope.names.lookup y.1 = some .local) (h5 : scope.names.lookup x = some .local) : Blk (Fd (fdn n name pm cd) a h₀ rk fr) scope (clo (Fd (fdn n name pm cd) a h₀ rk fr) fs) x :=
  ⟨h1, h2, h3, h4, h5, clo_some fun y hy => cells_fd (hfs y hy)⟩
theorem cap_fd {n : Nat} {name : Str} {pm : Value} {cd a rk fr h₀ y} {scope : Scope} {fs : List Str} (hfs : ∀ y ∈ fs, (fparts n).2.2.names.lookup y = some .cell) (hy : y ∈ fs) (h : (relabel scope (Fd (fdn n name pm cd) a h₀ rk fr).env).names.lookup y = some .cell) : Cap (Fd (fdn n name pm cd) a h₀ rk fr) scope (clo (Fd (fdn n name pm cd) a h₀ rk fr) fs) y :=
  ⟨hfs y hy, clo_mem (fun z hz => cells_fd (hfs z hz)) y hy, h⟩
theorem st_cell {n : Nat} {name : Str} {pm : Value} {cd a rk fr h₀ x} (h : (fparts n).2.2.names.lookup x = some .cell) : St (Fd (fdn n name pm cd) a h₀ rk fr) x := .inr ⟨h, cells_fd h⟩

def fillL : List Int := [1, 0, 1, 0, 1, 0, 0, 1, 3, 6, 2, 5]
@[irreducible] def dealt (s : List Int) : List Int := (rng 0 12).map fun i => (pick s (some i) none (some 12)).sum + fillL.getD i.toNat 0
theorem dealt_length {s : List Int} : (dealt s).length = 12 := by unfold dealt; rw [List.length_map, rng_length]; rfl

theorem dealt_map {s : List Int} : (rng 0 12).map (fun i => D.int ((pick s (some i) none (some 12)).sum + fillL.getD i.toNat 0)) = (dealt s).map D.int := by unfold dealt; rw [List.map_map]; rfl
def consts (l : List (Int × Pos)) : List Expr := l.map fun x => .Constant (.int x.1) 0 x.2
theorem EvS.consts {W : Wd} {f : Fm} {δ : List Ent} : ∀ l : List (Int × Pos), EvS W f (consts l) δ .fresh ((l.map (·.1)).map D.int)
  | [] => EvS.nil
  | _ :: l => EvS.cons Ev.cint (EvS.consts l)
theorem Ev.consts {W : Wd} {f : Fm} {δ : List Ent} {pos : Pos} (l : List (Int × Pos)) (h : l.length ≤ lim) : Ev W f (.List (consts l) pos) δ .fresh (.il (l.map (·.1))) := Ev.listI (EvS.consts l) (by rw [List.length_map]; exact h)

section
variable {W : Wd} {a : Addr} {h₀ : Heap} {rk : Nat} {pm : Value} {cd : Addr} {fx : Bool}
theorem ws_drawn (hW : Wf W) {s : List Int} {b : List Stmt} (hb : b = bodyn 8) :
   WS W (Fd (fdn 8 "_law_drawn" pm cd) a h₀ rk fx) b [("script", .par, .wl s)] (Ret (.il (dealt s))) := by
  subst hb
  refine WS.cons ?_
  generalize hL : Expr.List _ _ = e
  obtain ⟨l, pos, he, hl⟩ : ∃ l pos, e = .List (consts l) pos ∧ l.map (·.1) = fillL := ⟨[(1, _), (0, _), (1, _), (0, _), (1, _), (0, _), (0, _), (1, _), (3, _), (6, _), (2, _), (5, _)], _, hL.symm, rfl⟩
  clear hL
  refine W1.assign (d := .il fillL) (Ev.fresh_safe ?_) (st_cell (by decide +kernel)) ?_ (by rw [he]; rfl)
  · rw [he, ← hl]
    exact Ev.consts l (by rw [← List.length_map (f := fun x : Int × Pos => x.1), hl]; show 12 ≤ 1048576; omega)
  clear he hl
  refine WS.cons (W1.ret (d := .il (dealt s)) (Ev.fresh_safe ?_) rfl)
  have hfs : ∀ y ∈ (["script", "fill"] : List Str), (fparts 8).2.2.names.lookup y = some .cell := by decide +kernel
  refine Ev.comp (x := "k") (l := rng 0 12) (p := fun _ => true) (g := fun i => .int ((pick s (some i) none (some 12)).sum + fillL.getD i.toNat 0)) (δc := [("script", .par, .wl s), ("fill", .safe, .il fillL)])
    (blk_fd ["script", "fill"] hfs rfl (by decide +kernel) rfl (by decide +kernel) (by decide +kernel)) (EvI.range1 (by walk_at "bn") Ev.cint (by decide) (by decide)) (by rw [rng_length]; decide) ?_ ?_ ?_ ?_
  · refine all_cons ⟨by walk_at "mem", cap_fd (y := "script") hfs (by decide +kernel) rfl⟩ (all_cons ⟨by walk_at "mem", cap_fd (y := "fill") hfs (by decide +kernel) rfl⟩ all_nil)
  · intro C i hi; exact .inl ⟨rfl, rfl⟩
  · intro C i hi _
    obtain ⟨j, hj⟩ := List.getElem?_of_mem hi
    obtain ⟨rfl, hlt⟩ := rng_at hj
    have hj' : j < fillL.length := by show j < 12; omega
    refine Ev.bin (d₁ := .wint (pick s (some (0 + (j : Int))) none (some 12)).sum) (d₂ := .wint (fillL.getD (0 + (j : Int)).toNat 0)) (k₁ := .fresh) (k₂ := .fresh) ?_ (Ev.wint (Ev.at j (k := 0 + (j : Int)) ?_ ?_ (by omega) (some_getD hj' |>.trans (by rw [show (0 + (j : Int)).toNat = j by omega])))) op_add
    · refine Ev.call1 (x := "sum") ⟨rfl, hW.miss _ (by decide +kernel), rfl, by decide +kernel, by decide +kernel⟩ (k₁ := .fresh) (d₁ := .wl (pick s (some (0 + (j : Int))) none (some 12))) (Ev.sliceW (k₁ := .any) ?_ (.some (k := .any) ?_) .none (.some (k := .any) ?_) (by simp)) op_sum
      · walk_at "any"
      · walk_at "any"
      · walk_at "any"
    · walk_at "any"
    · walk_at "any"
  · have e : List.filter (fun _ => true) (rng 0 12) = rng 0 12 := by simp
    rw [e]
    rw [dealt_map]
    exact compD.ints (by rw [dealt_length]; decide)
theorem fn_drawn (hW : Wf W) (D : Dn W "_law_drawn" 8) {s : List Int} : Fn W 1 fx D.a [.wl s] .fresh (.il (dealt s)) := by
  have D₀ := D.def (ps := ["script"]) (by decide +kernel)
  generalize hb : bodyn 8 = b at D₀
  exact Fn.of (rk := 0) D₀ (fun vs h => by match vs, h with | [_], _ => rfl) rfl fun h₀ => ws_drawn hW hb.symm
end



def isL : D → Prop
  | .il _ => True
  | .rows _ => True
  | _ => False
theorem rel_list {P : Addr → Prop} {σ : Sn} {v : Value} {d : D} (hd : isL d) (h : Rel P σ v d) : ∃ a vs, v = .ref a ∧ σ.h.PlainList a (vs : List Value).toArray := by
  cases d with
  | il l => obtain ⟨a, vs, rfl, _, hp, _⟩ := h; exact ⟨a, vs, rfl, hp⟩
  | rows l => obtain ⟨a, vs, rfl, _, hp, _⟩ := h; exact ⟨a, vs, rfl, hp⟩
  | _ => cases hd

section
variable {W : Wd} {f : Fm} {δ : List Ent}
theorem Ev.hasattr {x : Str} {p cp pos : Pos} {k : Nat} {e : Expr} {d : D} (b : Bn W f x (.builtin "hasattr")) (h : Ev W f e δ .any d) (hd : isL d) (hn : NS e := by intro _ _; rfl) :
    Ev W f (.Call (.Name x p) [e, .Constant (.str "__getitem__") k cp] [] pos) δ .fresh (.bool true) := by
  intro A s τ O R I Q E q
  refine wpAny_Call_NameR (b.ev I ?_)
  have hs : (backTo pos (starEach [e, .Constant (.str "__getitem__") k cp] f.env)).any (·.1) = false := by rw [hn]; rfl
  refine Calls.callWith_builtin hs (args_plain hn (wpAny_items_cons (h A s τ O R I _ _ fun v₁ h₁ tk₁ τ₁ l₁ r₁ => ?_) (hn _ _)))
  refine wpAny_items_cons (wpAny_Constant_str (wpAny_items_nil ?_)) rfl
  obtain ⟨a, vs, rfl, n, hp⟩ := rel_list hd r₁.any
  refine call_hasattr (its := vs.toArray) (n := n) hp fun h' k' => ?_
  exact q (.bool true) h' (tk₁ + 1) τ₁ (l₁.trans (Le.mk' k' (Nat.le_succ _))) rfl
theorem op_addR {a b : List (List Int)} (hl : (a ++ b).length ≤ lim) {A : Around} {s : Shared} {τ : Tok → Int} {v₁ v₂ : Value} (h1 : Rel (fun _ => True) ⟨s.heap, τ, s.toks⟩ v₁ (.rows a)) (h2 : Rel (fun _ => True) ⟨s.heap, τ, s.toks⟩ v₂ (.rows b)) {Q : Value → Shared → Prop} {E : Value → Shared → Prop}
    (h : ∀ v h', Kp s.heap h' → Rel (fun _ => True) ⟨h', τ, s.toks⟩ v (.rows (a ++ b)) → Q v { s with heap := h' }) : wpAny W.M A (binaryOp .Add v₁ v₂) Q E s := by
  obtain ⟨l, vs, rfl, _, ⟨n, ho⟩, h1, _⟩ := h1
  obtain ⟨l2, ws, rfl, _, ⟨n2, ho2⟩, h2, _⟩ := h2
  have e : vs.toArray ++ ws.toArray = (vs ++ ws).toArray := by simp
  have hsz : (vs ++ ws).length ≤ sizeLine := by rw [(h1.append h2).length]; exact lim_line hl
  rw [List.length_append] at hsz
  refine concat_meets ⟨_, ho, rfl⟩ ⟨_, ho2, rfl⟩ noFill_list_add seq_list_add PySem.F.slot_list_add PySem.F.entry_list_add (PySem.F.args_list_add_2 _ _) (list_addW l l2 vs.toArray ws.toArray n n2 none none #[] #[] (by simpa using hsz)) ⟨ho, ho2, ?_⟩
  rw [e]
  refine h _ _ (Kp.push _ _) ?_
  have r := (h1.append h2).mono fun _ _ z => RI.step ((Le.heap (τ := τ) (n := s.toks) (Kp.push s.heap { cls := .type "list", data := .seq (vs ++ ws).toArray })).step (fun _ => True)) z
  exact ⟨_, vs ++ ws, rfl, trivial, ⟨_, Heap.get?_push_size _ rfl⟩, r, hl⟩
end

section
variable {W : Wd} {a : Addr} {h₀ : Heap} {rk : Nat} {pm : Value} {cd : Addr} {fx : Bool}
theorem ws_concat (hW : Wf W) {u v : List Int} (hl : (u ++ v).length ≤ lim) :
   WS W (Fd (fdn 1 "concat" pm cd) a h₀ rk fx) (bodyn 1) [("a", .par, .il u), ("b", .par, .il v)] (Ret (.il (u ++ v))) := by
  refine WS.cons (W1.ite (c := !true) (EvT.not (EvT.val (k := .fresh) (Ev.hasattr (d := .il u) (by walk_at "bn") ?_ trivial))) (fun h => by cases h) fun _ => WS.nil (WS.cons (W1.ret (Ev.fresh_safe (Ev.addL ?_ ?_ hl)) rfl)))
  · walk_at "any"
  · walk_at "any"
  · walk_at "any"
theorem fn_concat (hW : Wf W) (D : Dn W "concat" 1) {u v : List Int} (hl : (u ++ v).length ≤ lim) : Fn W 1 fx D.a [.il u, .il v] .fresh (.il (u ++ v)) :=
  Fn.of (rk := 0) (D.def (ps := ["a", "b"]) (by decide +kernel)) (fun vs h => by match vs, h with | [_, _], _ => rfl) rfl fun h₀ => ws_concat hW hl
theorem fn_concatR (hW : Wf W) (D : Dn W "concat" 1) {u v : List (List Int)} (hl : (u ++ v).length ≤ lim) : Fn W 1 fx D.a [.rows u, .rows v] .any (.rows (u ++ v)) := by
  intro A s τ vs hh hd hu hfx hpos hg hr Q E q
  refine wpAny_call ((D.def (ps := ["a", "b"]) (by decide +kernel)).enter (rk := 0) (fr := false) (by
    have := hr.length
    match vs, this with | [_, _], _ => rfl) rfl (by omega) hg (.inl hpos) hr fun h₁ tk₁ l₁ I _ => ?_)
  have R : Room (Fd (fdn 1 "concat" D.pm D.cd) D.a s.heap 0 false) (A.deeper (Fd (fdn 1 "concat" D.pm D.cd) D.a s.heap 0 false).env) := by
    refine ⟨hh, ?_, ?_, fun e => by cases e⟩
    · show A.depth + 1 + 0 < recursionLimit; omega
    · show A.units + 3 + 8 * 0 + 8 < cLine; omega
  refine wpAny_execs_cons (W1.ite (P := fun l δ' => l = .next ∧ δ' = ([("a", .par, .rows u), ("b", .par, .rows v)] : List Ent)) (c := !true) (EvT.not (EvT.val (k := .fresh) (Ev.hasattr (d := .rows u) (by walk_at "bn") ?_ trivial))) (fun h => by cases h) (fun _ => WS.nil ⟨rfl, rfl⟩) _ (At2 s h₁ tk₁) τ [] R I _ _ fun l w O' δ' h' tk τ' hp hf I' T => ?_)
  · walk_at "any"
  obtain ⟨rfl, rfl⟩ := hp
  have : w = .next := hf
  subst this
  have la : Ev W (Fd (fdn 1 "concat" D.pm D.cd) D.a s.heap 0 false) (.Name "a" ⟨6, 11, 6, 12⟩) [("a", .par, .rows u), ("b", .par, .rows v)] .any (.rows u) := by walk_at "any"
  have lb : Ev W (Fd (fdn 1 "concat" D.pm D.cd) D.a s.heap 0 false) (.Name "b" ⟨6, 15, 6, 16⟩) [("a", .par, .rows u), ("b", .par, .rows v)] .any (.rows v) := by walk_at "any"
  refine wpAny_execs_cons (wpAny_Return_some (wpAny_BinOp (la.two lb R I' fun v₁ v₂ h₂ tk₂ τ₂ l₂ I₂ r₁ r₂ => ?_)))
  refine op_addR hl (s := At2 s h₂ tk₂) (τ := τ₂) r₁.any r₂.any fun v h₃ k₃ r₃ => ?_
  have k : Kp s.heap h₃ := (I₂.keep).trans k₃
  refine q v h₃ tk₂ τ₂ ⟨k, Nat.le_trans (Nat.le_trans l₁.toks T.toks) l₂.toks, fun t ht => ?_⟩ r₃
  have h1 : t < tk₁ := Nat.lt_of_lt_of_le ht l₁.toks
  exact ((l₂.agree t (Nat.lt_of_lt_of_le h1 T.toks)).trans (T.agree t h1)).trans (l₁.agree t ht)
end



section
variable {W : Wd} {f : Fm} {δ δ' : List Ent} {P : Pst}

/-- delitem(x, e) gives None, so the test fails; x has lost a place -/
theorem W1.del (hW : Wf W) (Dd : Dn W "delitem" 3) {x : Str} {p px np cp mp pos : Pos} {k : Nat} {e : Expr} {b : List Stmt} {l : List Int} {i : Int} (hk : f.env.kindOf "delitem" = some .globalImplicit) (hx : (x, EK.own, D.il l) ∈ δ) (he : Ev W f e δ .any (.int i)) (h0 : -(l.length : Int) ≤ i) (h1 : i < l.length) (hd : (x == ("__debug__" : Str)) = false) (hrk : 1 ≤ f.rk)
    (h : P .next ((x, .own, .il (l.eraseIdx (ix i l.length))) :: er x δ)) (hn : NS e := by intro _ _; rfl) :
    W1 W f (.If (.Compare (.Call (.Name "delitem" p) [.Name x px, e] [] cp) [.IsNot] [.Constant .none k np] mp) b [] pos) δ P := by
  intro A s τ O R I Q E q
  refine wpAny_If (wpAny_isTrue_Compare1 ?_)
  refine wpAny_Call_NameR (Dd.f.ev hk I ?_)
  obtain ⟨oc, od, osl, ho⟩ := Dd.f.obj
  obtain ⟨m, a, vs, hnm, ha, hO, hp, hg, hl⟩ := I.ownAt hx
  refine callWith_function_kw (o := ⟨oc, od, .func (fdn 3 "delitem" Dd.pm Dd.cd), osl⟩) (fd := fdn 3 "delitem" Dd.pm Dd.cd) (args_plain (by intro _ _; rfl) (wpAny_items_cons (wpAny_Name (load_at I.ok.kind hnm ha ?_) hd) rfl))
  refine wpAny_items_cons (he A s τ O R I _ _ fun iv h₁ tk₁ τ₁ l₁ r₁ => wpAny_items_nil ?_) (hn _ _)
  have I₁ := I.le l₁
  refine ⟨⟨I₁.g.K _ _ ho, rfl⟩, ?_⟩
  have ri : Rel (fun _ => True) ⟨h₁, τ₁, tk₁⟩ iv (.int i) := r₁
  have ra : Rel (fun _ => True) ⟨h₁, τ₁, tk₁⟩ (.ref a) (.il l) := Rel.le l₁ (show RI (fun _ => True) ⟨s.heap, τ, s.toks⟩ _ _ from ⟨a, vs, rfl, trivial, hp, hg, hl⟩)
  have hp₁ : h₁.PlainList a vs.toArray := hp.at fun o e => l₁.keep _ _ e
  have hg₁ : L2 (GI ⟨h₁, τ₁, tk₁⟩) vs l := hg.mono fun _ _ z => GI.le l₁.toks l₁.agree z
  have hR1 := R.depth
  have hR2 := R.units
  refine wpAny_call ((Dd.def (ps := ["a", "b"]) (by decide +kernel)).enter (s := At2 s h₁ tk₁) (τ := τ₁) (rk := 0) (fr := false) (ds := [.il l, .int i]) rfl rfl (by omega) I₁.g (.inl I₁.pos) (.cons ra (.cons ri .nil)) fun h₂ tk₂ l₂ I₂ hb => ?_)
  obtain ⟨m₂, hn₂, hat⟩ := hb
  have hp₂ : h₂.PlainList a vs.toArray := hp₁.at fun o e => l₂.keep _ _ e
  have hg₂ : L2 (GI ⟨h₂, τ₁, tk₂⟩) vs l := hg₁.mono fun _ _ z => GI.le l₂.toks l₂.agree z
  obtain ⟨t, rfl, _⟩ := id ri
  refine wpAny_execs_cons (wpAny_Delete (wpAny_deleteEach_cons (wpAny_delete_Subscript ?_)))
  refine wpAny_Name (load_at (s := At2 s h₂ tk₂) I₂.ok.kind hn₂ (hat ("a", .ref a) (by simp [List.zip])) ?_) (by decide +kernel)
  refine wpAny_Name (load_at (s := At2 s h₂ tk₂) I₂.ok.kind hn₂ (hat ("b", .int i t) (by simp [List.zip])) ?_) (by decide +kernel)
  refine wr_del (s := At2 s h₂ tk₂) hp₂ (by rw [hg.length]; exact hl) (by rw [hg.length]; exact h0) (by rw [hg.length]; exact h1) fun h₃ hp₃ hs₃ => ?_
  refine wpAny_deleteEach_nil (wpAny_execs_nil ?_)
  refine wpAny_Constant_none ?_
  have l₁₂ := l₁.trans l₂
  have I₃ := I.le l₁₂
  obtain ⟨I₄, T₄⟩ := own_upd (l' := l.eraseIdx (ix i l.length)) I₃ hx hO hs₃ hp₃ (by rw [← hg.length]; exact hg₂.erase _) (by have := List.length_eraseIdx_le l (ix i l.length); omega) off_er
  refine op_isNot_none (W := W) A (At2 s h₃ tk₂) τ₁ .none .none ⟨R.hh, by omega, I₄.g, I₄.pos⟩ rfl rfl _ _ fun v h₅ tk₅ τ₅ l₅ r₅ => ?_
  have : v = .bool false := r₅
  subst this
  refine wpAny_truthy_bool (wpAny_execs_nil ?_)
  exact q .next .next O _ h₅ tk₅ τ₅ h rfl (I₄.le l₅) (((Tr.le l₁₂).trans T₄).trans (Tr.le l₅))
end



/-! ## indexOf -/
section
variable {W : Wd} {f : Fm} {δ δ' : List Ent}
theorem L2.inj {σ : Sn} : ∀ {vs : List Value} {u v : List Int}, L2 (GI σ) vs u → L2 (GI σ) vs v → u = v
  | _, _, _, .nil, .nil => rfl
  | _, _, _, .cons ⟨t, e, _⟩ r, .cons ⟨t', e', _⟩ r' => by
    rw [e] at e'; cases e'
    rw [r.inj r']
theorem same_list {A : Around} {s : Shared} {τ : Tok → Int} {v₁ v₂ : Value} {u v : List Int} {Q : Bool → Shared → Prop} {E : Value → Shared → Prop} (h1 : Rel (fun _ => True) ⟨s.heap, τ, s.toks⟩ v₁ (.il u)) (h2 : Rel (fun _ => True) ⟨s.heap, τ, s.toks⟩ v₂ (.il v))
    (h : ∀ b, (b = true → u = v) → Q b s) : wpAny W.M A (isSame v₁ v₂) Q E s := by
  obtain ⟨a, vs, rfl, _, ⟨n, hp⟩, hg, _⟩ := h1
  obtain ⟨a', ws, rfl, _, ⟨n', hp'⟩, hg', _⟩ := h2
  unfold isSame
  by_cases e : a = a'
  · subst e
    have hp1 : s.heap.get? a = some _ := hp
    have hp2 : s.heap.get? a = some _ := hp'
    rw [hp1] at hp2
    have : vs = ws := by
      have := Option.some.inj hp2
      injection this with _ _ h3
      injection h3 with h4
      simpa using h4
    subst this
    simp only [beq_self_eq_true, if_true]
    exact wpAny_pure (h true fun _ => hg.inj hg')
  · have e' : (a == a') = false := by simpa using e
    simp only [e', Bool.false_eq_true, if_false]
    refine wpAny_bind (wpAny_load hp (wpAny_bind (wpAny_load hp' ?_)))
    exact wpAny_pure (h false fun x => by cases x)
theorem EvT.isOrL {l r l' r' : Expr} {p₁ p₂ p₃ : Pos} {k₁ k₂ : RK} {u v : List Int} (hl : Ev W f l δ k₁ (.il u)) (hr : Ev W f r δ k₂ (.il v))
    (hl' : Ev W f l' δ k₁ (.il u)) (hr' : Ev W f r' δ k₂ (.il v))
    (hm : behindInMarks .Is r = false := by with_unfolding_all rfl) (hm' : behindInMarks .Eq r' = false := by with_unfolding_all rfl) :
    EvT W f (.BoolOp .Or [.Compare l [.Is] [r] p₁, .Compare l' [.Eq] [r'] p₂] p₃) δ (u == v) := by
  refine EvT.bool ?_
  intro A s τ O R I Q E k
  refine wpAny_allTrue_Or_cons (wpAny_isTrue_Compare1 (hl.two hr R I fun v₁ v₂ h' tk τ' l' I' r₁ r₂ => ?_) hm)
  show wpAny W.M A (isSame v₁ v₂ >>= fun b => pure (Value.bool b)) _ E _
  refine wpAny_bind (same_list (s := At2 s h' tk) (τ := τ') r₁.any r₂.any fun b hb => wpAny_pure (wpAny_truthy_bool ?_))
  cases b with
  | true =>
    have : (u == v) = true := beq_iff_eq.mpr (hb rfl)
    rw [this] at k
    exact k h' tk τ' l'
  | false =>
    have := (EvA.or_cons (EvT.cmp hl' hr' (op_eqL (W := W)) hm' (pos := p₂)) fun _ => EvA.or_nil (W := W) (f := f) (δ := δ)) A (At2 s h' tk) τ' O R I' Q E fun h₂ tk₂ τ₂ l₂ => by
      rw [Bool.or_false]; exact k h₂ tk₂ τ₂ (l'.trans l₂)
    exact this

theorem Inv.but2 {O : Own} {σ σ' : Sn} {C D : Addr} {oC oD : Obj} (I : Inv W f O δ σ) (h0 : f.h₀.get? C = none) (h0' : f.h₀.get? D = none) (ho : σ.h.get? C = some oC) (hf : ∃ vs, oC.data = .fields vs) (ho' : σ.h.get? D = some oD) (hf' : ∃ vs, oD.data = .fields vs)
    (hs : ∀ b o, b ≠ C → b ≠ D → σ.h.get? b = some o → σ'.h.get? b = some o) (ht : σ.n ≤ σ'.n) (ha : ∀ t, t < σ.n → σ'.τ t = σ.τ t) :
    Inv W f O δ σ' := by
  obtain ⟨vs, hf⟩ := hf
  obtain ⟨vs', hf'⟩ := hf'
  have nf : ∀ b o, σ.h.get? b = some o → (∀ ws, o.data ≠ .fields ws) → b ≠ C ∧ b ≠ D := fun b o e hn =>
    ⟨ne_of_data e ho (by rw [hf]; exact hn _), ne_of_data e ho' (by rw [hf']; exact hn _)⟩
  have nC : ∀ b o, σ.h.get? b = some o → LObj o → b ≠ C ∧ b ≠ D := fun b o e hc => nf b o e (by
    obtain ⟨_, its, n, hd⟩ := hc
    intro ws; rw [hd]; intro z; cases z)
  have st : ∀ P, Step P σ σ' := fun P => ⟨fun b o _ hl e => hs b o (nC b o e hl).1 (nC b o e hl).2 e, ht, ha⟩
  obtain ⟨m', hn', loc⟩ := I.loc
  have hL : f.env.locals ≠ C ∧ f.env.locals ≠ D := by
    obtain ⟨o, es, ep, e1, e2, _⟩ := hn'
    exact nf _ o e1 (by intro ws; rw [e2]; intro z; cases z)
  have cell : ∀ c v, σ.h.IsCell c v → σ'.h.IsCell c v := fun c v h => by
    obtain ⟨o, e1, e2⟩ := h
    have := nf c o e1 (by intro ws; rw [e2]; intro z; cases z)
    exact ⟨o, hs c o this.1 this.2 e1, e2⟩
  refine ⟨I.ok, fun b o e => hs b o (none_ne h0 e) (none_ne h0' e) (I.keep b o e), Nat.lt_of_lt_of_le I.pos ht, fun y b hb => ?_, I.inj, I.fn, fun y c e => ?_, m', hn'.at fun o e => hs _ o hL.1 hL.2 e, fun e he => ?_⟩
  · obtain ⟨e0, its, n, e1⟩ := I.own y b hb
    have := nC b _ e1 ⟨rfl, _, _, rfl⟩
    exact ⟨e0, its, n, hs b _ this.1 this.2 e1⟩
  · obtain ⟨v, q⟩ := I.cells y c e
    exact ⟨v, cell c v q⟩
  · obtain ⟨v, ha, hr⟩ := loc e he
    refine ⟨v, ?_, hr.step (st _) (st _) fun _ _ => st _⟩
    rcases ha with z | ⟨c, h1, h2, h3⟩
    · exact .inl z
    · exact .inr ⟨c, h1, h2, cell c _ h3⟩

theorem store_par {O : Own} {A : Around} {s : Shared} {τ : Tok → Int} {x : Str} {v : Value} {d : D} {Q : Unit → Shared → Prop} {E : Value → Shared → Prop} (I : Inv W f O δ ⟨s.heap, τ, s.toks⟩) (hx : St f x) (off : Off δ' δ x) (r : Rel f.Old ⟨s.heap, τ, s.toks⟩ v d)
    (h : ∀ h' tk, Inv W f O ((x, .par, d) :: δ') ⟨h', τ, tk⟩ → Tr f O O ⟨s.heap, τ, s.toks⟩ ⟨h', τ, tk⟩ → Q () (At2 s h' tk)) : wpAny W.M A (storeName f.env x v) Q E s := by
  obtain ⟨m, hn, loc⟩ := I.loc
  refine store_raw I hn hx fun h' tk m' ht keep alive cells hn' at' atx => ?_
  obtain ⟨hk, st, hown⟩ := I.restep (σ' := ⟨h', τ, tk⟩) keep ht (fun _ _ => rfl)
  refine h h' tk ⟨I.ok, hk, Nat.lt_of_lt_of_le I.pos ht, hown, I.inj, I.fn, cells, m', hn', fun e he => ?_⟩ ⟨fun b o e _ h2 h3 => keep b o e h2 h3, alive, ht, fun _ _ => rfl, fun _ _ z => .inl z⟩
  rcases List.mem_cons.mp he with rfl | he
  · exact ⟨v, atx, Rel.step (st _) r⟩
  · obtain ⟨u, ha, hr⟩ := loc e (off e he).1
    exact ⟨u, at' _ _ (off e he).2 ha, hr.step (st _) (st _) fun _ _ => st _⟩

/-- the elements of a list -/
def elems : D → List D
  | .il l => l.map D.int
  | .rows l => l.map D.il
  | _ => []
theorem rel_elems {P : Addr → Prop} {σ : Sn} {v : Value} {d : D} (hd : isL d) (h : Rel P σ v d) : ∃ a vs, v = .ref a ∧ P a ∧ σ.h.PlainList a (vs : List Value).toArray ∧ L2 (Rel P σ) vs (elems d) := by
  cases d with
  | il l => obtain ⟨a, vs, rfl, p, hp, hg, _⟩ := h; exact ⟨a, vs, rfl, p, hp, L2.toRel hg⟩
  | rows l => obtain ⟨a, vs, rfl, p, hp, hg, _⟩ := h; exact ⟨a, vs, rfl, p, hp, L2.toRelR hg⟩
  | _ => cases hd
theorem Inv.stepOld {O O' : Own} {δ δ' : List Ent} {σ σ' : Sn} (I : Inv W f O δ σ) (I' : Inv W f O' δ' σ') (ht : σ.n ≤ σ'.n) (ha : ∀ t, t < σ.n → σ'.τ t = σ.τ t) : Step f.Old σ σ' :=
  ⟨fun x o p _ e => by
    cases h : f.h₀.get? x with
    | none => exact absurd h p
    | some o' =>
      have h1 := I.keep x o' h
      rw [e] at h1
      cases h1
      exact I'.keep x o h, ht, ha⟩
end

section
variable {W : Wd} {a : Addr} {h₀ : Heap} {rk : Nat} {pm : Value} {cd : Addr} {fx : Bool}
theorem index_loop (hW : Wf W) {dl dt : D} {c : Nat → Bool} (hdl : isL dl)
    (hc : ∀ (l r l' r' : Pos) (p₁ p₂ p₃ : Pos) (j : Nat) d, (elems dl)[j]? = some d → EvT W (Fd (fdn 4 "indexOf" pm cd) a h₀ rk fx) (.BoolOp .Or [.Compare (.Name "j" l) [.Is] [.Name "b" r] p₁, .Compare (.Name "j" l') [.Eq] [.Name "b" r'] p₂] p₃) [("j", .par, d), ("i", .safe, .int j), ("a", .par, dl), ("b", .par, dt)] (c j))
    {A : Around} {s : Shared} {τ : Tok → Int} (R : Room (Fd (fdn 4 "indexOf" pm cd) a h₀ rk fx) A) (I : Inv W (Fd (fdn 4 "indexOf" pm cd) a h₀ rk fx) [] [("a", .par, dl), ("b", .par, dt)] ⟨s.heap, τ, s.toks⟩) {Q : Flow → Shared → Prop} {E : Value → Shared → Prop}
    (hE : PassesOwn W.M A (Fd (fdn 4 "indexOf" pm cd) a h₀ rk fx).env E)
    (found : ∀ j : Nat, j < (elems dl).length → c j = true → (∀ i, i < j → c i = false) → ∀ h' tk τ' v, Kp (Fd (fdn 4 "indexOf" pm cd) a h₀ rk fx).h₀ h' → s.toks ≤ tk → (∀ t, t < s.toks → τ' t = τ t) → GI ⟨h', τ', tk⟩ v j → Q (.ret v) (At2 s h' tk))
    (miss : (∀ i, i < (elems dl).length → c i = false) → ∀ h' tk τ' h'' e vs, Inv W (Fd (fdn 4 "indexOf" pm cd) a h₀ rk fx) [] [] ⟨h', τ', tk⟩ → s.toks ≤ tk → (∀ t, t < s.toks → τ' t = τ t) → Heap.MadeExc h' h'' e "ValueError" vs → E (.ref e) (At2 s h'' tk)) :
    wpAny W.M A (execs (bodyn 4) (Fd (fdn 4 "indexOf" pm cd) a h₀ rk fx).env) Q E s := by
  refine wpAny_execs_cons ?_
  generalize hf : Fd (fdn 4 "indexOf" pm cd) a h₀ rk fx = f at *
  have bn : Bn W f "enumerate" (.type "enumerate") := by subst hf; walk_at "bn"
  have bv : Bn W f "ValueError" (.type "ValueError") := by subst hf; walk_at "bn"
  have si : St f "i" := by subst hf; walk_at "st"
  have sj : St f "j" := by subst hf; walk_at "st"
  obtain ⟨m, va, hn, ha, hr⟩ := I.load (e := ("a", .par, dl)) (.head _)
  obtain ⟨l, vs, rfl, pl, hp, hel⟩ := rel_elems (P := f.Old) hdl hr
  have hvl : vs.length = (elems dl).length := hel.length
  refine wpAny_For ?_ (by intro _; rfl)
  refine wpAny_Call_NameR (bn.ev I ?_)
  refine PySem.callWith_type rfl (args_plain (by intro _ _; rfl) (wpAny_items_cons (wpAny_Name (load_at I.ok.kind hn ha (wpAny_items_nil ?_)) (by decide +kernel)) rfl))
  obtain ⟨n0, hp0⟩ := hp
  refine call_enumerate_1 hp0 fun h₁ he₁ hit₁ hz₁ hk₁ => ?_
  refine wpAny_pyIter_enum he₁ ?_
  have k₁ : Kp s.heap h₁ := hk₁
  have n1 : s.heap.get? (s.heap.objs.size + 1) = none := Heap.get?_none_of_le (by omega)
  have n2 : s.heap.get? s.heap.objs.size = none := get_size _
  have f1 : f.h₀.get? (s.heap.objs.size + 1) = none := I.keep.none n1
  have f2 : f.h₀.get? s.heap.objs.size = none := I.keep.none n2
  generalize hee : s.heap.objs.size + 1 = e at *
  generalize hii : s.heap.objs.size = it at *
  have hei : e ≠ it := by omega
  refine codeAny_forLoop_any (fun k s' => ∃ h' tk τ' j old, s' = At2 s h' tk ∧ IsEnum h' e it ((j : Nat) : Int) old ∧ h'.IsListIter it l j ∧ Inv W f [] [("a", .par, dl), ("b", .par, dt)] ⟨h', τ', tk⟩ ∧ j ≤ (elems dl).length ∧ k = (elems dl).length + 1 - j ∧ (∀ i, i < j → c i = false) ∧ s.toks ≤ tk ∧ ∀ t, t < s.toks → τ' t = τ t) ?_ ((elems dl).length + 1)
    ⟨h₁, s.toks, τ, 0, .none, rfl, he₁, hit₁, I.le (Le.heap k₁), Nat.zero_le _, rfl, fun i h => absurd h (Nat.not_lt_zero _), Nat.le_refl _, fun _ _ => rfl⟩
  rintro k s' ⟨H, tk, τ', j, old, rfl, he', hit', I', hj, rfl, hno, htk, hag⟩
  have hl' : Heap.IsList (At2 s H tk).heap l vs.toArray := by
    obtain ⟨o', ho'⟩ := Option.ne_none_iff_exists'.mp pl
    have h1 := I.keep l o' ho'
    rw [show s.heap.get? l = some _ from hp0] at h1
    cases h1
    exact ⟨_, I'.keep l _ ho', rfl, _, rfl⟩
  obtain ⟨oi, hoi, _, hoid⟩ := id hit'
  cases hv : vs.toArray[j]? with
  | none =>
    have hjl : j = (elems dl).length := by
      have : vs.toArray.size ≤ j := by simpa using hv
      rw [List.size_toArray] at this
      omega
    refine wpAny_pyNext_enum_end (s := At2 s H tk) R.hh he' hit' hl' hv fun h₂ he₂ => ?_
    have I₂ : Inv W f [] [("a", .par, dl), ("b", .par, dt)] ⟨h₂, τ', tk⟩ := (I'.but (σ' := ⟨h₂, τ', tk⟩) f2 hoi ⟨_, hoid⟩ he₂ (Nat.le_refl _) (fun _ _ => rfl)).1
    refine wpAny_passesOwn hE (wpAny_execs_cons (Raise_madeB PySem.F.excCall_ValueError PySem.F.excRaise_ValueError R.hh ?_))
    refine bv.ev (s := At2 s h₂ tk) (τ := τ') I₂ ⟨rfl, wpAny_items_cons (wpAny_Constant_str (wpAny_items_nil ⟨lim_line (show 1 ≤ lim by decide), fun h' e' hm => ?_⟩)) rfl⟩
    exact miss (fun i hi => hno i (by omega)) h₂ (tk + 1) τ' h' e' _ ((I₂.sub all_nil).le (Le.mk' (Kp.refl _) (Nat.le_succ _))) (by omega) hag hm
  | some v =>
    have hlt : j < vs.length := by
      have := (Array.getElem?_eq_some_iff.mp hv).1
      simpa using this
    have hv' : vs[j]? = some v := by simpa using hv
    obtain ⟨d, hd, hrd⟩ := hel.get hv'
    have stp := I.stepOld I' htk hag
    have hrd' : Rel f.Old ⟨H, τ', tk⟩ v d := Rel.step stp hrd
    refine wpAny_pyNext_enum_item (s := At2 s H tk) he' hit' hl' hv hei fun h₂ heo hit₂ ht₂ hz₂ hk₂ => ?_
    refine wpAny_letOwnedTupleGo_enum heo fun h₃ he₃ hs₃ => ?_
    have heH : e < H.objs.size := Heap.lt_size he'
    have ht₃ : h₃.IsTuple H.objs.size #[.int j tk, v] := ⟨_, (hs₃.2 _ (Nat.ne_of_gt heH)).trans ht₂, rfl, _, rfl⟩
    refine wpAny_assign_Tuple (items := #[.int j tk, v]) R.hh ht₃ rfl rfl fun h₄ hx₄ => ?_
    have hz₃ : h₃.objs.size = H.objs.size + 1 := hs₃.1.trans hz₂
    have old₄ : ∀ b o, b < H.objs.size → h₃.get? b = some o → h₄.get? b = some o := fun b o hb x => hx₄ b o (by show b ≠ h₃.objs.size; rw [hz₃]; omega) x
    have hit₃ : h₃.IsListIter it l (j + 1) := hit₂.extBut hs₃.extBut (Ne.symm hei)
    have hkeep : ∀ b o, b ≠ e → b ≠ it → H.get? b = some o → h₄.get? b = some o := fun b o h1 h2 x => old₄ b o (Heap.lt_size x) ((hs₃.2 b h1).trans (hk₂ b o h1 h2 x))
    have he₄ : IsEnum h₄ e it (((j + 1 : Nat) : Int)) v := by
      have : (((j + 1 : Nat) : Int)) = (j : Int) + 1 := by push_cast; rfl
      rw [this]; exact old₄ e _ heH he₃
    have hiH : it < H.objs.size := Heap.lt_size hoi
    have hit₄ : h₄.IsListIter it l (j + 1) := hit₃.at fun o x => old₄ it o hiH x
    have I₄ : Inv W f [] [("a", .par, dl), ("b", .par, dt)] ⟨h₄, upd τ' tk j, tk + 1⟩ := I'.but2 (σ' := ⟨h₄, upd τ' tk j, tk + 1⟩) f1 f2 he' ⟨_, rfl⟩ hoi ⟨_, hoid⟩ hkeep (Nat.le_succ _) (fun t ht => if_neg (Nat.ne_of_lt ht))
    have gi : GI ⟨h₄, upd τ' tk j, tk + 1⟩ (.int j tk) j := ⟨tk, rfl, I'.pos, Nat.lt_succ_self _, if_pos rfl⟩
    refine wpAny_assignInOrder_more (PyProof.Rows.assign_Name (store_safe (s := At2 s h₄ (tk + 1)) (τ := upd τ' tk j) (d := .int j) (δ' := [("a", .par, dl), ("b", .par, dt)]) I₄ si (fun e he => ⟨he, by (revert e; exact all_cons (ne_key (by decide +kernel)) (all_cons (ne_key (by decide +kernel)) all_nil))⟩) gi fun h₅ tk₅ I₅ T₅ _ => ?_))
    have rd₅ : Rel f.Old ⟨h₅, upd τ' tk j, tk₅⟩ v d := Rel.step (I'.stepOld I₅ (Nat.le_trans (Nat.le_succ _) T₅.toks) (fun t ht => if_neg (Nat.ne_of_lt ht))) hrd'
    refine wpAny_assignInOrder_more (PyProof.Rows.assign_Name (store_par (s := At2 s h₅ tk₅) (τ := upd τ' tk j) (d := d) (δ' := [("i", .safe, .int j), ("a", .par, dl), ("b", .par, dt)]) I₅ sj (fun e he => ⟨he, by (revert e; exact all_cons (ne_key (by decide +kernel)) (all_cons (ne_key (by decide +kernel)) (all_cons (ne_key (by decide +kernel)) all_nil)))⟩) rd₅ fun h₆ tk₆ I₆ T₆ => ?_))
    refine wpAny_assignInOrder_none ?_
    have R' : Room f A := R
    have tk₆' : tk + 1 ≤ tk₆ := Nat.le_trans T₅.toks T₆.toks
    have ag₆ : ∀ t, t < s.toks → upd τ' tk j t = τ t := fun t ht => by
      have : t ≠ tk := by omega
      show (if t = tk then _ else _) = _
      rw [if_neg this]; exact hag t ht
    have iter₆ : IsEnum h₆ e it (((j + 1 : Nat) : Int)) v ∧ h₆.IsListIter it l (j + 1) := by
      have T := T₅.trans T₆
      have nl : ∀ C oC, (∃ vs, oC.data = .fields vs) → h₄.get? C = some oC → h₆.get? C = some oC := fun C oC ⟨ws, hw⟩ hC => by
        refine T.keep C oC hC (fun _ h => by cases h) ?_ (fun x hx => ?_)
        · obtain ⟨m', ⟨o, es, ep, e1, e2, _⟩, _⟩ := I₄.loc
          exact Ne.symm (ne_of_data e1 hC (by rw [e2, hw]; intro z; cases z))
        · obtain ⟨v, o, e1, e2⟩ := I₄.cells x C hx
          exact ne_of_data e1 hC (by rw [e2, hw]; intro z; cases z) rfl
      refine ⟨nl e _ ⟨_, rfl⟩ he₄, ?_⟩
      obtain ⟨o, ho, ho1, ho2⟩ := id hit₄
      exact ⟨o, nl it o ⟨_, ho2⟩ ho, ho1, ho2⟩
    refine wpAny_execs_cons (wpAny_If (hc _ _ _ _ _ _ _ j d hd A (At2 s h₆ tk₆) (upd τ' tk j) [] R I₆ _ _ fun h₇ tk₇ τ₇ l₇ => ?_))
    have I₇ := I₆.le l₇
    have tk₇' : tk + 1 ≤ tk₇ := Nat.le_trans tk₆' l₇.toks
    have ag₇ : ∀ t, t < s.toks → τ₇ t = τ t := fun t ht => (l₇.agree t (by show t < tk₆; omega)).trans (ag₆ t ht)
    cases hcj : c j with
    | true =>
      rw [if_pos rfl]
      refine wpAny_execs_cons (wpAny_Return_some (Ev.safe (W := W) (x := "i") (d := .int j) (.tail _ (.head _)) (by decide +kernel) A (At2 s h₇ tk₇) τ₇ [] R I₇ _ _ fun v' h₈ tk₈ τ₈ l₈ r₈ => ?_))
      exact found j (by omega) hcj hno h₈ tk₈ τ₈ v' (I₇.le l₈).keep (Nat.le_trans (show s.toks ≤ tk₇ by omega) l₈.toks) (fun t ht => (l₈.agree t (by show t < tk₇; omega)).trans (ag₇ t ht)) r₈
    | false =>
      rw [if_neg (by decide)]
      refine wpAny_execs_nil (wpAny_execs_nil ?_)
      refine ⟨(elems dl).length + 1 - (j + 1), by omega, h₇, tk₇, τ₇, j + 1, v, rfl, l₇.keep _ _ iter₆.1, ?_, I₇.sub ?_, by omega, rfl, fun i hi => ?_, by omega, ag₇⟩
      · obtain ⟨o, ho, ho1, ho2⟩ := iter₆.2
        exact ⟨o, l₇.keep _ _ ho, ho1, ho2⟩
      · exact all_cons (.tail _ (.tail _ (.head _))) (all_cons (.tail _ (.tail _ (.tail _ (.head _)))) all_nil)
      · by_cases q : i = j
        · subst q; exact hcj
        · exact hno i (by omega)
end



/-! ## What indexOf answers -/
def hits (dl dt : D) (j : Nat) : Bool := match dl, dt with
  | .il l, .int v => l.getD j 0 == v
  | .rows l, .il v => l.getD j [] == v
  | _, _ => false
def isT : D → D → Prop
  | .il _, .int _ => True
  | .rows _, .il _ => True
  | _, _ => False
section
variable {W : Wd} {a : Addr} {h₀ : Heap} {rk : Nat} {pm : Value} {cd : Addr} {fx : Bool}
theorem index_test (hW : Wf W) {dl dt : D} (hT : isT dl dt) (l r l' r' : Pos) (p₁ p₂ p₃ : Pos) (j : Nat) (d : D) (hd : (elems dl)[j]? = some d) :
    EvT W (Fd (fdn 4 "indexOf" pm cd) a h₀ rk fx) (.BoolOp .Or [.Compare (.Name "j" l) [.Is] [.Name "b" r] p₁, .Compare (.Name "j" l') [.Eq] [.Name "b" r'] p₂] p₃) [("j", .par, d), ("i", .safe, .int j), ("a", .par, dl), ("b", .par, dt)] (hits dl dt j) := by
  cases dl with
  | il l =>
    cases dt with
    | int v =>
      obtain ⟨i, hi, rfl⟩ := int_get hd
      have : hits (.il l) (.int v) j = (i == v) := by show (l.getD j 0 == v) = _; rw [List.getD_eq_getElem?_getD, hi]; rfl
      rw [this]
      refine EvT.isOr hW.told (k₁ := .any) (k₂ := .any) (p := i) (q := v) ?_ ?_ ?_ ?_ <;> walk_at "any"
    | _ => cases hT
  | rows l =>
    cases dt with
    | il v =>
      obtain ⟨u, hu, rfl⟩ : ∃ u, l[j]? = some u ∧ d = .il u := by
        have hd : (l.map D.il)[j]? = some d := hd
        rw [List.getElem?_map] at hd
        cases e : l[j]? with
        | none => rw [e] at hd; cases hd
        | some u => rw [e] at hd; cases hd; exact ⟨u, rfl, rfl⟩
      have : hits (.rows l) (.il v) j = (u == v) := by show (l.getD j [] == v) = _; rw [List.getD_eq_getElem?_getD, hu]; rfl
      rw [this]
      refine EvT.isOrL (k₁ := .any) (k₂ := .any) (u := u) (v := v) ?_ ?_ ?_ ?_ <;> walk_at "any"
    | _ => cases hT
  | _ => cases hT
theorem isT_isL {dl dt : D} (h : isT dl dt) : isL dl := by
  cases dl with
  | il _ => trivial
  | rows _ => trivial
  | _ => cases h

theorem fn_index (hW : Wf W) (D₁ : Dn W "indexOf" 4) {dl dt : D} (hT : isT dl dt) {j : Nat} (hj : j < (elems dl).length) (h1 : hits dl dt j = true) (h2 : ∀ i, i < j → hits dl dt i = false) : Fn W 1 fx D₁.a [dl, dt] .fresh (.int j) := by
  intro A s τ vs hh hd hu hfx hpos hg hr Q E q
  refine wpAny_call ((D₁.def (ps := ["a", "b"]) (by decide +kernel)).enter (rk := 0) (fr := false) (by
    have := hr.length
    match vs, this with | [_, _], _ => rfl) rfl (by omega) hg (.inl hpos) hr fun h₁ tk₁ l₁ I _ => ?_)
  have R : Room (Fd (fdn 4 "indexOf" D₁.pm D₁.cd) D₁.a s.heap 0 false) (A.deeper (Fd (fdn 4 "indexOf" D₁.pm D₁.cd) D₁.a s.heap 0 false).env) := by
    refine ⟨hh, ?_, ?_, fun e => by cases e⟩
    · show A.depth + 1 + 0 < recursionLimit; omega
    · show A.units + 3 + 8 * 0 + 8 < cLine; omega
  refine index_loop hW (isT_isL hT) (fun l r l' r' p₁ p₂ p₃ j d hd => index_test hW hT l r l' r' p₁ p₂ p₃ j d hd) (s := At2 s h₁ tk₁) (τ := τ) R I PassesOwn.leaving ?_ ?_
  · intro j' hj' hc' hno h' tk τ' v hk ht ha hv
    have : j' = j := by
      rcases Nat.lt_trichotomy j' j with e | e | e
      · rw [h2 _ e] at hc'; cases hc'
      · exact e
      · rw [hno _ e] at h1; cases h1
    subst this
    exact q v h' tk τ' ⟨hk, Nat.le_trans l₁.toks ht, fun t hlt => (ha t (Nat.lt_of_lt_of_le hlt l₁.toks)).trans (l₁.agree t hlt)⟩ hv
  · intro hno
    rw [hno j hj] at h1; cases h1

theorem index_raises (hW : Wf W) (D₁ : Dn W "indexOf" 4) {dl dt : D} (hT : isT dl dt) (hno : ∀ i, i < (elems dl).length → hits dl dt i = false) {A : Around} {s : Shared} {τ : Tok → Int} {vs : List Value} {base : Heap} {outer : List Env}
    (hh : A.handled = none) (hd : A.depth + 1 < recursionLimit) (hu : A.units + 16 < cLine) (hpos : 0 < s.toks) (hg : W.G s.heap) (hr : L2 (Rel (fun _ => True) ⟨s.heap, τ, s.toks⟩) vs [dl, dt])
    (hfr : A.frames = some outer) (hff : s.heap.FunFrames base outer) (hb : base.StaysIn s.heap) {Q : Value → Shared → Prop} {E : Value → Shared → Prop}
    (q : ∀ e t h' tk, Heap.FlyingW base outer e (.type "ValueError") (.ref t) h' → s.heap.UpToSlots h' → s.toks ≤ tk → E (.ref e) (At2 s h' tk)) : wpAny W.M A (call (.ref D₁.a) vs) Q E s := by
  refine wpAny_call ((D₁.def (ps := ["a", "b"]) (by decide +kernel)).enter (rk := 0) (fr := false) (by
    have := hr.length
    match vs, this with | [_, _], _ => rfl) rfl (by omega) hg (.inl hpos) hr fun h₁ tk₁ l₁ I _ => ?_)
  have R : Room (Fd (fdn 4 "indexOf" D₁.pm D₁.cd) D₁.a s.heap 0 false) (A.deeper (Fd (fdn 4 "indexOf" D₁.pm D₁.cd) D₁.a s.heap 0 false).env) := by
    refine ⟨hh, ?_, ?_, fun e => by cases e⟩
    · show A.depth + 1 + 0 < recursionLimit; omega
    · show A.units + 3 + 8 * 0 + 8 < cLine; omega
  refine index_loop hW (isT_isL hT) (fun l r l' r' p₁ p₂ p₃ j d hd => index_test hW hT l r l' r' p₁ p₂ p₃ j d hd) (s := At2 s h₁ tk₁) (τ := τ) R I PassesOwn.leaving ?_ ?_
  · intro j' hj' hc'
    rw [hno j' hj'] at hc'; cases hc'
  · intro _ h' tk τ' h'' e vs' I' ht ha hm
    have hk : ∀ b o, s.heap.get? b = some o → h'.get? b = some o := I'.keep
    have hL : base.get? (Fd (fdn 4 "indexOf" D₁.pm D₁.cd) D₁.a s.heap 0 false).env.locals = none := by
      cases e' : base.get? (Fd (fdn 4 "indexOf" D₁.pm D₁.cd) D₁.a s.heap 0 false).env.locals with
      | none => rfl
      | some o => exact absurd ((hb _ o e').symm.trans I'.ok.newL) (by intro z; cases z)
    obtain ⟨m, hn, _⟩ := I'.loc
    refine wpAny_leaves_madeW (base := base) (h := h') (Around.frames_deeper hfr) rfl (fun b o e' => hk b o (hb b o e')) (Heap.FunFrames.cons (by rw [I'.ok.kind]; decide) rfl hn hL (hff.of_keeps fun b o e' _ => ⟨o, hk b o e', rfl⟩)) (Heap.MadeExc.of hm) fun h₃ t f1 f2 f3 f4 => ?_
    exact q e t h₃ tk f1 ((Heap.UpToSlots.of_keeps hk).trans ((Heap.UpToSlots.of_keeps (Heap.MadeExc.of hm).keeps).trans f4)) (Nat.le_trans l₁.toks ht)
end



/-! ## A body that an exception may leave, caught -/
structure Exit (f : Fm) (Lc : Addr) (σ σ' : Sn) : Prop where
  keep : ∀ b o, f.h₀.get? b = some o → b ≠ Lc → σ'.h.get? b = some o
  ns : ∀ m, f.h₀.Ns Lc m → σ'.h.Ns Lc m
  toks : σ.n ≤ σ'.n
  agree : ∀ t, t < σ.n → σ'.τ t = σ.τ t
structure Under (f : Fm) (envL : Env) (Lc : Addr) : Prop where
  kind : envL.scope.kind ≠ .module
  frame : envL.frame = some Lc
  ns : ∃ m, f.h₀.Ns Lc m
  own : f.env.frame = some f.env.locals
theorem Exit.after {f : Fm} {Lc : Addr} {σ σ₁ σ' : Sn} {O O' : Own} (T : Tr f O O' σ σ₁) (x : Exit f Lc σ₁ σ') : Exit f Lc σ σ' :=
  ⟨x.keep, x.ns, Nat.le_trans T.toks x.toks, fun t h => (x.agree t (Nat.lt_of_lt_of_le h T.toks)).trans (T.agree t h)⟩

def XX (W : Wd) (f : Fm) (frs : List Env) (Lc : Addr) (d : D) (t : Sem Flow) (δ : List Ent) (P : Pst) : Prop :=
  ∀ (A : Around) (s : Shared) (τ : Tok → Int) (O : Own), Room f A → A.frames = some (f.env :: frs) → Inv W f O δ ⟨s.heap, τ, s.toks⟩ →
    ∀ (Q : Flow → Shared → Prop) (E : Value → Shared → Prop),
      (∀ l w O' δ' h' tk τ', P l δ' → FlR f ⟨h', τ', tk⟩ w l → Inv W f O' δ' ⟨h', τ', tk⟩ → Tr f O O' ⟨s.heap, τ, s.toks⟩ ⟨h', τ', tk⟩ → Q w (At2 s h' tk)) →
      (∀ v h' tk τ', Exit f Lc ⟨s.heap, τ, s.toks⟩ ⟨h', τ', tk⟩ → Rel (fun a => f.h₀.get? a = none) ⟨h', τ', tk⟩ v d → Q (.ret v) (At2 s h' tk)) →
      wpAny W.M A t Q E s

section
variable {W : Wd} {f : Fm} {δ δ' : List Ent} {P : Pst} {envL : Env} {frs : List Env} {Lc : Addr} {dr : D}
theorem XX.of {st : Stmt} (h : W1 W f st δ P) : XX W f frs Lc dr (exec st f.env) δ P := fun A s τ O R _ I Q E q _ => h A s τ O R I Q E q
theorem XX.ofS {ss : List Stmt} (h : WS W f ss δ P) : XX W f frs Lc dr (execs ss f.env) δ P := fun A s τ O R _ I Q E q _ => h A s τ O R I Q E q
theorem XX.cons {st : Stmt} {ss : List Stmt} (h : XX W f frs Lc dr (exec st f.env) δ (fun l δ' => match l with
    | .next => XX W f frs Lc dr (execs ss f.env) δ' P
    | l => P l δ')) : XX W f frs Lc dr (execs (st :: ss) f.env) δ P := by
  intro A s τ O R hA I Q E q x
  refine wpAny_execs_cons (h A s τ O R hA I _ _ (fun l w O' δ' h' tk τ' hp hf I' T => ?_) fun v h' tk τ' hx hr => x v h' tk τ' hx hr)
  cases l with
  | next =>
    have : w = .next := hf
    subst this
    exact hp A (At2 s h' tk) τ' O' R hA I' Q E (fun l₂ w₂ O₂ δ₂ h₂ tk₂ τ₂ hp₂ hf₂ I₂ T₂ => q l₂ w₂ O₂ δ₂ h₂ tk₂ τ₂ hp₂ hf₂ I₂ (T.trans T₂)) fun v h₂ tk₂ τ₂ hx hr => x v h₂ tk₂ τ₂ (hx.after T) hr
  | brk => have : w = .brk := hf; subst this; exact q .brk _ O' δ' h' tk τ' hp hf I' T
  | cont => have : w = .cont := hf; subst this; exact q .cont _ O' δ' h' tk τ' hp hf I' T
  | ret d => have hf' := hf; obtain ⟨v, rfl, _⟩ := hf'; exact q (.ret d) _ O' δ' h' tk τ' hp hf I' T

theorem XX.for {α : Type} {x : Str} {px pos : Pos} {iter : Expr} {b o : List Stmt} {ds : List D} (hi : EvI W f iter δ ds) (F : α → List Ent) (J : Nat → α → Prop) (x₀ : α) (h0 : J 0 x₀) (hsub : ∀ e ∈ F x₀, e ∈ δ) (hoff : ∀ y, ∀ e ∈ F y, e.1 ≠ x) (hx : St f x)
    (turn : ∀ j y d, ds[j]? = some d → J j y → XX W f frs Lc dr (execs b f.env) ((x, .safe, d) :: F y) fun l δ' => match l with
        | .next | .cont => ∃ y', J (j + 1) y' ∧ ∀ e ∈ F y', e ∈ δ'
        | .brk => P .next δ'
        | .ret d => P (.ret d) δ')
    (fin : ∀ y, J ds.length y → WS W f o (F y) P) (hs : ∀ v, foldedSetIterable iter f.env v = pure v := by intro _; rfl) : XX W f frs Lc dr (exec (.For (.Name x px) iter b o pos) f.env) δ P := by
  intro A s τ O R hA I Q E q xx
  refine wpAny_For (hi A s τ O R I _ _ fun Ia S h₁ h' tk τ' l₁ k₁ hI hS it => ?_) hs
  have I₁ : Inv W f O δ ⟨h₁, τ', tk⟩ := I.le l₁
  have l₂ : Le ⟨h₁, τ', tk⟩ ⟨h', τ', tk⟩ := Le.heap k₁
  have hI0 : f.h₀.get? Ia = none := I₁.keep.none hI
  refine codeAny_forLoop (A := A) (fun n s' => ∃ h' tk τ' O' j y, s' = At2 s h' tk ∧ n = ds.length + 1 - j ∧ j ≤ ds.length ∧ J j y ∧ Inv W f O' (F y) ⟨h', τ', tk⟩ ∧ Tr f O O' ⟨s.heap, τ, s.toks⟩ ⟨h', τ', tk⟩ ∧
      It (f.Safe O') ⟨h', τ', tk⟩ Ia S ds j ∧ ∀ l ∈ S, ∀ z, (z, l) ∉ O') ?_ (ds.length + 1) ⟨h', tk, τ', O, 0, x₀, rfl, by omega, Nat.zero_le _, h0, (I₁.le l₂).sub hsub, Tr.le (l₁.trans l₂), it, fun l hl => (hS l hl).2⟩
  rintro n s' ⟨h', tk, τ', O', j, y, rfl, rfl, hj, hJ, I', T, it', hS'⟩
  obtain ⟨oI, hIo, hcls, vsI, hdI⟩ := it'.here
  by_cases hlt : j < ds.length
  · have hget : ds[j]? = some ds[j] := List.getElem?_eq_getElem hlt
    generalize ds[j] = d at hget
    refine It.next (s := At2 s h' tk) it' hget I'.pos fun v h₂ tk₂ τ₂ hs₂ ht₂ ha₂ hr₂ it₂ => ?_
    obtain ⟨I₂, nL, nC⟩ := I'.but (σ' := ⟨h₂, τ₂, tk₂⟩) hI0 hIo ⟨_, hdI⟩ hs₂.extBut ht₂ ha₂
    have T₂ : Tr f O O' ⟨s.heap, τ, s.toks⟩ ⟨h₂, τ₂, tk₂⟩ := ⟨fun b o e h1 h2 h3 => (hs₂.2 b (none_ne hI (l₁.keep _ _ e))).trans (T.keep b o e h1 h2 h3), fun b o e => by
      obtain ⟨o', e'⟩ := T.alive b o e
      exact ⟨o', (hs₂.2 b (none_ne hI (l₁.keep _ _ e))).trans e'⟩, Nat.le_trans T.toks ht₂, fun t ht => (ha₂ t (Nat.lt_of_lt_of_le ht T.toks)).trans (T.agree t ht), T.own⟩
    refine wpAny_assign_Name (store_safe (s := At2 s h₂ tk₂) (τ := τ₂) (δ' := F y) I₂ hx (fun e he => ⟨he, hoff y e he⟩) hr₂ fun h₃ tk₃ I₃ T₃ st₃ => ?_)
    obtain ⟨it₃, hS₃⟩ := it₂.tr I₂ hS' T₃
    refine turn j y d hget hJ A (At2 s h₃ tk₃) τ₂ O' R hA I₃ _ _ (fun l w O₄ δ₄ h₄ tk₄ τ₄ hp hf I₄ T₄ => ?_) fun v h₄ tk₄ τ₄ hx hr => xx v h₄ tk₄ τ₄ (hx.after (T₂.trans T₃)) hr
    have T₀₄ := (T₂.trans T₃).trans T₄
    obtain ⟨it₄, hS₄⟩ := it₃.tr I₃ hS₃ T₄
    cases l with
    | next =>
      have : w = .next := hf
      subst this
      obtain ⟨y', hJ', hsub'⟩ := hp
      exact ⟨_, by omega, h₄, tk₄, τ₄, O₄, j + 1, y', rfl, rfl, hlt, hJ', I₄.sub hsub', T₀₄, it₄, hS₄⟩
    | cont =>
      have : w = .cont := hf
      subst this
      obtain ⟨y', hJ', hsub'⟩ := hp
      exact ⟨_, by omega, h₄, tk₄, τ₄, O₄, j + 1, y', rfl, rfl, hlt, hJ', I₄.sub hsub', T₀₄, it₄, hS₄⟩
    | brk =>
      have : w = .brk := hf
      subst this
      exact q .next .next O₄ δ₄ h₄ tk₄ τ₄ hp rfl I₄ T₀₄
    | ret d =>
      obtain ⟨v, rfl, hr⟩ := id hf
      exact q (.ret d) _ O₄ δ₄ h₄ tk₄ τ₄ hp ⟨v, rfl, hr⟩ I₄ T₀₄
  · have hje : j = ds.length := by omega
    subst hje
    refine It.fin (s := At2 s h' tk) it' (Nat.le_refl _) R.hh fun h₂ he₂ => ?_
    obtain ⟨I₂, nL, nC⟩ := I'.but (σ' := ⟨h₂, τ', tk⟩) hI0 hIo ⟨_, hdI⟩ he₂ (Nat.le_refl _) (fun _ _ => rfl)
    have T₂ : Tr f O O' ⟨s.heap, τ, s.toks⟩ ⟨h₂, τ', tk⟩ := ⟨fun b o e h1 h2 h3 => he₂ b o (none_ne hI (l₁.keep _ _ e)) (T.keep b o e h1 h2 h3), fun b o e => by
      obtain ⟨o', e'⟩ := T.alive b o e
      exact ⟨o', he₂ b o' (none_ne hI (l₁.keep _ _ e)) e'⟩, T.toks, T.agree, T.own⟩
    exact fin y hJ A (At2 s h₂ tk) τ' O' R I₂ _ _ fun l w O₄ δ₄ h₄ tk₄ τ₄ hp hf I₄ T₄ => q l w O₄ δ₄ h₄ tk₄ τ₄ hp hf I₄ (T₂.trans T₄)

theorem XX.try_ok {st : Stmt} {h0 : ExceptHandler} {hs : List ExceptHandler} {pos : Pos} (h : W1 W f st δ (fun l δ' => (l = .next ∧ P .next δ') ∨ ∃ d, l = .ret d ∧ P (.ret d) δ')) : XX W f frs Lc dr (exec (.Try [st] (h0 :: hs) [] [] pos) f.env) δ P := by
  intro A s τ O R hA I Q E q x
  refine wpAny_Try_except (wpAny_execs_cons (h A s τ O R I _ _ fun l w O' δ' h' tk τ' hp hf I' T => ?_))
  rcases hp with ⟨rfl, hp⟩ | ⟨d, rfl, hp⟩
  · have : w = .next := hf
    subst this
    exact wpAny_execs_nil (wpAny_execs_nil (q .next .next O' δ' h' tk τ' hp rfl I' T))
  · have hf' := hf
    obtain ⟨v, rfl, _⟩ := hf'
    exact q (.ret d) _ O' δ' h' tk τ' hp hf I' T

/-- the objects that the exception's frames leave alone -/
def Calm2 (f : Fm) (Lc : Addr) (h : Heap) : Heap := hideAll h [f.env.locals, Lc]
theorem calm_stays {f : Fm} {Lc : Addr} {h : Heap} : (Calm2 f Lc h).StaysIn h := fun b o e => of_hideAll _ e
theorem calm_get {f : Fm} {Lc : Addr} {h : Heap} {b : Addr} {o : Obj} (e : h.get? b = some o) (h1 : b ≠ f.env.locals) (h2 : b ≠ Lc) : (Calm2 f Lc h).get? b = some o :=
  hideAll_get _ e (by simp [h1, h2])
theorem Inv.frames {O : Own} {σ : Sn} (I : Inv W f O δ σ) (U : Under f envL Lc) : σ.h.FunFrames (Calm2 f Lc σ.h) [f.env, envL] := by
  obtain ⟨m, ⟨o, es, ep, e1, e2, _⟩, _⟩ := I.loc
  obtain ⟨m', hm⟩ := U.ns
  obtain ⟨o', es', ep', e1', e2', _⟩ := hm
  have e3 := I.keep _ _ e1'
  exact ⟨by rw [I.ok.kind]; decide, ⟨_, o, U.own, hideAll_none _ (.head _), e1, fun vs => by rw [e2]; intro z; cases z⟩, U.kind, ⟨_, o', U.frame, hideAll_none _ (.tail _ (.head _)), e3, fun vs => by rw [e2']; intro z; cases z⟩, trivial⟩

theorem caught (hW : Wf W) {O : Own} {σ : Sn} (I : Inv W f O δ σ) (U : Under f envL Lc) (bv : Bn W f "ValueError" (.type "ValueError")) {A : Around} (hA : A.frames = some [f.env, envL]) {s₁ : Shared} {e t : Addr} {b₀ : Stmt} {suite : List Stmt} {np pos : Pos} {rest : List ExceptHandler} {Q : Flow → Shared → Prop} {E : Value → Shared → Prop}
    (hfl : Heap.FlyingW (Calm2 f Lc σ.h) [f.env, envL] e (.type "ValueError") (.ref t) s₁.heap) (hup : σ.h.UpToSlots s₁.heap)
    (k : ∀ h₆ E₀, (Calm2 f Lc σ.h).StaysIn h₆ → σ.h.UpToSlots h₆ → wpAny W.M (A.mark (some (.ref e))) (execs (b₀ :: suite) f.env) Q E₀ { s₁ with heap := h₆ }) :
    wpAny W.M A (noteFrame (.ref e) f.env) (fun _ s₂ => wpAny W.M A (setFlight (.ref e) none) (fun _ s₃ => wpAny W.M A (handleBy (.ref e) f.env (.ExceptHandler (some (.Name "ValueError" np)) none (b₀ :: suite) pos :: rest)) Q E s₃) E s₂) E s₁ := by
  refine wpAny_looks_onW hA U.own hfl fun h₄ hheld₄ hsm₄ => ?_
  refine wpAny_landsW hheld₄ fun h₅ hheld hsm₅ => ?_
  obtain ⟨ob, hob, hobc⟩ := hheld.there
  have up₅ := (hup.trans hsm₄).trans hsm₅
  refine wpAny_handleBy_builtin (X := "ValueError") (T := "ValueError") (b := true) PySem.F.isExc_ValueError PySem.F.notTuple_ValueError (by rw [isSubtype_type]; kernel_rfl) ?_
  refine Calls.Name_function_global I.ok.kind bv.kind ?_ bv.nd
  have g1 : h₅.Ns f.env.globals W.mg := up₅.ns (I.ok.glob ▸ I.g.T.g)
  have g2 : h₅.Ns f.env.builtins W.mb := up₅.ns (I.ok.bi ▸ I.g.T.b)
  refine Calls.loadGlobal_builtin (s := { s₁ with heap := h₅ }) (env := f.env) (mg := W.mg) (mb := W.mb) g1 (mg_none_of I.g.K I.g.T.g bv.miss) g2 ((I.g.T.builtins _ bv.nn).trans bv.boot) ⟨rfl, ⟨ob, hob, hobc⟩, ?_⟩
  refine lands_againW hheld fun h₆ hfl₆ hsm₆ => ?_
  exact k h₆ _ hfl₆.1 (up₅.trans hsm₆)
end



section
variable {W : Wd} {f : Fm} {δ δ' : List Ent} {P : Pst} {envL : Env} {Lc : Addr} {dr : D}
theorem Inv.exit {O : Own} {σ : Sn} (I : Inv W f O δ σ) (U : Under f envL Lc) {h₆ : Heap} {tk : Nat} (st : (Calm2 f Lc σ.h).StaysIn h₆) (up : σ.h.UpToSlots h₆) (ht : σ.n ≤ tk) : Exit f Lc σ ⟨h₆, σ.τ, tk⟩ := by
  refine ⟨fun b o e hb => st b o (calm_get (I.keep b o e) (none_ne I.ok.newL e) hb), fun m hm => up.ns (hm.keeps I.keep), ht, fun _ _ => rfl⟩

/-- an index sought in a try that is not found; the handler gives back a list of the frame's own -/
theorem XX.try_miss (hW : Wf W) (U : Under f envL Lc) (D₁ : Dn W "indexOf" 4) {x y : Str} {px ip cp bp apos np yp rp hpos pos : Pos} {rest : List ExceptHandler} {e1 ea : Expr} {es : List Expr} {t : Int} {dl dt : D} {l : List Int}
    (h1 : Ev W f e1 δ .any (.int t)) (hk : f.env.kindOf "indexOf" = some .globalImplicit) (bv : Bn W f "ValueError" (.type "ValueError")) (hs : EvS W f (ea :: es) δ .any [dl, dt]) (hn : NS ea) (hT : isT dl dt) (hno : ∀ i, i < (elems dl).length → hits dl dt i = false)
    (hy : (y, EK.own, D.il l) ∈ δ) (hyk : f.env.kindOf y = some .local) (hyd : (y == ("__debug__" : Str)) = false) (hrk : 1 ≤ f.rk) :
    XX W f [envL] Lc (.il l) (exec (.Try [.Assign [.Name x px] (.BinOp e1 .Add (.Call (.Name "indexOf" ip) (ea :: es) [] cp) bp) apos] (.ExceptHandler (some (.Name "ValueError" np)) none [.Return (some (.Name y yp)) rp] hpos :: rest) [] [] pos) f.env) δ P := by
  intro A s τ O R hA I Q E q xx
  have hR1 := R.depth
  have hR2 := R.units
  refine wpAny_Try_except (wpAny_execs_cons (wpAny_Assign_Name (wpAny_BinOp (h1 A s τ O R I _ _ fun v₁ h₁ tk₁ τ₁ l₁ r₁ => ?_)) rfl))
  have I₁ := I.le l₁
  refine wpAny_Call_NameR (D₁.f.ev hk I₁ (callWith_fun D₁.f hn hs R I₁ fun vs h₂ tk₂ τ₂ l₂ I₂ r₂ => ?_))
  refine index_raises hW D₁ hT hno (base := Calm2 f Lc h₂) R.hh (by omega) (by omega) I₂.pos I₂.g r₂ hA (I₂.frames U) calm_stays fun e t h' tk hfl hup ht => ?_
  have ht' : tk₂ ≤ tk := ht
  refine caught hW (s₁ := At2 s h' tk) I₂ U bv hA hfl hup fun h₆ E₀ st up => ?_
  obtain ⟨m, a, ws, hnm, ha, hO, hp, hg, hl⟩ := I₂.ownAt hy
  have ha' : At f.env h₆ m y (.ref a) := by
    rcases ha with ⟨k, hm⟩ | ⟨c, k, _⟩
    · exact .inl ⟨k, hm⟩
    · rw [hyk] at k
      rcases k with k | ⟨k, _⟩ <;> cases k
  refine wpAny_execs_cons (wpAny_Return_some (wpAny_Name (load_at (s := At2 s h₆ tk) I₂.ok.kind (up.ns hnm) ha' ?_) hyd))
  have T : Tr f O O ⟨s.heap, τ, s.toks⟩ ⟨h₂, τ₂, tk₂⟩ := Tr.le (l₁.trans l₂)
  refine xx (.ref a) h₆ tk τ₂ ((I₂.exit U st up ht').after T) ?_
  obtain ⟨n, hp⟩ := hp
  have nl := (I₂.notL hp ⟨rfl, _, _, rfl⟩).1
  have nL : a ≠ Lc := by
    obtain ⟨m', ⟨o', es', ep', e1', e2', _⟩⟩ := U.ns
    exact ne_of_data hp (I₂.keep _ _ e1') (by rw [e2']; intro z; cases z)
  exact ⟨a, ws, rfl, (I₂.own y a hO).1, ⟨n, st a _ (calm_get hp nl nL)⟩, hg.mono fun _ _ z => GI.le (a := ⟨h₂, τ₂, tk₂⟩) (b := ⟨h₆, τ₂, tk⟩) ht' (fun _ _ => rfl) z, hl⟩

/-- a def that catches: the frame above may have its record -/
def FnF (W : Wd) (rk : Nat) (a : Addr) (ds : List D) (d : D) : Prop :=
  ∀ (A : Around) (s : Shared) (τ : Tok → Int) (vs : List Value) (envL : Env) (Lc : Addr), A.handled = none → A.depth + rk < recursionLimit → A.units + 8 * rk + 8 < cLine → 0 < s.toks → W.G s.heap → L2 (Rel (fun _ => True) ⟨s.heap, τ, s.toks⟩) vs ds →
    A.frames = some [envL] → envL.scope.kind ≠ .module → envL.frame = some Lc → (∃ m, s.heap.Ns Lc m) →
    ∀ (Q : Value → Shared → Prop) (E : Value → Shared → Prop), (∀ v h' tk τ', (∀ b o, s.heap.get? b = some o → b ≠ Lc → h'.get? b = some o) → (∀ m, s.heap.Ns Lc m → h'.Ns Lc m) → s.toks ≤ tk → (∀ t, t < s.toks → τ' t = τ t) → Rel (fun a => s.heap.get? a = none) ⟨h', τ', tk⟩ v d → Q v (At2 s h' tk)) →
      wpAny W.M A (call (.ref a) vs) Q E s

theorem FnF.of {a : Addr} {fd : FuncData} {ps : List Str} {body : List Stmt} (D₀ : Def W a fd ps body) {ds : List D} {d : D} {rk : Nat} (hbind : ∀ vs : List Value, vs.length = ps.length → bindArgs fd ⟨vs, []⟩ = pure (ps.zip vs)) (hlen : ds.length = ps.length)
    (h : ∀ h₀ envL Lc, Under (Fd fd a h₀ rk false) envL Lc → XX W (Fd fd a h₀ rk false) [envL] Lc d (execs body (Fd fd a h₀ rk false).env) ((ps.zip ds).map fun x => (x.1, EK.par, x.2)) (Ret d)) : FnF W (rk + 1) a ds d := by
  intro A s τ vs envL Lc hh hd hu hpos hg hr hfr hkL hfL hnL Q E q
  refine wpAny_call (D₀.enter (rk := rk) (fr := false) (hbind vs (by rw [hr.length, hlen])) hlen (by omega) hg (.inl hpos) hr fun h₁ tk₁ l₁ I _ => ?_)
  have R : Room (Fd fd a s.heap rk false) (A.deeper (Fd fd a s.heap rk false).env) := by
    refine ⟨hh, ?_, ?_, fun e => by cases e⟩
    · show A.depth + 1 + rk < recursionLimit; omega
    · show A.units + 3 + 8 * rk + 8 < cLine; omega
  have U : Under (Fd fd a s.heap rk false) envL Lc := ⟨hkL, hfL, hnL, rfl⟩
  refine h s.heap envL Lc U _ (At2 s h₁ tk₁) τ [] R (Around.frames_deeper hfr) I _ _ (fun l w O' δ' h' tk τ' hp hf I' T => ?_) fun v h' tk τ' hx hv => ?_
  · cases hp
    obtain ⟨v, rfl, hv⟩ := hf
    exact q v h' tk τ' (fun b o e _ => I'.keep b o e) (fun m hm => hm.keeps I'.keep) (Nat.le_trans l₁.toks T.toks) (fun t ht => (T.agree t (Nat.lt_of_lt_of_le ht l₁.toks)).trans (l₁.agree t ht)) hv
  · exact q v h' tk τ' hx.keep hx.ns (Nat.le_trans l₁.toks hx.toks) (fun t ht => (hx.agree t (Nat.lt_of_lt_of_le ht l₁.toks)).trans (l₁.agree t ht)) hv
end



section
variable {W : Wd} {a : Addr} {h₀ : Heap} {rk : Nat} {pm : Value} {cd : Addr} {fx : Bool} {envL : Env} {Lc : Addr}
def allStarts (starts text : List Int) : List Int := (List.replicate text.length starts).flatten
theorem allStarts_length {starts text : List Int} : (allStarts starts text).length = text.length * starts.length := by simp [allStarts]

theorem rows_slice1 {f : Fm} {δ : List Ent} {e lo : Expr} {p pos : Pos} {l : List (List Int)} {k : Int} (h : Ev W f e δ .any (.rows l)) (h1 : Ev W f lo δ .any (.int k)) : Ev W f (.Subscript e (.Slice (some lo) none none p) pos) δ .any (.rows (pick l (some k) none none)) := Ev.sliceR h (.some h1) .none .none (by simp)
theorem rows_slice2 {f : Fm} {δ : List Ent} {e hi : Expr} {p pos : Pos} {l : List (List Int)} {k : Int} (h : Ev W f e δ .any (.rows l)) (h1 : Ev W f hi δ .any (.int k)) : Ev W f (.Subscript e (.Slice none (some hi) none p) pos) δ .any (.rows (pick l none (some k) none)) := Ev.sliceR h .none (.some h1) .none (by simp)

theorem erase_mid {l : List Int} {p k : Nat} (h : p + k < l.length) : (l.take p ++ l.drop (p + k)).eraseIdx p = l.take p ++ l.drop (p + (k + 1)) := by
  have hl : (l.take p).length = p := by rw [List.length_take]; omega
  rw [List.eraseIdx_append_of_length_le (by omega), hl, Nat.sub_self, List.drop_eq_getElem_cons h]
  rfl

/-- len(row) deletions at the spot -/
theorem ws_dels (hW : Wf W) (Dd : Dn W "delitem" 3) {row text starts left : List Int} {p : Nat} (hp : p + row.length ≤ left.length) (hl : left.length ≤ 100000) (hrk : 1 ≤ rk) {d1 d2 d3 d4 : D} {P : Pst} (hP : P .next [("row", .par, .il row), ("text", .par, .il text), ("starts", .par, .il starts), ("left", .own, .il (cut row left p)), ("spot", .safe, .int (p : Int))])
    {b : List Stmt} (hb : b = ((match (match bodyn 9 with | _ :: .For _ _ b _ _ :: _ => b | _ => []) with | _ :: _ :: _ :: _ :: _ :: b => b | _ => []))) :
    WS W (Fd (fdn 9 "_law_struck" pm cd) a h₀ rk false) b [("row", .par, .il row), ("text", .par, .il text), ("starts", .par, .il starts), ("left", .own, .il left), ("spot", .safe, .int (p : Int))] P := by
  subst hb
  refine WS.cons (W1.for (ds := (rng 0 (row.length : Int)).map D.int) ?_ (fun (l' : List Int) => [("row", .par, .il row), ("text", .par, .il text), ("starts", .par, .il starts), ("left", .own, .il l'), ("spot", .safe, .int (p : Int))]) (fun k l' => k ≤ row.length ∧ l' = left.take p ++ left.drop (p + k)) left ⟨Nat.zero_le _, by rw [Nat.add_zero, List.take_append_drop]⟩ (by walk_at "sub") (by walk_at "off") (by walk_at "st") ?_ ?_)
  · exact EvI.range1 (by walk_at "bn") (k₁ := .fresh) (by walk_at "fresh") (by omega) (by omega)
  · rintro k l' d hd ⟨hk, rfl⟩
    obtain ⟨i, hi, rfl⟩ := int_get hd
    obtain ⟨rfl, hlt⟩ := rng_at hi
    have hk' : k < row.length := by omega
    have hlen : (left.take p ++ left.drop (p + k)).length = left.length - k := by rw [List.length_append, List.length_take, List.length_drop]; omega
    have e2 : (0 + (k : Int)) % 2 = 0 ∨ (0 + (k : Int)) % 2 = 1 := by omega
    refine WS.cons (W1.del hW Dd (i := (p : Int) - (0 + (k : Int)) % 2 * (left.length - k : Nat)) (kind_fd (by decide +kernel)) (by walk_at "mem") ?_ ?_ ?_ (by decide +kernel) hrk ?_)
    · refine Ev.fresh_any (Ev.sub ?_ (Ev.fresh_any (Ev.bin (op := .Mult) (k₁ := .fresh) (k₂ := .fresh) (d₁ := .int ((0 + (k : Int)) % 2)) (d₂ := .int ((left.length - k : Nat) : Int)) (Ev.bin (op := .Mod) (k₁ := .any) (k₂ := .fresh) (d₁ := .int (0 + (k : Int))) (d₂ := .int 2) ?_ Ev.cint (Op2.ii (op_mod (by decide)))) (Ev.to (d := .int (((left.take p ++ left.drop (p + k)).length : Nat) : Int)) ?_ (by rw [hlen])) (Op2.ii (op_mul (by omega) (by omega))))))
      · walk_at "any"
      · walk_at "any"
      · walk_at "fresh"
    · rw [hlen]
      rcases e2 with e | e <;> rw [e] <;> omega
    · rw [hlen]
      rcases e2 with e | e <;> rw [e] <;> omega
    · have e1 : ix ((p : Int) - (0 + (k : Int)) % 2 * (left.length - k : Nat)) (left.take p ++ left.drop (p + k)).length = p := by
        rw [hlen]
        unfold ix
        rcases e2 with e | e
        · rw [e]; rw [if_pos (by omega)]; omega
        · rw [e]; rw [if_neg (by omega)]; omega
      rw [e1, erase_mid (by omega)]
      exact WS.nil ⟨_, ⟨by omega, rfl⟩, by walk_at "sub"⟩
  · rintro l' ⟨_, rfl⟩
    rw [List.length_map, rng_length, Int.sub_zero, Int.toNat_natCast]
    exact WS.nil (WS.nil hP)
end



section
variable {W : Wd} {a : Addr} {h₀ : Heap} {rk : Nat} {pm : Value} {cd : Addr} {fx : Bool} {envL : Env} {Lc : Addr}
theorem strk_some {row left ss : List Int} {s : Int} {i : Nat} (h : sidx row left s = some i) : strk row (s :: ss) left = strk row ss (cut row left (spotOf row left s i - 2 * row.length)) := by
  rw [strk, h]
theorem strk_none {row left ss : List Int} {s : Int} (h : sidx row left s = none) : strk row (s :: ss) left = left := by
  rw [strk, h]
theorem drop_get {l : List Int} {j : Nat} {s : Int} (h : l[j]? = some s) : l.drop j = s :: l.drop (j + 1) := by
  obtain ⟨hj, e⟩ := List.getElem?_eq_some_iff.mp h
  rw [List.drop_eq_getElem_cons hj, e]

theorem rot_pick {l : List (List Int)} {k : Nat} {t : Int} (h : t = (k : Int)) : pick l (some t) none none ++ pick l none (some t) none = rot l k := by
  rw [pick_from h, pick_to h]; rfl

theorem ws_struck (hW : Wf W) (Dc : Dn W "concat" 1) (Dd : Dn W "delitem" 3) (Di : Dn W "indexOf" 4) (Do : Dn W "_generate_overlap_table" 6) {row text starts : List Int} (h0 : 0 < row.length) (hr : row.length ≤ 100) (ht : text.length ≤ 100) (hs : starts.length ≤ 100) (hap : Apart row text) (hrk : 1 ≤ rk) (U : Under (Fd (fdn 9 "_law_struck" pm cd) a h₀ rk false) envL Lc) :
    XX W (Fd (fdn 9 "_law_struck" pm cd) a h₀ rk false) [envL] Lc (.il (strk row (allStarts starts text) text)) (execs (bodyn 9) (Fd (fdn 9 "_law_struck" pm cd) a h₀ rk false).env) [("row", .par, .il row), ("text", .par, .il text), ("starts", .par, .il starts)] (Ret (.il (strk row (allStarts starts text) text))) := by
  have hall : (allStarts starts text).length ≤ lim := by
    rw [allStarts_length, lim_eq]
    have := Nat.mul_le_mul ht hs
    omega
  refine XX.cons (XX.of (W1.assignOwn (l := text) (Ev.to (Ev.call (k₁ := .any) (k := .fresh) Dc.f (kind_fd (by decide +kernel)) (EvS.cons ?_ (EvS.cons (d := .il []) (Ev.fresh_any (Ev.listI (k := .any) (l := []) EvS.nil (by decide))) EvS.nil)) (fn_concat (fx := false) (u := text) (v := []) hW Dc (by rw [List.append_nil, lim_eq]; omega)) hrk (by intro h; cases h)) (by rw [List.append_nil])) (by walk_at "st") ?_))
  · walk_at "any"
  refine XX.cons (XX.for (ds := (allStarts starts text).map D.int) ?_ (fun (l : List Int) => [("row", .par, .il row), ("text", .par, .il text), ("starts", .par, .il starts), ("left", .own, .il l)])
    (fun j l => strk row (allStarts starts text) text = strk row ((allStarts starts text).drop j) l ∧ l.length ≤ 100 ∧ Apart row l) text ⟨by rw [List.drop_zero], ht, hap⟩ (by walk_at "sub") (by walk_at "off") (by walk_at "st") ?_ ?_)
  · refine EvI.safe (Ev.fresh_safe (Ev.to (Ev.bin (op := .Mult) (k₁ := .any) (k₂ := .fresh) (d₁ := .il starts) (d₂ := .int (text.length : Int)) ?_ ?_ (Op2.xi (op_mulL (by omega) ?_ (by omega)))) ?_))
    · walk_at "any"
    · walk_at "fresh"
    · rw [Int.toNat_natCast]; exact hall
    · rw [Int.toNat_natCast]; rfl
  · rintro j left d hd ⟨hJ, hl, hA⟩
    obtain ⟨st, hst, rfl⟩ := int_get hd
    rw [drop_get hst] at hJ
    have hjl : (joined row left).length = row.length + 1 + left.length := joined_length
    -- joined
    refine XX.cons (XX.of (W1.assign (d := .il (joined row left)) (Ev.fresh_safe (Ev.call (k₁ := .any) (k := .fresh) Dc.f (kind_fd (by decide +kernel)) (EvS.cons (d := .il (row ++ [row.headD 0 + 2])) (Ev.fresh_any ?_) (EvS.cons (d := .il left) ?_ EvS.nil)) (fn_concat (fx := false) hW Dc (by rw [lim_eq]; simp; omega)) hrk (by intro h; cases h))) (by walk_at "st") ?_))
    · refine Ev.call (k₁ := .any) (k := .fresh) Dc.f (kind_fd (by decide +kernel)) (EvS.cons (d := .il row) ?_ (EvS.cons (d := .il [row.headD 0 + 2]) (Ev.fresh_any (Ev.listI (k := .fresh) (EvS.cons (d := .int (row.headD 0 + 2)) (Ev.add (Ev.fresh_any (Ev.at 0 (l := row) (k := 0) (x := row.headD 0) ?_ ?_ rfl ?_)) ?_) EvS.nil) (show 1 ≤ lim by decide))) EvS.nil)) (fn_concat (fx := false) hW Dc (by rw [lim_eq]; simp; omega)) hrk (by intro h; cases h)
      · walk_at "any"
      · walk_at "any"
      · walk_at "any"
      · cases row with
        | nil => simp at h0
        | cons x r => rfl
      · walk_at "any"
    · walk_at "any"
    -- table
    refine XX.cons (XX.of (W1.assignC (x := "size") (y := "table") (cl := []) (δc := []) (l := ov (joined row left)) (pr := fun _ => true) (g := fun i => .il [i]) (k := .safe) (d := .rows (tabs row left)) ⟨rfl, by decide +kernel, rfl, by decide +kernel, by decide +kernel, fun _ _ h => by cases h⟩ ?_ (by rw [ov_length, hjl, lim_eq]; omega) all_nil ?_ ?_ ?_ (by walk_at "st") ?_ rfl))
    · refine EvI.safe (Ev.fresh_safe (Ev.call (k₁ := .any) (k := .fresh) Do.f (kind_fd (by decide +kernel)) (EvS.cons (d := .il (joined row left)) ?_ EvS.nil) (fn_overlap (fx := false) hW Do (by rw [hjl, lim_eq]; omega)) hrk (by intro h; cases h)))
      walk_at "any"
    · intro C i hi; exact .inl ⟨rfl, rfl⟩
    · intro C i hi _
      refine Ev.listI (k := .any) (l := [i]) (EvS.cons ?_ EvS.nil) (show 1 ≤ lim by decide)
      walk_at "any"
    · have e : List.filter (fun _ => true) (ov (joined row left)) = ov (joined row left) := by simp
      rw [e]
      have : (ov (joined row left)).map (fun i => D.il [i]) = (tabs row left).map D.il := by unfold tabs; rw [List.map_map]; rfl
      rw [this]
      exact compD.lists (by rw [tabs_length, lim_eq]; omega)
    have hT : (0 : Int) < ((tabs row left).length : Int) := by rw [tabs_length]; omega
    have hturn : st % ((tabs row left).length : Int) = (turnOf row left st : Int) := by
      have := Int.emod_nonneg st (Int.ne_of_gt hT)
      unfold turnOf; omega
    -- turn
    refine XX.cons (XX.of (W1.assign (d := .int (turnOf row left st : Int)) (Ev.fresh_safe (Ev.to (Ev.bin (op := .Mod) (k₁ := .any) (k₂ := .fresh) (d₁ := .int st) (d₂ := .int ((tabs row left).length : Int)) ?_ (Ev.call1 (x := "len") (by walk_at "bn") (k₁ := .any) (d₁ := .rows (tabs row left)) ?_ op_lenR) (Op2.ii (op_mod hT))) (by rw [hturn]))) (by walk_at "st") ?_))
    · walk_at "any"
    · walk_at "any"
    have args : ∀ δ : List Ent, (("turn", EK.safe, D.int (turnOf row left st : Int)) : Ent) ∈ δ → (("table", EK.safe, D.rows (tabs row left)) : Ent) ∈ δ → (("row", EK.par, D.il row) : Ent) ∈ δ → EvS W (Fd (fdn 9 "_law_struck" pm cd) a h₀ rk false) [(.Call (.Name "concat" ⟨45, 34, 45, 40⟩) [(.Subscript (.Name "table" ⟨45, 41, 45, 46⟩) (.Slice (some (.Name "turn" ⟨45, 47, 45, 51⟩)) none none ⟨45, 47, 45, 52⟩) ⟨45, 41, 45, 53⟩), (.Subscript (.Name "table" ⟨45, 55, 45, 60⟩) (.Slice none (some (.Name "turn" ⟨45, 62, 45, 66⟩)) none ⟨45, 61, 45, 66⟩) ⟨45, 55, 45, 67⟩)] [] ⟨45, 34, 45, 68⟩),
        (.List [(.Call (.Name "len" ⟨45, 71, 45, 74⟩) [(.Name "row" ⟨45, 75, 45, 78⟩)] [] ⟨45, 71, 45, 79⟩)] ⟨45, 70, 45, 80⟩)] δ .any [.rows (rot (tabs row left) (turnOf row left st)), .il [(row.length : Int)]] := by
      intro δ m1 m2 m3
      refine EvS.cons (Ev.to (d := .rows (pick (tabs row left) (some (turnOf row left st : Int)) none none ++ pick (tabs row left) none (some (turnOf row left st : Int)) none)) ?_ (by rw [rot_pick rfl])) (EvS.cons (Ev.fresh_any (Ev.listI (k := .fresh) (l := [(row.length : Int)]) (EvS.cons (Ev.len (by walk_at "bn") (Ev.par m3 (by decide +kernel))) EvS.nil) (show 1 ≤ lim by decide))) EvS.nil)
      exact Ev.call (k₁ := .any) (k := .any) Dc.f (kind_fd (by decide +kernel)) (EvS.cons (rows_slice1 (Ev.nS m2 (by decide +kernel)) (Ev.nS m1 (by decide +kernel))) (EvS.cons (rows_slice2 (Ev.nS m2 (by decide +kernel)) (Ev.nS m1 (by decide +kernel))) EvS.nil)) (fn_concatR (fx := false) hW Dc (by rw [rot_pick rfl, rot_length, tabs_length, lim_eq]; omega)) hrk (by intro h; cases h)
    have hel : (elems (.rows (rot (tabs row left) (turnOf row left st)))).length = (tabs row left).length := by show (List.map _ _).length = _; rw [List.length_map, rot_length]
    cases hi : sidx row left st with
    | none =>
      rw [strk_none hi] at hJ
      rw [hJ]
      refine XX.cons (XX.try_miss hW U Di (x := "spot") (y := "left") (t := (turnOf row left st : Int)) (dl := .rows (rot (tabs row left) (turnOf row left st))) (dt := .il [(row.length : Int)]) ?_ (kind_fd (by decide +kernel)) (by walk_at "bn") ?_ (by intro _ _; rfl) trivial ?_ (by walk_at "mem") (kind_fd (by decide +kernel)) (by decide +kernel) hrk)
      · walk_at "any"
      · exact args _ (by walk_at "mem") (by walk_at "mem") (by walk_at "mem")
      · intro i hi'
        rw [hel] at hi'
        exact firstHit_none hi i hi'
    | some i =>
      rw [strk_some hi] at hJ
      obtain ⟨hi1, hi2, hi3⟩ := sidx_some hA h0 hi
      obtain ⟨_, hh1, hh2⟩ := firstHit_some hi
      refine XX.cons (XX.try_ok (W1.assign (d := .int ((turnOf row left st : Int) + (i : Int))) (Ev.fresh_safe (Ev.add ?_ (Ev.fresh_any (Ev.call (k₁ := .any) (k := .fresh) Di.f (kind_fd (by decide +kernel)) (args _ (by walk_at "mem") (by walk_at "mem") (by walk_at "mem")) (fn_index (fx := false) (dl := .rows (rot (tabs row left) (turnOf row left st))) (dt := .il [(row.length : Int)]) hW Di trivial (j := i) (by rw [hel]; exact hi1) hh1 hh2) hrk (by intro h; cases h))))) (by walk_at "st") (.inl ⟨rfl, ?_⟩)))
      · walk_at "any"
      have hspot : ((turnOf row left st : Int) + (i : Int)) % ((tabs row left).length : Int) = (spotOf row left st i : Int) := by
        unfold spotOf; rw [Int.natCast_emod]; simp
      refine XX.cons (XX.of (W1.assign (d := .int ((spotOf row left st i - 2 * row.length : Nat) : Int)) (Ev.fresh_safe (Ev.to (Ev.sub (a := (spotOf row left st i : Int)) (b := 2 * (row.length : Int)) (Ev.fresh_any (Ev.to (Ev.bin (op := .Mod) (k₁ := .any) (k₂ := .fresh) (d₁ := .int ((turnOf row left st : Int) + (i : Int))) (d₂ := .int ((tabs row left).length : Int)) ?_ (Ev.call1 (x := "len") (by walk_at "bn") (k₁ := .any) (d₁ := .rows (tabs row left)) ?_ op_lenR) (Op2.ii (op_mod hT))) (by rw [hspot]))) (Ev.fresh_any (Ev.bin (op := .Mult) (k₁ := .fresh) (k₂ := .fresh) (d₁ := .int 2) (d₂ := .int (row.length : Int)) Ev.cint ?_ (Op2.ii (op_mul (by omega) (by omega)))))) (by congr 1; omega))) (by walk_at "st") ?_))
      · walk_at "any"
      · walk_at "any"
      · walk_at "fresh"
      have hcl := cut_length hi3
      refine XX.ofS (WS.sub (ws_dels hW Dd (p := spotOf row left st i - 2 * row.length) hi3.1 (by omega) hrk (d1 := .none) (d2 := .none) (d3 := .none) (d4 := .none) ?_ rfl) (by walk_at "sub"))
      exact ⟨cut row left (spotOf row left st i - 2 * row.length), ⟨hJ, by omega, hA.cut⟩, by walk_at "sub"⟩
  · rintro left ⟨hJ, _, _⟩
    rw [List.length_map, List.drop_length] at hJ
    have hJ : strk row (allStarts starts text) text = left := hJ
    rw [hJ]
    refine WS.nil (XX.ofS (WS.cons (W1.retOwn (x := "left") (l := left) ?_ (by decide +kernel) rfl)))
    walk_at "mem"
theorem fn_struck (hW : Wf W) (Dc : Dn W "concat" 1) (Dd : Dn W "delitem" 3) (Di : Dn W "indexOf" 4) (Do : Dn W "_generate_overlap_table" 6) (D : Dn W "_law_struck" 9) {row text starts : List Int} (h0 : 0 < row.length) (hr : row.length ≤ 100) (ht : text.length ≤ 100) (hs : starts.length ≤ 100) (hap : Apart row text) :
    FnF W 2 D.a [.il row, .il text, .il starts] (.il (strk row (allStarts starts text) text)) := by
  have D₀ := D.def (ps := ["row", "text", "starts"]) (by decide +kernel)
  exact FnF.of (rk := 1) D₀ (fun vs h => by match vs, h with | [_, _, _], _ => rfl) rfl fun h₀ envL Lc U => ws_struck hW Dc Dd Di Do h0 hr ht hs hap (Nat.le_refl _) U
end



section
variable {W : Wd} {f : Fm} {δ δ' : List Ent} {P : Pst} {envL : Env} {Lc : Addr} {dr : D}
theorem XX.try_miss2 (hW : Wf W) (U : Under f envL Lc) (D₁ : Dn W "indexOf" 4) {ip cp bp apos np yp rp hpos pos : Pos} {k : Nat} {rest : List ExceptHandler} {ea e2 : Expr} {es : List Expr} {op : CmpOp} {dl dt : D} {b : Bool}
    (hk : f.env.kindOf "indexOf" = some .globalImplicit) (bv : Bn W f "ValueError" (.type "ValueError")) (hs : EvS W f (ea :: es) δ .any [dl, dt]) (hn : NS ea) (hT : isT dl dt) (hno : ∀ i, i < (elems dl).length → hits dl dt i = false)
    (hrk : 1 ≤ f.rk) (hm : behindInMarks op e2 = false) :
    XX W f [envL] Lc (.bool b) (exec (.Try [.Return (some (.Compare (.Call (.Name "indexOf" ip) (ea :: es) [] cp) [op] [e2] bp)) apos] (.ExceptHandler (some (.Name "ValueError" np)) none [.Return (some (.Constant (.bool b) k yp)) rp] hpos :: rest) [] [] pos) f.env) δ P := by
  intro A s τ O R hA I Q E q xx
  have hR1 := R.depth
  have hR2 := R.units
  refine wpAny_Try_except (wpAny_execs_cons (wpAny_Return_some (wpAny_Compare1 ?_ hm)))
  refine wpAny_Call_NameR (D₁.f.ev hk I (callWith_fun D₁.f hn hs R I fun vs h₂ tk₂ τ₂ l₂ I₂ r₂ => ?_))
  refine index_raises hW D₁ hT hno (base := Calm2 f Lc h₂) R.hh (by omega) (by omega) I₂.pos I₂.g r₂ hA (I₂.frames U) calm_stays fun e t h' tk hfl hup ht => ?_
  have ht' : tk₂ ≤ tk := ht
  refine caught hW (s₁ := At2 s h' tk) I₂ U bv hA hfl hup fun h₆ E₀ st up => ?_
  refine wpAny_execs_cons (wpAny_Return_some (wpAny_Constant_bool ?_))
  have T : Tr f O O ⟨s.heap, τ, s.toks⟩ ⟨h₂, τ₂, tk₂⟩ := Tr.le l₂
  exact xx (.bool b) h₆ tk τ₂ ((I₂.exit U st up ht').after T) rfl
end

section
variable {W : Wd} {a : Addr} {h₀ : Heap} {rk : Nat} {pm : Value} {cd : Addr} {fx : Bool} {envL : Env} {Lc : Addr}
theorem mem_first {l : List Int} {v : Int} (h : v ∈ l) : ∃ j, j < l.length ∧ hits (.il l) (.int v) j = true ∧ ∀ i, i < j → hits (.il l) (.int v) i = false := by
  cases e : firstHit (hits (.il l) (.int v)) l.length with
  | some j => exact ⟨j, firstHit_some e⟩
  | none =>
    obtain ⟨i, hi, q⟩ := List.mem_iff_getElem.mp h
    have := firstHit_none e i hi
    have h2 : hits (.il l) (.int v) i = true := by
      show (l.getD i 0 == v) = true
      rw [List.getD_eq_getElem?_getD, List.getElem?_eq_getElem hi, q]; simp
    rw [this] at h2; cases h2
theorem mem_none {l : List Int} {v : Int} (h : v ∉ l) : ∀ i, i < (elems (.il l)).length → hits (.il l) (.int v) i = false := by
  intro i hi
  have hi : i < l.length := by have : (elems (.il l)).length = l.length := List.length_map ..; omega
  cases e : hits (.il l) (.int v) i with
  | false => rfl
  | true =>
    exfalso
    have e : (l.getD i 0 == v) = true := e
    rw [List.getD_eq_getElem?_getD, List.getElem?_eq_getElem hi] at e
    have : l[i] = v := by simpa using e
    exact h (this ▸ List.getElem_mem hi)
theorem ws_met (hW : Wf W) (Di : Dn W "indexOf" 4) {row : List Int} {v : Int} (hrk : 1 ≤ rk) (U : Under (Fd (fdn 14 "_law_met" pm cd) a h₀ rk false) envL Lc) :
    XX W (Fd (fdn 14 "_law_met" pm cd) a h₀ rk false) [envL] Lc (.bool (row.contains v)) (execs (bodyn 14) (Fd (fdn 14 "_law_met" pm cd) a h₀ rk false).env) [("row", .par, .il row), ("sign", .par, .int v)] (Ret (.bool (row.contains v))) := by
  by_cases h : v ∈ row
  · obtain ⟨j, h1, h2, h3⟩ := mem_first h
    have hc : row.contains v = true := by simpa using h
    rw [hc]
    refine XX.cons (XX.try_ok (W1.ret (d := .bool true) (Ev.fresh_safe (Ev.to (Ev.cmp (op := .GtE) (k₁ := .fresh) (k₂ := .fresh) (d₁ := .int (j : Int)) (d₂ := .int 0) (Ev.call (k₁ := .any) (k := .fresh) Di.f (kind_fd (by decide +kernel)) (EvS.cons ?_ (EvS.cons ?_ EvS.nil)) (fn_index (fx := false) (dl := .il row) (dt := .int v) hW Di trivial (j := j) (by show j < (row.map D.int).length; rw [List.length_map]; exact h1) h2 h3) hrk (by intro h; cases h)) Ev.cint (Op2.ii op_ge)) (by congr 1))) (.inr ⟨_, rfl, rfl⟩)))
    · walk_at "any"
    · walk_at "any"
  · have hc : row.contains v = false := by simpa using h
    rw [hc]
    refine XX.cons (XX.try_miss2 hW U Di (dl := .il row) (dt := .int v) (kind_fd (by decide +kernel)) (by walk_at "bn") (EvS.cons ?_ (EvS.cons ?_ EvS.nil)) (by intro _ _; rfl) trivial (mem_none h) hrk (by with_unfolding_all rfl))
    · walk_at "any"
    · walk_at "any"
theorem fn_met (hW : Wf W) (Di : Dn W "indexOf" 4) (D : Dn W "_law_met" 14) {row : List Int} {v : Int} : FnF W 2 D.a [.il row, .int v] (.bool (row.contains v)) := by
  have D₀ := D.def (ps := ["row", "sign"]) (by decide +kernel)
  exact FnF.of (rk := 1) D₀ (fun vs h => by match vs, h with | [_, _], _ => rfl) rfl fun h₀ envL Lc U => ws_met hW Di (Nat.le_refl _) U
end



/-! ## Calls that may leave a mark on the own frame's record -/
section
variable {W : Wd} {f : Fm} {δ δ' : List Ent} {P : Pst} {frs : List Env} {Lc : Addr} {dr : D}
def EvF (W : Wd) (f : Fm) (e : Expr) (δ : List Ent) (d : D) : Prop :=
  ∀ (A : Around) (s : Shared) (τ : Tok → Int) (O : Own), Room f A → A.frames = some [f.env] → Inv W f O δ ⟨s.heap, τ, s.toks⟩ →
    ∀ (Q : Value → Shared → Prop) (E : Value → Shared → Prop),
      (∀ v h' tk τ', Inv W f O δ ⟨h', τ', tk⟩ → Tr f O O ⟨s.heap, τ, s.toks⟩ ⟨h', τ', tk⟩ → Rel (fun a => s.heap.get? a = none) ⟨h', τ', tk⟩ v d → Q v (At2 s h' tk)) →
      wpAny W.M A (eval e f.env) Q E s
def EvTF (W : Wd) (f : Fm) (e : Expr) (δ : List Ent) (b : Bool) : Prop :=
  ∀ (A : Around) (s : Shared) (τ : Tok → Int) (O : Own), Room f A → A.frames = some [f.env] → Inv W f O δ ⟨s.heap, τ, s.toks⟩ →
    ∀ (Q : Bool → Shared → Prop) (E : Value → Shared → Prop),
      (∀ h' tk τ', Inv W f O δ ⟨h', τ', tk⟩ → Tr f O O ⟨s.heap, τ, s.toks⟩ ⟨h', τ', tk⟩ → Q b (At2 s h' tk)) →
      wpAny W.M A (isTrue e f.env (eval e f.env)) Q E s

theorem Inv.relock {O : Own} {σ σ' : Sn} (I : Inv W f O δ σ) (hk : ∀ b o, σ.h.get? b = some o → b ≠ f.env.locals → σ'.h.get? b = some o) (hn : ∀ m, σ.h.Ns f.env.locals m → σ'.h.Ns f.env.locals m) (ht : σ.n ≤ σ'.n) (ha : ∀ t, t < σ.n → σ'.τ t = σ.τ t) :
    Inv W f O δ σ' ∧ Tr f O O σ σ' := by
  obtain ⟨m', hn', loc⟩ := I.loc
  have st : ∀ P, Step P σ σ' := fun P => ⟨fun b o _ hl e => hk b o e (I.notL e hl).1, ht, ha⟩
  have nC : ∀ x c, f.env.cells.lookup x = some c → c ≠ f.env.locals := fun x c e => by
    obtain ⟨v, o, e1, e2⟩ := I.cells x c e
    obtain ⟨ol, es, ep, e3, e4, _⟩ := hn'
    exact ne_of_data e1 e3 (by rw [e2, e4]; intro z; cases z)
  refine ⟨⟨I.ok, fun b o e => hk b o (I.keep b o e) (none_ne I.ok.newL e), Nat.lt_of_lt_of_le I.pos ht, fun y b hb => ?_, I.inj, I.fn, fun y c e => ?_, m', hn m' hn', fun e he => ?_⟩, ⟨fun b o e _ h2 _ => hk b o e h2, fun b o e => ?_, ht, ha, fun _ _ z => .inl z⟩⟩
  · obtain ⟨e0, its, n, e1⟩ := I.own y b hb
    exact ⟨e0, its, n, hk b _ e1 (I.notL e1 ⟨rfl, _, _, rfl⟩).1⟩
  · obtain ⟨v, o, e1, e2⟩ := I.cells y c e
    exact ⟨v, o, hk c o e1 (nC y c e), e2⟩
  · obtain ⟨v, ha, hr⟩ := loc e he
    refine ⟨v, ?_, hr.step (st _) (st _) fun _ _ => st _⟩
    rcases ha with z | ⟨c, h1, h2, o, h3, h4⟩
    · exact .inl z
    · exact .inr ⟨c, h1, h2, o, hk c o h3 (nC _ c h2), h4⟩
  · by_cases q : b = f.env.locals
    · subst q
      obtain ⟨o', _, _, e', _⟩ := hn m' hn'
      exact ⟨o', e'⟩
    · exact ⟨o, hk b o e q⟩

theorem EvF.of {e : Expr} {d : D} (h : Ev W f e δ .fresh d) : EvF W f e δ d := fun A s τ O R _ I Q E q =>
  h A s τ O R I Q E fun v h' tk τ' l r => q v h' tk τ' (I.le l) (Tr.le l) r
theorem EvF.call {x : Str} {a : Addr} {fd : FuncData} {p pos : Pos} {e : Expr} {es : List Expr} {k₁ : RK} {ds : List D} {d : D} {rk : Nat} (b : Fun W x a fd) (hk : f.env.kindOf x = some .globalImplicit) (hs : EvS W f (e :: es) δ k₁ ds) (hc : FnF W rk a ds d) (hr : rk ≤ f.rk) (own : f.env.frame = some f.env.locals)
    (hn : NS e := by intro _ _; rfl) : EvF W f (.Call (.Name x p) (e :: es) [] pos) δ d := by
  intro A s τ O R hA I Q E q
  refine wpAny_Call_NameR (b.ev hk I (callWith_fun b hn hs R I fun vs h₁ tk₁ τ₁ l₁ I₁ r₁ => ?_))
  have h1 := R.depth
  have h2 := R.units
  have hns : ∃ m, h₁.Ns f.env.locals m := let ⟨m, hm, _⟩ := I₁.loc; ⟨m, hm⟩
  refine hc A (At2 s h₁ tk₁) τ₁ vs f.env f.env.locals R.hh (by omega) (by omega) I₁.pos I₁.g r₁ hA (by rw [I.ok.kind]; decide) own hns _ _ fun v h₂ tk₂ τ₂ g1 g2 g3 g4 r₂ => ?_
  obtain ⟨I₂, T₂⟩ := I₁.relock (σ' := ⟨h₂, τ₂, tk₂⟩) g1 g2 g3 g4
  exact q v h₂ tk₂ τ₂ I₂ ((Tr.le l₁).trans T₂) (r₂.monoP fun a e => l₁.keep.none e)
theorem EvF.rev {e : Expr} {p pos np cp : Pos} {k : Nat} {l : List Int} (h : EvF W f e δ (.il l)) : EvF W f (.Subscript e (.Slice none none (some (.UnaryOp .USub (.Constant (.int 1) k cp) np)) p) pos) δ (.il l.reverse) := by
  intro A s τ O R hA I Q E q
  refine sub_raw (h A s τ O R hA I _ _ fun v₁ h₁ tk₁ τ₁ I₁ T₁ r₁ => ?_)
  refine slice_raw (s := At2 s h₁ tk₁) (τ := τ₁) (O := O) (lo := none) (hi := none) (st := some (-1)) .none .none (.some (k := .fresh) (Ev.neg Ev.cint.toAny)) R I₁ fun sl vl vu vt h₂ tk₂ τ₂ l₂ I₂ hsl p1 p2 p3 => ?_
  obtain ⟨a, vs, rfl, ha, hp, hg, hl⟩ := (Rel.le l₂ r₁ : Rel _ ⟨h₂, τ₂, tk₂⟩ _ (.il l))
  refine ⟨hp.isList.typeIs, op_slice (s := At2 s h₂ tk₂) (τ := τ₂) hp hg hl hsl p1 p2 p3 (by simp) fun v h₃ tk₃ τ₃ l₃ r₃ => ?_⟩
  rw [pick_rev] at r₃
  refine q v h₃ tk₃ τ₃ (I₂.le l₃) (T₁.trans (Tr.le (l₂.trans l₃))) (r₃.monoP fun a e => ?_)
  cases e' : s.heap.get? a with
  | none => rfl
  | some o =>
    obtain ⟨o', h'⟩ := T₁.alive a o e'
    have := l₂.keep a o' h'
    have e : h₂.get? a = none := e
    rw [this] at e; cases e
theorem XX.assignF {x : Str} {p pos : Pos} {e : Expr} {d : D} (he : EvF W f e δ d) (hx : St f x) (h : P .next ((x, .safe, d) :: er x δ)) (hs : swapsWith e (some (.Name x p)) pos.line f.env = pure false := by rfl) :
    XX W f [] Lc dr (exec (.Assign [.Name x p] e pos) f.env) δ P := by
  intro A s τ O R hA I Q E q _
  refine wpAny_Assign_Name (he A s τ O R hA I _ _ fun v h₁ tk₁ τ₁ I₁ T₁ r₁ => ?_) hs
  exact store_safe (s := At2 s h₁ tk₁) (τ := τ₁) I₁ hx off_er (RelK.safe_of_fresh (σ' := ⟨h₁, τ₁, tk₁⟩) I r₁) fun h' tk I' T _ => q .next .next O _ h' tk τ₁ h rfl I' (T₁.trans T)

theorem EvTF.of {e : Expr} {b : Bool} (h : EvT W f e δ b) : EvTF W f e δ b := fun A s τ O R _ I Q E q =>
  h A s τ O R I Q E fun h' tk τ' l => q h' tk τ' (I.le l) (Tr.le l)
theorem EvTF.val {e : Expr} {b : Bool} (h : EvF W f e δ (.bool b)) (he : ∀ whole, isTrue e f.env whole = (do let v ← whole; standAt e.pos; holding [v] (truthy v)) := by intro _; rfl) : EvTF W f e δ b := by
  intro A s τ O R hA I Q E q
  refine wpAny_isTrue_value (h A s τ O R hA I _ _ fun v h₁ tk₁ τ₁ I₁ T₁ r₁ => ?_) (he _)
  have : v = .bool b := r₁
  subst this
  exact wpAny_truthy_bool (q h₁ tk₁ τ₁ I₁ T₁)
theorem EvTF.or2 {x y : Expr} {pos : Pos} {b c : Bool} (h1 : EvTF W f x δ b) (h2 : b = false → EvTF W f y δ c) : EvTF W f (.BoolOp .Or [x, y] pos) δ (b || c) := by
  intro A s τ O R hA I Q E q
  refine wpAny_isTrue_BoolOp (wpAny_allTrue_Or_cons (h1 A s τ O R hA I _ _ fun h₁ tk₁ τ₁ I₁ T₁ => ?_))
  cases b with
  | true => exact q h₁ tk₁ τ₁ I₁ T₁
  | false =>
    refine wpAny_allTrue_Or_cons (h2 rfl A (At2 s h₁ tk₁) τ₁ O R hA I₁ _ _ fun h₂ tk₂ τ₂ I₂ T₂ => ?_)
    cases c with
    | true => exact q h₂ tk₂ τ₂ I₂ (T₁.trans T₂)
    | false => exact wpAny_allTrue_Or_nil (q h₂ tk₂ τ₂ I₂ (T₁.trans T₂))
theorem EvTF.and2 {x y : Expr} {pos : Pos} {b c : Bool} (h1 : EvTF W f x δ b) (h2 : b = true → EvTF W f y δ c) : EvTF W f (.BoolOp .And [x, y] pos) δ (b && c) := by
  intro A s τ O R hA I Q E q
  refine wpAny_isTrue_BoolOp (wpAny_allTrue_And_cons (h1 A s τ O R hA I _ _ fun h₁ tk₁ τ₁ I₁ T₁ => ?_))
  cases b with
  | false => exact q h₁ tk₁ τ₁ I₁ T₁
  | true =>
    refine wpAny_allTrue_And_cons (h2 rfl A (At2 s h₁ tk₁) τ₁ O R hA I₁ _ _ fun h₂ tk₂ τ₂ I₂ T₂ => ?_)
    cases c with
    | false => exact q h₂ tk₂ τ₂ I₂ (T₁.trans T₂)
    | true => exact wpAny_allTrue_And_nil (q h₂ tk₂ τ₂ I₂ (T₁.trans T₂))
/-- a test that fails -/
theorem XX.skip {t : Expr} {b : List Stmt} {pos : Pos} (ht : EvTF W f t δ false) (h : P .next δ) : XX W f [] Lc dr (exec (.If t b [] pos) f.env) δ P := by
  intro A s τ O R hA I Q E q _
  refine wpAny_If (ht A s τ O R hA I _ _ fun h₁ tk₁ τ₁ I₁ T₁ => ?_)
  rw [if_neg (by decide)]
  exact wpAny_execs_nil (q .next .next O δ h₁ tk₁ τ₁ h rfl I₁ T₁)
theorem W1.skip {t : Expr} {b : List Stmt} {pos : Pos} (ht : EvT W f t δ false) (h : P .next δ) : W1 W f (.If t b [] pos) δ P := W1.ite ht (fun h => by cases h) fun _ => WS.nil h
end



/-! ## The law, from its end -/
/-- the defs of the program, found -/
structure Ds (W : Wd) where
  concat : Dn W "concat" 1
  countOf : Dn W "countOf" 2
  delitem : Dn W "delitem" 3
  indexOf : Dn W "indexOf" 4
  overlap : Dn W "_generate_overlap_table" 6
  drawn : Dn W "_law_drawn" 8
  struck : Dn W "_law_struck" 9
  plain : Dn W "_law_plain" 10
  pile : Dn W "_law_pile" 11
  whole : Dn W "_law_whole" 12
  counts : Dn W "_law_counts" 13
  met : Dn W "_law_met" 14

theorem EvTF.to {W : Wd} {f : Fm} {e : Expr} {δ : List Ent} {b b' : Bool} (h : EvTF W f e δ b) (e' : b = b') : EvTF W f e δ b' := e' ▸ h
theorem op_eqB {W : Wd} {a b : Bool} : Op2 W (compareOp .Eq) (.bool a) (.bool b) (.bool (a == b)) := by
  rintro A s τ v₁ v₂ C rfl rfl Q E h
  exact eq_bool h.bool

section
variable {W : Wd} {a : Addr} {h₀ : Heap} {rk : Nat} {pm : Value} {cd : Addr} {Lc : Addr}
theorem fn_front (hW : Wf W) (S : Ds W) {base : Int} {row text : List Int} (h0 : 0 < row.length) (hr : row.length ≤ 100) (ht : text.length ≤ 100) (h1 : tv base row) (h2 : tv base text) : FnF W 2 S.struck.a [.il row, .il text, .il [0]] (.il (pil row text)) := by
  have h := fn_struck (starts := [0]) hW S.concat S.delitem S.indexOf S.overlap S.struck h0 hr ht (by decide) (tv_apart h0 h1 h2)
  rwa [strk_front h0 _ _ (fun s hs => by
    unfold allStarts at hs
    rw [List.flatten_replicate_singleton] at hs
    exact List.eq_of_mem_replicate hs) (tv_apart h0 h1 h2) (by rw [allStarts_length]; simp)] at h

abbrev segE (base : Int) (line : List Int) : List Ent := [("line", .safe, .il line), ("back", .safe, .il line.reverse), ("told", .safe, .il (ov line)), ("free", .safe, .bool (freeB line))]
theorem ws_E (hW : Wf W) (S : Ds W) {base : Int} {line : List Int} (h3 : 3 ≤ line.length) (h6 : line.length ≤ 6) (htv : tv base line) (hfree : freeB line = cbB line) (hrk : 2 ≤ rk) :
    XX W (Fd (fdn 15 "law" pm cd) a h₀ rk false) [] Lc (.bool true) (execs ((bodyn 15).drop 19) (Fd (fdn 15 "law" pm cd) a h₀ rk false).env) (segE base line) (Ret (.bool true)) := by
  have h0 : 0 < line.length := by omega
  -- laps
  refine XX.cons (XX.of (W1.assignOwn (l := [((mb line line.length : Nat) : Int)]) (Ev.listI (k := .fresh) (EvS.cons (Ev.last (l := ov line) (k := -1) (x := ((mb line line.length : Nat) : Int)) ?_ ?_ rfl ?_) EvS.nil) (show 1 ≤ lim by decide)) (by walk_at "st") ?_))
  · walk_at "any"
  · walk_at "any"
  · rw [List.getLast?_eq_getElem?, ov_length, ov_get (by omega), Nat.sub_add_cancel (by omega)]
  refine XX.cons (XX.of (W1.while (fun (L : List Int) => [("line", .safe, .il line), ("back", .safe, .il line.reverse), ("told", .safe, .il (ov line)), ("free", .safe, .bool (freeB line)), ("laps", .own, .il L)])
    (fun n L => L.getLast? = some ((n : Nat) : Int) ∧ n < line.length ∧ L.length + n ≤ line.length ∧ ∀ x ∈ L, ∃ b : Nat, x = (b : Int) ∧ bd line line.length b) (mb line line.length) [((mb line line.length : Nat) : Int)]
    ⟨rfl, mb_lt h0, by have := mb_lt (p := line) h0; show 1 + _ ≤ _; omega, fun x hx => ⟨_, by simpa using hx, mb_bd h0⟩⟩ (by walk_at "sub") ?_))
  rintro n L ⟨hl1, hl2, hl3, hl4⟩
  have hbn : bd line line.length n := by
    obtain ⟨b, e, hb⟩ := hl4 _ (List.mem_of_getLast? hl1)
    have : n = b := by omega
    rw [this]; exact hb
  refine ⟨decide ((0 : Int) < (n : Int)), EvT.gtI (Ev.fresh_any (Ev.last (k := -1) ?_ ?_ rfl hl1)) ?_, fun hc => ?_, fun hc => WS.nil ?_⟩
  · walk_at "any"
  · walk_at "any"
  · walk_at "any"
  · have hn0 : 0 < n := by have := of_decide_eq_true hc; omega
    have hlt := mb_lt (p := line) hn0
    refine WS.cons (W1.append (k := .fresh) (l := L) (v := ((mb line n : Nat) : Int)) (by walk_at "mem") (Ev.at (n - 1) (l := ov line) (k := (n : Int) - 1) ?_ (Ev.fresh_any (Ev.sub (Ev.fresh_any (Ev.last (k := -1) ?_ ?_ rfl hl1)) ?_)) (by omega) ?_) (by rw [lim_eq]; omega) (by decide +kernel) ?_)
    · walk_at "any"
    · walk_at "any"
    · walk_at "any"
    · walk_at "any"
    · rw [ov_get (by omega), Nat.sub_add_cancel hn0]
    refine WS.nil ⟨mb line n, L ++ [((mb line n : Nat) : Int)], hlt, ⟨by simp, by omega, by simp; omega, fun x hx => ?_⟩, by walk_at "sub"⟩
    rcases List.mem_append.mp hx with q | q
    · exact hl4 x q
    · exact ⟨mb line n, by simpa using q, bd_up hbn (mb_bd hn0)⟩
  -- alike
  refine XX.cons (XX.of (W1.assign (d := .bool true) (by walk_at "safe") (by walk_at "st") ?_))
  refine XX.cons (XX.for (ds := (rng 1 (line.length : Int)).map D.int) ?_ (fun (al : Bool) => [("line", .safe, .il line), ("back", .safe, .il line.reverse), ("told", .safe, .il (ov line)), ("free", .safe, .bool (freeB line)), ("laps", .own, .il L), ("alike", .safe, .bool al)])
    (fun j al => al = (List.range j).all fun i => line.drop (i + 1) == rearOf line (i + 1)) true rfl (by walk_at "sub") (by walk_at "off") (by walk_at "st") ?_ ?_)
  · exact EvI.range2 (by walk_at "bn") Ev.cint (k₁ := .fresh) (by walk_at "fresh") (by omega) (by omega) (by omega) (by omega)
  · intro j al d hd hJ
    obtain ⟨i, hi, rfl⟩ := int_get hd
    obtain ⟨rfl, hlt⟩ := rng_at hi
    have hc : j + 1 < line.length := by omega
    have etw : line ++ pick line (some (1 + (j : Int))) none none = line ++ line.drop (j + 1) := by rw [pick_from (k := j + 1) (by omega)]
    have htw : (line ++ line.drop (j + 1)).length ≤ 100 := by rw [List.length_append, List.length_drop]; omega
    have tvt : tv base (line ++ line.drop (j + 1)) := tv_append htv (tv_drop htv)
    refine XX.cons (XX.of (W1.assign (d := .il (line ++ line.drop (j + 1))) (Ev.fresh_safe (Ev.to (Ev.call (k₁ := .any) (k := .fresh) S.concat.f (kind_fd (by decide +kernel)) (EvS.cons (d := .il line) ?_ (EvS.cons (d := .il (pick line (some (1 + (j : Int))) none none)) ?_ EvS.nil)) (fn_concat (fx := false) hW S.concat (by rw [etw, lim_eq]; omega)) (show 1 ≤ rk by omega) (by intro h; cases h)) (by rw [etw]))) (by walk_at "st") ?_))
    · walk_at "any"
    · walk_at "any"
    refine XX.cons (XX.assignF (d := .il (line.drop (j + 1))) ?_ (by walk_at "st") ?_)
    · have hf := fn_front hW S h0 (by omega) htw htv tvt
      rw [pil_front (by rw [List.length_drop]; omega)] at hf
      refine EvF.call (k₁ := .any) S.struck.f (kind_fd (by decide +kernel)) (EvS.cons (d := .il line) ?_ (EvS.cons (d := .il (line ++ line.drop (j + 1))) ?_ (EvS.cons (d := .il [0]) (Ev.fresh_any (Ev.listI (k := .fresh) (l := [0]) (EvS.cons Ev.cint EvS.nil) (by decide))) EvS.nil))) hf (show 2 ≤ rk from hrk) rfl
      · walk_at "any"
      · walk_at "any"
    refine XX.cons (XX.assignF (d := .il (rearOf line (j + 1))) (EvF.rev (l := pil line.reverse (line ++ line.drop (j + 1)).reverse) ?_) (by walk_at "st") ?_)
    · have hf := fn_front hW S (row := line.reverse) (text := (line ++ line.drop (j + 1)).reverse) (by rw [List.length_reverse]; exact h0) (by rw [List.length_reverse]; omega) (by rw [List.length_reverse]; exact htw) (tv_rev htv) (tv_rev tvt)
      refine EvF.call (k₁ := .any) S.struck.f (kind_fd (by decide +kernel)) (EvS.cons (d := .il line.reverse) ?_ (EvS.cons (d := .il (line ++ line.drop (j + 1)).reverse) (Ev.to (d := .il (pick (line ++ line.drop (j + 1)) none none (some (-1)))) ?_ (by rw [pick_rev])) (EvS.cons (d := .il [0]) (Ev.fresh_any (Ev.listI (k := .fresh) (l := [0]) (EvS.cons Ev.cint EvS.nil) (by decide))) EvS.nil))) hf (show 2 ≤ rk from hrk) rfl
      · walk_at "any"
      · walk_at "any"
    refine XX.cons (XX.skip ?_ ?_)
    · have e1 : (line.drop (j + 1) != pick line (some (1 + (j : Int))) none none) = false := by rw [pick_from (k := j + 1) (by omega)]; simp
      refine EvTF.to (EvTF.or2 (b := line.drop (j + 1) != pick line (some (1 + (j : Int))) none none) (c := L.contains (1 + (j : Int)) && false) (EvTF.of (by walk_at "test")) fun _ => EvTF.and2 (EvTF.val (EvF.call (k₁ := .any) S.met.f (kind_fd (by decide +kernel)) (EvS.cons (d := .il L) ?_ (EvS.cons (d := .int (1 + (j : Int))) ?_ EvS.nil)) (fn_met hW S.indexOf S.met) (show 2 ≤ rk from hrk) rfl)) fun hm => EvTF.of (EvT.to (b := rearOf line (j + 1) != pick line none (some (-(1 + (j : Int)))) none) (by walk_at "test") ?_)) (by rw [e1, Bool.and_false]; rfl)
      · walk_at "any"
      · walk_at "any"
      · obtain ⟨b, e, hb⟩ := hl4 _ (by simpa using hm)
        have : b = j + 1 := by omega
        subst this
        rw [rear_border (by omega) hb, pick_to_neg (c := j + 1) (by omega) (by omega)]
        simp
    refine XX.cons (XX.of (W1.assign (d := .bool (al && (line.drop (j + 1) == rearOf line (j + 1)))) (Ev.fresh_safe (Ev.and2 (k₁ := .any) (k₂ := .fresh) ?_ fun _ => Ev.cmp (k₁ := .any) (k₂ := .any) (d₁ := .il (line.drop (j + 1))) (d₂ := .il (rearOf line (j + 1))) ?_ ?_ op_eqL)) (by walk_at "st") ?_))
    · walk_at "any"
    · walk_at "any"
    · walk_at "any"
    refine XX.ofS (WS.nil ⟨_, ?_, by walk_at "sub"⟩)
    rw [hJ, List.range_succ, List.all_append]
    simp
  · intro al hJ
    rw [List.length_map, rng_length, show ((line.length : Int) - 1).toNat = line.length - 1 by omega, alike_free h0 hfree] at hJ
    subst hJ
    refine WS.nil (XX.ofS (WS.cons (W1.ret (d := .bool true) (Ev.fresh_safe (Ev.to (Ev.cmp (k₁ := .any) (k₂ := .any) (d₁ := .bool (freeB line)) (d₂ := .bool (freeB line)) ?_ ?_ op_eqB) (by simp))) rfl)))
    · walk_at "any"
    · walk_at "any"
end



theorem XX.sub {W : Wd} {f : Fm} {δ δ' : List Ent} {P : Pst} {frs : List Env} {Lc : Addr} {dr : D} {t : Sem Flow} (h : XX W f frs Lc dr t δ' P) (k : ∀ e ∈ δ', e ∈ δ) : XX W f frs Lc dr t δ P := fun A s τ O R hA I Q E q x => h A s τ O R hA (I.sub k) Q E q x

/-- a rest of the page -/
structure Rst (line page rest : List Int) : Prop where
  red : ∃ k, Red line k page rest
  irr : noocc line rest

section
variable {W : Wd} {a : Addr} {h₀ : Heap} {rk : Nat} {pm : Value} {cd : Addr} {Lc : Addr}
abbrev segD (base : Int) (line seeds page fronts rears mixed : List Int) : List Ent := [("line", .safe, .il line), ("back", .safe, .il line.reverse), ("told", .safe, .il (ov line)), ("base", .safe, .int base), ("seeds", .safe, .il seeds), ("page", .safe, .il page), ("fronts", .safe, .il fronts), ("rears", .safe, .il rears), ("mixed", .safe, .il mixed)]
def cnts (l : List Int) (base : Int) : List Int := [(l.count base : Int), (l.count (base + 1) : Int)]
theorem cnts_rest {line page rest : List Int} {base : Int} {k : Nat} (h : Red line k page rest) (hm : 0 < line.length) : ((page.length : Int) - rest.length) / (line.length : Int) = (k : Int) ∧ cnts rest base = [(page.count base : Int) - k * (line.count base : Int), (page.count (base + 1) : Int) - k * (line.count (base + 1) : Int)] := by
  have hl := h.length
  have c1 := h.count base
  have c2 := h.count (base + 1)
  constructor
  · have : (page.length : Int) - rest.length = (k : Int) * (line.length : Int) := by rw [← hl]; push_cast; omega
    rw [this, Int.mul_ediv_cancel _ (by omega)]
  · unfold cnts
    rw [← c1, ← c2]
    push_cast
    congr 1
    · omega
    · congr 1; omega

theorem ws_D (hW : Wf W) (S : Ds W) {base : Int} {line seeds page fronts rears mixed : List Int} (h3 : 3 ≤ line.length) (h6 : line.length ≤ 6) (hp : page.length ≤ 90) (htv : tv base line) (htp : tv base page) (hfree : freeB line = cbB line) (hseed : Rst line page seeds)
    (h1 : Rst line page fronts) (h2 : Rst line page rears.reverse) (h4 : Rst line page mixed) (hrk : 2 ≤ rk) :
    XX W (Fd (fdn 15 "law" pm cd) a h₀ rk false) [] Lc (.bool true) (execs ((bodyn 15).drop 14) (Fd (fdn 15 "law" pm cd) a h₀ rk false).env) (segD base line seeds page fronts rears mixed) (Ret (.bool true)) := by
  have h0 : 0 < line.length := by omega
  have hmb := mb_lt (p := line) h0
  have hlast : (ov line).getLast? = some ((mb line line.length : Nat) : Int) := by rw [List.getLast?_eq_getElem?, ov_length, ov_get (by omega), Nat.sub_add_cancel (by omega)]
  have hper : (line.length : Int) - ((mb line line.length : Nat) : Int) = ((line.length - mb line line.length : Nat) : Int) := by omega
  refine XX.cons (XX.of (W1.assign (d := .int ((line.length - mb line line.length : Nat) : Int)) (Ev.fresh_safe (Ev.to (Ev.sub ?_ (Ev.fresh_any (Ev.last (l := ov line) (k := -1) ?_ ?_ rfl hlast))) (by rw [hper]))) (by walk_at "st") ?_))
  · walk_at "any"
  · walk_at "any"
  · walk_at "any"
  refine XX.cons (XX.of (W1.assign (d := .bool (freeB line)) (Ev.fresh_safe (Ev.to (Ev.or2 (k₁ := .fresh) (k₂ := .fresh) (b := ((mb line line.length : Nat) : Int) == 0) (c := ((line.length : Int) % ((line.length - mb line line.length : Nat) : Int) == 0) && (((mb line (line.length - mb line line.length) : Nat) : Int) == 0))
    (Ev.cmp (k₁ := .fresh) (k₂ := .fresh) (d₁ := .int ((mb line line.length : Nat) : Int)) (d₂ := .int 0) (Ev.last (l := ov line) (k := -1) ?_ ?_ rfl hlast) Ev.cint (Op2.ii op_eq)) fun _ => Ev.and2 (k₁ := .fresh) (k₂ := .fresh)
      (Ev.cmp (k₁ := .fresh) (k₂ := .fresh) (d₁ := .int ((line.length : Int) % ((line.length - mb line line.length : Nat) : Int))) (d₂ := .int 0) (Ev.bin (op := .Mod) (k₁ := .fresh) (k₂ := .any) (d₁ := .int (line.length : Int)) (d₂ := .int ((line.length - mb line line.length : Nat) : Int)) ?_ ?_ (Op2.ii (op_mod (by omega)))) Ev.cint (Op2.ii op_eq)) fun _ =>
      (Ev.cmp (k₁ := .fresh) (k₂ := .fresh) (d₁ := .int ((mb line (line.length - mb line line.length) : Nat) : Int)) (d₂ := .int 0) (Ev.at (line.length - mb line line.length - 1) (l := ov line) (k := ((line.length - mb line line.length : Nat) : Int) - 1) ?_ ?_ (by omega) ?_) Ev.cint (Op2.ii op_eq))) ?_)) (by walk_at "st") ?_))
  · walk_at "any"
  · walk_at "any"
  · walk_at "fresh"
  · walk_at "any"
  · walk_at "any"
  · walk_at "any"
  · rw [ov_get (by omega), Nat.sub_add_cancel (by omega)]
  · unfold freeB
    congr 1
    have key : ∀ n : Nat, ((n : Int) == 0) = (n == 0) := fun n => by rw [Bool.eq_iff_iff, beq_iff_eq, beq_iff_eq]; omega
    rw [key, key, ← Int.natCast_emod, key]
  refine XX.cons (XX.of (W1.tuple2c (d1 := .il (cnts page base)) (d2 := .il (cnts line base)) (Ev.fresh_safe ?_) (Ev.fresh_safe ?_) (st_cell (by decide +kernel)) (st_cell (by decide +kernel)) (by intro _ _; rfl) (by intro _ _; rfl) ?_ rfl))
  · refine Ev.call (k₁ := .any) (k := .fresh) S.counts.f (kind_fd (by decide +kernel)) (EvS.cons (d := .il page) ?_ (EvS.cons (d := .int base) ?_ EvS.nil)) (fn_counts (fx := false) hW S.countOf S.whole S.counts) hrk (by intro h; cases h)
    · walk_at "any"
    · walk_at "any"
  · refine Ev.call (k₁ := .any) (k := .fresh) S.counts.f (kind_fd (by decide +kernel)) (EvS.cons (d := .il line) ?_ (EvS.cons (d := .int base) ?_ EvS.nil)) (fn_counts (fx := false) hW S.countOf S.whole S.counts) hrk (by intro h; cases h)
    · walk_at "any"
    · walk_at "any"
  refine XX.cons (XX.of (W1.skip (EvT.to (EvT.cmp (k₁ := .fresh) (k₂ := .fresh) (d₁ := .wint (cnts page base).sum) (d₂ := .wint (page.length : Int)) (Ev.call1 (x := "sum") (by walk_at "bn") (k₁ := .any) (d₁ := .il (cnts page base)) ?_ (Op1.l op_sum)) (Ev.wint ?_) op_ne) ?_) ?_))
  · walk_at "any"
  · walk_at "fresh"
  · have := tv_count htp
    have e : (cnts page base).sum = (page.length : Int) := by unfold cnts; simp; omega
    rw [e]; simp
  refine XX.cons (XX.of (W1.for (ds := ([fronts, rears.reverse, mixed] : List (List Int)).map D.il) ?_ (fun (_ : Unit) => [("line", .safe, .il line), ("back", .safe, .il line.reverse), ("told", .safe, .il (ov line)), ("base", .safe, .int base), ("seeds", .safe, .il seeds), ("page", .safe, .il page), ("free", .safe, .bool (freeB line)), ("many", .safe, .il (cnts page base)), ("each", .safe, .il (cnts line base))])
    (fun _ _ => True) () trivial (by walk_at "sub") (by walk_at "off") (by walk_at "st") ?_ ?_))
  · refine EvI.rows (Ev.listR (EvS.cons (d := .il fronts) ?_ (EvS.cons (d := .il rears.reverse) (Ev.fresh_safe (Ev.to (d := .il (pick rears none none (some (-1)))) ?_ (by rw [pick_rev]))) (EvS.cons (d := .il mixed) ?_ EvS.nil))) (show 3 ≤ lim by decide))
    · walk_at "safe"
    · walk_at "fresh"
    · walk_at "safe"
  · intro j _ d hd _
    obtain ⟨rest, hR, rfl⟩ : ∃ rest, Rst line page rest ∧ d = .il rest := by
      have hd := List.mem_of_getElem? hd
      simp only [List.map_cons, List.map_nil, List.mem_cons, List.not_mem_nil, or_false] at hd
      rcases hd with rfl | rfl | rfl
      · exact ⟨_, h1, rfl⟩
      · exact ⟨_, h2, rfl⟩
      · exact ⟨_, h4, rfl⟩
    obtain ⟨⟨k, hk⟩, hirr⟩ := hR
    obtain ⟨e1, e2⟩ := cnts_rest (base := base) hk h0
    have hkl := hk.length
    have hk90 : k ≤ 90 := by
      have : k * 1 ≤ k * line.length := Nat.mul_le_mul_left k h0
      omega
    refine WS.cons (W1.assign (d := .int (k : Int)) (Ev.fresh_safe (Ev.to (Ev.bin (op := .FloorDiv) (k₁ := .fresh) (k₂ := .fresh) (d₁ := .int ((page.length : Int) - (rest.length : Int))) (d₂ := .int (line.length : Int)) ?_ ?_ (Op2.ii (op_div (by omega) (by omega)))) (by rw [e1]))) (st_cell (by decide +kernel)) ?_)
    · walk_at "fresh"
    · walk_at "fresh"
    have hfs : ∀ y ∈ (["many", "gone", "each"] : List Str), (fparts 15).2.2.names.lookup y = some .cell := by decide +kernel
    refine WS.cons (W1.skip (EvT.to (EvT.bool (EvA.or_cons (b := freeB line && (rest != seeds)) (EvT.to (EvT.bool (EvA.and_cons (b := freeB line) (EvT.val (k := .any) ?_) fun _ => EvA.and_cons (b := rest != seeds) (by walk_at "test") fun _ => EvA.and_nil)) (by rw [Bool.and_true])) fun _ => EvA.or_cons (b := cnts rest base != cnts rest base) (EvT.cmp (k₁ := .fresh) (k₂ := .fresh) (d₁ := .il (cnts rest base)) (d₂ := .il (cnts rest base)) ?_ ?_ op_neL) fun _ => EvA.or_nil)) ?_) ?_)
    · walk_at "any"
    · refine Ev.call (k₁ := .any) (k := .fresh) S.counts.f (kind_fd (by decide +kernel)) (EvS.cons (d := .il rest) ?_ (EvS.cons (d := .int base) ?_ EvS.nil)) (fn_counts (fx := false) hW S.countOf S.whole S.counts) hrk (by intro h; cases h)
      · walk_at "any"
      · walk_at "any"
    · refine Ev.comp (x := "t") (l := rng 0 2) (p := fun _ => true) (g := fun i => .int ((cnts page base).getD i.toNat 0 - (k : Int) * (cnts line base).getD i.toNat 0)) (δc := [("many", .safe, .il (cnts page base)), ("each", .safe, .il (cnts line base)), ("gone", .safe, .int (k : Int))])
        (blk_fd ["many", "gone", "each"] hfs rfl (by decide +kernel) rfl (by decide +kernel) (by decide +kernel)) (EvI.range1 (by walk_at "bn") Ev.cint (by decide) (by decide)) (by rw [rng_length]; decide) ?_ ?_ ?_ ?_
      · exact all_cons ⟨by walk_at "mem", cap_fd (y := "many") hfs (by decide +kernel) rfl⟩ (all_cons ⟨by walk_at "mem", cap_fd (y := "each") hfs (by decide +kernel) rfl⟩ (all_cons ⟨by walk_at "mem", cap_fd (y := "gone") hfs (by decide +kernel) rfl⟩ all_nil))
      · intro C i hi; exact .inl ⟨rfl, rfl⟩
      · intro C i hi _
        obtain ⟨n, hn⟩ := List.getElem?_of_mem hi
        obtain ⟨rfl, hlt⟩ := rng_at hn
        have hn2 : n < 2 := by omega
        have ez : (0 + (n : Int)).toNat = n := by omega
        refine Ev.sub (Ev.fresh_any (Ev.at n (l := cnts page base) (k := 0 + (n : Int)) ?_ ?_ (by omega) ((some_getD (l := cnts page base) (k := n) hn2).trans (by rw [ez])))) (Ev.fresh_any (Ev.bin (op := .Mult) (k₁ := .any) (k₂ := .fresh) (d₁ := .int (k : Int)) (d₂ := .int ((cnts line base).getD (0 + (n : Int)).toNat 0)) ?_ (Ev.at n (l := cnts line base) (k := 0 + (n : Int)) ?_ ?_ (by omega) ((some_getD (l := cnts line base) (k := n) hn2).trans (by rw [ez]))) (Op2.ii (op_mul (by omega) (by omega)))))
        · walk_at "any"
        · walk_at "any"
        · walk_at "any"
        · walk_at "any"
        · walk_at "any"
      · have : List.map (fun i => D.int ((cnts page base).getD i.toNat 0 - (k : Int) * (cnts line base).getD i.toNat 0)) (List.filter (fun _ => true) (rng 0 2)) = (cnts rest base).map D.int := by
          rw [e2]; rfl
        rw [this]
        exact compD.ints (show 2 ≤ lim by decide)
    · have hbb : (cnts rest base != cnts rest base) = false := by simp
      rw [hbb, Bool.or_false, Bool.or_false]
      cases hf : freeB line with
      | false => rfl
      | true =>
        obtain ⟨⟨k', hk'⟩, hirr'⟩ := hseed
        have hcb := cbB_iff.mp (hfree.symm.trans hf)
        rw [confluent hcb h0 _ _ (Nat.le_refl _) hk hk' hirr hirr']
        simp
    exact WS.nil ⟨(), trivial, by walk_at "sub"⟩
  · intro _ _
    exact WS.nil ((ws_E hW S h3 h6 htv hfree hrk).sub (by walk_at "sub"))
end



section
variable {W : Wd} {a : Addr} {h₀ : Heap} {rk : Nat} {pm : Value} {cd : Addr} {Lc : Addr}
abbrev segC (base : Int) (deal line seeds page : List Int) : List Ent := [("deal", .safe, .il deal), ("line", .safe, .il line), ("told", .safe, .il (ov line)), ("base", .safe, .int base), ("seeds", .safe, .il seeds), ("page", .safe, .il page)]

theorem ws_C (hW : Wf W) (S : Ds W) {base : Int} {deal line seeds page : List Int} (hd : deal.length = 12) (h3 : 3 ≤ line.length) (h6 : line.length ≤ 6) (hp : page.length ≤ 90) (htv : tv base line) (htp : tv base page) (hfree : freeB line = cbB line) (hseed : Rst line page seeds) (hrk : 2 ≤ rk) :
    XX W (Fd (fdn 15 "law" pm cd) a h₀ rk false) [] Lc (.bool true) (execs ((bodyn 15).drop 8) (Fd (fdn 15 "law" pm cd) a h₀ rk false).env) (segC base deal line seeds page) (Ret (.bool true)) := by
  have h0 : 0 < line.length := by omega
  have h0r : 0 < line.reverse.length := by rw [List.length_reverse]; exact h0
  have hdrop : (deal.drop 7).length = 5 := by rw [List.length_drop, hd]
  have hap := tv_apart h0 htv htp
  have hmix := strk_ok h0 (allStarts (deal.drop 7) page) page hap (by rw [allStarts_length, hdrop]; omega)
  have hpil := pil_ok (row := line) (t := page) h0
  have hrear := pil_ok (row := line.reverse) (t := page.reverse) h0r
  have hlenm : (strk line (allStarts (deal.drop 7) page) page).length ≤ 90 := by
    obtain ⟨⟨k, hk⟩, _⟩ := hmix
    have := hk.length
    omega
  refine XX.cons (XX.of (W1.tuple3 (d1 := .il page) (d2 := .il line.reverse) (d3 := .il page.reverse) (Ev.fresh_safe (Ev.to (d := .il (pick page none none none)) ?_ (by rw [pick_all]))) (Ev.fresh_safe (Ev.to (d := .il (pick line none none (some (-1)))) ?_ (by rw [pick_rev]))) (Ev.fresh_safe (Ev.to (d := .il (pick page none none (some (-1)))) ?_ (by rw [pick_rev]))) (by walk_at "st") (by walk_at "st") (by walk_at "st") (by intro _ _; rfl) (by intro _ _; rfl) (by intro _ _; rfl) ?_ rfl))
  · walk_at "fresh"
  · walk_at "fresh"
  · walk_at "fresh"
  refine XX.cons (XX.assignF (d := .il (pil line page)) ?_ (by walk_at "st") ?_)
  · refine EvF.call (k₁ := .any) S.struck.f (kind_fd (by decide +kernel)) (EvS.cons (d := .il line) ?_ (EvS.cons (d := .il page) ?_ (EvS.cons (d := .il [0]) (Ev.fresh_any (Ev.listI (k := .fresh) (l := [0]) (EvS.cons Ev.cint EvS.nil) (by decide))) EvS.nil))) (fn_front hW S h0 (by omega) (by omega) htv htp) (show 2 ≤ rk from hrk) rfl
    · walk_at "any"
    · walk_at "any"
  refine XX.cons (XX.assignF (d := .il (pil line.reverse page.reverse)) ?_ (by walk_at "st") ?_)
  · refine EvF.call (k₁ := .any) S.struck.f (kind_fd (by decide +kernel)) (EvS.cons (d := .il line.reverse) ?_ (EvS.cons (d := .il page.reverse) ?_ (EvS.cons (d := .il [0]) (Ev.fresh_any (Ev.listI (k := .fresh) (l := [0]) (EvS.cons Ev.cint EvS.nil) (by decide))) EvS.nil))) (fn_front hW S h0r (by rw [List.length_reverse]; omega) (by rw [List.length_reverse]; omega) (tv_rev htv) (tv_rev htp)) (show 2 ≤ rk from hrk) rfl
    · walk_at "any"
    · walk_at "any"
  refine XX.cons (XX.assignF (d := .il (strk line (allStarts (deal.drop 7) page) page)) ?_ (by walk_at "st") ?_)
  · refine EvF.call (k₁ := .any) S.struck.f (kind_fd (by decide +kernel)) (EvS.cons (d := .il line) ?_ (EvS.cons (d := .il page) ?_ (EvS.cons (d := .il (deal.drop 7)) (Ev.to (d := .il (pick deal (some 7) none none)) ?_ (by rw [pick_from (a := 7) (k := 7) rfl])) EvS.nil))) (fn_struck hW S.concat S.delitem S.indexOf S.overlap S.struck h0 (by omega) (by omega) (by omega) hap) (show 2 ≤ rk from hrk) rfl
    · walk_at "any"
    · walk_at "any"
    · walk_at "any"
  refine XX.cons (XX.of (W1.skip (EvT.to (EvT.bool (EvA.or_cons (b := page != page) (by walk_at "test") fun _ => EvA.or_cons (b := pil line page != pil line page) (EvT.neL (u := pil line page) (v := pil line page) ?_ (Ev.fresh_any (Ev.call (k₁ := .any) (k := .fresh) S.plain.f (kind_fd (by decide +kernel)) (EvS.cons (d := .il line) ?_ (EvS.cons (d := .il page) ?_ EvS.nil)) (fn_plain (fx := false) hW S.plain h0 (by omega) (by omega)) (show 1 ≤ rk by omega) (by intro h; cases h)))) fun _ =>
      EvA.or_cons (b := pil line page != pil line page) (EvT.neL (u := pil line page) (v := pil line page) ?_ (Ev.fresh_any (Ev.call (k₁ := .any) (k := .fresh) S.pile.f (kind_fd (by decide +kernel)) (EvS.cons (d := .il line) ?_ (EvS.cons (d := .il page) ?_ EvS.nil)) (fn_pile (fx := false) hW S.overlap S.pile h0 (by omega) (by omega)) (show 2 ≤ rk by omega) (by intro h; cases h)))) fun _ => EvA.or_nil)) (by simp)) ?_))
  · walk_at "any"
  · walk_at "any"
  · walk_at "any"
  · walk_at "any"
  · walk_at "any"
  · walk_at "any"
  refine XX.cons (XX.of (W1.skip (EvT.to (EvT.bool (EvA.or_cons (b := pil line.reverse page.reverse != pil line.reverse page.reverse) (EvT.neL (u := pil line.reverse page.reverse) (v := pil line.reverse page.reverse) ?_ (Ev.fresh_any (Ev.call (k₁ := .any) (k := .fresh) S.plain.f (kind_fd (by decide +kernel)) (EvS.cons (d := .il line.reverse) ?_ (EvS.cons (d := .il page.reverse) (Ev.to (d := .il (pick page none none (some (-1)))) ?_ (by rw [pick_rev])) EvS.nil)) (fn_plain (fx := false) hW S.plain h0r (by rw [List.length_reverse]; omega) (by rw [List.length_reverse]; omega)) (show 1 ≤ rk by omega) (by intro h; cases h)))) fun _ =>
      EvA.or_cons (b := pil line.reverse page.reverse != pil line.reverse page.reverse) (EvT.neL (u := pil line.reverse page.reverse) (v := pil line.reverse page.reverse) ?_ (Ev.fresh_any (Ev.call (k₁ := .any) (k := .fresh) S.pile.f (kind_fd (by decide +kernel)) (EvS.cons (d := .il line.reverse) ?_ (EvS.cons (d := .il page.reverse) (Ev.to (d := .il (pick page none none (some (-1)))) ?_ (by rw [pick_rev])) EvS.nil)) (fn_pile (fx := false) hW S.overlap S.pile h0r (by rw [List.length_reverse]; omega) (by rw [List.length_reverse]; omega)) (show 2 ≤ rk by omega) (by intro h; cases h)))) fun _ =>
      EvA.or_cons (b := strk line (allStarts (deal.drop 7) page) page != pil line (strk line (allStarts (deal.drop 7) page) page)) (EvT.neL (u := strk line (allStarts (deal.drop 7) page) page) (v := pil line (strk line (allStarts (deal.drop 7) page) page)) ?_ (Ev.fresh_any (Ev.call (k₁ := .any) (k := .fresh) S.plain.f (kind_fd (by decide +kernel)) (EvS.cons (d := .il line) ?_ (EvS.cons (d := .il (strk line (allStarts (deal.drop 7) page) page)) ?_ EvS.nil)) (fn_plain (fx := false) hW S.plain h0 (by omega) (by omega)) (show 1 ≤ rk by omega) (by intro h; cases h)))) fun _ => EvA.or_nil)) (by rw [pil_irr hmix.2]; simp)) ?_))
  · walk_at "any"
  · walk_at "any"
  · walk_at "any"
  · walk_at "any"
  · walk_at "any"
  · walk_at "any"
  · walk_at "any"
  · walk_at "any"
  · walk_at "any"
  refine (ws_D hW S (fronts := pil line page) (rears := pil line.reverse page.reverse) (mixed := strk line (allStarts (deal.drop 7) page) page) h3 h6 hp htv htp hfree hseed ⟨hpil.1, hpil.2⟩ ?_ ⟨hmix.1, hmix.2⟩ hrk).sub (by walk_at "sub")
  obtain ⟨⟨k, hk⟩, hn⟩ := hrear
  refine ⟨⟨k, ?_⟩, ?_⟩
  · have := hk.rev
    rwa [List.reverse_reverse, List.reverse_reverse] at this
  · have := noocc_rev hn
    rwa [List.reverse_reverse] at this
end



section
variable {W : Wd} {a : Addr} {h₀ : Heap} {rk : Nat} {pm : Value} {cd : Addr} {Lc : Addr}
abbrev segB (base : Int) (deal line seeds : List Int) : List Ent := [("deal", .safe, .il deal), ("line", .safe, .il line), ("told", .safe, .il (ov line)), ("base", .safe, .int base), ("seeds", .safe, .il seeds), ("page", .safe, .il seeds)]

theorem ws_B (hW : Wf W) (S : Ds W) {base : Int} {deal line seeds : List Int} (hd : deal.length = 12) (h3 : 3 ≤ line.length) (h6 : line.length ≤ 6) (htv : tv base line) (hts : tv base seeds) (hsl : seeds.length = 2) (hfree : freeB line = cbB line) (hrk : 2 ≤ rk) :
    XX W (Fd (fdn 15 "law" pm cd) a h₀ rk false) [] Lc (.bool true) (execs ((bodyn 15).drop 7) (Fd (fdn 15 "law" pm cd) a h₀ rk false).env) (segB base deal line seeds) (Ret (.bool true)) := by
  have h0 : 0 < line.length := by omega
  have hpl : (pick deal (some 7) (some 10) none).length ≤ 12 := by rw [← hd]; exact pick_length _ _ _ _
  refine XX.cons (XX.of (W1.for (ds := (pick deal (some 7) (some 10) none).map D.int) ?_ (fun (p : List Int) => [("deal", .safe, .il deal), ("line", .safe, .il line), ("told", .safe, .il (ov line)), ("base", .safe, .int base), ("seeds", .safe, .il seeds), ("page", .safe, .il p)])
    (fun j p => p.length ≤ 2 + 6 * j ∧ tv base p ∧ ∃ k, Red line k p seeds) seeds ⟨by omega, hts, 0, .refl _⟩ (by walk_at "sub") (by walk_at "off") (by walk_at "st") ?_ ?_))
  · refine EvI.safe (Ev.fresh_safe ?_)
    walk_at "fresh"
  · rintro j p d hd' ⟨hp1, hp2, k, hk⟩
    obtain ⟨x, hx, rfl⟩ := int_get hd'
    have hj : j < 12 := by
      have := (List.getElem?_eq_some_iff.mp hx).1
      omega
    have hpos : (0 : Int) < (p.length : Int) + 1 := by omega
    have hc1 := Int.emod_nonneg x (Int.ne_of_gt hpos)
    have hc2 := Int.emod_lt_of_pos x hpos
    obtain ⟨c, hc⟩ : ∃ c : Nat, x % ((p.length : Int) + 1) = (c : Int) := ⟨(x % ((p.length : Int) + 1)).toNat, by omega⟩
    have hcp : c ≤ p.length := by omega
    refine WS.cons (W1.assign (d := .int (c : Int)) (Ev.fresh_safe (Ev.to (Ev.bin (op := .Mod) (k₁ := .any) (k₂ := .fresh) (d₁ := .int x) (d₂ := .int ((p.length : Int) + 1)) ?_ ?_ (Op2.ii (op_mod hpos))) (by rw [hc]))) (by walk_at "st") ?_)
    · walk_at "any"
    · walk_at "fresh"
    have e1 : pick p none (some (c : Int)) none = p.take c := pick_to rfl
    have e2 : pick p (some (c : Int)) none none = p.drop c := pick_from rfl
    have hlen : ((p.take c ++ line) ++ p.drop c).length ≤ 2 + 6 * (j + 1) := by
      rw [List.length_append, List.length_append, List.length_take, List.length_drop]; omega
    refine WS.cons (W1.assign (d := .il ((p.take c ++ line) ++ p.drop c)) (Ev.fresh_safe (Ev.call (k₁ := .any) (k := .fresh) S.concat.f (kind_fd (by decide +kernel)) (EvS.cons (d := .il (p.take c ++ line)) (Ev.fresh_any (Ev.call (k₁ := .any) (k := .fresh) S.concat.f (kind_fd (by decide +kernel)) (EvS.cons (d := .il (p.take c)) (Ev.to (d := .il (pick p none (some (c : Int)) none)) ?_ (by rw [e1])) (EvS.cons (d := .il line) ?_ EvS.nil)) (fn_concat (fx := false) hW S.concat (by rw [lim_eq, List.length_append, List.length_take]; omega)) (show 1 ≤ rk by omega) (by intro h; cases h)))
      (EvS.cons (d := .il (p.drop c)) (Ev.to (d := .il (pick p (some (c : Int)) none none)) ?_ (by rw [e2])) EvS.nil)) (fn_concat (fx := false) hW S.concat (by rw [lim_eq]; omega)) (show 1 ≤ rk by omega) (by intro h; cases h))) (by walk_at "st") ?_)
    · walk_at "any"
    · walk_at "any"
    · walk_at "any"
    have oi := occ_ins (row := line) (a := p.take c) (b := p.drop c)
    refine WS.nil ⟨(p.take c ++ line) ++ p.drop c, ⟨hlen, tv_append (tv_append (tv_take hp2) htv) (tv_drop hp2), k + 1, .step oi.1 ?_⟩, by walk_at "sub"⟩
    rw [oi.2, List.take_append_drop]
    exact hk
  · rintro p ⟨hp1, hp2, k, hk⟩
    rw [List.length_map] at hp1
    exact WS.nil (ws_C hW S hd h3 h6 (by omega) htv hp2 hfree ⟨⟨k, hk⟩, short_noocc (by omega)⟩ hrk)

def selOf (deal : List Int) : List Int := (deal.drop 1).take (3 + (deal.getD 0 0 % 4).toNat)
theorem sel_pick {deal : List Int} (hd : deal.length = 12) : pick deal (some 1) (some (4 + deal.getD 0 0 % 4)) none = selOf deal ∧ 3 ≤ (selOf deal).length ∧ (selOf deal).length ≤ 6 := by
  have h1 := Int.emod_nonneg (deal.getD 0 0) (show (4 : Int) ≠ 0 by decide)
  have h2 := Int.emod_lt_of_pos (deal.getD 0 0) (show (0 : Int) < 4 by decide)
  refine ⟨?_, ?_, ?_⟩
  · rw [pick_mid (l := deal) (a := 1) (b := 4 + deal.getD 0 0 % 4) (s := 1) (e := 4 + (deal.getD 0 0 % 4).toNat) rfl (by omega) (by omega) (by omega)]
    unfold selOf
    congr 1; omega
  · unfold selOf; rw [List.length_take, List.length_drop]; omega
  · unfold selOf; rw [List.length_take, List.length_drop]; omega

theorem ws_law (hW : Wf W) (S : Ds W) {s : List Int} (hrk : 2 ≤ rk) :
    XX W (Fd (fdn 15 "law" pm cd) a h₀ rk false) [] Lc (.bool true) (execs (bodyn 15) (Fd (fdn 15 "law" pm cd) a h₀ rk false).env) [("script", .par, .wl s)] (Ret (.bool true)) := by
  refine XX.cons (XX.of (W1.assign (d := .il (dealt s)) (Ev.fresh_safe (Ev.call (k₁ := .any) (k := .fresh) S.drawn.f (kind_fd (by decide +kernel)) (EvS.cons (d := .wl s) ?_ EvS.nil) (fn_drawn (fx := false) hW S.drawn) (show 1 ≤ rk by omega) (by intro h; cases h))) (by walk_at "st") ?_))
  · walk_at "any"
  have hdl : (dealt s).length = 12 := dealt_length
  generalize dealt s = deal at hdl
  refine XX.cons (XX.of (W1.assign (d := .int (1000 + s.sum)) (Ev.fresh_safe (Ev.bin (op := .Add) (k₁ := .fresh) (k₂ := .fresh) (d₁ := .wint 1000) (d₂ := .wint s.sum) (Ev.wint Ev.cint) (Ev.call1 (x := "sum") (by walk_at "bn") (k₁ := .any) (d₁ := .wl s) ?_ op_sum) op_add)) (st_cell (by decide +kernel)) ?_))
  · walk_at "any"
  generalize 1000 + s.sum = base
  obtain ⟨hsel, hs3, hs6⟩ := sel_pick hdl
  have hfs : ∀ y ∈ (["base"] : List Str), (fparts 15).2.2.names.lookup y = some .cell := by decide +kernel
  have hft : ∀ y ∈ (["told"] : List Str), (fparts 15).2.2.names.lookup y = some .cell := by decide +kernel
  refine XX.cons (XX.of (W1.assignC (x := "x") (y := "line") (cl := clo (Fd (fdn 15 "law" pm cd) a h₀ rk false) ["base"]) (δc := [("base", .safe, .int base)]) (l := selOf deal) (pr := fun _ => true) (g := fun x => .int (base + x % 2)) (k := .fresh) (d := .il ((selOf deal).map fun x => base + x % 2))
    (blk_fd ["base"] hfs rfl (by decide +kernel) rfl (by decide +kernel) (by decide +kernel)) ?_ (by rw [lim_eq]; omega) (all_cons ⟨by walk_at "mem", cap_fd (y := "base") hfs (by decide +kernel) rfl⟩ all_nil) ?_ ?_ ?_ (by walk_at "st") ?_ rfl))
  · refine EvI.safe (Ev.fresh_safe (Ev.to (Ev.slice12 (u := deal) (a := 1) (b := 4 + deal.getD 0 0 % 4) ?_ ?_ (Ev.fresh_any (Ev.add ?_ (Ev.fresh_any (Ev.bin (op := .Mod) (k₁ := .fresh) (k₂ := .fresh) (d₁ := .int (deal.getD 0 0)) (d₂ := .int 4) (Ev.at 0 (l := deal) (k := 0) ?_ ?_ rfl (some_getD (by omega))) Ev.cint (Op2.ii (op_mod (by decide)))))))) (by rw [hsel])))
    · walk_at "any"
    · walk_at "any"
    · walk_at "any"
    · walk_at "any"
    · walk_at "any"
  · intro C i hi; exact .inl ⟨rfl, rfl⟩
  · intro C i hi _
    refine Ev.add ?_ (Ev.fresh_any (Ev.bin (op := .Mod) (k₁ := .any) (k₂ := .fresh) (d₁ := .int i) (d₂ := .int 2) ?_ Ev.cint (Op2.ii (op_mod (by decide)))))
    · walk_at "any"
    · walk_at "any"
  · have e : List.filter (fun _ => true) (selOf deal) = selOf deal := by simp
    rw [e]
    have : (selOf deal).map (fun x => D.int (base + x % 2)) = ((selOf deal).map fun x => base + x % 2).map D.int := by rw [List.map_map]; rfl
    rw [this]
    exact compD.ints (by rw [List.length_map, lim_eq]; omega)
  have hline : (selOf deal).map (fun x => base + x % 2) = ((selOf deal).map (· % 2)).map (base + ·) := by rw [List.map_map]; rfl
  have hbits : ∀ y ∈ (selOf deal).map (· % 2), y = 0 ∨ y = 1 := fun y hy => by
    obtain ⟨x, _, rfl⟩ := List.mem_map.mp hy
    show x % 2 = 0 ∨ x % 2 = 1
    omega
  have htv : tv base ((selOf deal).map fun x => base + x % 2) := by rw [hline]; exact tv_map hbits
  have hfree : freeB ((selOf deal).map fun x => base + x % 2) = cbB ((selOf deal).map fun x => base + x % 2) := by
    rw [hline]; exact free_line hbits (by rw [List.length_map]; exact hs3) (by rw [List.length_map]; exact hs6)
  have h3 : 3 ≤ ((selOf deal).map fun x => base + x % 2).length := by rw [List.length_map]; exact hs3
  have h6 : ((selOf deal).map fun x => base + x % 2).length ≤ 6 := by rw [List.length_map]; exact hs6
  generalize (selOf deal).map (fun x => base + x % 2) = line at htv hfree h3 h6
  refine XX.cons (XX.of (W1.assign (d := .il (ov line)) (Ev.fresh_safe (Ev.call (k₁ := .any) (k := .fresh) S.overlap.f (kind_fd (by decide +kernel)) (EvS.cons (d := .il line) (Ev.to (d := .il (pick line none none none)) ?_ (by rw [pick_all])) EvS.nil) (fn_overlap (fx := false) hW S.overlap (by rw [lim_eq]; omega)) (show 1 ≤ rk by omega) (by intro h; cases h))) (st_cell (by decide +kernel)) ?_))
  · walk_at "any"
  refine XX.cons (XX.of (W1.skip (EvT.to (EvT.bool (EvA.or_cons (b := !true) (EvT.not (EvT.val (k := .fresh) (Ev.call (k₁ := .any) (k := .fresh) S.whole.f (kind_fd (by decide +kernel)) (EvS.cons (d := .il (ov line)) ?_ EvS.nil) (fn_whole (fx := false) hW S.whole (by rw [ov_length, lim_eq]; omega)) (show 1 ≤ rk by omega) (by intro h; cases h)))) fun _ => EvA.or_cons (b := ([] : List Int) != []) (EvT.cmp (k₁ := .fresh) (k₂ := .fresh) (d₁ := .il []) (d₂ := .il []) ?_ (Ev.listI (k := .any) (l := []) EvS.nil (by decide)) op_neL) fun _ => EvA.or_nil)) rfl) ?_))
  · walk_at "any"
  · refine Ev.comp (x := "t") (l := rng 0 (line.length : Int)) (p := fun _ => false) (g := fun i => .int i) (δc := [("told", .safe, .il (ov line))])
      (blk_fd ["told"] hft rfl (by decide +kernel) rfl (by decide +kernel) (by decide +kernel)) (EvI.range1 (by walk_at "bn") (k₁ := .fresh) ?_ (by omega) (by omega)) (by rw [rng_length, lim_eq]; omega) (all_cons ⟨by walk_at "mem", cap_fd (y := "told") hft (by decide +kernel) rfl⟩ all_nil) ?_ ?_ ?_
    · walk_at "fresh"
    · intro C i hi
      obtain ⟨n, hn⟩ := List.getElem?_of_mem hi
      obtain ⟨rfl, hlt⟩ := rng_at hn
      have hn2 : n < line.length := by omega
      have hmb := mb_lt (p := line) (n := n + 1) (by omega)
      refine .inr ⟨_, rfl, EvT.to (EvT.not (EvT.chain (k₁ := .any) (k₂ := .fresh) (k₃ := .any) (d₁ := .int 0) (d₂ := .int ((mb line (n + 1) : Nat) : Int)) (d₃ := .int (0 + (n : Int))) ?_ (Ev.at n (l := ov line) (k := 0 + (n : Int)) ?_ ?_ (by omega) (ov_get hn2)) ?_ (Op2.ii op_le) (Op2.ii op_le))) ?_⟩
      · walk_at "any"
      · walk_at "any"
      · walk_at "any"
      · walk_at "any"
      · have e1 : decide ((0 : Int) ≤ ((mb line (n + 1) : Nat) : Int)) = true := decide_eq_true (by omega)
        have e2 : decide (((mb line (n + 1) : Nat) : Int) ≤ 0 + (n : Int)) = true := decide_eq_true (by omega)
        rw [e1, e2]; rfl
    · intro C i hi h; cases h
    · rw [List.filter_eq_nil_iff.mpr (by simp)]
      exact compD.ints (l := []) (by decide)
  refine XX.cons (XX.of (W1.assign (d := .il [base + deal.getD 10 0 % 2, base + deal.getD 10 0 / 2 % 2]) (Ev.fresh_safe (Ev.listI (k := .fresh) (EvS.cons (d := .int (base + deal.getD 10 0 % 2)) (Ev.add ?_ (Ev.fresh_any (Ev.bin (op := .Mod) (k₁ := .fresh) (k₂ := .fresh) (d₁ := .int (deal.getD 10 0)) (d₂ := .int 2) (Ev.at 10 (l := deal) (k := 10) ?_ ?_ rfl (some_getD (by omega))) Ev.cint (Op2.ii (op_mod (by decide))))))
    (EvS.cons (d := .int (base + deal.getD 10 0 / 2 % 2)) (Ev.add ?_ (Ev.fresh_any (Ev.bin (op := .Mod) (k₁ := .fresh) (k₂ := .fresh) (d₁ := .int (deal.getD 10 0 / 2)) (d₂ := .int 2) (Ev.bin (op := .FloorDiv) (k₁ := .fresh) (k₂ := .fresh) (d₁ := .int (deal.getD 10 0)) (d₂ := .int 2) (Ev.at 10 (l := deal) (k := 10) ?_ ?_ rfl (some_getD (by omega))) Ev.cint (Op2.ii (op_div (by decide) (by decide)))) Ev.cint (Op2.ii (op_mod (by decide)))))) EvS.nil)) (show 2 ≤ lim by decide))) (by walk_at "st") ?_))
  · walk_at "any"
  · walk_at "any"
  · walk_at "any"
  · walk_at "any"
  · walk_at "any"
  · walk_at "any"
  have hts : tv base [base + deal.getD 10 0 % 2, base + deal.getD 10 0 / 2 % 2] := fun x hx => by
    simp only [List.mem_cons, List.not_mem_nil, or_false] at hx
    rcases hx with rfl | rfl <;> omega
  have hsl : [base + deal.getD 10 0 % 2, base + deal.getD 10 0 / 2 % 2].length = 2 := rfl
  generalize [base + deal.getD 10 0 % 2, base + deal.getD 10 0 / 2 % 2] = seeds at hts hsl
  refine XX.cons (XX.of (W1.assign (d := .il seeds) (by walk_at "safe") (by walk_at "st") ?_))
  exact (ws_B hW S hdl h3 h6 htv hts hsl hfree hrk).sub (by walk_at "sub")
end

/-! ## The law's call -/
section
variable {W : Wd}
theorem enter_law {a : Addr} {fd : FuncData} {p : Str} {body : List Stmt} {oc : Value} {od : Option Addr} {osl : Array (Option Value)} {d : D} {rk : Nat} {A : Around} {s : Shared} {τ : Tok → Int} {v : Value} {R : Result → Shared → Prop}
    (hobj : s.heap.get? a = some ⟨oc, od, .func fd, osl⟩) (hcode : s.heap.CodeRec fd.code fd.qualname) (hbody : fd.body = .stmts body) (hclo : fd.closure = []) (hglob : fd.globals = mainGlobals) (hbi : fd.builtins = builtinsNs) (hkind : fd.scope.kind = .function) (hco : fd.scope.isCoroutine = false) (hgen : fd.scope.isGenerator = false)
    (hl : fd.scope.names.lookup p = some .local) (hbind : bindArgs fd ⟨[v], []⟩ = pure [(p, v)]) (hd : A.depth < recursionLimit) (hg : W.G s.heap) (hr : Rel (fun _ => True) ⟨s.heap, τ, s.toks⟩ v d)
    (h : ∀ h₁ tk₁, Le ⟨s.heap, τ, s.toks⟩ ⟨h₁, τ, tk₁⟩ → Inv W (Fd fd a s.heap rk false) [] [(p, EK.par, d)] ⟨h₁, τ, tk₁⟩ →
      wpAny W.M (A.deeper (Fd fd a s.heap rk false).env) (execs body (Fd fd a s.heap rk false).env) (fun f s' => R (.ok (.ret (match f with | .ret v => v | _ => .none))) s')
        (fun e s' => wpAny W.M (A.deeper (Fd fd a s.heap rk false).env) (leaving (Fd fd a s.heap rk false).env e) (fun _ s'' => R (.error e) s'') (fun e' s'' => R (.error e') s'') s') (At2 s h₁ tk₁)) :
    codeAny W.M A (.call (.ref a) ⟨[v], []⟩) R s := by
  refine codeAny_call_function hd hobj rfl hco hgen hbody hcode ?_
  rw [hbind, hclo]
  refine wpAny_pure (newEnvT hkind (fun x hx => by rw [List.mem_singleton.mp hx]; exact .inl hl) fun env he s' x ht => ?_)
  subst he
  obtain ⟨h₁, tk₁, e₁⟩ := x.toInCall.same
  subst e₁
  refine ⟨hg.T.nolimit.keeps x.toInCall.keep, codeAny_func ?_⟩
  have e0 : newEnv fd.scope s.heap.objs.size fd.globals (cellsFrom (s.heap.objs.size + 1) fd.scope.names []) (fd.qualname ++ ".<locals>.") (some a) fd.code none fd.builtins = (Fd fd a s.heap rk false).env := rfl
  rw [e0]
  have hkp : (Fd fd a s.heap rk false).env.kindOf p = some .local := hl
  have ht' : s.toks + locals (Fd fd a s.heap rk false).env.kindOf [(p, v)] ≤ tk₁ := ht
  have hl1 : locals (Fd fd a s.heap rk false).env.kindOf [(p, v)] = 1 := by
    unfold locals
    rw [List.filter_cons_of_pos (by rw [hkp]; rfl)]; rfl
  have le : Le ⟨s.heap, τ, s.toks⟩ ⟨h₁, τ, tk₁⟩ := Le.mk' x.toInCall.keep (by omega)
  refine h h₁ tk₁ le ⟨⟨hkind, hglob, hbi, hg, fun y z c h1 h2 => name_of_addr x.apart (mem_of_lookup h1) (mem_of_lookup h2), get_size _, fun y c hc => ?_⟩, x.toInCall.keep, ?_, fun _ _ q => (by cases q), fun _ _ _ q => (by cases q), fun _ _ _ q => (by cases q), fun y c hc => ⟨_, x.cell y c hc⟩, _, x.toInCall.ns, fun e he => ?_⟩
  · have := x.above y c (mem_of_lookup hc)
    exact Heap.get?_none_of_le (Nat.le_of_lt this)
  · show 0 < tk₁; omega
  · rw [List.mem_singleton.mp he]
    exact ⟨v, .inl ⟨hkp, bindL_get hkp (by simp) (.head _)⟩, Rel.le le (hr.there fun b o _ e q => by have e' : s.heap.get? b = some o := e; have q' : s.heap.get? b = none := q; rw [e'] at q'; cases q')⟩

theorem law_run (hW : Wf W) (S : Ds W) {a cd' : Addr} {fd : FuncData} {oc : Value} {od : Option Addr} {osl : Array (Option Value)} {s : Shared} {l : Addr} {vs : List Value} {ns : List Int} {R : Result → Shared → Prop}
    (hobj : s.heap.get? a = some ⟨oc, od, .func fd, osl⟩) (hcode : s.heap.CodeRec fd.code fd.qualname) (hbody : fd.body = .stmts (bodyn 15)) (hclo : fd.closure = []) (hglob : fd.globals = mainGlobals) (hbi : fd.builtins = builtinsNs) (hsc : fd.scope = (fparts 15).2.2)
    (hF : ∀ h₀, Fd fd a h₀ 2 false = Fd (fdn 15 "law" .none cd') a h₀ 2 false)
    (hbind : ∀ v, bindArgs fd ⟨[v], []⟩ = pure [(("script" : Str), v)]) (hg : W.G s.heap) (hL : s.heap.IsList l vs.toArray) (hI : IntsAre vs ns) (hn : ns.length ≤ lim)
    (q : ∀ h' tk, Kp s.heap h' → R (.ok (.ret (.bool true))) (At2 s h' tk)) : codeAny W.M callerA (.call (.ref a) ⟨[.ref l], []⟩) R s := by
  refine enter_law (τ := fun _ => 0) (rk := 2) (d := .wl ns) hobj hcode hbody hclo hglob hbi (by rw [hsc]; decide +kernel) (by rw [hsc]; decide +kernel) (by rw [hsc]; decide +kernel) (by rw [hsc]; decide +kernel) (hbind _) (by decide +kernel) hg ⟨l, vs, rfl, trivial, hL, hI, hn⟩ fun h₁ tk₁ l₁ I => ?_
  have R' : Room (Fd fd a s.heap 2 false) (callerA.deeper (Fd fd a s.heap 2 false).env) := by
    refine ⟨rfl, ?_, ?_, fun e => by cases e⟩
    · show (1 + claimMargin) + 1 + 2 < recursionLimit
      decide +kernel
    show 4 + 3 + 8 * 2 + 8 < cLine
    decide +kernel
  have hX := ws_law (W := W) (a := a) (h₀ := s.heap) (rk := 2) (pm := .none) (cd := cd') (Lc := s.heap.objs.size) hW S (s := ns) (Nat.le_refl _)
  rw [← hF] at hX
  refine hX _ (At2 s h₁ tk₁) (fun _ => 0) [] R' (Around.frames_deeper rfl) I _ _ (fun lf w O' δ' h' tk τ' hp hf I' T => ?_) fun v h' tk τ' hx hv => ?_
  · cases hp
    obtain ⟨v, rfl, hv⟩ := hf
    have : v = .bool true := hv
    subst this
    exact q h' tk I'.keep
  · have : v = .bool true := hv
    subst this
    exact q h' tk fun b o e => hx.keep b o e (none_ne (get_size s.heap) e)
end

/-! ## The world of the row -/
def Wof (K : Frag) (prog : Program) (p : Program) (w : World) (mg mb : Str → Option Value) : Wd := ⟨prog, w, K, p, looseW p [], mg, mb⟩
def objCls (K : Frag) (a : Addr) : Value := match K.lookup a with | some o => o.cls | none => .none
def objDict (K : Frag) (a : Addr) : Option Addr := match K.lookup a with | some o => o.dict | none => none
def objSlots (K : Frag) (a : Addr) : Array (Option Value) := match K.lookup a with | some o => o.slots | none => #[]
theorem dn_of {W : Wd} {x : Str} {n : Nat} (a : Addr) (pm : Value) (cd : Addr) (h1 : nsIn W.K mainGlobals x = some (some (.ref a)))
    (h2 : W.K.lookup a = some ⟨objCls W.K a, objDict W.K a, .func (fdn n x pm cd), objSlots W.K a⟩) (h3 : (x == ("__debug__" : Str)) = false) : Fun W x a (fdn n x pm cd) := ⟨h1, ⟨_, _, _, h2⟩, h3⟩

section
variable {prog : Program} {p : Program} {w : World} {mg mb : Str → Option Value} {P : Params}
theorem wf_of : Wf (Wof (Mine.hd.heap_39 P) prog p w mg mb) := by
  refine ⟨by kernel_rfl, fun x hx => ?_⟩
  simp only [List.mem_cons, List.not_mem_nil, or_false] at hx
  rcases hx with rfl | rfl | rfl | rfl | rfl | rfl | rfl | rfl | rfl | rfl <;> kernel_rfl
def ds_of : Ds (Wof (Mine.hd.heap_39 P) prog p w mg mb) where
  concat := ⟨21, .str "cpy313.operator" 187, 20, dn_of 21 _ 20 (by kernel_rfl) (by kernel_rfl) (by decide +kernel), by kernel_rfl⟩
  countOf := ⟨28, .str "cpy313.operator" 187, 27, dn_of 28 _ 27 (by kernel_rfl) (by kernel_rfl) (by decide +kernel), by kernel_rfl⟩
  delitem := ⟨35, .str "cpy313.operator" 187, 34, dn_of 35 _ 34 (by kernel_rfl) (by kernel_rfl) (by decide +kernel), by kernel_rfl⟩
  indexOf := ⟨42, .str "cpy313.operator" 187, 41, dn_of 42 _ 41 (by kernel_rfl) (by kernel_rfl) (by decide +kernel), by kernel_rfl⟩
  overlap := ⟨49, .str "cpy313.re._compiler" 226, 48, dn_of 49 _ 48 (by kernel_rfl) (by kernel_rfl) (by decide +kernel), by kernel_rfl⟩
  drawn := ⟨54, .str "law_rw0009_01" 238, 53, dn_of 54 _ 53 (by kernel_rfl) (by kernel_rfl) (by decide +kernel), by kernel_rfl⟩
  struck := ⟨59, .str "law_rw0009_01" 238, 58, dn_of 59 _ 58 (by kernel_rfl) (by kernel_rfl) (by decide +kernel), by kernel_rfl⟩
  plain := ⟨66, .str "law_rw0009_01" 238, 65, dn_of 66 _ 65 (by kernel_rfl) (by kernel_rfl) (by decide +kernel), by kernel_rfl⟩
  pile := ⟨73, .str "law_rw0009_01" 238, 72, dn_of 73 _ 72 (by kernel_rfl) (by kernel_rfl) (by decide +kernel), by kernel_rfl⟩
  whole := ⟨78, .str "law_rw0009_01" 238, 77, dn_of 78 _ 77 (by kernel_rfl) (by kernel_rfl) (by decide +kernel), by kernel_rfl⟩
  counts := ⟨85, .str "law_rw0009_01" 238, 84, dn_of 85 _ 84 (by kernel_rfl) (by kernel_rfl) (by decide +kernel), by kernel_rfl⟩
  met := ⟨92, .str "law_rw0009_01" 238, 91, dn_of 92 _ 91 (by kernel_rfl) (by kernel_rfl) (by decide +kernel), by kernel_rfl⟩
end

theorem law_holds : PySem.Challenge.rw_rw0009_01.Holds := Mine.hd (by
  k_fill
  intro w s₀ s₁ mg mb G Y fa o pm cd doc dV kV ho hd hcd hD hmg hg args vals as hpre hlay hrd hwl hlo
  have KX := kIn_of Y
  have X := (Ground.X G).1
  have V := (Ground.X G).2
  try w_nolog (first | (have GL := glob_more (Ground.glob G (by first | k_qdec | decide +kernel) (by first | k_qdec | decide +kernel)) V) | (have GL := glob_more (Ground.glob G (by decide +kernel)) V))
  refine Ground.open G ?_
  intro T B D TE TW
  try (refine guard_noD D (by decide +kernel) ?_; clear D)
  obtain ⟨_, _, M⟩ := bmod_of_top T
  have TA := at_of_top T
  obtain ⟨cda, cdb, he, B0⟩ := based_of_top T rfl hmg ho hd
  have he' : cd = _ := he
  subst he'
  clear he
  clear hmg
  wrow_args hpre hlay hrd hwl hlo
  all_goals (
    first | refine callC_kw (enter_call ?_) | refine enter_call ?_ | refine callC_kw (enter_callW ?_) | refine enter_callW ?_ | w_how
    w_top on
    try refine codeAny_mono ?_ (fun _ _ g => GoodW.toG g)
    have hKT : (Wof (Mine.hd.heap_39 w.params) (PySem.W.RowW.prog (PySem.W.OpenRow.toRowW (PySem.W.OpenLaw.row PySem.Challenge.rw_rw0009_01))) Mine.hd.view_39 w mg mb).G s₁.heap := ⟨KX, topRead_of T⟩
    have hdv := Dflts.none hD rfl
    subst hdv
    have hkv := Dflts.noKw hD
    subst hkv
    clear GL TA B0 M TE TW B X V T KX Y G hD
    obtain ⟨oc, od, odata, osl⟩ := o
    have hd' : odata = _ := hd
    subst hd'
    refine law_run (W := Wof (Mine.hd.heap_39 w.params) _ Mine.hd.view_39 w mg mb) (cd' := cda) wf_of ds_of ho hcd (by kernel_rfl) (by kernel_rfl) (by kernel_rfl) (by kernel_rfl) (by kernel_rfl) (fun _ => by kernel_rfl) (fun _ => by kernel_rfl) hKT (by assumption) (by assumption) ?hn ?fin
    case hn =>
      rw [lim_eq]
      omega
    case fin =>
      intro h' tk k
      exact ⟨.inl ⟨.bool true, .bool true, [], rfl, fun _ => rfl, .bool true, by kernel_rfl, fun _ => ⟨List.nodup_nil, fun a h => by cases h⟩⟩, k, rfl, by simpa using hg⟩))

end Mine

theorem PySem.Challenge.cw_rw0009_01_holds : PySem.Challenge.rw_rw0009_01.Holds :=
  Mine.law_holds
