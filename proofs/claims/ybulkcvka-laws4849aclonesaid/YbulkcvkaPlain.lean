import Derived.Maps.OwnSet
import Derived.Maps.Views
namespace Go.Proofs.Ybulkcvka
open Go.Maps

/-- Key j reads as key i. -/
def sameB (K : Nat → ByteArray) (j i : Nat) : Bool := (K j).toList == (K i).toList
theorem toList_data (s : ByteArray) : s.toList = s.data.toList := ByteArray.toList_eq s
theorem sameB_iff (K : Nat → ByteArray) (j i : Nat) : sameB K j i = true ↔ (K j).data.toList = (K i).data.toList := by
  unfold sameB
  rw [toList_data, toList_data]
  simp
theorem sameB_refl (K : Nat → ByteArray) (i : Nat) : sameB K i i = true := by rw [sameB_iff]
theorem sameB_symm (K : Nat → ByteArray) (i j : Nat) (h : sameB K i j = true) : sameB K j i = true := by rw [sameB_iff] at *; exact h.symm
theorem sameB_trans (K : Nat → ByteArray) (i j k : Nat) (h : sameB K i j = true) (h' : sameB K j k = true) : sameB K i k = true := by rw [sameB_iff] at *; exact h.trans h'

/-- The last place in i .. i + m at which key i stands. -/
def lastTo (K : Nat → ByteArray) (i : Nat) : Nat → Nat
  | 0 => i
  | m + 1 => if sameB K (i + 1 + m) i then i + 1 + m else lastTo K i m
theorem lastTo_bd (K : Nat → ByteArray) (i : Nat) : ∀ m, i ≤ lastTo K i m ∧ lastTo K i m ≤ i + m
  | 0 => ⟨Nat.le_refl _, Nat.le_refl _⟩
  | m + 1 => by
    have := lastTo_bd K i m
    unfold lastTo
    split <;> omega
theorem lastTo_same (K : Nat → ByteArray) (i : Nat) : ∀ m, sameB K (lastTo K i m) i = true
  | 0 => sameB_refl K i
  | m + 1 => by
    unfold lastTo
    split
    · assumption
    · exact lastTo_same K i m
theorem lastTo_after (K : Nat → ByteArray) (i : Nat) : ∀ m j, lastTo K i m < j → j ≤ i + m → sameB K j i = false
  | 0, j, h, h' => by simp only [lastTo] at h; omega
  | m + 1, j, h, h' => by
    unfold lastTo at h
    split at h
    · omega
    · rename_i hne
      by_cases e : j = i + 1 + m
      · subst e; simpa using hne
      · exact lastTo_after K i m j h (by omega)

/-- The index as it is filled: key j -> j, for j below k. -/
def idxD (K : Nat → ByteArray) : Nat → DataW Unit
  | 0 => .map []
  | k + 1 => (idxD K k).put (.string (K k).data.toList) (.lit (.int .i64 k))
theorem idxD_isMap (K : Nat → ByteArray) : ∀ k, IsMap (idxD K k)
  | 0 => isMap_empty
  | k + 1 => (idxD_isMap K k).put _ _
theorem key_lit (l : List UInt8) : WideAt.IsKeyLit (.string l) := trivial
theorem idxD_tidy (K : Nat → ByteArray) : ∀ k, Tidy (idxD K k)
  | 0 => tidy_empty
  | k + 1 => (idxD_tidy K k).put (key_lit _) _
theorem key_ne {K : Nat → ByteArray} {i j : Nat} (h : sameB K i j = false) : (Lit.string (K i).data.toList) ≠ .string (K j).data.toList := by
  intro e
  have : sameB K i j = true := by rw [sameB_iff]; injection e
  rw [h] at this; cases this
/-- What the index says of a key whose last place is l. -/
theorem idxD_at (K : Nat → ByteArray) (z : DataW Unit) : ∀ (k l : Nat), l < k → (∀ j, l < j → j < k → sameB K j l = false) → (idxD K k).atKey (.string (K l).data.toList) z = .lit (.int .i64 l) ∧ has (idxD K k) (.string (K l).data.toList) = true
  | 0, l, h, _ => by omega
  | k + 1, l, h, hl => by
    unfold idxD
    by_cases e : l = k
    · subst e
      exact ⟨atKey_put_same (idxD_isMap K l) (key_lit _) _ _, has_put_same (idxD_isMap K l) (key_lit _) _⟩
    · have hne : sameB K l k = false := by
        have := hl k (by omega) (by omega)
        cases h' : sameB K l k with
        | false => rfl
        | true => rw [sameB_symm K _ _ h'] at this; cases this
      rw [atKey_put_other (key_ne hne), has_put_other (key_ne hne)]
      exact idxD_at K z k l (by omega) (fun j h1 h2 => hl j h1 (by omega))
theorem idxD_hasnt (K : Nat → ByteArray) (i : Nat) : ∀ k, (∀ j, j < k → sameB K j i = false) → has (idxD K k) (.string (K i).data.toList) = false
  | 0, _ => rfl
  | k + 1, h => by
    unfold idxD
    have hne : sameB K i k = false := by
      have := h k (by omega)
      cases h' : sameB K i k with
      | false => rfl
      | true => rw [sameB_symm K _ _ h'] at this; cases this
    rw [has_put_other (key_ne hne)]
    exact idxD_hasnt K i k (fun j hj => h j (by omega))

/-- Is place i the last of its key among the first k? -/
def isLast (K : Nat → ByteArray) (k i : Nat) : Bool := (List.range k).all fun j => !(decide (i < j) && sameB K j i)
theorem isLast_iff (K : Nat → ByteArray) (k i : Nat) : isLast K k i = true ↔ ∀ j, i < j → j < k → sameB K j i = false := by
  unfold isLast
  simp only [List.all_eq_true, List.mem_range]
  constructor
  · intro h j h1 h2
    have := h j h2
    simpa [h1] using this
  · intro h j hj
    by_cases h1 : i < j
    · simp [h1, h j h1 hj]
    · simp [h1]
/-- How many of the first m places are the last of their key among the first k. -/
def cnt (K : Nat → ByteArray) (k : Nat) : Nat → Nat
  | 0 => 0
  | m + 1 => cnt K k m + if isLast K k m then 1 else 0
theorem cnt_le (K : Nat → ByteArray) (k : Nat) : ∀ m, cnt K k m ≤ m
  | 0 => Nat.le_refl _
  | m + 1 => by have := cnt_le K k m; unfold cnt; split <;> omega
theorem isLast_succ (K : Nat → ByteArray) (k i : Nat) (hi : i < k) : isLast K (k + 1) i = (isLast K k i && !sameB K k i) := by
  rw [Bool.eq_iff_iff]
  simp only [Bool.and_eq_true, isLast_iff, Bool.not_eq_true']
  constructor
  · intro h
    exact ⟨fun j h1 h2 => h j h1 (by omega), h k hi (by omega)⟩
  · rintro ⟨h1, h2⟩ j h3 h4
    by_cases e : j = k
    · subst e; exact h2
    · exact h1 j h3 (by omega)
/-- How many of the first m places are last among the first k and bear key k. -/
def hit (K : Nat → ByteArray) (k : Nat) : Nat → Nat
  | 0 => 0
  | m + 1 => hit K k m + if isLast K k m && sameB K k m then 1 else 0
theorem cnt_split (K : Nat → ByteArray) (k : Nat) : ∀ m, m ≤ k → cnt K (k + 1) m + hit K k m = cnt K k m
  | 0, _ => rfl
  | m + 1, h => by
    have ih := cnt_split K k m (by omega)
    unfold cnt hit
    rw [isLast_succ K k m (by omega)]
    cases isLast K k m <;> cases sameB K k m <;> simp <;> omega
theorem hit_zero (K : Nat → ByteArray) (k : Nat) : ∀ m, (∀ j, j < m → sameB K k j = false) → hit K k m = 0
  | 0, _ => rfl
  | m + 1, h => by
    unfold hit
    rw [hit_zero K k m (fun j hj => h j (by omega)), h m (by omega)]
    simp
theorem hit_one (K : Nat → ByteArray) (k l : Nat) (hl : isLast K k l = true) (hs : sameB K k l = true) (hlk : l < k) : ∀ m, l < m → m ≤ k → hit K k m = 1 + 0
  | 0, h, _ => by omega
  | m + 1, h, h' => by
    have hbelow : ∀ m, m ≤ l → hit K k m = 0 := by
      intro m
      induction m with
      | zero => intro _; rfl
      | succ m ih =>
        intro hm
        unfold hit
        rw [ih (by omega)]
        have : (isLast K k m && sameB K k m) = false := by
          cases h1 : sameB K k m with
          | false => simp
          | true =>
            cases h2 : isLast K k m with
            | false => rfl
            | true =>
              have := (isLast_iff K k m).1 h2 l (by omega) hlk
              rw [sameB_trans K l k m (sameB_symm K _ _ hs) h1] at this; cases this
        rw [this]; rfl
    unfold hit
    by_cases e : m = l
    · subst e; rw [hbelow m (Nat.le_refl _), hl, hs]; rfl
    · rw [hit_one K k l hl hs hlk m (by omega) (by omega)]
      have : (isLast K k m && sameB K k m) = false := by
        cases h1 : sameB K k m with
        | false => simp
        | true =>
          have := (isLast_iff K k l).1 hl m (by omega) (by omega)
          rw [sameB_trans K m k l (sameB_symm K _ _ h1) hs] at this; cases this
      rw [this]; rfl
theorem exists_last (K : Nat → ByteArray) (k : Nat) : (∀ j, j < k → sameB K k j = false) ∨ ∃ l, l < k ∧ isLast K k l = true ∧ sameB K k l = true := by
  by_cases h : ∃ j, j < k ∧ sameB K k j = true
  · obtain ⟨j, hj, hs⟩ := h
    refine .inr ⟨lastTo K j (k - 1 - j), ?_, ?_, ?_⟩
    · have := lastTo_bd K j (k - 1 - j); omega
    · rw [isLast_iff]
      intro i h1 h2
      have h3 := lastTo_after K j (k - 1 - j) i h1 (by omega)
      have h4 := lastTo_same K j (k - 1 - j)
      cases h5 : sameB K i (lastTo K j (k - 1 - j)) with
      | false => rfl
      | true => rw [sameB_trans K _ _ _ h5 h4] at h3; cases h3
    · exact sameB_trans K k j _ hs (sameB_symm K _ _ (lastTo_same K j (k - 1 - j)))
  · refine .inl fun j hj => ?_
    cases h1 : sameB K k j with
    | false => rfl
    | true => exact absurd ⟨j, hj, h1⟩ h
theorem isLast_self (K : Nat → ByteArray) (k : Nat) : isLast K (k + 1) k = true := by
  rw [isLast_iff]; intro j h1 h2; omega
/-- len(index) is how many places are the last of their key. -/
theorem size_idxD (K : Nat → ByteArray) : ∀ k, size (idxD K k) = cnt K k k
  | 0 => rfl
  | k + 1 => by
    have ih := size_idxD K k
    have hsplit := cnt_split K k k (Nat.le_refl _)
    show size ((idxD K k).put (.string (K k).data.toList) (.lit (.int .i64 k))) = cnt K (k + 1) (k + 1)
    rw [size_put (idxD_tidy K k)]
    have hc : cnt K (k + 1) (k + 1) = cnt K (k + 1) k + 1 := by
      show cnt K (k + 1) k + (if isLast K (k + 1) k then 1 else 0) = _
      rw [isLast_self]; rfl
    rw [hc]
    rcases exists_last K k with h | ⟨l, hl, h1, h2⟩
    · have h0 := hit_zero K k k h
      have : has (idxD K k) (.string (K k).data.toList) = false := idxD_hasnt K k k (fun j hj => by
        have := h j hj
        cases h' : sameB K j k with
        | false => rfl
        | true => rw [sameB_symm K _ _ h'] at this; cases this)
      rw [this]; simp; omega
    · have h0 := hit_one K k l h1 h2 hl k hl (Nat.le_refl _)
      have : has (idxD K k) (.string (K k).data.toList) = true := by
        rw [(sameB_iff K k l).1 h2]
        exact (idxD_at K .nil k l hl ((isLast_iff K k l).1 h1)).2
      rw [this]; simp; omega
/-- lastTo to the end says whether a place is the last of its key. -/
theorem last_isLast (K : Nat → ByteArray) (n i : Nat) (hi : i < n) : (lastTo K i (n - 1 - i) = i) ↔ isLast K n i = true := by
  rw [isLast_iff]
  constructor
  · intro h j h1 h2
    exact lastTo_after K i (n - 1 - i) j (by omega) (by omega)
  · intro h
    have hb := lastTo_bd K i (n - 1 - i)
    by_cases e : lastTo K i (n - 1 - i) = i
    · exact e
    · have := h (lastTo K i (n - 1 - i)) (by omega) (by omega)
      rw [lastTo_same] at this; cases this
/-- The look-up of key i gives its last place. -/
theorem idxD_look (K : Nat → ByteArray) (z : DataW Unit) (n i : Nat) (hi : i < n) :
    (idxD K n).atKey (.string (K i).data.toList) z = .lit (.int .i64 (lastTo K i (n - 1 - i))) ∧ has (idxD K n) (.string (K i).data.toList) = true := by
  have hs := lastTo_same K i (n - 1 - i)
  have hb := lastTo_bd K i (n - 1 - i)
  rw [← (sameB_iff K _ _).1 hs]
  refine idxD_at K z n _ (by omega) fun j h1 h2 => ?_
  have h3 := lastTo_after K i (n - 1 - i) j h1 (by omega)
  cases h5 : sameB K j (lastTo K i (n - 1 - i)) with
  | false => rfl
  | true => rw [sameB_trans K _ _ _ h5 hs] at h3; cases h3
end Go.Proofs.Ybulkcvka
