/- Plain: breadth-first search gives least walks; the shortest closed walk. No Go in sight. -/
import Derived.Test.YbulkcuyeATarjan
namespace Go.Proofs.Ybulkcuye.A

/-- So many different numbers below n: not more than n. -/
theorem pigeon : ∀ (n m : Nat) (q : Nat → Nat), (∀ a, a < m → q a < n) → (∀ a b, a < b → b < m → q a ≠ q b) → m ≤ n
  | 0, m, q, h, _ => by
    rcases Nat.eq_zero_or_pos m with c | c
    · omega
    · have := h 0 c; omega
  | n + 1, m, q, h, inj => by
    by_cases he : ∃ a, a < m ∧ q a = n
    · obtain ⟨a0, h0, hq⟩ := he
      have := pigeon n (m - 1) (fun a => if a < a0 then q a else q (a + 1)) (fun a ha => by
        by_cases c : a < a0
        · simp only [c, if_true]
          have h1 := h a (by omega)
          have h2 := inj a a0 c h0
          omega
        · simp only [c, if_false]
          have h1 := h (a + 1) (by omega)
          have h2 := inj a0 (a + 1) (by omega) (by omega)
          omega) (fun a b hab hb => by
        by_cases ca : a < a0 <;> by_cases cb : b < a0 <;> simp only [ca, cb, if_true, if_false]
        · exact inj a b hab (by omega)
        · exact inj a (b + 1) (by omega) (by omega)
        · omega
        · exact inj (a + 1) (b + 1) (by omega) (by omega))
      omega
    · have := pigeon n m q (fun a ha => by
        have h1 := h a ha
        have h2 : q a ≠ n := fun e => he ⟨a, ha, e⟩
        omega) inj
      omega

structure BI (nx : Nat → List Nat) (T : Nat → Prop) (s : Nat) (q : Nat → Nat) (ql i : Nat) (d : Nat → Nat) (part : Nat → Prop) : Prop where
  pos : 0 < ql
  start : q 0 = s
  d0 : d s = 0
  le : i ≤ ql
  inj : ∀ a b, a < b → b < ql → q a ≠ q b
  tq : ∀ a, a < ql → T (q a)
  wk : ∀ a, a < ql → Wk nx (d (q a)) s (q a)
  dle : ∀ a, a < ql → d (q a) ≤ a
  mono : ∀ a b, a ≤ b → b < ql → d (q a) ≤ d (q b)
  near : ∀ a, a < ql → i < ql → d (q a) ≤ d (q i) + 1
  done : ∀ a, a < i → ∀ v, v ∈ nx (q a) → T v → ∃ b, b < ql ∧ q b = v ∧ d v ≤ d (q a) + 1
  part : i < ql → ∀ v, v ∈ nx (q i) → part v → T v → ∃ b, b < ql ∧ q b = v ∧ d v ≤ d (q i) + 1

theorem BI.init (nx : Nat → List Nat) (T : Nat → Prop) (s : Nat) (hT : T s) (q d : Nat → Nat) (hq : q 0 = s) (hd : d s = 0) : BI nx T s q 1 0 d (fun _ => False) := by
  have e : ∀ a, a < 1 → q a = s := fun a ha => by rw [show a = 0 by omega, hq]
  refine ⟨by omega, hq, hd, by omega, fun a b h1 h2 => by omega, fun a ha => by rw [e a ha]; exact hT, fun a ha => by rw [e a ha, hd]; exact rfl, fun a ha => by rw [e a ha, hd]; omega, fun a b h1 h2 => by rw [e a (by omega), e b h2]; exact Nat.le_refl _,
    fun a ha _ => by rw [e a ha, hd]; omega, fun a ha => by omega, fun _ _ _ h => h.elim⟩

theorem BI.lt {nx : Nat → List Nat} {T : Nat → Prop} {s : Nat} {q : Nat → Nat} {ql i : Nat} {d : Nat → Nat} {part : Nat → Prop} (h : BI nx T s q ql i d part) {n : Nat} (g : Gr n nx) (hs : s < n) : ∀ a, a < ql → q a < n :=
  fun a ha => g.rc_lt ⟨_, h.wk a ha⟩ hs

theorem BI.ql_le {nx : Nat → List Nat} {T : Nat → Prop} {s : Nat} {q : Nat → Nat} {ql i : Nat} {d : Nat → Nat} {part : Nat → Prop} (h : BI nx T s q ql i d part) {n : Nat} (g : Gr n nx) (hs : s < n) : ql ≤ n :=
  pigeon n ql q (h.lt g hs) h.inj

/-- One more is reached. -/
theorem BI.add {nx : Nat → List Nat} {T : Nat → Prop} {s : Nat} {q : Nat → Nat} {ql i : Nat} {d : Nat → Nat} {part : Nat → Prop} (h : BI nx T s q ql i d part) {v : Nat} (hi : i < ql) (hv : v ∈ nx (q i)) (hT : T v) (hnew : ∀ b, b < ql → q b ≠ v) :
    BI nx T s (upd q ql v) (ql + 1) i (upd d v (d (q i) + 1)) (fun x => part x ∨ x = v) := by
  have hq : ∀ a, a < ql → upd q ql v a = q a := fun a ha => upd_ne _ _ _ (by omega)
  have hq' : upd q ql v ql = v := upd_same _ _ _
  have hd : ∀ a, a < ql → upd d v (d (q i) + 1) (q a) = d (q a) := fun a ha => upd_ne _ _ _ (hnew a ha)
  have hd' : upd d v (d (q i) + 1) v = d (q i) + 1 := upd_same _ _ _
  have up : ∀ x a, a < ql → (∃ b, b < ql ∧ q b = x ∧ d x ≤ d (q a) + 1) → ∃ b, b < ql + 1 ∧ upd q ql v b = x ∧ upd d v (d (q i) + 1) x ≤ upd d v (d (q i) + 1) (upd q ql v a) + 1 := by
    rintro x a ha ⟨b, hb, rfl, hle⟩
    exact ⟨b, by omega, hq b hb, by rw [hd b hb, hq a ha, hd a ha]; exact hle⟩
  refine ⟨by omega, by rw [hq 0 h.pos]; exact h.start, ?_, by omega, ?_, ?_, ?_, ?_, ?_, ?_, ?_, ?_⟩
  · have := hd 0 h.pos
    rw [h.start] at this
    rw [this]
    exact h.d0
  · intro a b hab hb
    rw [hq a (by omega)]
    by_cases e : b = ql
    · subst e; rw [hq']; exact hnew a (by omega)
    · rw [hq b (by omega)]; exact h.inj a b hab (by omega)
  · intro a ha
    by_cases e : a = ql
    · subst e; rw [hq']; exact hT
    · rw [hq a (by omega)]; exact h.tq a (by omega)
  · intro a ha
    by_cases e : a = ql
    · subst e; rw [hq', hd']; exact (h.wk i hi).snoc hv
    · rw [hq a (by omega), hd a (by omega)]; exact h.wk a (by omega)
  · intro a ha
    by_cases e : a = ql
    · subst e; rw [hq', hd']; have := h.dle i hi; omega
    · rw [hq a (by omega), hd a (by omega)]; exact h.dle a (by omega)
  · intro a b hab hb
    by_cases eb : b = ql
    · subst eb
      rw [hq', hd']
      by_cases ea : a = b
      · subst ea; rw [hq', hd']; exact Nat.le_refl _
      · rw [hq a (by omega), hd a (by omega)]; exact h.near a (by omega) hi
    · rw [hq a (by omega), hq b (by omega), hd a (by omega), hd b (by omega)]; exact h.mono a b hab (by omega)
  · intro a ha _
    rw [hq i hi, hd i hi]
    by_cases ea : a = ql
    · subst ea; rw [hq', hd']; exact Nat.le_refl _
    · rw [hq a (by omega), hd a (by omega)]; exact h.near a (by omega) hi
  · intro a ha x hx hTx
    rw [hq a (by omega)] at hx
    exact up x a (by omega) (h.done a ha x hx hTx)
  · intro _ x hx hp hTx
    rw [hq i hi] at hx
    by_cases e : x = v
    · subst e
      exact ⟨ql, by omega, hq', by rw [hd', hq i hi, hd i hi]; exact Nat.le_refl _⟩
    · rcases hp with hp | hp
      · exact up x i hi (h.part hi x hx hp hTx)
      · exact absurd hp e

/-- One that is reached already, or that is not asked for. -/
theorem BI.skip {nx : Nat → List Nat} {T : Nat → Prop} {s : Nat} {q : Nat → Nat} {ql i : Nat} {d : Nat → Nat} {part : Nat → Prop} (h : BI nx T s q ql i d part) {v : Nat} (hi : i < ql) (hv : ¬ T v ∨ v ∉ nx (q i) ∨ ∃ b, b < ql ∧ q b = v) :
    BI nx T s q ql i d (fun x => part x ∨ x = v) := by
  refine { h with part := fun _ x hx hp hTx => ?_ }
  rcases hp with hp | hp
  · exact h.part hi x hx hp hTx
  · subst hp
    rcases hv with c | c | ⟨b, hb, e⟩
    · exact absurd hTx c
    · exact absurd hx c
    · exact ⟨b, hb, e, by rw [← e]; exact h.near b hb hi⟩

theorem BI.parts {nx : Nat → List Nat} {T : Nat → Prop} {s : Nat} {q : Nat → Nat} {ql i : Nat} {d : Nat → Nat} {part part' : Nat → Prop} (h : BI nx T s q ql i d part) (hp : ∀ x, part' x → part x) : BI nx T s q ql i d part' :=
  { h with part := fun hi v hv hx hT => h.part hi v hv (hp v hx) hT }

/-- The next of the queue. -/
theorem BI.next {nx : Nat → List Nat} {T : Nat → Prop} {s : Nat} {q : Nat → Nat} {ql i : Nat} {d : Nat → Nat} {part : Nat → Prop} (h : BI nx T s q ql i d part) (hi : i < ql) (hp : ∀ v, v ∈ nx (q i) → part v) :
    BI nx T s q ql (i + 1) d (fun _ => False) := by
  refine { h with le := by omega, near := fun a ha h1 => ?_, done := fun a ha v hv hT => ?_, part := fun _ _ _ h => h.elim }
  · have h2 := h.near a ha hi
    have h3 := h.mono i (i + 1) (by omega) h1
    omega
  · by_cases e : a = i
    · subst e; exact h.part hi v hv (hp v hv) hT
    · exact h.done a (by omega) v hv hT

theorem BI.reach {nx : Nat → List Nat} {T : Nat → Prop} {s : Nat} {q : Nat → Nat} {ql i : Nat} {d : Nat → Nat} {part : Nat → Prop} (h : BI nx T s q ql i d part) (hT : ∀ u v, Rc nx s u → v ∈ nx u → T v → T u) :
    ∀ k v, Wk nx k s v → T v → (∃ b, b < ql ∧ q b = v ∧ d v ≤ k) ∨ (∃ b, i ≤ b ∧ b < ql ∧ d (q b) < k)
  | 0, v, hk, _ => by
    have hk' : s = v := hk
    subst hk'
    exact .inl ⟨0, h.pos, h.start, by rw [h.d0]; exact Nat.le_refl _⟩
  | k + 1, v, hk, hv => by
    obtain ⟨u, hu, huv⟩ := hk.last
    rcases BI.reach h hT k u hu (hT u v ⟨k, hu⟩ huv hv) with ⟨b, hb, e, hle⟩ | ⟨b, h1, h2, h3⟩
    · rcases Nat.lt_or_ge b i with c | c
      · subst e
        obtain ⟨b', hb', e', hle'⟩ := h.done b c v huv hv
        exact .inl ⟨b', hb', e', by omega⟩
      · exact .inr ⟨b, c, hb, by rw [e]; omega⟩
    · exact .inr ⟨b, h1, h2, by omega⟩

/-- The least length of a closed walk at s. -/
def Least (nx : Nat → List Nat) (s L : Nat) : Prop := 0 < L ∧ Wk nx L s s ∧ ∀ k, 0 < k → Wk nx k s s → L ≤ k
theorem Least.unique {nx : Nat → List Nat} {s L M : Nat} (h : Least nx s L) (k : Least nx s M) : L = M := Nat.le_antisymm (h.2.2 M k.1 k.2.1) (k.2.2 L h.1 h.2.1)

/-- Where the first edge back to s is met, the closed walk is a least one. -/
theorem BI.back {nx : Nat → List Nat} {T : Nat → Prop} {s : Nat} {q : Nat → Nat} {ql i : Nat} {d : Nat → Nat} {part : Nat → Prop} (h : BI nx T s q ql i d part) (hT : ∀ u v, Rc nx s u → v ∈ nx u → T v → T u) (hTs : T s)
    (hi : i < ql) (hno : ∀ a, a < i → s ∉ nx (q a)) (hs : s ∈ nx (q i)) : Least nx s (d (q i) + 1) := by
  refine ⟨by omega, (h.wk i hi).snoc hs, fun k hk hw => ?_⟩
  obtain ⟨k, rfl⟩ : ∃ m, k = m + 1 := ⟨k - 1, by omega⟩
  obtain ⟨u, hu, hus⟩ := hw.last
  rcases h.reach hT k u hu (hT u s ⟨k, hu⟩ hus hTs) with ⟨b, hb, e, hle⟩ | ⟨b, h1, h2, h3⟩
  · rcases Nat.lt_or_ge b i with c | c
    · exact absurd (e ▸ hus) (hno b c)
    · have := h.mono i b c hb
      rw [e] at this
      omega
  · have := h.mono i b h1 h2
    omega

/-- The search does not end while a closed walk is there. -/
theorem BI.ends {nx : Nat → List Nat} {T : Nat → Prop} {s : Nat} {q : Nat → Nat} {ql i : Nat} {d : Nat → Nat} {part : Nat → Prop} (h : BI nx T s q ql i d part) (hT : ∀ u v, Rc nx s u → v ∈ nx u → T v → T u) (hTs : T s)
    (hi : i = ql) (hno : ∀ a, a < i → s ∉ nx (q a)) : ∀ k, 0 < k → ¬ Wk nx k s s := by
  intro k hk hw
  obtain ⟨k, rfl⟩ : ∃ m, k = m + 1 := ⟨k - 1, by omega⟩
  obtain ⟨u, hu, hus⟩ := hw.last
  rcases h.reach hT k u hu (hT u s ⟨k, hu⟩ hus hTs) with ⟨b, hb, e, hle⟩ | ⟨b, h1, h2, h3⟩
  · exact hno b (by omega) (e ▸ hus)
  · omega

/-- The distances of a search that went to its end. -/
def Dist (nx : Nat → List Nat) (n s : Nat) (D : Nat → Int) : Prop := ∀ v, v < n → (D v = -1 ∧ ¬ Rc nx s v) ∨ ∃ k : Nat, D v = k ∧ Wk nx k s v ∧ ∀ j, Wk nx j s v → k ≤ j

theorem BI.dist {nx : Nat → List Nat} {s : Nat} {q : Nat → Nat} {ql i : Nat} {d : Nat → Nat} {part : Nat → Prop} (h : BI nx (fun _ => True) s q ql i d part) (hi : i = ql) {n : Nat} {D : Nat → Int}
    (hD : ∀ v, v < n → (D v = -1 ∧ ∀ b, b < ql → q b ≠ v) ∨ (D v = (d v : Int) ∧ ∃ b, b < ql ∧ q b = v)) : Dist nx n s D := by
  have key : ∀ k v, Wk nx k s v → ∃ b, b < ql ∧ q b = v ∧ d v ≤ k := by
    intro k v hk
    rcases h.reach (fun _ _ _ _ _ => trivial) k v hk trivial with c | ⟨b, h1, h2, _⟩
    · exact c
    · omega
  intro v hv
  rcases hD v hv with ⟨e, hno⟩ | ⟨e, b, hb, hq⟩
  · refine .inl ⟨e, fun ⟨k, hk⟩ => ?_⟩
    obtain ⟨b, hb, hq, _⟩ := key k v hk
    exact hno b hb hq
  · refine .inr ⟨d v, e, hq ▸ h.wk b hb, fun j hj => ?_⟩
    obtain ⟨_, _, _, hle⟩ := key j v hj
    exact hle

/-- The running least over the first m: 0 while there is none. -/
def Short (nx : Nat → List Nat) (t m : Nat) (D : Nat → Int) (l : Int) : Prop :=
  (l = 0 ∧ ∀ u, u < m → t ∈ nx u → D u = -1) ∨ (0 < l ∧ (∃ u, u < m ∧ t ∈ nx u ∧ 0 ≤ D u ∧ l = D u + 1) ∧ ∀ u, u < m → t ∈ nx u → 0 ≤ D u → l ≤ D u + 1)

theorem Short.least {nx : Nat → List Nat} {t n : Nat} {D : Nat → Int} {l : Int} (h : Short nx t n D l) (hD : Dist nx n t D) (g : Gr n nx) (ht : t < n) : (l = 0 ∧ ∀ k, 0 < k → ¬ Wk nx k t t) ∨ ∃ L : Nat, l = L ∧ Least nx t L := by
  have lastlt : ∀ k u, Wk nx k t u → u < n := fun k u hk => g.rc_lt ⟨k, hk⟩ ht
  rcases h with ⟨e, hno⟩ | ⟨hpos, ⟨u, hu, htu, hDu, e⟩, hle⟩
  · refine .inl ⟨e, fun k hk hw => ?_⟩
    obtain ⟨k, rfl⟩ : ∃ m, k = m + 1 := ⟨k - 1, by omega⟩
    obtain ⟨u, hu, hus⟩ := hw.last
    have hun := lastlt k u hu
    have h1 := hno u hun hus
    rcases hD u hun with ⟨_, h2⟩ | ⟨j, h2, _⟩
    · exact h2 ⟨k, hu⟩
    · omega
  · refine .inr ?_
    rcases hD u hu with ⟨h2, _⟩ | ⟨j, h2, hw, hmin⟩
    · omega
    · refine ⟨j + 1, by omega, by omega, hw.snoc htu, fun k hk hw' => ?_⟩
      obtain ⟨k, rfl⟩ : ∃ m, k = m + 1 := ⟨k - 1, by omega⟩
      obtain ⟨x, hx, hxs⟩ := hw'.last
      have hxn := lastlt k x hx
      rcases hD x hxn with ⟨_, h4⟩ | ⟨j', h4, _, hmin'⟩
      · exact absurd ⟨k, hx⟩ h4
      · have h5 := hle x hxn hxs (by omega)
        have h6 := hmin' k hx
        omega

end Go.Proofs.Ybulkcuye.A
