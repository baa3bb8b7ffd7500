/- Plain: the steps of Tarjan's search keep its invariant. No Go in sight. -/
import Derived.Test.YbulkcuyeAGraph
namespace Go.Proofs.Ybulkcuye.A

def TS.reach (s : TS) (p : Nat → Nat) (u : Nat) : TS :=
  { s with cnt := s.cnt + 1, idx := upd s.idx u (s.cnt + 1), low := upd s.low u (s.cnt + 1), op := upd s.op s.ol u, ol := s.ol + 1, ct := upd s.ct s.cl u, cl := s.cl + 1, pr := upd p u 0 }

theorem TI.reach {n : Nat} {nx : Nat → List Nat} {s : TS} (h : TI n nx s) {u : Nat} (hu : u < n) (h0 : s.idx u = 0) (p : Nat → Nat)
    (hp : ∀ v, v < n → s.idx v ≠ 0 → p v = s.pr v ∨ (p v = s.pr v + 1 ∧ (nx v)[s.pr v]? = some u ∧ s.Gray v)) (he : 0 < s.cl → u ∈ nx (s.ct (s.cl - 1))) : TI n nx (s.reach p u) := by
  have cu : s.comp u = -1 := by
    rcases h.comp_of u hu with h1 | ⟨_, _, h1⟩
    · exact h1
    · exact absurd h0 h1
  have nu : ∀ v, s.idx v ≠ 0 → v ≠ u := fun v hv e => hv (e ▸ h0)
  have iu : ∀ v, v ≠ u → (s.reach p u).idx v = s.idx v := fun v hv => upd_ne _ _ _ hv
  have iuu : (s.reach p u).idx u = s.cnt + 1 := upd_same _ _ _
  have lu : ∀ v, v ≠ u → (s.reach p u).low v = s.low v := fun v hv => upd_ne _ _ _ hv
  have luu : (s.reach p u).low u = s.cnt + 1 := upd_same _ _ _
  have ctl : ∀ i, i < s.cl → (s.reach p u).ct i = s.ct i := fun i hi => upd_ne _ _ _ (by omega)
  have ctu : (s.reach p u).ct s.cl = u := upd_same _ _ _
  have opl : ∀ i, i < s.ol → (s.reach p u).op i = s.op i := fun i hi => upd_ne _ _ _ (by omega)
  have opu : (s.reach p u).op s.ol = u := upd_same _ _ _
  have pru : (s.reach p u).pr u = 0 := upd_same _ _ _
  have prl : ∀ v, v ≠ u → (s.reach p u).pr v = p v := fun v hv => upd_ne _ _ _ hv
  have cc : ∀ v, (s.reach p u).comp v = s.comp v := fun _ => rfl
  have hcl : (s.reach p u).cl = s.cl + 1 := rfl
  have hol : (s.reach p u).ol = s.ol + 1 := rfl
  have opn : ∀ v, (s.reach p u).Op v ↔ v = u ∨ s.Op v := by
    intro v
    unfold TS.Op
    rw [cc]
    by_cases e : v = u
    · subst e; rw [iuu]; simp [cu]
    · rw [iu v e]; simp [e]
  have gr : ∀ v, (s.reach p u).Gray v ↔ v = u ∨ s.Gray v := by
    intro v
    constructor
    · rintro ⟨i, hi, hv⟩
      rw [hcl] at hi
      by_cases e : i = s.cl
      · subst e; rw [ctu] at hv; exact .inl hv.symm
      · rw [ctl i (by omega)] at hv; exact .inr ⟨i, by omega, hv⟩
    · rintro (rfl | ⟨i, hi, hv⟩)
      · exact ⟨s.cl, by rw [hcl]; omega, ctu⟩
      · exact ⟨i, by rw [hcl]; omega, by rw [ctl i hi]; exact hv⟩
  have ig : ∀ i, i < s.cl → s.ct i ≠ u := fun i hi => nu _ (h.ct_op i hi).1
  have io : ∀ i, i < s.ol → s.op i ≠ u := fun i hi => nu _ (h.op_op i hi).1
  generalize hS : s.reach p u = S at *
  have hcnt : S.cnt = s.cnt + 1 := by subst hS; rfl
  have hsl : S.sl = s.sl := by subst hS; rfl
  have hsz : S.sz = s.sz := by subst hS; rfl
  constructor
  · intro v hv
    by_cases e : v = u
    · subst e; rw [iuu, hcnt]; exact Nat.le_refl _
    · rw [iu v e, hcnt]; have := h.idx_le v hv; omega
  · intro a b ha hb hab h1
    by_cases ea : a = u
    · by_cases eb : b = u
      · omega
      · subst ea; rw [iuu, iu b eb] at hab; have := h.idx_le b hb; omega
    · by_cases eb : b = u
      · subst eb; rw [iuu, iu a ea] at hab; have := h.idx_le a ha; omega
      · rw [iu a ea, iu b eb] at hab; rw [iu a ea] at h1; exact h.inj a b ha hb hab h1
  · intro v hv
    rw [cc, hsl]
    rcases h.comp_of v hv with h1 | ⟨h1, h2, h3⟩
    · exact .inl h1
    · exact .inr ⟨h1, h2, by rw [iu v (nu v h3)]; exact h3⟩
  · intro c h1 h2
    rw [hcnt] at h2
    by_cases e : c = s.cnt + 1
    · exact ⟨u, hu, by rw [iuu, e]⟩
    · obtain ⟨v, hv, e1⟩ := h.surj c h1 (by omega)
      exact ⟨v, hv, by rw [iu v (nu v (by omega))]; exact e1⟩
  · intro c hc
    rw [hsl] at hc
    obtain ⟨v, hv, e1⟩ := h.inh c hc
    exact ⟨v, hv, by rw [cc]; exact e1⟩
  · intro i hi
    by_cases e : i = s.ol
    · subst e; rw [opu]; exact hu
    · rw [opl i (by omega)]; exact h.op_lt i (by omega)
  · intro i hi
    rw [opn]
    by_cases e : i = s.ol
    · subst e; exact .inl opu
    · rw [opl i (by omega)]; exact .inr (h.op_op i (by omega))
  · intro i j hij hj
    rw [opl i (by omega), iu _ (io i (by omega))]
    by_cases e : j = s.ol
    · subst e; rw [opu, iuu]; have := h.idx_le _ (h.op_lt i (by omega)); omega
    · rw [opl j (by omega), iu _ (io j (by omega))]; exact h.op_up i j hij (by omega)
  · intro v hv ho
    rcases (opn v).1 ho with e | ho
    · exact ⟨s.ol, by omega, by rw [opu, e]⟩
    · obtain ⟨i, hi, hv⟩ := h.op_all v hv ho
      exact ⟨i, by omega, by rw [opl i hi]; exact hv⟩
  · intro i hi
    by_cases e : i = s.cl
    · subst e; rw [ctu]; exact hu
    · rw [ctl i (by omega)]; exact h.ct_lt i (by omega)
  · intro i hi
    rw [opn]
    by_cases e : i = s.cl
    · subst e; exact .inl ctu
    · rw [ctl i (by omega)]; exact .inr (h.ct_op i (by omega))
  · intro i j hij hj
    rw [ctl i (by omega), iu _ (ig i (by omega))]
    by_cases e : j = s.cl
    · subst e; rw [ctu, iuu]; have := h.idx_le _ (h.ct_lt i (by omega)); omega
    · rw [ctl j (by omega), iu _ (ig j (by omega))]; exact h.ct_up i j hij (by omega)
  · intro i hi
    by_cases e : i = s.cl
    · subst e; rw [ctu, pru]; exact Nat.zero_le _
    · have hi' : i < s.cl := by omega
      rw [ctl i hi', prl _ (ig i hi')]
      have := h.pr_le i hi'
      rcases hp _ (h.ct_lt i hi') (h.ct_op i hi').1 with e1 | ⟨e1, e2, _⟩
      · omega
      · obtain ⟨e3, _⟩ := List.getElem?_eq_some_iff.1 e2
        omega
  · intro v hv h1 hg
    have hne : v ≠ u := fun e => hg ((gr v).2 (.inl e))
    rw [iu v hne] at h1
    rw [prl v hne]
    rcases hp v hv h1 with e1 | ⟨_, _, e3⟩
    · rw [e1]; exact h.black v hv h1 (fun g => hg ((gr v).2 (.inr g)))
    · exact absurd ((gr v).2 (.inr e3)) hg
  · intro v hv h1 j x hj hx
    by_cases e : v = u
    · subst e; rw [pru] at hj; omega
    · rw [iu v e] at h1
      rw [prl v e] at hj
      have old : j < s.pr v → S.idx x ≠ 0 ∧ (S.Op v → S.Op x → S.low v ≤ S.idx x) := by
        intro hj
        obtain ⟨a, b⟩ := h.seen v hv h1 j x hj hx
        have hxu := nu x a
        rw [iu x hxu, lu v e]
        refine ⟨a, fun c d => b ?_ ?_⟩
        · rcases (opn v).1 c with c | c
          · exact absurd c e
          · exact c
        · rcases (opn x).1 d with d | d
          · exact absurd d hxu
          · exact d
      rcases hp v hv h1 with e1 | ⟨e1, e2, i, hi, e3⟩
      · exact old (by omega)
      · by_cases ej : j < s.pr v
        · exact old ej
        · have : j = s.pr v := by omega
          subst this
          rw [e2] at hx
          cases hx
          rw [iuu, lu v e]
          refine ⟨by omega, fun _ _ => ?_⟩
          have := (h.own i hi).1
          have := h.idx_le v hv
          rw [e3] at *
          omega
  · intro v hv hc x hx
    rw [cc] at hc ⊢
    exact h.done v hv hc x hx
  · intro a b ha hb hca hcb
    rw [cc] at hca hcb ⊢
    rw [cc]
    exact h.scc a b ha hb hca hcb
  · intro c hc
    rw [hsl] at hc
    rw [hsz]
    simp only [cc]
    exact h.size c hc
  · intro i v hi hv hle
    by_cases e : i = s.cl
    · subst e
      rw [ctu, iuu] at hle
      rw [ctu]
      by_cases ev : v = u
      · subst ev; exact Rc.refl _
      · rw [iu v ev] at hle; have := h.idx_le v hv; omega
    · have hi' : i < s.cl := by omega
      rw [ctl i hi', iu _ (ig i hi')] at hle
      rw [ctl i hi']
      by_cases ev : v = u
      · subst ev
        refine Rc.step (h.down i (s.ct (s.cl - 1)) hi' (h.ct_lt _ (by omega)) ?_) (he (by omega))
        rcases Nat.lt_or_ge i (s.cl - 1) with h1 | h1
        · exact Nat.le_of_lt (h.ct_up i (s.cl - 1) h1 (by omega))
        · have : i = s.cl - 1 := by omega
          rw [this]; exact Nat.le_refl _
      · rw [iu v ev] at hle; exact h.down i v hi' hv hle
  · intro v hv ho hg
    have hne : v ≠ u := fun e => hg ((gr v).2 (.inl e))
    have ho' : s.Op v := by
      rcases (opn v).1 ho with c | c
      · exact absurd c hne
      · exact c
    obtain ⟨a, x, hx, hox, hix, hr⟩ := h.back v hv ho' (fun g => hg ((gr v).2 (.inr g)))
    rw [iu v hne, lu v hne]
    exact ⟨a, x, hx, (opn x).2 (.inr hox), by rw [iu x (nu x hox.1)]; exact hix, hr⟩
  · intro i v hi hv ho hg hlt hnext
    have hne : v ≠ u := fun e => hg ((gr v).2 (.inl e))
    have ho' : s.Op v := by
      rcases (opn v).1 ho with c | c
      · exact absurd c hne
      · exact c
    by_cases e : i = s.cl
    · subst e; rw [ctu, iuu, iu v hne] at hlt; have := h.idx_le v hv; omega
    · have hi' : i < s.cl := by omega
      rw [ctl i hi', iu _ (ig i hi'), iu v hne] at hlt
      rw [ctl i hi', lu _ (ig i hi'), lu v hne]
      refine h.under i v hi' hv ho' (fun g => hg ((gr v).2 (.inr g))) hlt fun h2 => ?_
      have := hnext (by omega)
      rw [ctl _ h2, iu _ (ig _ h2), iu v hne] at this
      exact this
  · intro i hi
    by_cases e : i = s.cl
    · subst e; rw [ctu, luu, iuu]; exact ⟨Nat.le_refl _, u, hu, (opn u).2 (.inl rfl), iuu, Rc.refl _⟩
    · have hi' : i < s.cl := by omega
      obtain ⟨a, x, hx, hox, hix, hr⟩ := h.own i hi'
      rw [ctl i hi', iu _ (ig i hi'), lu _ (ig i hi')]
      exact ⟨a, x, hx, (opn x).2 (.inr hox), by rw [iu x (nu x hox.1)]; exact hix, hr⟩

/-- The one on top takes an edge to one that is reached. -/
theorem TI.scan {n : Nat} {nx : Nat → List Nat} {s : TS} (h : TI n nx s) {t u l : Nat} (hcl : 0 < s.cl) (ht : s.ct (s.cl - 1) = t) (hx : (nx t)[s.pr t]? = some u) (hun : u < n) (h0 : s.idx u ≠ 0)
    (hl : (s.comp u = -1 ∧ l = min (s.low t) (s.idx u)) ∨ (0 ≤ s.comp u ∧ l = s.low t)) : TI n nx { s with pr := upd s.pr t (s.pr t + 1), low := upd s.low t l } := by
  have htn : t < n := ht ▸ h.ct_lt _ (by omega)
  have hot : s.Op t := ht ▸ h.ct_op _ (by omega)
  have hplt : s.pr t < (nx t).length := (List.getElem?_eq_some_iff.1 hx).1
  have hll : l ≤ s.low t := by rcases hl with ⟨_, e⟩ | ⟨_, e⟩ <;> omega
  have hg : s.Gray t := ⟨s.cl - 1, by omega, ht⟩
  have hot' : s.low t ≤ s.idx t ∧ ∃ x, x < n ∧ s.Op x ∧ s.idx x = s.low t ∧ Rc nx t x := ht ▸ h.own (s.cl - 1) (by omega)
  obtain ⟨hle, x0, hx0, hox0, hix0, hr0⟩ := hot'
  have hbl : ∀ v, ¬ s.Gray v → v ≠ t := fun v hv e => hv (e ▸ hg)
  have hlow : ∀ v, upd s.low t l v ≤ s.low v := fun v => by
    by_cases e : v = t
    · subst e; rw [upd_same]; exact hll
    · rw [upd_ne _ _ _ e]; exact Nat.le_refl _
  constructor
  · exact h.idx_le
  · exact h.inj
  · exact h.comp_of
  · exact h.surj
  · exact h.inh
  · exact h.op_lt
  · exact h.op_op
  · exact h.op_up
  · exact h.op_all
  · exact h.ct_lt
  · exact h.ct_op
  · exact h.ct_up
  · intro i hi
    show upd s.pr t (s.pr t + 1) (s.ct i) ≤ _
    by_cases e : s.ct i = t
    · rw [e, upd_same]; exact hplt
    · rw [upd_ne _ _ _ e]; exact h.pr_le i hi
  · intro v hv h1 hg'
    show upd s.pr t (s.pr t + 1) v = _
    rw [upd_ne _ _ _ (hbl v hg')]
    exact h.black v hv h1 hg'
  · intro v hv h1 j x hj hx'
    have hj' : j < upd s.pr t (s.pr t + 1) v := hj
    show s.idx x ≠ 0 ∧ (s.Op v → s.Op x → upd s.low t l v ≤ s.idx x)
    by_cases ej : j < s.pr v
    · obtain ⟨a, b⟩ := h.seen v hv h1 j x ej hx'
      exact ⟨a, fun c d => Nat.le_trans (hlow v) (b c d)⟩
    · by_cases e : v = t
      · subst e
        rw [upd_same] at hj'
        have : j = s.pr v := by omega
        subst this
        rw [hx] at hx'
        cases hx'
        refine ⟨h0, fun _ d => ?_⟩
        rw [upd_same]
        rcases hl with ⟨_, e⟩ | ⟨e, _⟩
        · omega
        · have := d.2; omega
      · rw [upd_ne _ _ _ e] at hj'; omega
  · exact h.done
  · exact h.scc
  · exact h.size
  · exact h.down
  · intro v hv ho hg'
    show upd s.low t l v < _ ∧ ∃ x, x < n ∧ s.Op x ∧ s.idx x = upd s.low t l v ∧ Rc nx v x
    rw [upd_ne _ _ _ (hbl v hg')]
    exact h.back v hv ho hg'
  · intro i v hi hv ho hg' hlt hnext
    show upd s.low t l (s.ct i) ≤ upd s.low t l v
    rw [upd_ne _ _ _ (hbl v hg')]
    exact Nat.le_trans (hlow _) (h.under i v hi hv ho hg' hlt hnext)
  · intro i hi
    show upd s.low t l (s.ct i) ≤ s.idx (s.ct i) ∧ ∃ x, x < n ∧ s.Op x ∧ s.idx x = upd s.low t l (s.ct i) ∧ Rc nx (s.ct i) x
    by_cases e : s.ct i = t
    · rw [e, upd_same]
      refine ⟨by omega, ?_⟩
      rcases hl with ⟨e1, e2⟩ | ⟨_, e2⟩
      · rcases Nat.le_total (s.low t) (s.idx u) with h1 | h1
        · rw [Nat.min_eq_left h1] at e2; rw [e2]; exact ⟨x0, hx0, hox0, hix0, hr0⟩
        · rw [Nat.min_eq_right h1] at e2; rw [e2]; exact ⟨u, hun, ⟨h0, e1⟩, rfl, Rc.edge (List.mem_of_getElem? hx)⟩
      · rw [e2]; exact ⟨x0, hx0, hox0, hix0, hr0⟩
    · rw [upd_ne _ _ _ e]; exact h.own i hi

/-- The one on top is done and stays open. -/
theorem TI.leave {n : Nat} {nx : Nat → List Nat} {s : TS} (h : TI n nx s) {t : Nat} {l : Nat → Nat} (hcl : 0 < s.cl) (ht : s.ct (s.cl - 1) = t) (hpr : s.pr t = (nx t).length) (hne : s.low t ≠ s.idx t)
    (hl : (1 < s.cl ∧ l = upd s.low (s.ct (s.cl - 2)) (min (s.low (s.ct (s.cl - 2))) (s.low t))) ∨ (s.cl = 1 ∧ l = s.low)) : TI n nx { s with cl := s.cl - 1, pr := upd s.pr t (s.pr t + 1), low := l } := by
  have htn : t < n := ht ▸ h.ct_lt _ (by omega)
  have hot : s.Op t := ht ▸ h.ct_op _ (by omega)
  have hg : s.Gray t := ⟨s.cl - 1, by omega, ht⟩
  have hot' : s.low t ≤ s.idx t ∧ ∃ x, x < n ∧ s.Op x ∧ s.idx x = s.low t ∧ Rc nx t x := ht ▸ h.own (s.cl - 1) (by omega)
  obtain ⟨hle, x0, hx0, hox0, hix0, hr0⟩ := hot'
  have htop : ∀ i, i < s.cl - 1 → s.idx (s.ct i) < s.idx t := fun i hi => ht ▸ h.ct_up i (s.cl - 1) hi (by omega)
  have htne : ∀ i, i < s.cl - 1 → s.ct i ≠ t := fun i hi e => by have := htop i hi; rw [e] at this; omega
  have hlow : ∀ v, l v ≤ s.low v := fun v => by
    rcases hl with ⟨_, e⟩ | ⟨_, e⟩
    · rw [e]
      by_cases ev : v = s.ct (s.cl - 2)
      · subst ev; rw [upd_same]; omega
      · rw [upd_ne _ _ _ ev]; exact Nat.le_refl _
    · rw [e]; exact Nat.le_refl _
  have hlo : ∀ v, (1 < s.cl → v ≠ s.ct (s.cl - 2)) → l v = s.low v := fun v hv => by
    rcases hl with ⟨c, e⟩ | ⟨_, e⟩
    · rw [e, upd_ne _ _ _ (hv c)]
    · rw [e]
  have hbl : ∀ v, ¬ s.Gray v → l v = s.low v := fun v hv => hlo v fun _ e => hv ⟨s.cl - 2, by omega, e.symm⟩
  have hlt' : l t = s.low t := hlo t fun c e => htne (s.cl - 2) (by omega) e.symm
  have gr : ∀ v, (∃ i, i < s.cl - 1 ∧ s.ct i = v) ↔ s.Gray v ∧ v ≠ t := by
    intro v
    constructor
    · rintro ⟨i, hi, rfl⟩
      exact ⟨⟨i, by omega, rfl⟩, htne i hi⟩
    · rintro ⟨⟨i, hi, rfl⟩, hv⟩
      refine ⟨i, ?_, rfl⟩
      rcases Nat.lt_or_ge i (s.cl - 1) with c | c
      · exact c
      · have : i = s.cl - 1 := by omega
        subst this
        exact absurd ht hv
  have ngr : ∀ v, ¬ (∃ i, i < s.cl - 1 ∧ s.ct i = v) → v = t ∨ (v ≠ t ∧ ¬ s.Gray v) := fun v hv => by
    by_cases e : v = t
    · exact .inl e
    · exact .inr ⟨e, fun g => hv ((gr v).2 ⟨g, e⟩)⟩
  constructor
  · exact h.idx_le
  · exact h.inj
  · exact h.comp_of
  · exact h.surj
  · exact h.inh
  · exact h.op_lt
  · exact h.op_op
  · exact h.op_up
  · exact h.op_all
  · exact fun i hi => h.ct_lt i (Nat.lt_of_lt_of_le hi (Nat.sub_le _ _))
  · exact fun i hi => h.ct_op i (Nat.lt_of_lt_of_le hi (Nat.sub_le _ _))
  · exact fun i j hij hj => h.ct_up i j hij (Nat.lt_of_lt_of_le hj (Nat.sub_le _ _))
  · intro i hi
    show upd s.pr t (s.pr t + 1) (s.ct i) ≤ _
    rw [upd_ne _ _ _ (htne i hi)]
    exact h.pr_le i (Nat.lt_of_lt_of_le hi (Nat.sub_le _ _))
  · intro v hv h1 hg'
    show upd s.pr t (s.pr t + 1) v = _
    rcases ngr v hg' with e | ⟨e, g⟩
    · subst e; rw [upd_same, hpr]
    · rw [upd_ne _ _ _ e]; exact h.black v hv h1 g
  · intro v hv h1 j x hj hx'
    have hj' : j < upd s.pr t (s.pr t + 1) v := hj
    show s.idx x ≠ 0 ∧ (s.Op v → s.Op x → l v ≤ s.idx x)
    have ej : j < s.pr v := by
      by_cases e : v = t
      · subst e; rw [upd_same] at hj'
        have := (List.getElem?_eq_some_iff.1 hx').1
        omega
      · rw [upd_ne _ _ _ e] at hj'; exact hj'
    obtain ⟨a, b⟩ := h.seen v hv h1 j x ej hx'
    exact ⟨a, fun c d => Nat.le_trans (hlow v) (b c d)⟩
  · exact h.done
  · exact h.scc
  · exact h.size
  · exact fun i v hi => h.down i v (Nat.lt_of_lt_of_le hi (Nat.sub_le _ _))
  · intro v hv ho hg'
    show l v < s.idx v ∧ ∃ x, x < n ∧ s.Op x ∧ s.idx x = l v ∧ Rc nx v x
    rcases ngr v hg' with e | ⟨e, g⟩
    · subst e; rw [hlt']; exact ⟨by omega, x0, hx0, hox0, hix0, hr0⟩
    · rw [hbl v g]; exact h.back v hv ho g
  · intro i v hi hv ho hg' hlt hnext
    have hi' : i < s.cl - 1 := hi
    have hlt2 : s.idx (s.ct i) < s.idx v := hlt
    have hnext2 : i + 1 < s.cl - 1 → s.idx v < s.idx (s.ct (i + 1)) := hnext
    show l (s.ct i) ≤ l v
    by_cases ei : i + 1 < s.cl - 1
    · have hv2 := hnext2 ei
      have h3 := htop (i + 1) ei
      rcases ngr v hg' with e | ⟨e, g⟩
      · subst e; omega
      · rw [hbl v g]
        exact Nat.le_trans (hlow _) (h.under i v (by omega) hv ho g hlt2 fun _ => hv2)
    · have ei' : i = s.cl - 2 := by omega
      have hlp : l (s.ct i) ≤ s.low t := by
        rcases hl with ⟨_, e⟩ | ⟨e, _⟩
        · rw [e, ei', upd_same]; omega
        · omega
      rcases ngr v hg' with e | ⟨e, g⟩
      · subst e; rw [hlt']; exact hlp
      · rw [hbl v g]
        rcases Nat.lt_trichotomy (s.idx v) (s.idx t) with c | c | c
        · refine Nat.le_trans (hlow _) (h.under i v (by omega) hv ho g hlt2 fun _ => ?_)
          rw [show i + 1 = s.cl - 1 by omega, ht]
          exact c
        · exact absurd (h.inj v t hv htn c ho.1) e
        · refine Nat.le_trans hlp ?_
          have := h.under (s.cl - 1) v (by omega) hv ho g (by rw [ht]; exact c) (fun h => absurd h (by omega))
          rw [ht] at this
          exact this
  · intro i hi
    have hi' : i < s.cl - 1 := hi
    show l (s.ct i) ≤ s.idx (s.ct i) ∧ ∃ x, x < n ∧ s.Op x ∧ s.idx x = l (s.ct i) ∧ Rc nx (s.ct i) x
    obtain ⟨a, x, hx, hox, hix, hr⟩ := h.own i (by omega)
    by_cases ei : i = s.cl - 2
    · rcases hl with ⟨_, e⟩ | ⟨e, _⟩
      · have el : l (s.ct i) = min (s.low (s.ct i)) (s.low t) := by rw [e, ei, upd_same]
        rw [el]
        refine ⟨by omega, ?_⟩
        rcases Nat.le_total (s.low (s.ct i)) (s.low t) with h1 | h1
        · rw [Nat.min_eq_left h1]; exact ⟨x, hx, hox, hix, hr⟩
        · rw [Nat.min_eq_right h1]
          exact ⟨x0, hx0, hox0, hix0, (h.down i t (by omega) htn (Nat.le_of_lt (htop i hi'))).trans hr0⟩
      · omega
    · have el : l (s.ct i) = s.low (s.ct i) := hlo _ fun c e => by
        have := h.ct_up i (s.cl - 2) (by omega) (by omega)
        rw [e] at this
        omega
      rw [el]
      exact ⟨a, x, hx, hox, hix, hr⟩

/-- The open ones from place k on, m of them, get the component c. -/
def paint (comp : Nat → Int) (op : Nat → Nat) (c : Int) (k : Nat) : Nat → Nat → Int
  | 0 => comp
  | m + 1 => upd (paint comp op c k m) (op (k + m)) c

theorem paint_in {comp : Nat → Int} {op : Nat → Nat} {c : Int} {k : Nat} : ∀ {m i : Nat}, i < m → paint comp op c k m (op (k + i)) = c
  | 0, _, h => absurd h (by omega)
  | m + 1, i, h => by
    simp only [paint]
    by_cases e : op (k + i) = op (k + m)
    · rw [e, upd_same]
    · rw [upd_ne _ _ _ e]
      refine paint_in ?_
      rcases Nat.lt_or_ge i m with c | c
      · exact c
      · exact absurd (by rw [show i = m by omega]) e

theorem paint_out {comp : Nat → Int} {op : Nat → Nat} {c : Int} {k v : Nat} : ∀ {m : Nat}, (∀ i, i < m → op (k + i) ≠ v) → paint comp op c k m v = comp v
  | 0, _ => rfl
  | m + 1, h => by
    simp only [paint]
    rw [upd_ne _ _ _ (fun e => h m (by omega) e.symm)]
    exact paint_out fun i hi => h i (by omega)

/-- The one on top is done and its component is known. -/
theorem TI.shut {n : Nat} {nx : Nat → List Nat} {s : TS} (h : TI n nx s) (g : Gr n nx) {t k : Nat} (hcl : 0 < s.cl) (ht : s.ct (s.cl - 1) = t) (hpr : s.pr t = (nx t).length) (heq : s.low t = s.idx t) (hk : k < s.ol) (hkt : s.op k = t) :
    TI n nx { s with cl := s.cl - 1, pr := upd s.pr t (s.pr t + 1), comp := paint s.comp s.op s.sl k (s.ol - k), ol := k, sz := upd s.sz s.sl (s.ol - k), sl := s.sl + 1 } := by
  have htn : t < n := ht ▸ h.ct_lt _ (by omega)
  have hot : s.Op t := ht ▸ h.ct_op _ (by omega)
  have htop : ∀ i, i < s.cl - 1 → s.idx (s.ct i) < s.idx t := fun i hi => ht ▸ h.ct_up i (s.cl - 1) hi (by omega)
  have htne : ∀ i, i < s.cl - 1 → s.ct i ≠ t := fun i hi e => by have := htop i hi; rw [e] at this; omega
  have gr : ∀ v, (∃ i, i < s.cl - 1 ∧ s.ct i = v) ↔ s.Gray v ∧ v ≠ t := by
    intro v
    constructor
    · rintro ⟨i, hi, rfl⟩
      exact ⟨⟨i, by omega, rfl⟩, htne i hi⟩
    · rintro ⟨⟨i, hi, rfl⟩, hv⟩
      refine ⟨i, ?_, rfl⟩
      rcases Nat.lt_or_ge i (s.cl - 1) with c | c
      · exact c
      · have : i = s.cl - 1 := by omega
        subst this
        exact absurd ht hv
  have ngr : ∀ v, ¬ (∃ i, i < s.cl - 1 ∧ s.ct i = v) → v = t ∨ (v ≠ t ∧ ¬ s.Gray v) := fun v hv => by
    by_cases e : v = t
    · exact .inl e
    · exact .inr ⟨e, fun g => hv ((gr v).2 ⟨g, e⟩)⟩
  have ngt : ∀ v, s.idx t < s.idx v → ¬ s.Gray v := by
    rintro v hv ⟨i, hi, rfl⟩
    rcases Nat.lt_or_ge i (s.cl - 1) with c | c
    · have := htop i c; omega
    · have : i = s.cl - 1 := by omega
      subst this
      rw [ht] at hv
      omega
  -- the open ones from k on are those whose index is not below t's
  have sx : ∀ v, v < n → s.Op v → s.idx t ≤ s.idx v → ∃ i, i < s.ol - k ∧ s.op (k + i) = v := by
    intro v hv ho hle
    obtain ⟨i, hi, rfl⟩ := h.op_all v hv ho
    have : k ≤ i := by
      rcases Nat.lt_or_ge i k with c | c
      · have := h.op_up i k c hk
        rw [hkt] at this
        omega
      · exact c
    exact ⟨i - k, by omega, by rw [show k + (i - k) = i by omega]⟩
  have sxi : ∀ i, i < s.ol - k → s.idx t ≤ s.idx (s.op (k + i)) := by
    intro i hi
    rcases Nat.eq_zero_or_pos i with rfl | c
    · rw [Nat.add_zero, hkt]; exact Nat.le_refl _
    · have := h.op_up k (k + i) (by omega) (by omega)
      rw [hkt] at this
      omega
  have pin : ∀ v, v < n → s.Op v → s.idx t ≤ s.idx v → paint s.comp s.op s.sl k (s.ol - k) v = s.sl := by
    intro v hv ho hle
    obtain ⟨i, hi, rfl⟩ := sx v hv ho hle
    exact paint_in hi
  have pout : ∀ v, v < n → ¬ (s.Op v ∧ s.idx t ≤ s.idx v) → paint s.comp s.op s.sl k (s.ol - k) v = s.comp v := by
    intro v hv hn
    refine paint_out fun i hi e => hn ?_
    rw [← e]
    exact ⟨h.op_op _ (by omega), sxi i hi⟩
  have cop : ∀ v, v < n → ¬ s.Op v → s.idx v ≠ 0 → 0 ≤ s.comp v := by
    intro v hv ho h1
    rcases h.comp_of v hv with c | ⟨c, _⟩
    · exact absurd ⟨h1, c⟩ ho
    · exact c
  -- whoever is above t reaches t
  have lowge : ∀ v, v < n → s.Op v → s.idx t ≤ s.idx v → s.idx t ≤ s.low v := by
    intro v hv ho hle
    by_cases e : v = t
    · subst e; omega
    · have hlt : s.idx t < s.idx v := Nat.lt_of_le_of_ne hle fun c => e (h.inj v t hv htn c.symm ho.1)
      have := h.under (s.cl - 1) v (by omega) hv ho (ngt v hlt) (by rw [ht]; exact hlt) (fun h => absurd h (by omega))
      rw [ht, heq] at this
      exact this
  have toT : ∀ m v, s.idx v ≤ m → v < n → s.Op v → s.idx t ≤ s.idx v → Rc nx v t := by
    intro m
    induction m with
    | zero => intro v hm hv ho _; exact absurd ho.1 (by omega)
    | succ m ih =>
      intro v hm hv ho hle
      by_cases e : v = t
      · subst e; exact Rc.refl _
      · have hlt : s.idx t < s.idx v := Nat.lt_of_le_of_ne hle fun c => e (h.inj v t hv htn c.symm ho.1)
        obtain ⟨a, x, hx, hox, hix, hr⟩ := h.back v hv ho (ngt v hlt)
        have := lowge v hv ho hle
        exact hr.trans (ih x (by omega) hx hox (by omega))
  have fromT : ∀ v, v < n → s.idx t ≤ s.idx v → Rc nx t v := fun v hv hle => by
    have := h.down (s.cl - 1) v (by omega) hv (by rw [ht]; exact hle)
    rw [ht] at this
    exact this
  have out : ∀ v, v < n → s.Op v → s.idx t ≤ s.idx v → ∀ u, u ∈ nx v → (s.Op u ∧ s.idx t ≤ s.idx u) ∨ 0 ≤ s.comp u := by
    intro v hv ho hle u hu
    obtain ⟨j, hj⟩ := List.mem_iff_getElem?.1 hu
    have hjl := (List.getElem?_eq_some_iff.1 hj).1
    have hjp : j < s.pr v := by
      by_cases e : v = t
      · subst e; omega
      · have hlt : s.idx t < s.idx v := Nat.lt_of_le_of_ne hle fun c => e (h.inj v t hv htn c.symm ho.1)
        rw [h.black v hv ho.1 (ngt v hlt)]
        omega
    obtain ⟨a, b⟩ := h.seen v hv ho.1 j u hjp hj
    by_cases hou : s.Op u
    · have := b ho hou
      have := lowge v hv ho hle
      exact .inl ⟨hou, by omega⟩
    · exact .inr (cop u (g.lt v hv u hu) hou a)
  have closed : ∀ u, (u < n ∧ 0 ≤ s.comp u) → ∀ v, v ∈ nx u → (v < n ∧ 0 ≤ s.comp v) := fun u hu v hv => ⟨g.lt u hu.1 v hv, h.done u hu.1 hu.2 v hv⟩
  have apart : ∀ u v, u < n → v < n → s.Op u → 0 ≤ s.comp v → ¬ Rc nx v u := by
    intro u v _ hv ho hc hr
    have := Rc.closed (S := fun u => u < n ∧ 0 ≤ s.comp u) closed hr ⟨hv, hc⟩
    have := ho.2
    omega
  have pcase : ∀ v, v < n → 0 ≤ paint s.comp s.op s.sl k (s.ol - k) v → (s.Op v ∧ s.idx t ≤ s.idx v ∧ paint s.comp s.op s.sl k (s.ol - k) v = s.sl) ∨ (0 ≤ s.comp v ∧ s.comp v < s.sl ∧ paint s.comp s.op s.sl k (s.ol - k) v = s.comp v) := by
    intro v hv hc
    by_cases e : s.Op v ∧ s.idx t ≤ s.idx v
    · exact .inl ⟨e.1, e.2, pin v hv e.1 e.2⟩
    · rw [pout v hv e] at hc ⊢
      rcases h.comp_of v hv with c | ⟨_, c, _⟩
      · omega
      · exact .inr ⟨hc, c, rfl⟩
  have opn : ∀ v, v < n → ((s.idx v ≠ 0 ∧ paint s.comp s.op s.sl k (s.ol - k) v = -1) ↔ s.Op v ∧ s.idx v < s.idx t) := by
    intro v hv
    by_cases e : s.Op v ∧ s.idx t ≤ s.idx v
    · rw [pin v hv e.1 e.2]
      constructor
      · rintro ⟨_, c⟩; omega
      · rintro ⟨_, c⟩; omega
    · rw [pout v hv e]
      constructor
      · rintro c
        refine ⟨c, ?_⟩
        rcases Nat.lt_or_ge (s.idx v) (s.idx t) with d | d
        · exact d
        · exact absurd ⟨c, d⟩ e
      · rintro ⟨c, _⟩; exact c
  constructor
  · exact h.idx_le
  · exact h.inj
  · intro v hv
    show paint s.comp s.op s.sl k (s.ol - k) v = -1 ∨ (0 ≤ paint s.comp s.op s.sl k (s.ol - k) v ∧ paint s.comp s.op s.sl k (s.ol - k) v < ((s.sl + 1 : Nat) : Int) ∧ s.idx v ≠ 0)
    by_cases e : s.Op v ∧ s.idx t ≤ s.idx v
    · rw [pin v hv e.1 e.2]; exact .inr ⟨by omega, by omega, e.1.1⟩
    · rw [pout v hv e]
      rcases h.comp_of v hv with c | ⟨c, d, f⟩
      · exact .inl c
      · exact .inr ⟨c, by omega, f⟩
  · exact h.surj
  · intro c hc
    have hc' : c < s.sl + 1 := hc
    show ∃ v, v < n ∧ paint s.comp s.op s.sl k (s.ol - k) v = c
    by_cases e : c = s.sl
    · subst e; exact ⟨t, htn, pin t htn hot (Nat.le_refl _)⟩
    · obtain ⟨v, hv, e1⟩ := h.inh c (by omega)
      exact ⟨v, hv, by rw [pout v hv (fun h1 => by have := h1.1.2; omega)]; exact e1⟩
  · exact fun i hi => h.op_lt i (Nat.lt_trans hi hk)
  · intro i hi
    have hi' : i < k := hi
    refine (opn _ (h.op_lt i (by omega))).2 ⟨h.op_op i (by omega), ?_⟩
    have := h.op_up i k hi' hk
    rw [hkt] at this
    exact this
  · exact fun i j hij hj => h.op_up i j hij (Nat.lt_trans hj hk)
  · intro v hv ho
    obtain ⟨ho', hlt⟩ := (opn v hv).1 ho
    obtain ⟨i, hi, rfl⟩ := h.op_all v hv ho'
    refine ⟨i, ?_, rfl⟩
    rcases Nat.lt_trichotomy i k with c | c | c
    · exact c
    · subst c; rw [hkt] at hlt; omega
    · have := h.op_up k i c hi
      rw [hkt] at this
      omega
  · exact fun i hi => h.ct_lt i (Nat.lt_of_lt_of_le hi (Nat.sub_le _ _))
  · intro i hi
    have hi' : i < s.cl - 1 := hi
    exact (opn _ (h.ct_lt i (by omega))).2 ⟨h.ct_op i (by omega), htop i hi'⟩
  · exact fun i j hij hj => h.ct_up i j hij (Nat.lt_of_lt_of_le hj (Nat.sub_le _ _))
  · intro i hi
    show upd s.pr t (s.pr t + 1) (s.ct i) ≤ _
    rw [upd_ne _ _ _ (htne i hi)]
    exact h.pr_le i (Nat.lt_of_lt_of_le hi (Nat.sub_le _ _))
  · intro v hv h1 hg'
    show upd s.pr t (s.pr t + 1) v = _
    rcases ngr v hg' with e | ⟨e, g⟩
    · subst e; rw [upd_same, hpr]
    · rw [upd_ne _ _ _ e]; exact h.black v hv h1 g
  · intro v hv h1 j x hj hx'
    have hj' : j < upd s.pr t (s.pr t + 1) v := hj
    have ej : j < s.pr v := by
      by_cases e : v = t
      · subst e; rw [upd_same] at hj'
        have := (List.getElem?_eq_some_iff.1 hx').1
        omega
      · rw [upd_ne _ _ _ e] at hj'; exact hj'
    obtain ⟨a, b⟩ := h.seen v hv h1 j x ej hx'
    exact ⟨a, fun c d => b ((opn v hv).1 c).1 ((opn x (g.lt v hv x (List.mem_of_getElem? hx'))).1 d).1⟩
  · intro v hv hc u hu
    have hun := g.lt v hv u hu
    have up : (s.Op u ∧ s.idx t ≤ s.idx u) ∨ 0 ≤ s.comp u → 0 ≤ paint s.comp s.op s.sl k (s.ol - k) u := by
      intro c
      by_cases e : s.Op u ∧ s.idx t ≤ s.idx u
      · rw [pin u hun e.1 e.2]; omega
      · rw [pout u hun e]
        rcases c with c | c
        · exact absurd c e
        · exact c
    rcases pcase v hv hc with ⟨c, d, _⟩ | ⟨c, _, _⟩
    · exact up (out v hv c d u hu)
    · exact up (.inr (h.done v hv c u hu))
  · intro u v hu hv hcu hcv
    show paint s.comp s.op s.sl k (s.ol - k) u = paint s.comp s.op s.sl k (s.ol - k) v ↔ _
    rcases pcase u hu hcu with ⟨a, b, c⟩ | ⟨a, b, c⟩ <;> rcases pcase v hv hcv with ⟨a', b', c'⟩ | ⟨a', b', c'⟩
    · rw [c, c']
      exact ⟨fun _ => ⟨(toT _ u (Nat.le_refl _) hu a b).trans (fromT v hv b'), (toT _ v (Nat.le_refl _) hv a' b').trans (fromT u hu b)⟩, fun _ => rfl⟩
    · rw [c, c']
      exact ⟨fun e => by omega, fun e => absurd e.2 (apart u v hu hv a a')⟩
    · rw [c, c']
      exact ⟨fun e => by omega, fun e => absurd e.1 (apart v u hv hu a' a)⟩
    · rw [c, c']
      exact h.scc u v hu hv a a'
  · intro c hc
    have hc' : c < s.sl + 1 := hc
    show 1 < upd s.sz s.sl (s.ol - k) c ↔ ∃ u v, u < n ∧ v < n ∧ u ≠ v ∧ paint s.comp s.op s.sl k (s.ol - k) u = c ∧ paint s.comp s.op s.sl k (s.ol - k) v = c
    by_cases e : c = s.sl
    · subst e
      rw [upd_same]
      constructor
      · intro h1
        refine ⟨s.op (k + 0), s.op (k + 1), h.op_lt _ (by omega), h.op_lt _ (by omega), fun e => ?_, paint_in (by omega), paint_in (by omega)⟩
        have := h.op_up (k + 0) (k + 1) (by omega) (by omega)
        rw [e] at this
        omega
      · rintro ⟨u, v, hu, hv, huv, cu, cv⟩
        rcases pcase u hu (by omega) with ⟨a, b, _⟩ | ⟨_, b, c⟩
        · rcases pcase v hv (by omega) with ⟨a', b', _⟩ | ⟨_, b', c'⟩
          · obtain ⟨i, hi, ei⟩ := sx u hu a b
            obtain ⟨j, hj, ej⟩ := sx v hv a' b'
            have : i ≠ j := fun e => huv (by rw [← ei, ← ej, e])
            omega
          · omega
        · omega
    · rw [upd_ne _ _ _ e]
      have same : ∀ u, u < n → (paint s.comp s.op s.sl k (s.ol - k) u = c ↔ s.comp u = c) := by
        intro u hu
        by_cases e1 : s.Op u ∧ s.idx t ≤ s.idx u
        · rw [pin u hu e1.1 e1.2, e1.1.2]
          constructor <;> intro _ <;> omega
        · rw [pout u hu e1]
      rw [h.size c (by omega)]
      constructor
      · rintro ⟨u, v, hu, hv, huv, cu, cv⟩
        exact ⟨u, v, hu, hv, huv, (same u hu).2 cu, (same v hv).2 cv⟩
      · rintro ⟨u, v, hu, hv, huv, cu, cv⟩
        exact ⟨u, v, hu, hv, huv, (same u hu).1 cu, (same v hv).1 cv⟩
  · exact fun i v hi => h.down i v (Nat.lt_of_lt_of_le hi (Nat.sub_le _ _))
  · intro v hv ho hg'
    obtain ⟨ho', hlt⟩ := (opn v hv).1 ho
    rcases ngr v hg' with e | ⟨e, g⟩
    · subst e; omega
    · obtain ⟨a, x, hx, hox, hix, hr⟩ := h.back v hv ho' g
      exact ⟨a, x, hx, (opn x hx).2 ⟨hox, by omega⟩, hix, hr⟩
  · intro i v hi hv ho hg' hlt hnext
    have hi' : i < s.cl - 1 := hi
    obtain ⟨ho', hlt'⟩ := (opn v hv).1 ho
    have hnext2 : i + 1 < s.cl - 1 → s.idx v < s.idx (s.ct (i + 1)) := hnext
    rcases ngr v hg' with e | ⟨e, g⟩
    · subst e; omega
    · refine h.under i v (by omega) hv ho' g hlt fun _ => ?_
      by_cases ei : i + 1 < s.cl - 1
      · exact hnext2 ei
      · rw [show i + 1 = s.cl - 1 by omega, ht]; exact hlt'
  · intro i hi
    have hi' : i < s.cl - 1 := hi
    obtain ⟨a, x, hx, hox, hix, hr⟩ := h.own i (by omega)
    have := htop i hi'
    exact ⟨a, x, hx, (opn x hx).2 ⟨hox, by omega⟩, hix, hr⟩

/-- With no call left, none is open. -/
theorem TI.none_open {n : Nat} {nx : Nat → List Nat} {s : TS} (h : TI n nx s) (hcl : s.cl = 0) : ∀ v, v < n → ¬ s.Op v := by
  have key : ∀ m v, s.idx v ≤ m → v < n → ¬ s.Op v := by
    intro m
    induction m with
    | zero => intro v hm _ ho; exact ho.1 (by omega)
    | succ m ih =>
      intro v hm hv ho
      obtain ⟨a, x, hx, hox, hix, _⟩ := h.back v hv ho (fun ⟨i, hi, _⟩ => by omega)
      exact ih x (by omega) hx hox
  exact fun v hv => key _ v (Nat.le_refl _) hv

/-- The components as the search leaves them. -/
structure Comps (n : Nat) (nx : Nat → List Nat) (comp : Nat → Int) (sz : Nat → Nat) (sl : Nat) : Prop where
  of : ∀ v, v < n → 0 ≤ comp v ∧ comp v < (sl : Int)
  scc : ∀ u v, u < n → v < n → (comp u = comp v ↔ Rc nx u v ∧ Rc nx v u)
  size : ∀ c, c < sl → (1 < sz c ↔ ∃ u v, u < n ∧ v < n ∧ u ≠ v ∧ comp u = c ∧ comp v = c)

theorem TI.comps {n : Nat} {nx : Nat → List Nat} {s : TS} (h : TI n nx s) (hcl : s.cl = 0) (all : ∀ v, v < n → s.idx v ≠ 0) : Comps n nx s.comp s.sz s.sl := by
  have of : ∀ v, v < n → 0 ≤ s.comp v ∧ s.comp v < (s.sl : Int) := by
    intro v hv
    rcases h.comp_of v hv with c | ⟨a, b, _⟩
    · exact absurd ⟨all v hv, c⟩ (h.none_open hcl v hv)
    · exact ⟨a, b⟩
  exact ⟨of, fun u v hu hv => h.scc u v hu hv (of u hu).1 (of v hv).1, h.size⟩

end Go.Proofs.Ybulkcuye.A
