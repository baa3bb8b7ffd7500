/- The search's steps, each with what it does of what is left. -/
import Derived.Test.YbulkcuyeACompB
namespace Go.Proofs.Ybulkcuye.A
open Go.RowKit

theorem step_reach {n k t u : Nat} {nx : Nat → List Nat} {s : TS} (h : TI n nx s) (hk : s.cl = k + 1) (ht : s.ct k = t) (hu : (nx t)[s.pr t]? = some u) (hun : u < n) (h0 : s.idx u = 0) :
    TI n nx (s.reach (upd s.pr t (s.pr t + 1)) u) ∧ (s.reach (upd s.pr t (s.pr t + 1)) u).todo n nx < s.todo n nx ∧ (∀ v, s.idx v ≠ 0 → (s.reach (upd s.pr t (s.pr t + 1)) u).idx v ≠ 0) ∧ ∀ i, i < s.cl → s.ct i ≠ u := by
  have htn : t < n := ht ▸ h.ct_lt k (by omega)
  have hot : s.Op t := ht ▸ h.ct_op k (by omega)
  have htu : t ≠ u := fun e => hot.1 (e ▸ h0)
  have hpl : s.pr t ≤ (nx t).length := ht ▸ h.pr_le k (by omega)
  have hid : ∀ v, v ≠ u → (s.reach (upd s.pr t (s.pr t + 1)) u).idx v = s.idx v := fun v hv => upd_ne _ _ _ hv
  refine ⟨h.reach hun h0 _ (fun v hv h1 => ?_) (fun _ => ?_), ?_, fun v hv => ?_, fun i hi e => (h.ct_op i hi).1 (e ▸ h0)⟩
  · by_cases e : v = t
    · subst e; exact .inr ⟨upd_same _ _ _, hu, ⟨k, by omega, ht⟩⟩
    · exact .inl (upd_ne _ _ _ e)
  · rw [show s.cl - 1 = k by omega, ht]; exact List.mem_of_getElem? hu
  · refine todo_lt htn hot.1 (by rw [hid t htu]; exact hot.1) ?_ hpl fun v _ hvt => ?_
    · show s.pr t < upd (upd s.pr t (s.pr t + 1)) u 0 t
      rw [upd_ne _ _ _ htu, upd_same]
      omega
    · by_cases e : v = u
      · subst e
        unfold TS.left
        rw [if_pos h0, if_neg (by show upd s.idx v _ v ≠ 0; rw [upd_same]; omega)]
        omega
      · unfold TS.left
        rw [hid v e]
        show (if s.idx v = 0 then (nx v).length + 2 else (nx v).length + 1 - upd (upd s.pr t (s.pr t + 1)) u 0 v) ≤ _
        rw [upd_ne _ _ _ e, upd_ne _ _ _ hvt]
        exact Nat.le_refl _
  · by_cases e : v = u
    · subst e; exact absurd h0 hv
    · rw [hid v e]; exact hv

theorem left_pr {n t : Nat} {nx : Nat → List Nat} {s s' : TS} (hi : s'.idx = s.idx) (hp : s'.pr = upd s.pr t (s.pr t + 1)) (ht : t < n) (h1 : s.idx t ≠ 0) (hpl : s.pr t ≤ (nx t).length) : s'.todo n nx < s.todo n nx := by
  refine todo_lt ht h1 (by rw [hi]; exact h1) (by rw [hp, upd_same]; omega) hpl fun v _ hvt => ?_
  unfold TS.left
  rw [hi, hp, upd_ne _ _ _ hvt]
  exact Nat.le_refl _

theorem step_scan {n k t u l : Nat} {nx : Nat → List Nat} {s : TS} (h : TI n nx s) (hk : s.cl = k + 1) (ht : s.ct k = t) (hu : (nx t)[s.pr t]? = some u) (hun : u < n) (h0 : s.idx u ≠ 0)
    (hl : (s.comp u = -1 ∧ l = min (s.low t) (s.idx u)) ∨ (0 ≤ s.comp u ∧ l = s.low t)) :
    TI n nx { s with pr := upd s.pr t (s.pr t + 1), low := upd s.low t l } ∧ TS.todo n nx { s with pr := upd s.pr t (s.pr t + 1), low := upd s.low t l } < s.todo n nx :=
  ⟨h.scan (by omega) (by rw [show s.cl - 1 = k by omega]; exact ht) hu hun h0 hl, left_pr rfl rfl (ht ▸ h.ct_lt k (by omega)) (ht ▸ (h.ct_op k (by omega)).1) (ht ▸ h.pr_le k (by omega))⟩

theorem upd_id {α : Type} (f : Nat → α) (i : Nat) : upd f i (f i) = f := by
  funext j
  unfold upd
  by_cases e : j = i
  · subst e; simp
  · simp [e]

theorem step_leave {n k t : Nat} {nx : Nat → List Nat} {s : TS} {l : Nat → Nat} (h : TI n nx s) (hk : s.cl = k + 1) (ht : s.ct k = t) (hpr : s.pr t = (nx t).length) (hne : s.low t ≠ s.idx t)
    (hl : (0 < k ∧ l = upd s.low (s.ct (k - 1)) (min (s.low (s.ct (k - 1))) (s.low t))) ∨ (k = 0 ∧ l = s.low)) :
    TI n nx { s with cl := k, pr := upd s.pr t (s.pr t + 1), low := l } ∧ TS.todo n nx { s with cl := k, pr := upd s.pr t (s.pr t + 1), low := l } < s.todo n nx := by
  have e : k = s.cl - 1 := by omega
  have := h.leave (l := l) (by omega) (by rw [← e]; exact ht) hpr hne (by
    rcases hl with ⟨a, b⟩ | ⟨a, b⟩
    · exact .inl ⟨by omega, by rw [show s.cl - 2 = k - 1 by omega]; exact b⟩
    · exact .inr ⟨by omega, b⟩)
  rw [← e] at this
  exact ⟨this, left_pr rfl rfl (ht ▸ h.ct_lt k (by omega)) (ht ▸ (h.ct_op k (by omega)).1) (Nat.le_of_eq hpr)⟩

theorem step_shut {n k t K : Nat} {nx : Nat → List Nat} {s : TS} (h : TI n nx s) (g : Gr n nx) (hk : s.cl = k + 1) (ht : s.ct k = t) (hpr : s.pr t = (nx t).length) (heq : s.low t = s.idx t) (hK : K < s.ol) (hKt : s.op K = t) :
    TI n nx { s with cl := k, pr := upd s.pr t (s.pr t + 1), comp := paint s.comp s.op s.sl K (s.ol - K), ol := K, sz := upd s.sz s.sl (s.ol - K), sl := s.sl + 1 } ∧
      TS.todo n nx { s with cl := k, pr := upd s.pr t (s.pr t + 1), comp := paint s.comp s.op s.sl K (s.ol - K), ol := K, sz := upd s.sz s.sl (s.ol - K), sl := s.sl + 1 } < s.todo n nx := by
  have e : k = s.cl - 1 := by omega
  have := h.shut g (by omega) (by rw [← e]; exact ht) hpr heq hK hKt
  rw [← e] at this
  exact ⟨this, left_pr rfl rfl (ht ▸ h.ct_lt k (by omega)) (ht ▸ (h.ct_op k (by omega)).1) (Nat.le_of_eq hpr)⟩

/-- Where the one on top heads its component, the parent's low number is not turned. -/
theorem low_parent {n k t : Nat} {nx : Nat → List Nat} {s : TS} (h : TI n nx s) (hk : s.cl = k + 1) (ht : s.ct k = t) (heq : s.low t = s.idx t) (hk0 : 0 < k) : min (s.low (s.ct (k - 1))) (s.low t) = s.low (s.ct (k - 1)) := by
  have h1 := (h.own (k - 1) (by omega)).1
  have h2 := h.ct_up (k - 1) k (by omega) (by omega)
  rw [ht] at h2
  omega

/-- The one on top lies among the open ones. -/
theorem top_open {n k t : Nat} {nx : Nat → List Nat} {s : TS} (h : TI n nx s) (hk : s.cl = k + 1) (ht : s.ct k = t) : ∃ K, K < s.ol ∧ s.op K = t ∧ ∀ i, K < i → i < s.ol → s.op i ≠ t := by
  obtain ⟨K, hK, e⟩ := h.op_all t (ht ▸ h.ct_lt k (by omega)) (ht ▸ h.ct_op k (by omega))
  refine ⟨K, hK, e, fun i h1 h2 e2 => ?_⟩
  have := h.op_up K i h1 h2
  rw [e, e2] at this
  omega

end Go.Proofs.Ybulkcuye.A
