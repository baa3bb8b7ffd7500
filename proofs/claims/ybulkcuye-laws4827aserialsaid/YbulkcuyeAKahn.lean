/- Plain: placing the ready ones places all of them just where no closed walk is. No Go in sight. -/
import Derived.Test.YbulkcuyeABfs
namespace Go.Proofs.Ybulkcuye.A

/-- How many edges into v are not yet taken. -/
def into (n : Nat) (nx : Nat → List Nat) (pe : Nat → Nat) (v : Nat) : Nat := tot (fun f => ((nx f).drop (pe f)).count v) n

theorem tot_zero {f : Nat → Nat} : ∀ {n : Nat}, tot f n = 0 → ∀ v, v < n → f v = 0
  | 0, _, v, h => by omega
  | n + 1, h, v, hv => by
    simp only [tot] at h
    by_cases e : v = n
    · subst e; omega
    · exact tot_zero (n := n) (by omega) v (by omega)

theorem tot_pos {f : Nat → Nat} : ∀ {n : Nat}, tot f n ≠ 0 → ∃ v, v < n ∧ f v ≠ 0
  | 0, h => absurd rfl h
  | n + 1, h => by
    simp only [tot] at h
    by_cases e : f n = 0
    · obtain ⟨v, hv, hf⟩ := tot_pos (f := f) (n := n) (by omega)
      exact ⟨v, by omega, hf⟩
    · exact ⟨n, by omega, e⟩

theorem tot_same {f g : Nat → Nat} : ∀ {n : Nat}, (∀ v, v < n → f v = g v) → tot f n = tot g n
  | 0, _ => rfl
  | n + 1, h => by
    simp only [tot]
    rw [tot_same (n := n) fun v hv => h v (by omega), h n (by omega)]

/-- Two sums that part at one place. -/
theorem tot_at {f g : Nat → Nat} {x : Nat} : ∀ {n : Nat}, x < n → (∀ v, v < n → v ≠ x → f v = g v) → tot f n + g x = tot g n + f x
  | 0, h, _ => by omega
  | n + 1, hx, h => by
    simp only [tot]
    by_cases e : x = n
    · subst e
      rw [tot_same (n := x) fun v hv => h v (by omega) (by omega)]
      omega
    · have := tot_at (n := n) (by omega) fun v hv hne => h v (by omega) hne
      rw [h n (by omega) (by omega)]
      omega

/-- One edge t → u is taken. -/
theorem into_take {n : Nat} {nx : Nat → List Nat} {pe : Nat → Nat} {t u : Nat} (ht : t < n) (hu : (nx t)[pe t]? = some u) :
    into n nx (upd pe t (pe t + 1)) u + 1 = into n nx pe u ∧ ∀ v, v ≠ u → into n nx (upd pe t (pe t + 1)) v = into n nx pe v := by
  have hlt := (List.getElem?_eq_some_iff.1 hu).1
  have hd : (nx t).drop (pe t) = u :: (nx t).drop (pe t + 1) := by
    rw [List.drop_eq_getElem_cons hlt]
    congr 1
    exact (List.getElem?_eq_some_iff.1 hu).2
  have key : ∀ v, into n nx (upd pe t (pe t + 1)) v + ((nx t).drop (pe t)).count v = into n nx pe v + ((nx t).drop (pe t + 1)).count v := by
    intro v
    have := tot_at (f := fun f => ((nx f).drop (upd pe t (pe t + 1) f)).count v) (g := fun f => ((nx f).drop (pe f)).count v) ht (fun f _ hne => by simp only [upd_ne _ _ _ hne])
    simp only [upd_same] at this
    exact this
  constructor
  · have := key u
    rw [hd, List.count_cons_self] at this
    omega
  · intro v hv
    have := key v
    rw [hd, List.count_cons_of_ne (fun e => hv e.symm)] at this
    omega

/-- The state: the edges into each that are not yet taken, the ready ones, the placed ones; 'cur': the one whose edges are being taken. -/
structure KI (n : Nat) (nx : Nat → List Nat) (inn : Nat → Int) (pe : Nat → Nat) (hq : Nat → Nat) (hl : Nat) (o : Nat → Nat) (ol : Nat) (cur : Option Nat) : Prop where
  cnt : ∀ v, v < n → inn v = (into n nx pe v : Int)
  hlt : ∀ b, b < hl → hq b < n
  olt : ∀ a, a < ol → o a < n
  hinj : ∀ a b, a < b → b < hl → hq a ≠ hq b
  oinj : ∀ a b, a < b → b < ol → o a ≠ o b
  apart : ∀ a b, a < ol → b < hl → o a ≠ hq b
  zero : ∀ v, v < n → (inn v = 0 ↔ (∃ a, a < ol ∧ o a = v) ∨ ∃ b, b < hl ∧ hq b = v)
  out : ∀ f, f < n → (∀ a, a < ol → o a ≠ f) → pe f = 0
  all : ∀ a, a < ol → cur ≠ some (o a) → pe (o a) = (nx (o a)).length
  top : ∀ a, a < ol → ∀ f, f < n → o a ∈ nx f → ∃ b, b < a ∧ o b = f

/-- A ready one's predecessors are placed. -/
theorem KI.preds {n : Nat} {nx : Nat → List Nat} {inn : Nat → Int} {pe hq : Nat → Nat} {hl : Nat} {o : Nat → Nat} {ol : Nat} {cur : Option Nat} (h : KI n nx inn pe hq hl o ol cur) {v : Nat} (hv : v < n) (h0 : inn v = 0) :
    ∀ f, f < n → v ∈ nx f → ∃ b, b < ol ∧ o b = f := by
  intro f hf hvf
  have h1 : into n nx pe v = 0 := by have := h.cnt v hv; omega
  have h2 := tot_zero h1 f hf
  by_cases c : ∃ b, b < ol ∧ o b = f
  · exact c
  · have h3 := h.out f hf (fun a ha e => c ⟨a, ha, e⟩)
    simp only [h3, List.drop_zero] at h2
    exact absurd hvf (List.count_eq_zero.1 h2)

theorem o_walk {n : Nat} {nx : Nat → List Nat} {o : Nat → Nat} {ol : Nat} (g : Gr n nx) (top : ∀ a, a < ol → ∀ f, f < n → o a ∈ nx f → ∃ b, b < a ∧ o b = f) {s : Nat} (hs : s < n) :
    ∀ k a, a < ol → Wk nx k s (o a) → ∃ b, b + k ≤ a ∧ o b = s
  | 0, a, _, h => ⟨a, by omega, (show s = o a from h).symm⟩
  | k + 1, a, ha, h => by
    obtain ⟨u, hu, hua⟩ := h.last
    obtain ⟨b, hb, e⟩ := top a ha u (g.rc_lt ⟨k, hu⟩ hs) hua
    subst e
    obtain ⟨c, hc, e⟩ := o_walk g top hs k b (by omega) hu
    exact ⟨c, by omega, e⟩

/-- Backwards from v along unplaced ones. -/
theorem back_seq {n : Nat} {nx : Nat → List Nat} {U : Nat → Prop} (hU : ∀ v, v < n → U v → ∃ f, f < n ∧ U f ∧ v ∈ nx f) {v : Nat} (hv : v < n) (hu : U v) : ∃ s k, s < n ∧ 0 < k ∧ Wk nx k s s := by
  have hU' : ∀ x : { x : Nat // x < n ∧ U x }, ∃ y : { y : Nat // y < n ∧ U y }, x.1 ∈ nx y.1 := fun x => by
    obtain ⟨f, h1, h2, h3⟩ := hU x.1 x.2.1 x.2.2
    exact ⟨⟨f, h1, h2⟩, h3⟩
  obtain ⟨p, hp⟩ : ∃ p : { x : Nat // x < n ∧ U x } → { x : Nat // x < n ∧ U x }, ∀ x, x.1 ∈ nx (p x).1 := ⟨fun x => Classical.choose (hU' x), fun x => Classical.choose_spec (hU' x)⟩
  have walk : ∀ (x : Nat → { x : Nat // x < n ∧ U x }), (∀ k, x (k + 1) = p (x k)) → ∀ a k, Wk nx k (x (a + k)).1 (x a).1 := by
    intro x hx a k
    induction k with
    | zero => exact rfl
    | succ k ih =>
      refine ⟨(x (a + k)).1, ?_, ih⟩
      rw [show a + (k + 1) = (a + k) + 1 by omega, hx]
      exact hp _
  obtain ⟨x, hx⟩ : ∃ x : Nat → { x : Nat // x < n ∧ U x }, ∀ k, x (k + 1) = p (x k) := ⟨fun k => Nat.rec ⟨v, hv, hu⟩ (fun _ y => p y) k, fun _ => rfl⟩
  by_cases c : ∀ a b, a < b → b < n + 1 → (x a).1 ≠ (x b).1
  · have := pigeon n (n + 1) (fun a => (x a).1) (fun a _ => (x a).2.1) c
    omega
  · simp only [Classical.not_forall, Classical.not_not] at c
    obtain ⟨a, b, hab, _, e⟩ := c
    have := walk x hx a (b - a)
    rw [show a + (b - a) = b by omega, e] at this
    exact ⟨(x b).1, b - a, (x b).2.1, by omega, this⟩

theorem KI.ends {n : Nat} {nx : Nat → List Nat} {inn : Nat → Int} {pe hq : Nat → Nat} {hl : Nat} {o : Nat → Nat} {ol : Nat} (h : KI n nx inn pe hq hl o ol none) (g : Gr n nx) (hz : hl = 0) :
    ol = n ↔ ∀ s k, s < n → 0 < k → ¬ Wk nx k s s := by
  constructor
  · intro e s k hs hk hw
    have hin : ∃ a, a < ol ∧ o a = s := by
      by_cases c : ∃ a, a < ol ∧ o a = s
      · exact c
      · have := pigeon n (n + 1) (fun a => if a < n then o a else s) (fun a ha => by
          by_cases c : a < n
          · simp only [c, if_true]; exact h.olt a (by omega)
          · simp only [c, if_false]; exact hs) (fun a b hab hb => by
          have ca : a < n := by omega
          by_cases cb : b < n
          · simp only [ca, cb, if_true]; exact h.oinj a b hab (by omega)
          · simp only [ca, cb, if_true, if_false]; exact fun e => c ⟨a, by omega, e⟩)
        omega
    obtain ⟨a, ha, e1⟩ := hin
    subst e1
    obtain ⟨b, hb, e2⟩ := o_walk g h.top hs k a ha hw
    exact absurd e2 (h.oinj b a (by omega) ha)
  · intro hno
    rcases Nat.lt_or_ge ol n with c | c
    · exfalso
      have hex : ∃ v, v < n ∧ ∀ a, a < ol → o a ≠ v := by
        by_cases c2 : ∀ v, v < n → ∃ a, a < ol ∧ o a = v
        · have c3 : ∀ v, ∃ a, v < n → a < ol ∧ o a = v := fun v => by
            by_cases hv : v < n
            · obtain ⟨a, h1⟩ := c2 v hv
              exact ⟨a, fun _ => h1⟩
            · exact ⟨0, fun h => absurd h hv⟩
          have := pigeon ol n (fun v => Classical.choose (c3 v)) (fun v hv => (Classical.choose_spec (c3 v) hv).1) (fun a b hab hb e => by
            have h1 := (Classical.choose_spec (c3 a) (by omega)).2
            have h2 := (Classical.choose_spec (c3 b) hb).2
            rw [e] at h1
            omega)
          omega
        · simp only [Classical.not_forall] at c2
          obtain ⟨v, hv, hne⟩ := c2
          exact ⟨v, hv, fun a ha e => hne ⟨a, ha, e⟩⟩
      obtain ⟨v, hv, hvo⟩ := hex
      obtain ⟨s, k, h1, h2, h3⟩ := back_seq (n := n) (nx := nx) (U := fun v => ∀ a, a < ol → o a ≠ v) (fun v hv hvo => by
        have h0 : inn v ≠ 0 := fun e => by
          rcases (h.zero v hv).1 e with ⟨a, ha, e⟩ | ⟨b, hb, _⟩
          · exact hvo a ha e
          · omega
        have h1 := h.cnt v hv
        obtain ⟨f, hf, h2⟩ := tot_pos (n := n) (f := fun f => ((nx f).drop (pe f)).count v) (by unfold into at h1; omega)
        have h3 := List.count_pos_iff.1 (Nat.pos_of_ne_zero h2)
        refine ⟨f, hf, fun a ha e => ?_, List.mem_of_mem_drop h3⟩
        subst e
        rw [h.all a ha (by simp), List.drop_length] at h3
        cases h3) hv hvo
      exact hno s k h1 h2 h3
    · have := pigeon n ol o h.olt h.oinj
      omega

end Go.Proofs.Ybulkcuye.A
