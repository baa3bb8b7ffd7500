/- What the walk of 'cycle' (func 8) wants besides. -/
import Derived.Test.YbulkcuyeAMap
namespace Go.Proofs.Ybulkcuye.A
open Go.RowKit

/-- A component of more than one is one with a closed walk. -/
theorem Comps.big {n : Nat} {nx : Nat → List Nat} {comp : Nat → Int} {sz : Nat → Nat} {sl : Nat} (h : Comps n nx comp sz sl) (g : Gr n nx) {t c : Nat} (ht : t < n) (hc : comp t = (c : Int)) : 1 < sz c ↔ ∃ k, 0 < k ∧ Wk nx k t t := by
  have hcs : c < sl := by have := (h.of t ht).2; omega
  constructor
  · intro h1
    obtain ⟨u, v, hu, hv, huv, hcu, hcv⟩ := (h.size c hcs).1 h1
    have key : ∀ u, u < n → comp u = (c : Int) → u ≠ t → ∃ k, 0 < k ∧ Wk nx k t t := by
      intro u hu hcu hne
      obtain ⟨⟨j, hj⟩, ⟨k, hk⟩⟩ := (h.scc t u ht hu).1 (by rw [hc, hcu])
      refine ⟨j + k, ?_, hj.append hk⟩
      rcases Nat.eq_zero_or_pos j with e | e
      · subst e
        exact absurd (show t = u from hj).symm hne
      · omega
    by_cases e : u = t
    · exact key v hv hcv (fun e2 => huv (by rw [e, e2]))
    · exact key u hu hcu e
  · rintro ⟨k, hk, hw⟩
    obtain ⟨k, rfl⟩ : ∃ m, k = m + 1 := ⟨k - 1, by omega⟩
    obtain ⟨m, hm, hw⟩ := hw
    have hmn := g.lt t ht m hm
    have := (h.scc t m ht hmn).2 ⟨Rc.edge hm, ⟨k, hw⟩⟩
    exact (h.size c hcs).2 ⟨t, m, ht, hmn, fun e => g.ne t m hm e.symm, hc, by rw [← this, hc]⟩

/-- Being of s's component. -/
def Tc (n : Nat) (comp : Nat → Int) (s v : Nat) : Prop := v < n ∧ comp v = comp s

theorem Comps.back {n : Nat} {nx : Nat → List Nat} {comp : Nat → Int} {sz : Nat → Nat} {sl : Nat} (h : Comps n nx comp sz sl) (g : Gr n nx) {s : Nat} (hs : s < n) : ∀ u v, Rc nx s u → v ∈ nx u → Tc n comp s v → Tc n comp s u := by
  intro u v hr hv ⟨hvn, hc⟩
  have hun := g.rc_lt hr hs
  refine ⟨hun, (h.scc u s hun hs).2 ⟨?_, hr⟩⟩
  exact (Rc.edge hv).trans ((h.scc v s hvn hs).1 hc).1

/-- The state of the search in memory. -/
structure CY (mb C n s : Nat) (nx : Nat → List Nat) (comp : Nat → Int) (i : Nat) (part : Nat → Prop) (q : Nat → Nat) (ql : Nat) (d : Nat → Nat) (fr : Nat → Option Nat) (vq : Value) (wr : World) : Prop where
  bi : BI nx (Tc n comp s) s q ql i d part
  no : ∀ a, a < i → s ∉ nx (q a)
  ps : ∀ x, part x → x ≠ s
  fk : ∀ a, 0 < a → a < ql → ∃ c, c < ql ∧ fr (q a) = some (q c) ∧ q a ∈ nx (q c) ∧ d (q a) = d (q c) + 1
  fn : ∀ v, (∀ a, 0 < a → a < ql → q a ≠ v) → fr v = none
  mp : MP wr mb ql fr
  sl : Slc wr C 3 1 vq ql (nv q)

theorem CY.start {mb C n s : Nat} {nx : Nat → List Nat} {comp : Nat → Int} {w : World} (hs : s < n) (hsz : w.heap.size = mb) (hC : C = mb + 1) :
    CY mb C n s nx comp 0 (fun _ => False) (fun _ => s) 1 (fun _ => 0) (fun _ => none) (.slice (some ⟨mb + 1, 0, none⟩) 1 1) ((w.alloc (.map #[] 0)).alloc (.cells #[.int .i64 (s : Int)] 3)) := by
  have h0 := World.rowIs_alloc (w.alloc (.map #[] 0)) #[.int .i64 (s : Int)] 3 (nv fun _ => s) (fun i hi => by simp at hi; subst hi; rfl)
  simp [hsz] at h0
  have hm := MP.made w
  rw [hsz] at hm
  obtain ⟨D, hD⟩ := hm.of (w' := (w.alloc (.map #[] 0)).alloc (.cells #[.int .i64 (s : Int)] 3)) (Below.heap_alloc _ _ _ (by simp; omega))
  refine ⟨BI.init nx _ s ⟨hs, rfl⟩ _ _ rfl rfl, fun a ha => by omega, (fun x hx => hx.elim), fun a h1 h2 => by omega, fun _ _ => rfl, ⟨D, hD.1.mono (by omega), hD.2⟩, ?_⟩
  exact Slc.made h0 (by omega) (Nat.le_refl _) (by unfold maxLen; omega)

/-- One that is new. -/
theorem CY.add {mb C n s i u : Nat} {nx : Nat → List Nat} {comp : Nat → Int} {part part' : Nat → Prop} {q : Nat → Nat} {ql : Nat} {d : Nat → Nat} {fr : Nat → Option Nat} {vq v' : Value} {wr w' : World}
    (h : CY mb C n s nx comp i part q ql d fr vq wr) (hi : i < ql) (hu : u ∈ nx (q i)) (hT : Tc n comp s u) (hus : u ≠ s) (hnone : fr u = none) (hp : ∀ x, part' x → part x ∨ x = u)
    (hm : MP w' mb (ql + 1) (upd fr u (some (q i)))) (hsl : Slc w' C 3 1 v' (ql + 1) (upd (nv q) ql (.int .i64 (u : Int)))) :
    CY mb C n s nx comp i part' (upd q ql u) (ql + 1) (upd d u (d (q i) + 1)) (upd fr u (some (q i))) v' w' := by
  have hnew : ∀ b, b < ql → q b ≠ u := by
    intro b hb e
    rcases Nat.eq_zero_or_pos b with c | c
    · subst c; rw [h.bi.start] at e; exact hus e.symm
    · obtain ⟨_, _, h1, _⟩ := h.fk b c hb
      rw [e, hnone] at h1
      cases h1
  have hq : ∀ a, a < ql → upd q ql u a = q a := fun a ha => upd_ne _ _ _ (by omega)
  refine ⟨(h.bi.add hi hu hT hnew).parts hp, fun a ha => by rw [hq a (by omega)]; exact h.no a ha, fun x hx => ?_, fun a h1 h2 => ?_, fun v hv => ?_, hm, ?_⟩
  · rcases hp x hx with c | c
    · exact h.ps x c
    · rw [c]; exact hus
  · by_cases e : a = ql
    · subst e
      refine ⟨i, by omega, ?_, ?_, ?_⟩
      · rw [upd_same, upd_same, hq i hi]
      · rw [upd_same, hq i hi]; exact hu
      · rw [upd_same, upd_same, hq i hi, upd_ne _ _ _ (hnew i hi)]
    · obtain ⟨c, hc, h3, h4, h5⟩ := h.fk a h1 (by omega)
      refine ⟨c, by omega, ?_, ?_, ?_⟩
      · rw [hq a (by omega), hq c hc, upd_ne _ _ _ (hnew a (by omega))]; exact h3
      · rw [hq a (by omega), hq c hc]; exact h4
      · rw [hq a (by omega), hq c hc, upd_ne _ _ _ (hnew a (by omega)), upd_ne _ _ _ (hnew c hc)]; exact h5
  · have hne : v ≠ u := fun e => hv ql h.bi.pos (by omega) (by rw [upd_same, e])
    rw [upd_ne _ _ _ hne]
    exact h.fn v fun a h1 h2 => by have := hv a h1 (by omega); rw [hq a h2] at this; exact this
  · refine hsl.congr fun i _ => ?_
    unfold nv upd
    by_cases e : i = ql <;> simp [e]

/-- One that is reached, or of another component. -/
theorem CY.skip {mb C n s i u : Nat} {nx : Nat → List Nat} {comp : Nat → Int} {part part' : Nat → Prop} {q : Nat → Nat} {ql : Nat} {d : Nat → Nat} {fr : Nat → Option Nat} {vq : Value} {wr : World}
    (h : CY mb C n s nx comp i part q ql d fr vq wr) (hi : i < ql) (hus : u ≠ s) (hs : ¬ Tc n comp s u ∨ fr u ≠ none) (hp : ∀ x, part' x → part x ∨ x = u) : CY mb C n s nx comp i part' q ql d fr vq wr := by
  refine ⟨(h.bi.skip (v := u) hi ?_).parts hp, h.no, fun x hx => ?_, h.fk, h.fn, h.mp, h.sl⟩
  · rcases hs with c | c
    · exact .inl c
    · refine .inr (.inr ?_)
      by_cases e : ∃ b, b < ql ∧ q b = u
      · exact e
      · exact absurd (h.fn u fun a _ h2 e2 => e ⟨a, h2, e2⟩) c
  · rcases hp x hx with c | c
    · exact h.ps x c
    · rw [c]; exact hus

theorem CY.next {mb C n s i : Nat} {nx : Nat → List Nat} {comp : Nat → Int} {part : Nat → Prop} {q : Nat → Nat} {ql : Nat} {d : Nat → Nat} {fr : Nat → Option Nat} {vq : Value} {wr : World}
    (h : CY mb C n s nx comp i part q ql d fr vq wr) (hi : i < ql) (hp : ∀ v, v ∈ nx (q i) → part v) : CY mb C n s nx comp (i + 1) (fun _ => False) q ql d fr vq wr :=
  ⟨h.bi.next hi hp, fun a ha => by
    by_cases e : a = i
    · subst e; exact fun c => h.ps s (hp s c) rfl
    · exact h.no a (by omega), (fun x hx => hx.elim), h.fk, h.fn, h.mp, h.sl⟩

theorem CY.of {mb C n s i : Nat} {nx : Nat → List Nat} {comp : Nat → Int} {part : Nat → Prop} {q : Nat → Nat} {ql : Nat} {d : Nat → Nat} {fr : Nat → Option Nat} {vq : Value} {wr w' : World}
    (h : CY mb C n s nx comp i part q ql d fr vq wr) (e : ∀ b : Nat, w'.heap[b]? = wr.heap[b]?) : CY mb C n s nx comp i part q ql d fr vq w' :=
  ⟨h.bi, h.no, h.ps, h.fk, h.fn, h.mp.of (e mb), h.sl.of (fun b _ => e b)⟩

/-- What 'cycle' leaves where there is one: the first of the order that lies on a closed walk, and a shortest walk through it. -/
structure Cyc (w' : World) (B n : Nat) (nx : Nat → List Nat) (tx : Nat → Nat) (i0 b L cap : Nat) (c : Nat → Nat) : Prop where
  lt : i0 < n
  first : ∀ i, i < i0 → ∀ k, 0 < k → ¬ Wk nx k (tx i) (tx i)
  least : Least nx (tx i0) L
  sl : Slc w' B 3 1 (.slice (some ⟨b, 0, none⟩) L cap) L (nv c)
  head : c 0 = tx i0
  edge : ∀ i, i + 1 < L → c (i + 1) ∈ nx (c i)
  last : tx i0 ∈ nx (c (L - 1))
  clt : ∀ i, i < L → c i < n
  inj : ∀ i j, i < j → j < L → c i ≠ c j
  small : L ≤ 200

end Go.Proofs.Ybulkcuye.A
