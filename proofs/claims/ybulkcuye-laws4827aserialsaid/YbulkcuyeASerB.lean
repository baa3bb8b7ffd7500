/- Plain steps for 'serialOrder'. -/
import Derived.Test.YbulkcuyeAPushW
import Derived.Test.YbulkcuyeABuildB
namespace Go.Proofs.Ybulkcuye.A
open Go.RowKit

/-- The rest of a heap whose first was taken. -/
theorem rest_mem {m : Nat} {q : Nat → Nat} (hin : ∀ a b, a < b → b < m + 1 → q a ≠ q b) (v : Nat) : (∃ b, b < m ∧ upd q 0 (q m) b = v) ↔ (∃ b, b < m + 1 ∧ q b = v) ∧ v ≠ q 0 := by
  constructor
  · rintro ⟨b, hb, e⟩
    by_cases e0 : b = 0
    · subst e0
      rw [upd_same] at e
      exact ⟨⟨m, by omega, e⟩, fun c => hin 0 m (by omega) (by omega) (by rw [e]; exact c.symm)⟩
    · rw [upd_ne _ _ _ e0] at e
      exact ⟨⟨b, by omega, e⟩, fun c => hin 0 b (by omega) (by omega) (by rw [e]; exact c.symm)⟩
  · rintro ⟨⟨b, hb, e⟩, hne⟩
    have hb0 : b ≠ 0 := fun c => hne (by rw [← e, c])
    by_cases em : b = m
    · exact ⟨0, by omega, by rw [upd_same, ← em]; exact e⟩
    · exact ⟨b, by omega, by rw [upd_ne _ _ _ hb0]; exact e⟩

theorem rest_inj {m : Nat} {q : Nat → Nat} (hin : ∀ a b, a < b → b < m + 1 → q a ≠ q b) : ∀ a b, a < b → b < m → upd q 0 (q m) a ≠ upd q 0 (q m) b := by
  intro a b hab hb
  rw [upd_ne _ _ _ (show b ≠ 0 by omega)]
  by_cases e : a = 0
  · subst e; rw [upd_same]; exact fun c => hin b m (by omega) (by omega) c.symm
  · rw [upd_ne _ _ _ e]; exact hin a b hab (by omega)

theorem KI.pop {n m : Nat} {nx : Nat → List Nat} {inn : Nat → Int} {pe q q' : Nat → Nat} {o : Nat → Nat} {ol : Nat} (h : KI n nx inn pe q (m + 1) o ol none) (hm : Mix m (upd q 0 (q m)) q') :
    KI n nx inn pe q' m (upd o ol (q 0)) (ol + 1) (some (q 0)) := by
  have mem : ∀ v, (∃ b, b < m ∧ q' b = v) ↔ (∃ b, b < m + 1 ∧ q b = v) ∧ v ≠ q 0 := fun v => (hm.1 v).trans (rest_mem h.hinj v)
  have ho : ∀ a, a < ol → upd o ol (q 0) a = o a := fun a ha => upd_ne _ _ _ (by omega)
  have h0n := h.hlt 0 (by omega)
  have h00 : inn (q 0) = 0 := (h.zero _ h0n).2 (.inr ⟨0, by omega, rfl⟩)
  refine ⟨h.cnt, fun b hb => ?_, fun a ha => ?_, hm.2 (rest_inj h.hinj), fun a b hab hb => ?_, fun a b ha hb => ?_, fun v hv => ?_, fun f hf hfo => ?_, fun a ha hc => ?_, fun a ha f hf hof => ?_⟩
  · obtain ⟨⟨c, hc, e⟩, _⟩ := (mem (q' b)).1 ⟨b, hb, rfl⟩
    rw [← e]; exact h.hlt c hc
  · by_cases e : a = ol
    · subst e; rw [upd_same]; exact h0n
    · rw [ho a (by omega)]; exact h.olt a (by omega)
  · rw [ho a (by omega)]
    by_cases e : b = ol
    · subst e; rw [upd_same]; exact h.apart a 0 (by omega) (by omega)
    · rw [ho b (by omega)]; exact h.oinj a b hab (by omega)
  · obtain ⟨⟨c, hc, e⟩, hne⟩ := (mem (q' b)).1 ⟨b, hb, rfl⟩
    by_cases ea : a = ol
    · subst ea; rw [upd_same]; exact fun c => hne c.symm
    · rw [ho a (by omega), ← e]; exact h.apart a c (by omega) hc
  · rw [h.zero v hv]
    constructor
    · rintro (⟨a, ha, e⟩ | ⟨b, hb, e⟩)
      · exact .inl ⟨a, by omega, by rw [ho a ha]; exact e⟩
      · by_cases c : v = q 0
        · exact .inl ⟨ol, by omega, by rw [upd_same, c]⟩
        · exact .inr ((mem v).2 ⟨⟨b, hb, e⟩, c⟩)
    · rintro (⟨a, ha, e⟩ | hb)
      · by_cases ea : a = ol
        · subst ea; rw [upd_same] at e; exact .inr ⟨0, by omega, e⟩
        · rw [ho a (by omega)] at e; exact .inl ⟨a, by omega, e⟩
      · exact .inr ((mem v).1 hb).1
  · exact h.out f hf fun a ha => by have := hfo a (by omega); rw [ho a ha] at this; exact this
  · by_cases e : a = ol
    · subst e; rw [upd_same] at hc; exact absurd rfl hc
    · rw [ho a (by omega)]; exact h.all a (by omega) (by simp)
  · by_cases e : a = ol
    · subst e
      rw [upd_same] at hof
      obtain ⟨b, hb, e2⟩ := h.preds h0n h00 f hf hof
      exact ⟨b, hb, by rw [ho b hb]; exact e2⟩
    · rw [ho a (by omega)] at hof
      obtain ⟨b, hb, e2⟩ := h.top a (by omega) f hf hof
      exact ⟨b, hb, by rw [ho b (by omega)]; exact e2⟩

theorem KI.take {n t u : Nat} {nx : Nat → List Nat} {inn : Nat → Int} {pe q : Nat → Nat} {hl : Nat} {o : Nat → Nat} {ol : Nat} (h : KI n nx inn pe q hl o ol (some t)) (g : Gr n nx) (hto : ∃ a, a < ol ∧ o a = t) (hu : (nx t)[pe t]? = some u) :
    1 ≤ inn u ∧ (inn u - 1 ≠ 0 → KI n nx (upd inn u (inn u - 1)) (upd pe t (pe t + 1)) q hl o ol (some t)) ∧
      (inn u - 1 = 0 → ∀ q', Mix (hl + 1) (upd q hl u) q' → KI n nx (upd inn u (inn u - 1)) (upd pe t (pe t + 1)) q' (hl + 1) o ol (some t)) := by
  have htn : t < n := by obtain ⟨a, ha, e⟩ := hto; rw [← e]; exact h.olt a ha
  have hun : u < n := g.lt t htn u (List.mem_of_getElem? hu)
  obtain ⟨hdec, hsame⟩ := into_take htn hu
  have hge : 1 ≤ inn u := by have := h.cnt u hun; omega
  have hcnt : ∀ v, v < n → upd inn u (inn u - 1) v = (into n nx (upd pe t (pe t + 1)) v : Int) := by
    intro v hv
    by_cases e : v = u
    · subst e; rw [upd_same]; have := h.cnt v hv; omega
    · rw [upd_ne _ _ _ e, hsame v e]; exact h.cnt v hv
  have hnot : ¬ ((∃ a, a < ol ∧ o a = u) ∨ ∃ b, b < hl ∧ q b = u) := fun c => by
    have := (h.zero u hun).2 c
    omega
  have hout : ∀ f, f < n → (∀ a, a < ol → o a ≠ f) → upd pe t (pe t + 1) f = 0 := fun f hf hfo => by
    obtain ⟨a, ha, e⟩ := hto
    rw [upd_ne _ _ _ (fun c => hfo a ha (by rw [e, c]))]
    exact h.out f hf hfo
  have hall : ∀ a, a < ol → some t ≠ some (o a) → upd pe t (pe t + 1) (o a) = (nx (o a)).length := fun a ha hc => by
    rw [upd_ne _ _ _ (fun c => hc (by rw [c]))]
    exact h.all a ha hc
  refine ⟨hge, fun hne => ?_, fun heq q' hm => ?_⟩
  · refine ⟨hcnt, h.hlt, h.olt, h.hinj, h.oinj, h.apart, fun v hv => ?_, hout, hall, h.top⟩
    by_cases e : v = u
    · subst e
      rw [upd_same]
      exact ⟨fun c => absurd c hne, fun c => absurd c hnot⟩
    · rw [upd_ne _ _ _ e]; exact h.zero v hv
  · have mem : ∀ v, (∃ b, b < hl + 1 ∧ q' b = v) ↔ (∃ b, b < hl ∧ q b = v) ∨ v = u := by
      intro v
      rw [hm.1 v]
      constructor
      · rintro ⟨b, hb, e⟩
        by_cases c : b = hl
        · subst c; rw [upd_same] at e; exact .inr e.symm
        · rw [upd_ne _ _ _ c] at e; exact .inl ⟨b, by omega, e⟩
      · rintro (⟨b, hb, e⟩ | e)
        · exact ⟨b, by omega, by rw [upd_ne _ _ _ (by omega)]; exact e⟩
        · exact ⟨hl, by omega, by rw [upd_same, e]⟩
    refine ⟨hcnt, fun b hb => ?_, h.olt, hm.2 fun a b hab hb => ?_, h.oinj, fun a b ha hb => ?_, fun v hv => ?_, hout, hall, h.top⟩
    · rcases (mem (q' b)).1 ⟨b, hb, rfl⟩ with ⟨c, hc, e⟩ | e
      · rw [← e]; exact h.hlt c hc
      · rw [e]; exact hun
    · rw [upd_ne _ _ _ (show a ≠ hl by omega)]
      by_cases c : b = hl
      · subst c; rw [upd_same]; exact fun e => hnot (.inr ⟨a, hab, e⟩)
      · rw [upd_ne _ _ _ c]; exact h.hinj a b hab (by omega)
    · rcases (mem (q' b)).1 ⟨b, hb, rfl⟩ with ⟨c, hc, e⟩ | e
      · rw [← e]; exact h.apart a c ha hc
      · rw [e]; exact fun e2 => hnot (.inl ⟨a, ha, e2⟩)
    · by_cases e : v = u
      · subst e
        rw [upd_same]
        exact ⟨fun _ => .inr ((mem v).2 (.inr rfl)), fun _ => heq⟩
      · rw [upd_ne _ _ _ e, h.zero v hv]
        constructor
        · rintro (c | c)
          · exact .inl c
          · exact .inr ((mem v).2 (.inl c))
        · rintro (c | c)
          · exact .inl c
          · rcases (mem v).1 c with d | d
            · exact .inr d
            · exact absurd d e

theorem KI.done {n t : Nat} {nx : Nat → List Nat} {inn : Nat → Int} {pe q : Nat → Nat} {hl : Nat} {o : Nat → Nat} {ol : Nat} (h : KI n nx inn pe q hl o ol (some t)) (ht : pe t = (nx t).length) : KI n nx inn pe q hl o ol none := by
  have hall : ∀ a, a < ol → (none : Option Nat) ≠ some (o a) → pe (o a) = (nx (o a)).length := by
    intro a ha _
    by_cases e : o a = t
    · rw [e]; exact ht
    · exact h.all a ha (fun c => e (by simpa using c.symm))
  exact { h with all := hall }

/-- The order holds every number once. -/
theorem tf_surj {n r : Nat} (hr : r < n) (v : Nat) (hv : v < n) : ∃ i, i < n ∧ tf n r i = v := by
  unfold tf
  by_cases c : r ≤ v
  · exact ⟨v - r, by omega, by rw [show v - r + r = v by omega]; exact Nat.mod_eq_of_lt hv⟩
  · exact ⟨v + n - r, by omega, by rw [show v + n - r + r = v + n by omega, Nat.add_mod_right]; exact Nat.mod_eq_of_lt hv⟩
theorem tf_inj {n r : Nat} (hr : r < n) (i j : Nat) (hij : i < j) (hj : j < n) : tf n r i ≠ tf n r j := by
  unfold tf
  intro e
  have h1 : (i + r) % n = if i + r < n then i + r else i + r - n := by
    by_cases c : i + r < n
    · rw [if_pos c, Nat.mod_eq_of_lt c]
    · rw [if_neg c, Nat.mod_eq_sub_mod (by omega), Nat.mod_eq_of_lt (by omega)]
  have h2 : (j + r) % n = if j + r < n then j + r else j + r - n := by
    by_cases c : j + r < n
    · rw [if_pos c, Nat.mod_eq_of_lt c]
    · rw [if_neg c, Nat.mod_eq_sub_mod (by omega), Nat.mod_eq_of_lt (by omega)]
  rw [h1, h2] at e
  by_cases c1 : i + r < n <;> by_cases c2 : j + r < n <;> simp only [c1, c2, if_true, if_false] at e <;> omega

/-- The first loop: the heap holds those of the first k that no edge leads to. -/
def Rd (n r k : Nat) (inn : Nat → Int) (q : Nat → Nat) (hl : Nat) : Prop := hl ≤ k ∧ (∀ v, (∃ b, b < hl ∧ q b = v) ↔ ∃ i, i < k ∧ tf n r i = v ∧ inn v = 0) ∧ ∀ a b, a < b → b < hl → q a ≠ q b

theorem Rd.skip {n r k : Nat} {inn : Nat → Int} {q : Nat → Nat} {hl : Nat} (h : Rd n r k inn q hl) (hne : inn (tf n r k) ≠ 0) : Rd n r (k + 1) inn q hl := by
  refine ⟨Nat.le_succ_of_le h.1, fun v => (h.2.1 v).trans ⟨?_, ?_⟩, h.2.2⟩
  · rintro ⟨i, hi, e⟩; exact ⟨i, by omega, e⟩
  · rintro ⟨i, hi, e1, e2⟩
    by_cases c : i = k
    · subst c; rw [e1] at hne; exact absurd e2 hne
    · exact ⟨i, by omega, e1, e2⟩

theorem Rd.add {n r k : Nat} {inn : Nat → Int} {q q' : Nat → Nat} {hl : Nat} (h : Rd n r k inn q hl) (hr : r < n) (hk : k < n) (h0 : inn (tf n r k) = 0) (hm : Mix (hl + 1) (upd q hl (tf n r k)) q') : Rd n r (k + 1) inn q' (hl + 1) := by
  have hnew : ∀ b, b < hl → q b ≠ tf n r k := fun b hb e => by
    obtain ⟨i, hi, e1, _⟩ := (h.2.1 (tf n r k)).1 ⟨b, hb, e⟩
    exact tf_inj hr i k hi hk e1
  refine ⟨by have := h.1; omega, fun v => ?_, hm.2 fun a b hab hb => ?_⟩
  · rw [hm.1 v]
    constructor
    · rintro ⟨b, hb, e⟩
      by_cases c : b = hl
      · subst c; rw [upd_same] at e; exact ⟨k, by omega, e, by rw [← e]; exact h0⟩
      · rw [upd_ne _ _ _ c] at e
        obtain ⟨i, hi, e1⟩ := (h.2.1 v).1 ⟨b, by omega, e⟩
        exact ⟨i, by omega, e1⟩
    · rintro ⟨i, hi, e1, e2⟩
      by_cases c : i = k
      · subst c; exact ⟨hl, by omega, by rw [upd_same]; exact e1⟩
      · obtain ⟨b, hb, e⟩ := (h.2.1 v).2 ⟨i, by omega, e1, e2⟩
        exact ⟨b, by omega, by rw [upd_ne _ _ _ (by omega)]; exact e⟩
  · rw [upd_ne _ _ _ (show a ≠ hl by omega)]
    by_cases c : b = hl
    · subst c; rw [upd_same]; exact hnew a hab
    · rw [upd_ne _ _ _ c]; exact h.2.2 a b hab (by omega)

theorem Rd.start {n r : Nat} {nx : Nat → List Nat} {inn : Nat → Int} {q : Nat → Nat} {hl : Nat} (h : Rd n r n inn q hl) (hr : r < n) (hc : ∀ v, v < n → inn v = (into n nx (fun _ => 0) v : Int)) (o : Nat → Nat) : KI n nx inn (fun _ => 0) q hl o 0 none := by
  refine ⟨hc, fun b hb => ?_, fun a ha => by omega, h.2.2, fun a b _ hb => by omega, fun a b ha _ => by omega, fun v hv => ?_, fun _ _ _ => rfl, fun a ha _ => by omega, fun a ha _ _ _ => by omega⟩
  · obtain ⟨i, hi, e, _⟩ := (h.2.1 (q b)).1 ⟨b, hb, rfl⟩
    rw [← e]
    exact Nat.mod_lt _ (by omega)
  · constructor
    · intro e
      obtain ⟨i, hi, e1⟩ := tf_surj hr v hv
      exact .inr ((h.2.1 v).2 ⟨i, hi, e1, e⟩)
    · rintro (⟨a, ha, _⟩ | hb)
      · omega
      · obtain ⟨_, _, _, e⟩ := (h.2.1 v).1 hb
        exact e

end Go.Proofs.Ybulkcuye.A
