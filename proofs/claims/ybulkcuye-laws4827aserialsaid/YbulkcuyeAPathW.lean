/- slices.Reverse (func 25) and 'pathTo' (func 17), walked. -/
import Derived.Test.YbulkcuyeAMap
import Derived.Deep.CutRange
namespace Go.Proofs.Ybulkcuye.A
open Go.RowKit

/-- Turned from both ends, k of each. -/
def turned (n k : Nat) (f : Nat → Value) (x : Nat) : Value := if x < k ∨ n - 1 - k < x then f (n - 1 - x) else f x

theorem turned_step (n k : Nat) (f : Nat → Value) (hk : k < n - 1 - k) (x : Nat) (hx : x < n) : upd (upd (turned n k f) k (f (n - 1 - k))) (n - 1 - k) (f k) x = turned n (k + 1) f x := by
  by_cases e1 : x = n - 1 - k
  · subst e1
    rw [upd_same]
    unfold turned
    rw [if_pos (.inr (by omega)), show n - 1 - (n - 1 - k) = k by omega]
  · rw [upd_ne _ _ _ e1]
    by_cases e2 : x = k
    · subst e2
      rw [upd_same]
      unfold turned
      rw [if_pos (.inl (by omega))]
    · rw [upd_ne _ _ _ e2]
      unfold turned
      by_cases c : x < k ∨ n - 1 - k < x
      · rw [if_pos c, if_pos (by omega)]
      · rw [if_neg c, if_neg (by omega)]

set_option maxRecDepth 20000 in
theorem reverse_any (B b n cap : Nat) (p : Nat → Nat) (w : World) (h : Slc w B 3 1 (.slice (some ⟨b, 0, none⟩) n cap) n (nv p)) (hn : n ≤ 1000) :
    Calls Yba.prog 25 #[.slice (some ⟨b, 0, none⟩) n cap] w fun e w' => e = .returned (.tuple #[]) ∧ Slc w' B 3 1 (.slice (some ⟨b, 0, none⟩) n cap) n (nv fun i => p (n - 1 - i)) ∧ Only b w w' := by
  go_enter Yba.func25, Yba.ntmps25
  go_wp2
  go_loopw [2, 3] (fun i j wr => ∃ k : Nat, 2 * k ≤ n + 1 ∧ i = .int .i64 (k : Int) ∧ j = .int .i64 ((n : Int) - 1 - (k : Int)) ∧ Slc wr B 3 1 (.slice (some ⟨b, 0, none⟩) n cap) n (turned n k (nv p)) ∧ Only b w wr) (fun i _ _ => n + 1 - (intOf i).toNat)
  case atStart => exact ⟨0, by omega, rfl, by simp, h.congr (fun i hi => by unfold turned; rw [if_neg (by omega)]), Only.refl _ _⟩
  case round =>
    obtain ⟨k, hk, rfl, rfl, hsl, hon⟩ := hrel
    by_cases hlt : k < n - 1 - k
    · obtain ⟨j, hj⟩ : ∃ j, j = n - 1 - k := ⟨_, rfl⟩
      have ck : wr.cell? ⟨b, k, none⟩ = some (.int .i64 (p k : Int)) := by
        rw [hsl.cell (i := k) (by omega)]
        unfold turned
        rw [if_neg (by omega)]
        rfl
      have cj : wr.cell? ⟨b, j, none⟩ = some (.int .i64 (p j : Int)) := by
        rw [hsl.cell (i := j) (by omega)]
        unfold turned
        rw [if_neg (by omega)]
        rfl
      have fk := hsl.frozen k
      have fj := hsl.frozen j
      have ej : ((n : Int) - 1 - (k : Int)) = (j : Int) := by omega
      rw [ej]
      have hjn : j < n := by omega
      have hkn : k < n := by omega
      have hkj : k < j := by omega
      have hne : ¬ k = j := by omega
      have HN : Hid (Slc ((wr.setCell ⟨b, k, none⟩ (.int .i64 (p j : Int))).setCell ⟨b, j, none⟩ (.int .i64 (p k : Int))).drew B 3 1 (.slice (some ⟨b, 0, none⟩) n cap) n (turned n (k + 1) (nv p))) := by
        rw [hj]
        exact ((hsl.set k (nv p (n - 1 - k))).set (n - 1 - k) (nv p k)).congr fun x hx => turned_step n k (nv p) hlt x (by omega)
      have HO : Hid (Only b w ((wr.setCell ⟨b, k, none⟩ (.int .i64 (p j : Int))).setCell ⟨b, j, none⟩ (.int .i64 (p k : Int))).drew) := by
        have := (hon.setCell k (.int .i64 (p j : Int))).setCell j (.int .i64 (p k : Int))
        exact ⟨this.os, this.tape, this.output, this.size, this.block⟩
      have HJ : Hid _ := hj
      clear hj ej hsl hon hlt
      go_upto_region 3 with fail
      go_region
      go_wp2
      go_roundw
      case rel => exact ⟨k + 1, by have := HJ.out; omega, by go_num, by have := HJ.out; congr 1; omega, HN.out, HO.out⟩
      case measure => simp [intOf]; omega
    · have hend : ¬ ((k : Int) < (n : Int) - 1 - (k : Int)) := by omega
      have HN : Hid (Slc wr B 3 1 (.slice (some ⟨b, 0, none⟩) n cap) n (nv fun i => p (n - 1 - i))) := hsl.congr fun x hx => by
        unfold turned
        by_cases c : x < k ∨ n - 1 - k < x
        · rw [if_pos c]; rfl
        · rw [if_neg c]
          have : n - 1 - x = x := by omega
          show Value.int .i64 ((p x : Nat) : Int) = Value.int .i64 ((p (n - 1 - x) : Nat) : Int)
          rw [this]
      have HO : Hid _ := hon
      clear hsl hon
      go_wp2
      go_end0
      exact ⟨rfl, HN.out, HO.out⟩

set_option maxRecDepth 20000 in
set_option maxHeartbeats 4000000 in
theorem path_any (mb m : Nat) (nx : Nat → List Nat) (fr : Nat → Option Nat) (d : Nat → Nat) (I : Nat → Prop) (s t0 : Nat) (w : World) (hmp : MP w mb m fr) (hs : d s = 0) (ht : I t0)
    (hfr : ∀ v, I v → v ≠ s → ∃ p, fr v = some p ∧ I p ∧ v ∈ nx p ∧ d v = d p + 1) (hlt : ∀ v, I v → v ≤ 1000) (hd : d t0 ≤ 500) :
    Calls Yba.prog 17 #[.int .i64 (t0 : Int), .int .i64 (s : Int), .map (some mb)] w fun e w' => ∃ (b cap : Nat) (c : Nat → Nat), e = .returned (.slice (some ⟨b, 0, none⟩) (d t0 + 1) cap) ∧
      (Slc w' w.heap.size 3 1 (.slice (some ⟨b, 0, none⟩) (d t0 + 1) cap) (d t0 + 1) (nv c) ∧ c 0 = s ∧ c (d t0) = t0 ∧ (∀ i, i < d t0 → c (i + 1) ∈ nx (c i)) ∧ (∀ i, i ≤ d t0 → d (c i) = i ∧ I (c i))) ∧ Below w.heap.size w w' := by
  have HMP : Hid _ := hmp
  have HFR : Hid _ := hfr
  have HLT : Hid _ := hlt
  have hmlt := hmp.lt
  clear hmp hfr hlt
  go_enter Yba.func17, Yba.ntmps17
  go_wp2
  obtain ⟨B, hB⟩ : ∃ B, B = w.heap.size := ⟨_, rfl⟩
  obtain ⟨w1, hw1⟩ : ∃ w1, w1 = w.alloc (.cells #[.int .i64 (t0 : Int)] 3) := ⟨_, rfl⟩
  have hsl0 : Slc w1 B 3 1 (.slice (some ⟨B, 0, none⟩) 1 1) 1 (nv fun _ => t0) := by
    have h0 := World.rowIs_alloc w #[.int .i64 (t0 : Int)] 3 (nv fun _ => t0) (fun i hi => by simp at hi; subst hi; rfl)
    rw [← hw1, ← hB] at h0
    exact Slc.made h0 (Nat.le_refl _) (Nat.le_refl _) (by unfold maxLen; omega)
  have hb1 : Below B w w1 := by rw [hw1, hB]; exact (Below.refl _ _).alloc (Nat.le_refl _) _
  rw [← hw1, ← hB]
  have HSL : Hid _ := hsl0
  have HB1 : Hid _ := hb1
  have HB : Hid _ := hB
  clear hsl0 hb1 hw1 hB
  go_loopw [0, 7] (fun x vp wr => ∃ (j : Nat) (p : Nat → Nat), x = .int .i64 (p j : Int) ∧ p 0 = t0 ∧ (∀ i, i ≤ j → I (p i) ∧ d (p i) + i = d t0) ∧ (∀ i, i < j → p i ∈ nx (p (i + 1))) ∧ Slc wr B 3 1 vp (j + 1) (nv p) ∧ Below B w wr) (fun x _ _ => d (intOf x).toNat)
  case atStart => exact ⟨0, fun _ => t0, rfl, rfl, fun i hi => ⟨ht, by show d t0 + i = d t0; omega⟩, fun i hi => by omega, HSL.out, HB1.out⟩
  case round =>
    obtain ⟨j, p, rfl, hp0, hI, hE, hsl, hbel⟩ := hrel
    obtain ⟨a, cap, rfl, ha⟩ := hsl.form
    obtain ⟨b, rfl⟩ := ha (by omega)
    have hj := (hI j (Nat.le_refl _)).2
    have hIj := (hI j (Nat.le_refl _)).1
    by_cases hps : p j = s
    · have hjd : j = d t0 := by rw [hps, hs] at hj; omega
      have HI : Hid _ := hI
      have HE : Hid _ := hE
      have HP0 : Hid _ := hp0
      have HBL : Hid _ := hbel
      have HPS : Hid _ := hps
      have HJD : Hid _ := hjd
      clear hI hE hp0 hbel hj hjd hIj
      go_wp2_with fail
      refine (reverse_any B b (j + 1) cap p wr hsl (by have := HJD.out; omega)).mono ?_
      rintro e w2 ⟨rfl, hsl2, hon⟩
      have hbB : B ≤ b := (hsl.lt b rfl).1
      have HS2 : Hid _ := hsl2
      have HON : Hid _ := hon
      clear hsl hsl2 hon hps
      go_wp2
      go_ret
      have hB := HB.out
      have hjd := HJD.out
      rw [← hB]
      subst hjd
      refine ⟨b, cap, fun i => p (d t0 + 1 - 1 - i), rfl, ⟨HS2.out, ?_, ?_, fun i hi => ?_, fun i hi => ?_⟩, HBL.out.trans (HON.out.below hbB)⟩
      · show p (d t0 + 1 - 1 - 0) = s
        rw [show d t0 + 1 - 1 - 0 = d t0 by omega]; exact HPS.out
      · show p (d t0 + 1 - 1 - d t0) = t0
        rw [show d t0 + 1 - 1 - d t0 = 0 by omega]; exact HP0.out
      · show p (d t0 + 1 - 1 - (i + 1)) ∈ nx (p (d t0 + 1 - 1 - i))
        have := HE.out (d t0 + 1 - 1 - (i + 1)) (by omega)
        rw [show d t0 + 1 - 1 - (i + 1) + 1 = d t0 + 1 - 1 - i by omega] at this
        exact this
      · have := HI.out (d t0 + 1 - 1 - i) (by omega)
        exact ⟨by have := this.2; show d (p (d t0 + 1 - 1 - i)) = i; omega, this.1⟩
    · obtain ⟨q, hq1, hq2, hq3, hq4⟩ := HFR.out (p j) hIj hps
      have hmp : MP wr mb m fr := MP.of HMP.out (hbel.block mb (by have := HB.out; omega))
      have hlk := (hmp.look_some (HLT.out _ hIj) hq1).2
      have hsz : B ≤ wr.heap.size := by have := hbel.size; have := HB.out; omega
      obtain ⟨b', cap', w3, hap, hsl3, hgrow, hb3⟩ := hsl.app hsz (by omega) (q : Int)
      have hq5 : q ≤ 1000 := HLT.out q hq2
      have hpj : p j ≤ 1000 := HLT.out _ hIj
      have HN : Hid (∃ (j' : Nat) (p' : Nat → Nat), Value.int .i64 (q : Int) = .int .i64 (p' j' : Int) ∧ p' 0 = t0 ∧ (∀ i, i ≤ j' → I (p' i) ∧ d (p' i) + i = d t0) ∧ (∀ i, i < j' → p' i ∈ nx (p' (i + 1))) ∧ Slc w3 B 3 1 (.slice (some ⟨b', 0, none⟩) (j + 1 + 1) cap') (j' + 1) (nv p') ∧ Below B w w3) := by
        refine ⟨j + 1, upd p (j + 1) q, by rw [upd_same], by rw [upd_ne _ _ _ (by omega)]; exact hp0, fun i hi => ?_, fun i hi => ?_, ?_, ?_⟩
        · by_cases e : i = j + 1
          · subst e; rw [upd_same]; exact ⟨hq2, by omega⟩
          · rw [upd_ne _ _ _ e]; exact hI i (by omega)
        · rw [upd_ne _ _ _ (show i ≠ j + 1 by omega)]
          by_cases e : i = j
          · subst e; rw [upd_same]; exact hq3
          · rw [upd_ne _ _ _ (by omega)]; exact hE i (by omega)
        · refine hsl3.congr fun i _ => ?_
          unfold nv upd
          by_cases e : i = j + 1 <;> simp [e]
        · exact (hbel.alloc (by omega) _).grown hgrow (by simp; omega) (fun c hc => (hsl.lt c hc).1)
      have HM : Hid (d q < d (p j)) := by show d q < d (p j); omega
      obtain ⟨pj, hpj'⟩ : ∃ pj, pj = p j := ⟨_, rfl⟩
      rw [← hpj'] at hlk hps hpj HM ⊢
      clear hI hE hsl hbel hsl3 hgrow hb3 hmp hq1 hq2 hq3 hq4 hj hIj hp0 hpj' ha
      go_wp2_with (at_builtin; refine wpList_append_run rfl (.tmp 16) (.tmp 18) 25 rfl rfl rfl hap ?_)
      go_roundw
      case rel => exact HN.out
      case measure => simp only [intOf, Int.toNat_natCast]; exact HM.out
end Go.Proofs.Ybulkcuye.A
