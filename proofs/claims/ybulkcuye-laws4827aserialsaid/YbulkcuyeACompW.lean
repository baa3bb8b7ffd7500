/- 'components' (func 16), walked. -/
import Derived.Test.YbulkcuyeACompS
import Derived.Deep.CutRange
import Derived.Deep.DeepCutAuto
namespace Go.Proofs.Ybulkcuye.A
open Go.RowKit

/-- What holds ahead of a round of the inner loop, m being what is left to do. -/
def TQ (B n root : Nat) (nx : Nat → List Nat) (w : World) (m : Nat) (vs : Value) (wr : World) : Prop :=
  ∃ (s : TS) (vo vc : Value), TI n nx s ∧ s.todo n nx = m ∧ (∀ v, v < n → v ≤ root → s.idx v ≠ 0) ∧ Rep B n s wr vo vc vs ∧ Below B w wr

theorem comp_start (w : World) (n : Nat) (w1 : World) (hw1 : w1 = (((((w.alloc (.cells (madeCells #[.int .i64 0] n) 3)).alloc (.cells #[.slice (some ⟨w.heap.size, 0, none⟩) n n] 25)).alloc (.cells (madeCells #[.int .i64 0] n) 3)).alloc
      (.cells #[.slice (some ⟨w.heap.size + 2, 0, none⟩) n n] 25)).alloc (.cells (madeCells #[.int .i64 0] n) 3))) :
    w1.rowIs w.heap.size 3 n (nv fun _ => 0) ∧ w1.rowIs (w.heap.size + 1) 25 1 (fun _ => .slice (some ⟨w.heap.size, 0, none⟩) n n) ∧ w1.rowIs (w.heap.size + 2) 3 n (nv fun _ => 0) ∧
      w1.rowIs (w.heap.size + 3) 25 1 (fun _ => .slice (some ⟨w.heap.size + 2, 0, none⟩) n n) ∧ w1.rowIs (w.heap.size + 4) 3 n (fun _ => .int .i64 0) ∧ w1.heap.size = w.heap.size + 5 ∧ Below w.heap.size w w1 := by
  have one : ∀ (x : World) (v : Value) (t : TypeId), (x.alloc (.cells #[v] t)).rowIs x.heap.size t 1 (fun _ => v) := fun x v t =>
    World.rowIs_alloc x #[v] t (fun _ => v) (fun i hi => by simp at hi; subst hi; rfl)
  subst hw1
  refine ⟨?_, ?_, ?_, ?_, ?_, by simp, ?_⟩
  · exact ((((World.rowIs_made w (.int .i64 0) n 3).alloc _).alloc _).alloc _).alloc _
  · have := (((one (w.alloc (.cells (madeCells #[.int .i64 0] n) 3)) (.slice (some ⟨w.heap.size, 0, none⟩) n n) 25).alloc (.cells (madeCells #[.int .i64 0] n) 3)).alloc (.cells #[.slice (some ⟨w.heap.size + 2, 0, none⟩) n n] 25)).alloc (.cells (madeCells #[.int .i64 0] n) 3)
    simp at this
    exact this
  · have := ((World.rowIs_made ((w.alloc (.cells (madeCells #[.int .i64 0] n) 3)).alloc (.cells #[.slice (some ⟨w.heap.size, 0, none⟩) n n] 25)) (.int .i64 0) n 3).alloc (.cells #[.slice (some ⟨w.heap.size + 2, 0, none⟩) n n] 25)).alloc (.cells (madeCells #[.int .i64 0] n) 3)
    simp at this
    exact this
  · have := (one (((w.alloc (.cells (madeCells #[.int .i64 0] n) 3)).alloc (.cells #[.slice (some ⟨w.heap.size, 0, none⟩) n n] 25)).alloc (.cells (madeCells #[.int .i64 0] n) 3)) (.slice (some ⟨w.heap.size + 2, 0, none⟩) n n) 25).alloc (.cells (madeCells #[.int .i64 0] n) 3)
    simp at this
    exact this
  · have := World.rowIs_made ((((w.alloc (.cells (madeCells #[.int .i64 0] n) 3)).alloc (.cells #[.slice (some ⟨w.heap.size, 0, none⟩) n n] 25)).alloc (.cells (madeCells #[.int .i64 0] n) 3)).alloc (.cells #[.slice (some ⟨w.heap.size + 2, 0, none⟩) n n] 25)) (.int .i64 0) n 3
    simp at this
    exact this
  · exact (((((Below.refl _ _).alloc (Nat.le_refl _) _).alloc (by simp) _).alloc (by simp; omega) _).alloc (by simp; omega) _).alloc (by simp; omega) _

theorem min_cast (a b : Nat) : ((min a b : Nat) : Int) = if b < a then (b : Int) else (a : Int) := by
  split <;> omega

theorem comp_rep {B n : Nat} {w1 wr : World} (hr0 : w1.rowIs B 3 n (nv fun _ => 0)) (hr1 : w1.rowIs (B + 1) 25 1 (fun _ => .slice (some ⟨B, 0, none⟩) n n)) (hr2 : w1.rowIs (B + 2) 3 n (nv fun _ => 0))
    (hr3 : w1.rowIs (B + 3) 25 1 (fun _ => .slice (some ⟨B + 2, 0, none⟩) n n)) (hrow : wr.rowIs (B + 4) 3 n (fun j => .int .i64 (if j < n then -1 else 0))) (hon : Only (B + 4) w1 wr) (hs : wr.heap.size = B + 5) :
    Rep B n TS.init (((wr.alloc (.cells #[.slice none 0 0] 25)).alloc (.cells #[.slice none 0 0] 74)).alloc (.cells #[.int .i64 0] 3)) (.slice none 0 0) (.slice none 0 0) (.slice none 0 0) := by
  have one : ∀ (x : World) (v : Value) (t : TypeId), (x.alloc (.cells #[v] t)).rowIs x.heap.size t 1 (fun _ => v) := fun x v t =>
    World.rowIs_alloc x #[v] t (fun _ => v) (fun i hi => by simp at hi; subst hi; rfl)
  have up : ∀ {b t m f}, wr.rowIs b t m f → (((wr.alloc (.cells #[.slice none 0 0] 25)).alloc (.cells #[.slice none 0 0] 74)).alloc (.cells #[.int .i64 0] 3)).rowIs b t m f := fun h => ((h.alloc _).alloc _).alloc _
  refine ⟨up (hon.row (by omega) hr0), up (hon.row (by omega) hr1), up (hon.row (by omega) hr2), up (hon.row (by omega) hr3), (up hrow).congr (fun j hj => by simp [hj, TS.init]), ?_, ?_, ?_, Slc.nil _ _ _ _ _, Slc.nil _ _ _ _ _, Slc.nil _ _ _ _ _, fun b hb => by cases hb⟩
  · have := ((one wr (.slice none 0 0) 25).alloc (.cells #[.slice none 0 0] 74)).alloc (.cells #[.int .i64 0] 3)
    rw [hs] at this
    exact this
  · have := (one (wr.alloc (.cells #[.slice none 0 0] 25)) (.slice none 0 0) 74).alloc (.cells #[.int .i64 0] 3)
    simp [hs] at this
    exact this
  · have := one ((wr.alloc (.cells #[.slice none 0 0] 25)).alloc (.cells #[.slice none 0 0] 74)) (.int .i64 0) 3
    simp [hs] at this
    exact this

theorem comp_below {B : Nat} {w w1 wr : World} (hb1 : Below B w w1) (hon : Only (B + 4) w1 wr) (hs : wr.heap.size = B + 5) : Below B w (((wr.alloc (.cells #[.slice none 0 0] 25)).alloc (.cells #[.slice none 0 0] 74)).alloc (.cells #[.int .i64 0] 3)) :=
  (((hb1.trans (hon.below (by omega))).alloc (by omega) _).alloc (by simp; omega) _).alloc (by simp; omega) _

set_option maxRecDepth 20000 in
set_option maxHeartbeats 4000000 in
theorem components_any (G NB n : Nat) (nx : Nat → List Nat) (na : Nat → Option Addr) (nc : Nat → Nat) (w : World) (hG : GRep w G NB n nx na nc) (g : Gr n nx) (hn0 : 0 < n) (hn : n ≤ 100) :
    Calls Yba.prog 16 #[.pointer (some ⟨G, 0, none⟩)] w fun e w' => ∃ (vs : Value) (comp : Nat → Int) (sz : Nat → Nat) (sl : Nat), e = .returned (.tuple #[.slice (some ⟨w.heap.size + 4, 0, none⟩) n n, vs]) ∧
      w'.rowIs (w.heap.size + 4) 3 n (fun i => .int .i64 (comp i)) ∧ Slc w' w.heap.size 3 1 vs sl (nv sz) ∧ Comps n nx comp sz sl ∧ Below w.heap.size w w' := by
  have hmk := run_make_row' (P := Yba.prog) 25 3 (.int .i64 0) 8 Yba.underlying25 info3 rfl .i64 .i64 n (by omega) (by omega)
  have HG : Hid _ := hG
  have c1 := hG.head
  clear hG
  go_enter Yba.func16, Yba.ntmps16
  go_wp2
  simp only [Nat.add_assoc, Nat.reduceAdd]
  obtain ⟨w1, hw1⟩ : ∃ w1, w1 = (((((w.alloc (.cells (madeCells #[.int .i64 0] n) 3)).alloc (.cells #[.slice (some ⟨w.heap.size, 0, none⟩) n n] 25)).alloc (.cells (madeCells #[.int .i64 0] n) 3)).alloc
      (.cells #[.slice (some ⟨w.heap.size + 2, 0, none⟩) n n] 25)).alloc (.cells (madeCells #[.int .i64 0] n) 3)) := ⟨_, rfl⟩
  obtain ⟨hr0, hr1, hr2, hr3, hr4, hsz, hb1⟩ := comp_start w n w1 hw1
  rw [← hw1]
  clear hw1 c1 hmk
  obtain ⟨B, hB⟩ : ∃ B, B = w.heap.size := ⟨_, rfl⟩
  rw [← hB] at hr0 hr1 hr2 hr3 hr4 hsz hb1 ⊢
  have HB : Hid _ := hB
  clear hB
  have HSZ : Hid _ := hsz
  clear hsz
  go_loopw [34] (fun i wr => ∃ k : Nat, k ≤ n ∧ i = .int .i64 (k : Int) ∧ wr.rowIs (B + 4) 3 n (fun j => .int .i64 (if j < k then -1 else 0)) ∧ Only (B + 4) w1 wr) (fun i _ => n - (intOf i).toNat)
  case atStart => exact ⟨0, by omega, rfl, hr4.congr (fun j _ => by simp), Only.refl _ _⟩
  case round =>
    obtain ⟨k, hk, rfl, hrow, hon⟩ := hrel
    by_cases hlt : k < n
    · have hcell := hrow.cell hlt
      have hfz := hrow.frozen k
      go_wp2
      go_roundw
      case rel =>
        refine ⟨k + 1, by omega, by go_num, (hrow.set k _).congr (fun j _ => ?_), hon.setCell _ _⟩
        by_cases e : j = k
        · subst e; simp
        · by_cases e2 : j < k
          · simp [e, e2, show j < k + 1 by omega]
          · simp [e, e2, show ¬ j < k + 1 by omega]
      case measure => simp [intOf]; omega
    · have hkn : n = k := by omega
      subst hkn
      have hs2 : wr.heap.size = B + 5 := by rw [hon.size]; exact HSZ.out
      have hrep := comp_rep hr0 hr1 hr2 hr3 hrow hon hs2
      have hbel := comp_below hb1 hon hs2
      have HS2 : Hid _ := hs2
      clear hs2 hr0 hr1 hr2 hr3 hr4 hrow
      go_wp2
      rw [HS2.out]
      simp only [Nat.add_assoc, Nat.reduceAdd]
      obtain ⟨w2, hw2⟩ : ∃ w2, w2 = ((wr.alloc (.cells #[.slice none 0 0] 25)).alloc (.cells #[.slice none 0 0] 74)).alloc (.cells #[.int .i64 0] 3) := ⟨_, rfl⟩
      rw [← hw2] at hrep hbel ⊢
      have HREP : Hid _ := hrep
      have HBEL : Hid _ := hbel
      clear hw2 HSZ HS2 hon hb1 hrep hbel
      obtain ⟨μ, hμ⟩ := least_ex
      have HMU : Hid _ := hμ
      clear hμ
      go_loopw [43, 3] (fun i vs wr => ∃ (root : Nat) (s : TS) (vo vc : Value), root ≤ n ∧ i = .int .i64 (root : Int) ∧ TI n nx s ∧ s.cl = 0 ∧ (∀ v, v < n → v < root → s.idx v ≠ 0) ∧ Rep B n s wr vo vc vs ∧ Below B w wr) (fun i _ _ => n - (intOf i).toNat)
      case atStart => exact ⟨0, TS.init, _, _, by omega, rfl, TI.init n nx, rfl, fun v _ h => by omega, HREP.out, HBEL.out⟩
      case round =>
        obtain ⟨root, s, vo, vc, hroot, rfl, hTI, hcl, hvis, hrep, hbel⟩ := hrel
        have HTI : Hid _ := hTI
        have HCL : Hid _ := hcl
        have HV : Hid _ := hvis
        have HR : Hid _ := hrep
        have HBL : Hid _ := hbel
        clear hTI hcl hvis hrep hbel
        by_cases hlt : root < n
        · have c1 : wr.cell? ⟨B + 1, 0, none⟩ = some (.slice (some ⟨B, 0, none⟩) n n) := HR.out.bi.cell (by omega)
          have d0 : wr.cell? ⟨B, root, none⟩ = some (.int .i64 (s.idx root : Int)) := HR.out.ix.cell hlt
          by_cases hi : s.idx root = 0
          · rw [hi] at d0
            go_wp2_with fail
            have hle := HTI.out.cnt_le
            have hol := HTI.out.ol_le
            refine (reach_any B n s s.pr vo vc u3 root wr HR.out hlt (by omega) (by omega) (by rw [HCL.out]; omega) (fun i hi => absurd hi (by rw [HCL.out]; omega))).mono ?_
            rintro e w3 ⟨rfl, ⟨vo', vc', hrep3⟩, hbel3⟩
            have hTI3 := HTI.out.reach hlt hi s.pr (fun v _ _ => .inl rfl) (fun h => absurd h (by rw [HCL.out]; omega))
            have hvis3 : ∀ v, v < n → v ≤ root → (s.reach s.pr root).idx v ≠ 0 := fun v h1 h2 => by
              by_cases e : v = root
              · subst e; show upd s.idx v _ v ≠ 0; rw [upd_same]; omega
              · show upd s.idx root _ v ≠ 0; rw [upd_ne _ _ _ e]; exact HV.out v h1 (by omega)
            have HQ : Hid (TQ B n root nx w ((s.reach s.pr root).todo n nx) u3 w3) := ⟨_, vo', vc', hTI3, rfl, hvis3, hrep3, HBL.out.trans hbel3⟩
            clear HTI HCL HV HR HBL hle hol hrep3 hbel3 hTI3 hvis3 c1 d0 hi
            go_wp2
            go_loopw [3] (fun vs wr => ∃ m, TQ B n root nx w m vs wr) (fun vs wr => μ (fun m => TQ B n root nx w m vs wr))
            case atStart => exact ⟨_, HQ.out⟩
            case round =>
              obtain ⟨m0, hm0⟩ := hrel
              obtain ⟨⟨s, vo, vc, hTI, hm, hvis, hrep, hbel⟩, _⟩ := HMU.out (fun m => TQ B n root nx w m u3 wr) m0 hm0
              have HTI : Hid _ := hTI
              have HM : Hid _ := hm
              have HV : Hid _ := hvis
              have HBL : Hid _ := hbel
              clear hTI hm hvis hbel hm0
              obtain ⟨ca, ccap, rfl, hca⟩ := hrep.rc.form
              have c6 : wr.cell? ⟨B + 6, 0, none⟩ = some (.slice ca s.cl ccap) := hrep.bc.cell (by omega)
              by_cases hcl : s.cl = 0
              · have HR : Hid _ := hrep
                clear hrep
                rw [hcl] at c6
                go_wp2
                go_roundw
                case rel => exact ⟨root + 1, s, _, _, by omega, by go_num, HTI.out, hcl, fun v h1 h2 => HV.out v h1 (by omega), HR.out, HBL.out⟩
                case measure => simp [intOf]; omega
              · obtain ⟨gc, rfl⟩ := hca (by omega)
                obtain ⟨k, hk⟩ : ∃ k, s.cl = k + 1 := ⟨s.cl - 1, by omega⟩
                rw [hk] at c6 hrep
                clear hca hcl
                have HK : Hid _ := hk
                clear hk
                obtain ⟨t, ht⟩ : ∃ t, s.ct k = t := ⟨_, rfl⟩
                have HT : Hid _ := ht
                have htn : t < n := ht ▸ HTI.out.ct_lt k (by rw [HK.out]; omega)
                have hrc := hrep.rc
                rw [HK.out] at hrc
                obtain ⟨p, hp⟩ : ∃ p, p = s.pr t := ⟨_, rfl⟩
                obtain ⟨L, hL⟩ : ∃ L, L = (nx t).length := ⟨_, rfl⟩
                have HP : Hid _ := hp
                have HL : Hid _ := hL
                have ct0 : wr.cell? ⟨gc, k * 2, none⟩ = some (.int .i64 (t : Int)) := by
                  rw [hrc.cell (i := k * 2) (by omega)]
                  unfold callf
                  rw [if_pos (by omega), show k * 2 / 2 = k by omega, ht]
                have ce0 : wr.cell? ⟨gc, k * 2 + 1, none⟩ = some (.int .i64 (p : Int)) := by
                  rw [hrc.cell (i := k * 2 + 1) (by omega)]
                  unfold callf
                  rw [if_neg (by omega), show (k * 2 + 1) / 2 = k by omega, ht, hp]
                have hG := HG.out.below (w' := wr) (HB.out ▸ HBL.out)
                have cg : wr.cell? ⟨G, 1, none⟩ = some (.slice (some ⟨NB, 0, none⟩) n n) := hG.head
                have cr : wr.cell? ⟨NB, t, none⟩ = some (.slice (na t) L (nc t)) := by rw [hL]; exact hG.rows t htn
                have hpl : p ≤ L := by
                  have := HTI.out.pr_le k (by rw [HK.out]; omega)
                  rw [ht, ← hp, ← hL] at this
                  exact this
                have hlen : L ≤ 2000 := by rw [hL]; exact HG.out.len t htn
                have fe := hrc.frozen (k * 2 + 1)
                have hkn : k ≤ 100 := by have := HTI.out.cl_le; rw [HK.out] at this; omega
                have HR : Hid _ := hrep
                have HGG : Hid _ := hG
                clear ht hp hL hrc hG hrep
                by_cases hpr : p < L
                · obtain ⟨u, hu⟩ : ∃ u, (nx t)[p]? = some u := ⟨_, List.getElem?_eq_getElem (by rw [← HL.out]; exact hpr)⟩
                  have hun : u < n := g.lt t htn u (List.mem_of_getElem? hu)
                  obtain ⟨bu, hna, cu⟩ := HGG.out.elem t htn _ u hu
                  rw [hna] at cr
                  have HU : Hid _ := hu
                  clear hu hna
                  go_upto_region 22 with fail
                  go_quiet (fail)
                  revert nq
                  intro q1
                  go_upto_region 23 with fail
                  go_quiet (fail)
                  revert nq
                  intro q2
                  go_upto_region 25 with fail
                  obtain ⟨w5, hw5⟩ : ∃ w5, w5 = (wr.drewN (q1 + q2)).setCell ⟨gc, k * 2 + 1, none⟩ (.int .i64 ((p : Int) + 1)) := ⟨_, rfl⟩
                  have hgc : B + 8 ≤ gc := by have := (HR.out.rc.lt gc rfl).1; exact this
                  have hrep5 : Rep B n { s with pr := upd s.pr t (p + 1) } w5 vo (.slice (some ⟨gc, 0, none⟩) (k + 1) ccap) u3 := by
                    rw [hw5]
                    exact Rep.edge_set (w := wr.drewN (q1 + q2)) HK.out (HR.out.of fun _ _ => rfl) HT.out (fun i hi => by rw [← HT.out]; exact HTI.out.ct_ne i k hi (by rw [HK.out]; omega)) (p + 1)
                  have hbel5 : Below B w w5 := by
                    rw [hw5]
                    exact (below_drewN HBL.out _).setCell (by show B ≤ gc; omega) _
                  rw [← hw5]
                  have c1 : w5.cell? ⟨B + 1, 0, none⟩ = some (.slice (some ⟨B, 0, none⟩) n n) := hrep5.bi.cell (by omega)
                  have d0 : w5.cell? ⟨B, u, none⟩ = some (.int .i64 (s.idx u : Int)) := hrep5.ix.cell hun
                  clear hw5 c6 ct0 ce0 cg cr fe cu
                  rw [HP.out] at *
                  have HR5 : Hid _ := hrep5
                  have HB5 : Hid _ := hbel5
                  clear hrep5 hbel5
                  by_cases hi : s.idx u = 0
                  · rw [hi] at d0
                    obtain ⟨hTI6, hlt6, hvis6, hne6⟩ := step_reach HTI.out HK.out HT.out HU.out hun hi
                    have HT6 : Hid _ := hTI6
                    have HL6 : Hid _ := hlt6
                    have HV6 : Hid _ := hvis6
                    have HN6 : Hid _ := hne6
                    clear hTI6 hlt6 hvis6 hne6
                    go_wp2_with fail
                    have hle := HTI.out.cnt_le
                    have hol := HTI.out.ol_le
                    have hcl := HTI.out.cl_le
                    refine (reach_any B n s (upd s.pr t (s.pr t + 1)) vo _ u3 u w5 HR5.out hun (by omega) (by omega) (by omega) HN6.out).mono ?_
                    rintro e w6 ⟨rfl, ⟨vo', vc', hrep6⟩, hbel6⟩
                    have HQ6 : Hid (TQ B n root nx w ((s.reach (upd s.pr t (s.pr t + 1)) u).todo n nx) u3 w6) := ⟨_, vo', vc', HT6.out, rfl, fun v h1 h2 => HV6.out v (HV.out v h1 h2), hrep6, HB5.out.trans hbel6⟩
                    clear hrep6 hbel6 hle hol hcl
                    go_wp2
                    go_roundw
                    case rel => exact ⟨_, HQ6.out⟩
                    case measure => exact Nat.lt_of_le_of_lt (HMU.out (fun m => TQ B n root nx w m u3 w6) _ HQ6.out).2 (by have := HL6.out; have := HM.out; omega)
                  · have d4 : w5.cell? ⟨B + 4, u, none⟩ = some (.int .i64 (s.comp u)) := HR5.out.co.cell hun
                    rcases HTI.out.comp_of u hun with hc | ⟨hc, _⟩
                    · rw [hc] at d4
                      obtain ⟨hTI6, hlt6⟩ := step_scan HTI.out HK.out HT.out HU.out hun hi (.inl ⟨hc, rfl⟩)
                      have HT6 : Hid _ := hTI6
                      have HL6 : Hid _ := hlt6
                      have c3 : w5.cell? ⟨B + 3, 0, none⟩ = some (.slice (some ⟨B + 2, 0, none⟩) n n) := HR5.out.bl.cell (by omega)
                      have d2 : w5.cell? ⟨B + 2, t, none⟩ = some (.int .i64 (s.low t : Int)) := HR5.out.lo.cell htn
                      have f2 := HR5.out.lo.frozen t
                      clear hTI6 hlt6 hc
                      go_upto_region 28 with fail
                      go_region
                      obtain ⟨w6, hw6⟩ : ∃ w6, w6 = (w5.setCell ⟨B + 2, t, none⟩ (.int .i64 (if s.idx u < s.low t then (s.idx u : Int) else (s.low t : Int)))).drew := ⟨_, rfl⟩
                      have HQ6 : Hid (TQ B n root nx w _ u3 w6) := ⟨_, _, _, HT6.out, rfl, HV.out, by
                        rw [hw6, ← min_cast]
                        exact (HR5.out.low_set t (min (s.low t) (s.idx u))).of fun _ _ => rfl, by
                        rw [hw6]
                        exact (HB5.out.setCell (p := ⟨B + 2, t, none⟩) (by show B ≤ B + 2; omega) _).drew⟩
                      rw [← hw6]
                      clear hw6 HT6
                      go_wp2
                      go_roundw
                      case rel => exact ⟨_, HQ6.out⟩
                      case measure => exact Nat.lt_of_le_of_lt (HMU.out (fun m => TQ B n root nx w m u3 w6) _ HQ6.out).2 (by have := HL6.out; have := HM.out; omega)
                    · obtain ⟨hTI6, hlt6⟩ := step_scan HTI.out HK.out HT.out HU.out hun hi (.inr ⟨hc, rfl⟩)
                      rw [upd_id] at hTI6 hlt6
                      have hcn : ¬ s.comp u < 0 := by omega
                      have HQ6 : Hid (TQ B n root nx w _ u3 w5) := ⟨_, _, _, hTI6, rfl, HV.out, HR5.out, HB5.out⟩
                      have HL6 : Hid _ := hlt6
                      clear hTI6 hlt6
                      go_wp2
                      go_roundw
                      case rel => exact ⟨_, HQ6.out⟩
                      case measure => exact Nat.lt_of_le_of_lt (HMU.out (fun m => TQ B n root nx w m u3 w5) _ HQ6.out).2 (by have := HL6.out; have := HM.out; omega)
                · have hpL : p = L := by omega
                  have HPL : Hid _ := hpL
                  have hcap : k + 1 ≤ ccap := by
                    obtain ⟨_, _, e1, _, _, e2, _⟩ := HR.out.rc.at (by rw [HK.out]; omega)
                    simp only [Value.slice.injEq] at e1
                    rw [HK.out] at e2
                    omega
                  have f6 := HR.out.bc.frozen 0
                  clear hpL
                  go_upto_region 22 with fail
                  go_quiet (fail)
                  revert nq
                  intro q1
                  go_upto_region 31 with fail
                  obtain ⟨w5, hw5⟩ : ∃ w5, w5 = (wr.drewN q1).setCell ⟨B + 6, 0, none⟩ (.slice (some ⟨gc, 0, none⟩) k ccap) := ⟨_, rfl⟩
                  have hrep5 : Rep B n { s with cl := k } w5 vo (.slice (some ⟨gc, 0, none⟩) k ccap) u3 := by
                    rw [hw5]
                    exact Rep.calls_pop (w := wr.drewN q1) HK.out (HR.out.of fun _ _ => rfl)
                  have hbel5 : Below B w w5 := by
                    rw [hw5]
                    exact (below_drewN HBL.out _).setCell (by show B ≤ B + 6; omega) _
                  rw [← hw5]
                  have c6' : w5.cell? ⟨B + 6, 0, none⟩ = some (.slice (some ⟨gc, 0, none⟩) k ccap) := hrep5.bc.cell (by omega)
                  clear hw5 c6 ct0 ce0 cg cr fe f6
                  obtain ⟨l, hl⟩ : ∃ l : Nat → Nat, (0 < k ∧ l = upd s.low (s.ct (k - 1)) (min (s.low (s.ct (k - 1))) (s.low t))) ∨ (k = 0 ∧ l = s.low) := by
                    by_cases h : k = 0
                    · exact ⟨_, .inr ⟨h, rfl⟩⟩
                    · exact ⟨_, .inl ⟨by omega, rfl⟩⟩
                  have HLO : Hid _ := hl
                  have HR5 : Hid _ := hrep5
                  have HB5 : Hid _ := hbel5
                  clear hl hrep5 hbel5
                  go_upto_if 137 with fail
                  obtain ⟨bk, hbk⟩ : ∃ bk : Bool, bk = decide (0 < k) := ⟨_, rfl⟩
                  rw [← hbk]
                  have HBK : Hid _ := hbk
                  clear hbk
                  go_cut [] (fun wx => Rep B n { s with cl := k, low := l } wx vo (.slice (some ⟨gc, 0, none⟩) k ccap) u3 ∧ Below B w wx)
                  case first =>
                    cases bk with
                    | false =>
                      go_wp2_with fail
                      go_meet
                      case rel =>
                        have hk0 := HBK.out
                        simp at hk0
                        rcases HLO.out with ⟨h, _⟩ | ⟨_, h⟩
                        · omega
                        · rw [h]; exact ⟨HR5.out, HB5.out⟩
                    | true =>
                      have hk0 : 0 < k := by
                        have := HBK.out
                        simp at this
                        omega
                      have hln : l = upd s.low (s.ct (k - 1)) (min (s.low (s.ct (k - 1))) (s.low t)) := by
                        rcases HLO.out with ⟨_, h⟩ | ⟨h, _⟩
                        · exact h
                        · omega
                      have HLN : Hid _ := hln
                      have hjn : s.ct (k - 1) < n := HTI.out.ct_lt (k - 1) (by rw [HK.out]; omega)
                      have cj : w5.cell? ⟨gc, (k - 1) * 2, none⟩ = some (.int .i64 (s.ct (k - 1) : Int)) := by
                        have h0 : Slc w5 (B + 8) 76 2 (.slice (some ⟨gc, 0, none⟩) k ccap) k (callf s.ct s.pr) := HR5.out.rc
                        rw [h0.cell (i := (k - 1) * 2) (by omega)]
                        unfold callf
                        rw [if_pos (by omega), show (k - 1) * 2 / 2 = k - 1 by omega]
                      have c3 : w5.cell? ⟨B + 3, 0, none⟩ = some (.slice (some ⟨B + 2, 0, none⟩) n n) := HR5.out.bl.cell (by omega)
                      have dt : w5.cell? ⟨B + 2, t, none⟩ = some (.int .i64 (s.low t : Int)) := HR5.out.lo.cell htn
                      have dj : w5.cell? ⟨B + 2, s.ct (k - 1), none⟩ = some (.int .i64 (s.low (s.ct (k - 1)) : Int)) := HR5.out.lo.cell hjn
                      have fj := HR5.out.lo.frozen (s.ct (k - 1))
                      clear hln
                      obtain ⟨q, hq⟩ : ∃ q, q = s.ct (k - 1) := ⟨_, rfl⟩
                      rw [← hq] at cj dj fj hjn
                      have HQQ : Hid _ := hq
                      clear hq
                      go_upto_region 33 with fail
                      go_region
                      obtain ⟨z6, hz6⟩ : ∃ z : Int, z = (if s.low t < s.low q then (s.low t : Int) else (s.low q : Int)) := ⟨_, rfl⟩
                      rw [← hz6]
                      have HZ6 : Hid _ := hz6
                      clear hz6
                      go_wp2_with fail
                      go_meet
                      case rel =>
                        rw [HLN.out, ← HQQ.out, HZ6.out, ← min_cast]
                        exact ⟨(HR5.out.low_set q (min (s.low q) (s.low t))).of fun _ _ => rfl, (HB5.out.setCell (p := ⟨B + 2, q, none⟩) (by show B ≤ B + 2; omega) _).drew⟩
                  case rest =>
                    obtain ⟨hrep6, hbel6⟩ := hcut
                    have hlt6 : l t = s.low t := by
                      rcases HLO.out with ⟨h1, h⟩ | ⟨_, h⟩
                      · rw [h]
                        refine upd_ne _ _ _ fun e => ?_
                        rw [← HT.out] at e
                        exact HTI.out.ct_ne (k - 1) k (by omega) (by rw [HK.out]; omega) e.symm
                      · rw [h]
                    have c1 : wc.cell? ⟨B + 1, 0, none⟩ = some (.slice (some ⟨B, 0, none⟩) n n) := hrep6.bi.cell (by omega)
                    have c3 : wc.cell? ⟨B + 3, 0, none⟩ = some (.slice (some ⟨B + 2, 0, none⟩) n n) := hrep6.bl.cell (by omega)
                    have d0 : wc.cell? ⟨B, t, none⟩ = some (.int .i64 (s.idx t : Int)) := hrep6.ix.cell htn
                    have d2 : wc.cell? ⟨B + 2, t, none⟩ = some (.int .i64 (s.low t : Int)) := by rw [← hlt6]; exact hrep6.lo.cell htn
                    have HR6 : Hid _ := hrep6
                    have HB6 : Hid _ := hbel6
                    clear hrep6 hbel6 hlt6 c6'
                    go_upto_region 34 with fail
                    go_quiet (fail)
                    revert nq
                    intro q3
                    by_cases heq : s.low t = s.idx t
                    · obtain ⟨K, hK, hKt, hKu⟩ := top_open HTI.out HK.out HT.out
                      have hlow6 : l = s.low := by
                        rcases HLO.out with ⟨h1, h⟩ | ⟨_, h⟩
                        · rw [h, low_parent HTI.out HK.out HT.out heq h1, upd_id]
                        · exact h
                      obtain ⟨oa, ocap, rfl, hoa⟩ := HR6.out.ro.form
                      obtain ⟨go, rfl⟩ := hoa (by show 0 < s.ol; omega)
                      obtain ⟨w7, hw7⟩ : ∃ w7, w7 = wc.drewN q3 := ⟨_, rfl⟩
                      have hrep7 : Rep B n { s with cl := k } w7 (.slice (some ⟨go, 0, none⟩) s.ol ocap) (.slice (some ⟨gc, 0, none⟩) k ccap) u3 := by
                        have := HR6.out.of (w' := wc.drewN q3) fun _ _ => rfl
                        rw [hlow6] at this
                        rw [hw7]
                        exact this
                      have hbel7 : Below B w w7 := by rw [hw7]; exact below_drewN HB6.out _
                      rw [← hw7]
                      have hocap : s.ol ≤ ocap := by
                        obtain ⟨_, _, e1, _, _, e2, _⟩ := hrep7.ro.at (by show 0 < s.ol; omega)
                        simp only [Value.slice.injEq] at e1
                        have e3 : s.ol ≤ _ := e2
                        omega
                      obtain ⟨m, hm⟩ : ∃ m, m = s.ol := ⟨_, rfl⟩
                      have hmn : m ≤ 100 := by have := HTI.out.ol_le; omega
                      have HRO : Hid (Slc w7 (B + 8) 3 1 (.slice (some ⟨go, 0, none⟩) m ocap) m (nv s.op)) := by rw [hm]; exact hrep7.ro
                      have c5 : w7.cell? ⟨B + 5, 0, none⟩ = some (.slice (some ⟨go, 0, none⟩) m ocap) := by rw [hm]; exact hrep7.bo.cell (by omega)
                      rw [← hm] at hK hKu hocap
                      have HMO : Hid _ := hm
                      have HR7 : Hid _ := hrep7
                      have HB7 : Hid _ := hbel7
                      have HEQ : Hid _ := heq
                      have HKT : Hid _ := hKt
                      have HKU : Hid _ := hKu
                      have hseq : ((s.low t : Int) == (s.idx t : Int)) = true := by simp; omega
                      clear hw7 hrep7 hbel7 hm hlow6 c1 c3 d0 d2 HR6 HB6 hKt hKu
                      go_upto_region 35 with fail
                      clear heq hseq
                      obtain ⟨sa, scap, rfl, hsa⟩ := HR7.out.rs.form
                      clear hsa
                      go_wp2_with fail
                      go_loopw [18] (fun i wx => ∃ j : Nat, K ≤ j ∧ j < m ∧ i = .int .i64 (j : Int) ∧ wx = w7) (fun i _ => (intOf i).toNat)
                      case atStart => exact ⟨m - 1, by omega, by omega, by congr 1; omega, rfl⟩
                      case round =>
                        obtain ⟨j, hKj, hjm, rfl, rfl⟩ := hrel
                        have cj : wr.cell? ⟨go, j, none⟩ = some (.int .i64 (s.op j : Int)) := HRO.out.cell (i := j) (by omega)
                        by_cases hjK : j = K
                        · have hjK' : K = j := hjK.symm
                          subst hjK'
                          rw [HKT.out] at cj
                          clear hjK hKj
                          go_wp2_with fail
                          go_loopw [181] (fun i wx => ∃ c : Nat, c ≤ m - K ∧ i = .int .i64 (c : Int) ∧ Rep B n { s with cl := k, comp := paint s.comp s.op s.sl K c } wx (.slice (some ⟨go, 0, none⟩) s.ol ocap) (.slice (some ⟨gc, 0, none⟩) k ccap) (.slice sa s.sl scap) ∧ Below B w wx) (fun i _ => m - (intOf i).toNat)
                          case atStart => exact ⟨0, by omega, rfl, HR7.out, HB7.out⟩
                          case round =>
                            obtain ⟨c, hc, rfl, hrep8, hbel8⟩ := hrel
                            by_cases hcl : c < m - K
                            · have ho : s.op (K + c) < n := HTI.out.op_lt _ (by rw [← HMO.out]; omega)
                              have cc : wr.cell? ⟨go, K + c, none⟩ = some (.int .i64 (s.op (K + c) : Int)) := by
                                have h0 : Slc wr (B + 8) 3 1 (.slice (some ⟨go, 0, none⟩) s.ol ocap) s.ol (nv s.op) := hrep8.ro
                                exact h0.cell (i := K + c) (by rw [← HMO.out]; omega)
                              have dd := hrep8.co.cell ho
                              have fd := hrep8.co.frozen (s.op (K + c))
                              have H9 : Hid _ := hrep8.comp_set (s.op (K + c)) (s.sl : Int)
                              have HB9 : Hid _ := hbel8.setCell (p := ⟨B + 4, s.op (K + c), none⟩) (by show B ≤ B + 4; omega) (.int .i64 (s.sl : Int))
                              clear hrep8 hbel8
                              dsimp only at dd
                              go_wp2
                              go_roundw
                              case rel => exact ⟨c + 1, by omega, by go_num, H9.out, HB9.out⟩
                              case measure => simp [intOf]; omega
                            · have hcm : c = m - K := by omega
                              subst hcm
                              have hsl := HTI.out.sl_le
                              obtain ⟨b9, cap9, w9, hap, hrep9, hbel9⟩ := hrep8.size_app (by show s.sl ≤ 100000; omega) (m - K)
                              have c59 : w9.cell? ⟨B + 5, 0, none⟩ = some (.slice (some ⟨go, 0, none⟩) m ocap) := by rw [HMO.out]; exact hrep9.bo.cell (by omega)
                              have c58 : wr.cell? ⟨B + 5, 0, none⟩ = some (.slice (some ⟨go, 0, none⟩) m ocap) := by rw [HMO.out]; exact hrep8.bo.cell (by omega)
                              have f59 := hrep9.bo.frozen 0
                              have H10 : Hid _ := Rep.open_cut rfl hrep9 (show K ≤ s.ol by rw [← HMO.out]; omega)
                              have HB10 : Hid _ := (hbel8.trans hbel9).setCell (p := ⟨B + 5, 0, none⟩) (by show B ≤ B + 5; omega) (.slice (some ⟨go, 0, none⟩) K ocap)
                              obtain ⟨hTI11, hlt11⟩ := step_shut HTI.out g HK.out HT.out (by rw [← HP.out, ← HL.out]; exact HPL.out) HEQ.out (K := K) (by rw [← HMO.out]; exact hK) HKT.out
                              have HQ11 : Hid (TQ B n root nx w _ (.slice (some ⟨b9, 0, none⟩) (s.sl + 1) cap9) (w9.setCell ⟨B + 5, 0, none⟩ (.slice (some ⟨go, 0, none⟩) K ocap))) := ⟨_, _, _, hTI11, rfl, HV.out, by
                                have h0 := H10.out.pr_ghost (upd s.pr t (s.pr t + 1)) (fun i hi => upd_ne _ _ _ fun e => by
                                  rw [← HT.out] at e
                                  exact HTI.out.ct_ne i k hi (by rw [HK.out]; omega) e)
                                rw [HMO.out] at h0
                                exact h0, HB10.out⟩
                              have HL11 : Hid _ := hlt11
                              dsimp only at hap
                              rw [show ((m - K : Nat) : Int) = (m : Int) - (K : Int) by omega] at hap
                              clear hrep8 hbel8 hrep9 hbel9 hTI11 hlt11 hcl hc hsl H10 HB10
                              go_wp2_with (at_builtin; refine wpList_append_run rfl (.tmp 191) (.tmp 196) 25 rfl rfl rfl hap ?_)
                              go_roundw
                              case rel => exact ⟨_, HQ11.out⟩
                              case measure => exact Nat.lt_of_le_of_lt (HMU.out (fun m => TQ B n root nx w m _ _) _ HQ11.out).2 (by have := HL11.out; have := HM.out; omega)
                        · have hne : ¬ s.op j = t := HKU.out j (by omega) hjm
                          have hj0 : 0 < j := by omega
                          go_wp2
                          go_roundw
                          case rel => exact ⟨j - 1, by omega, by omega, by congr 1; omega, trivial⟩
                          case measure => simp [intOf]; omega
                    · have hsne : ((s.low t : Int) == (s.idx t : Int)) = false := by simp; omega
                      obtain ⟨hTI7, hlt7⟩ := step_leave HTI.out HK.out HT.out (by rw [← HP.out, ← HL.out]; exact HPL.out) heq HLO.out
                      have HQ7 : Hid (TQ B n root nx w _ u3 (wc.drewN q3)) := ⟨_, _, _, hTI7, rfl, HV.out, (HR6.out.of (w' := wc.drewN q3) fun _ _ => rfl).pr_ghost _ (fun i hi => upd_ne _ _ _ fun e => by
                        rw [← HT.out] at e
                        exact HTI.out.ct_ne i k hi (by rw [HK.out]; omega) e), below_drewN HB6.out _⟩
                      have HL7 : Hid _ := hlt7
                      clear hTI7 hlt7
                      go_wp2
                      go_roundw
                      case rel => exact ⟨_, HQ7.out⟩
                      case measure => exact Nat.lt_of_le_of_lt (HMU.out (fun m => TQ B n root nx w m u3 (wc.drewN q3)) _ HQ7.out).2 (by have := HL7.out; have := HM.out; omega)
          · go_wp2
            go_roundw
            case rel =>
              refine ⟨root + 1, s, _, _, by omega, by go_num, HTI.out, HCL.out, fun v h1 h2 => ?_, HR.out, HBL.out⟩
              rcases Nat.lt_or_ge v root with c | c
              · exact HV.out v h1 c
              · rw [show v = root by omega]; exact hi
            case measure => simp [intOf]; omega
        · have e : root = n := by omega
          subst e
          go_wp2
          have hc := HTI.out.comps HCL.out (fun v hv => HV.out v hv hv)
          have hB := HB.out
          refine bodyPost_ret (v := .tuple #[.slice (some ⟨B + 4, 0, none⟩) root root, u3]) ?_ rfl ?_
          · simp [results, Yba.f16, go_sem]
          · rw [← hB]
            exact ⟨_, s.comp, s.sz, s.sl, rfl, HR.out.co, HR.out.rs.mono (by omega), hc, HBL.out⟩
end Go.Proofs.Ybulkcuye.A
