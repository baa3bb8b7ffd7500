/- 'zzs4827adist' (func 18) and 'zzs4827ashortest' (func 9), walked. -/
import Derived.Test.YbulkcuyeACompB
import Derived.Deep.CutRange
namespace Go.Proofs.Ybulkcuye.A
open Go.RowKit

/-- The table of edges as it lies in memory. -/
structure AR (w : World) (A n : Nat) (AB : Nat → Nat) (nx : Nat → List Nat) : Prop where
  rows : ∀ i, i < n → w.cell? ⟨A, i, none⟩ = some (.slice (some ⟨AB i, 0, none⟩) n n)
  bits : ∀ i, i < n → ∀ j, j < n → w.cell? ⟨AB i, j, none⟩ = some (.bool (decide (j ∈ nx i)))

theorem AR.below {w w' : World} {A n : Nat} {AB : Nat → Nat} {nx : Nat → List Nat} (h : AR w A n AB nx) (b : Below w.heap.size w w') : AR w' A n AB nx :=
  ⟨fun i hi => later b (h.rows i hi), fun i hi j hj => later b (h.bits i hi j hj)⟩

/-- The distances as far as they are known. -/
def Known (n : Nat) (q : Nat → Nat) (ql : Nat) (d : Nat → Nat) (D : Nat → Int) : Prop := ∀ v, v < n → (D v = -1 ∧ ∀ b, b < ql → q b ≠ v) ∨ (D v = (d v : Int) ∧ ∃ b, b < ql ∧ q b = v)

theorem Known.add {n : Nat} {q : Nat → Nat} {ql : Nat} {d : Nat → Nat} {D : Nat → Int} (h : Known n q ql d D) {v x : Nat} (hnew : ∀ b, b < ql → q b ≠ v) : Known n (upd q ql v) (ql + 1) (upd d v x) (upd D v (x : Int)) := by
  intro u hu
  by_cases e : u = v
  · subst e
    exact .inr ⟨by rw [upd_same, upd_same], ql, by omega, upd_same _ _ _⟩
  · rw [upd_ne _ _ _ e, upd_ne _ _ _ e]
    rcases h u hu with ⟨h1, h2⟩ | ⟨h1, b, h2, h3⟩
    · refine .inl ⟨h1, fun b hb => ?_⟩
      by_cases eb : b = ql
      · subst eb; rw [upd_same]; exact fun c => e c.symm
      · rw [upd_ne _ _ _ eb]; exact h2 b (by omega)
    · exact .inr ⟨h1, b, by omega, by rw [upd_ne _ _ _ (by omega)]; exact h3⟩

/-- The state of the search in memory: block B the distances, vq the queue. -/
def DR (B n s : Nat) (nx : Nat → List Nat) (w : World) (i : Nat) (part : Nat → Prop) (t : Option Nat) (vq : Value) (wr : World) : Prop :=
  ∃ (q : Nat → Nat) (ql : Nat) (d : Nat → Nat) (D : Nat → Int), BI nx (fun _ => True) s q ql i d part ∧ Known n q ql d D ∧ (∀ x, t = some x → i < ql ∧ q i = x) ∧ wr.rowIs B 3 n (fun v => .int .i64 (D v)) ∧ Slc wr (B + 1) 3 1 vq ql (nv q) ∧ Below B w wr

theorem dist_start {w w1 wr : World} {B n s : Nat} {nx : Nat → List Nat} (hs : s < n) (hw1 : Below B w w1) (hsz : w1.heap.size = B + 1) (hrow : wr.rowIs B 3 n (fun j => .int .i64 (if j < n then -1 else 0))) (hon : Only B w1 wr) :
    DR B n s nx w 0 (fun _ => False) none (.slice (some ⟨B + 1, 0, none⟩) 1 1) ((wr.setCell ⟨B, s, none⟩ (.int .i64 0)).alloc (.cells #[.int .i64 (s : Int)] 3)) := by
  have hsz' : wr.heap.size = B + 1 := hon.size.trans hsz
  refine ⟨fun _ => s, 1, fun _ => 0, fun v => if v = s then 0 else -1, BI.init nx _ s trivial _ _ rfl rfl, ?_, (fun x h => by cases h), ?_, ?_, ?_⟩
  · intro v _
    by_cases e : v = s
    · subst e; exact .inr ⟨by simp, 0, by omega, rfl⟩
    · exact .inl ⟨by simp [e], fun _ _ c => e c.symm⟩
  · refine ((hrow.set s _).congr fun j hj => ?_).alloc _
    by_cases e : j = s <;> simp [e, hj]
  · have h0 := World.rowIs_alloc (wr.setCell ⟨B, s, none⟩ (.int .i64 0)) #[.int .i64 (s : Int)] 3 (nv fun _ => s) (fun i hi => by simp at hi; subst hi; rfl)
    simp [hsz'] at h0
    exact Slc.made h0 (Nat.le_refl _) (Nat.le_refl _) (by unfold maxLen; omega)
  · exact ((hw1.trans (hon.below (Nat.le_refl _))).setCell (Nat.le_refl _) _).alloc (by simp; omega) _

set_option maxRecDepth 20000 in
set_option maxHeartbeats 4000000 in
theorem dist_any (A n s : Nat) (AB : Nat → Nat) (nx : Nat → List Nat) (w : World) (hA : AR w A n AB nx) (g : Gr n nx) (hs : s < n) (hn : n ≤ 100) :
    Calls Yba.prog 18 #[.slice (some ⟨A, 0, none⟩) n n, .int .i64 (s : Int), .int .i64 (n : Int)] w fun e w' => e = .returned (.slice (some ⟨w.heap.size, 0, none⟩) n n) ∧
      (∃ D, w'.rowIs w.heap.size 3 n (fun v => .int .i64 (D v)) ∧ Dist nx n s D ∧ ∀ v, v < n → D v ≤ 100) ∧ Below w.heap.size w w' := by
  have hmk := run_make_row' (P := Yba.prog) 25 3 (.int .i64 0) 8 Yba.underlying25 info3 rfl .i64 .i64 n (by omega) (by omega)
  have HA : Hid _ := hA
  clear hA
  go_enter Yba.func18, Yba.ntmps18
  go_wp2
  obtain ⟨w1, hw1⟩ : ∃ w1, w1 = w.alloc (.cells (madeCells #[.int .i64 0] n) 3) := ⟨_, rfl⟩
  have hrow0 : w1.rowIs w.heap.size 3 n (fun _ => .int .i64 0) := by rw [hw1]; exact World.rowIs_made w (.int .i64 0) n 3
  have hsz : w1.heap.size = w.heap.size + 1 := by rw [hw1]; simp
  have hb1 : Below w.heap.size w w1 := by rw [hw1]; exact (Below.refl _ _).alloc (Nat.le_refl _) _
  rw [← hw1]
  clear hw1 hmk
  obtain ⟨B, hB⟩ : ∃ B, B = w.heap.size := ⟨_, rfl⟩
  rw [← hB] at hrow0 hsz hb1 ⊢
  have HB : Hid _ := hB
  have HSZ : Hid _ := hsz
  clear hsz hB
  go_loopw [8] (fun i wr => ∃ k : Nat, k ≤ n ∧ i = .int .i64 (k : Int) ∧ wr.rowIs B 3 n (fun j => .int .i64 (if j < k then -1 else 0)) ∧ Only B w1 wr) (fun i _ => n - (intOf i).toNat)
  case atStart => exact ⟨0, by omega, rfl, hrow0.congr (fun j _ => by simp), Only.refl _ _⟩
  case round =>
    obtain ⟨k, hk, rfl, hrow, hon⟩ := hrel
    by_cases hlt : k < n
    · have hcell := hrow.cell hlt
      have hfz := hrow.frozen k
      go_wp2
      go_roundw
      case rel =>
        refine ⟨k + 1, by omega, by go_num, (hrow.set k _).congr (fun j _ => ?_), hon.setCell _ _⟩
        by_cases e : j = k
        · subst e; simp
        · by_cases e2 : j < k
          · simp [e, e2, show j < k + 1 by omega]
          · simp [e, e2, show ¬ j < k + 1 by omega]
      case measure => simp [intOf]; omega
    · have hkn : n = k := by omega
      subst hkn
      have hc := hrow.cell hs
      have hf := hrow.frozen s
      have hsw : wr.heap.size = B + 1 := hon.size.trans HSZ.out
      have HST : Hid _ := dist_start (nx := nx) hs hb1 HSZ.out hrow hon
      have HSW : Hid _ := hsw
      clear hrow hon hrow0 hsw
      go_wp2
      rw [HSW.out]
      obtain ⟨w2, hw2⟩ : ∃ w2, w2 = (wr.setCell ⟨B, s, none⟩ (.int .i64 0)).alloc (.cells #[.int .i64 (s : Int)] 3) := ⟨_, rfl⟩
      rw [← hw2] at HST ⊢
      clear hw2 HSW hc hf hb1
      go_loopw [9, 10] (fun vq i wr => ∃ k : Nat, i = .int .i64 (k : Int) ∧ DR B n s nx w k (fun _ => False) none vq wr) (fun _ i _ => n - (intOf i).toNat)
      case atStart => exact ⟨0, rfl, HST.out⟩
      case round =>
        obtain ⟨k, rfl, q, ql, d, D, hBI, hKn, _, hrow, hsl, hbel⟩ := hrel
        have hql : ql ≤ 100 := by have := hBI.ql_le g hs; omega
        have hle := hBI.le
        obtain ⟨qa, qcap, rfl, hqa⟩ := hsl.form
        by_cases hlt : k < ql
        · obtain ⟨qb, rfl⟩ := hqa (by omega)
          have ck : wr.cell? ⟨qb, k, none⟩ = some (.int .i64 (q k : Int)) := hsl.cell (by omega)
          obtain ⟨t, ht⟩ : ∃ t, t = q k := ⟨_, rfl⟩
          have htn : t < n := by rw [ht]; exact hBI.lt g hs k hlt
          rw [← ht] at ck
          have HD : Hid (DR B n s nx w k (fun x => x < 0) (some t) (.slice (some ⟨qb, 0, none⟩) ql qcap) wr) := ⟨q, ql, d, D, hBI.parts (fun x hx => absurd hx (by omega)), hKn, (fun x hx => by cases hx; exact ⟨hlt, ht.symm⟩), hrow, hsl, hbel⟩
          clear hBI hKn hrow hsl hbel hqa ht
          go_wp2
          go_loopw [9, 12] (fun vq i wr => ∃ v : Nat, v ≤ n ∧ i = .int .i64 (v : Int) ∧ DR B n s nx w k (fun x => x < v) (some t) vq wr) (fun _ i _ => n - (intOf i).toNat)
          case atStart => exact ⟨0, by omega, rfl, HD.out⟩
          case round =>
            obtain ⟨v, hv, rfl, q, ql, d, D, hBI, hKn, hti, hrow, hsl, hbel⟩ := hrel
            obtain ⟨hkq, hqk⟩ := hti t rfl
            by_cases hvn : v < n
            · have hAR := HA.out.below (w' := wr) (HB.out ▸ hbel)
              have ca := hAR.rows t htn
              have cb := hAR.bits t htn v hvn
              have cv := hrow.cell hvn
              have fv := hrow.frozen v
              have hDt : D t = (d t : Int) := by
                rcases hKn t htn with ⟨_, h⟩ | ⟨h, _⟩
                · exact absurd hqk (h k hkq)
                · exact h
              have ct := hrow.cell htn
              rw [hDt] at ct
              have hdt : d t ≤ 100 := by
                have h1 := hBI.dle k hkq
                have h2 := hBI.ql_le g hs
                rw [hqk] at h1
                omega
              clear hAR hDt
              by_cases hin : v ∈ nx t
              · rw [decide_eq_true hin] at cb
                rcases hKn v hvn with ⟨hD, hnew⟩ | ⟨hD, hold⟩
                · rw [hD] at cv
                  have hql : ql ≤ 100 := by have := hBI.ql_le g hs; omega
                  have hBI' := hBI.add hkq (hqk.symm ▸ hin) trivial hnew
                  rw [hqk] at hBI'
                  have hKn' := hKn.add (x := d t + 1) hnew
                  have hrow' : (wr.setCell ⟨B, v, none⟩ (.int .i64 ((d t : Int) + 1))).rowIs B 3 n (fun x => .int .i64 (upd D v ((d t + 1 : Nat) : Int) x)) := (hrow.set v _).congr fun j _ => by
                    unfold upd
                    by_cases e : j = v <;> simp [e]
                  have hsz : B + 1 ≤ wr.heap.size := hrow.lt
                  obtain ⟨b', cap', w3, hap, hsl3, hgrow, hb3⟩ := Slc.app (hsl.low (a := ⟨B, v, none⟩) (by show B < B + 1; omega) (.int .i64 ((d t : Int) + 1))) (by simp; omega) (by omega) (v : Int)
                  have e3 : (wr.setCell ⟨B, v, none⟩ (.int .i64 ((d t : Int) + 1))).heap.size = wr.heap.size := by simp
                  rw [e3] at hap
                  have HN : Hid (DR B n s nx w k (fun x => x < v + 1) (some t) (.slice (some ⟨b', 0, none⟩) (ql + 1) cap') w3) := by
                    refine ⟨upd q ql v, ql + 1, upd d v (d t + 1), upd D v ((d t + 1 : Nat) : Int), hBI'.parts (fun x hx => ?_), hKn', (fun x hx => ?_), ?_, ?_, ?_⟩
                    · rcases Nat.lt_or_ge x v with c | c
                      · exact .inl c
                      · exact .inr (by omega)
                    · cases hx
                      exact ⟨by omega, by rw [upd_ne _ _ _ (by omega)]; exact hqk⟩
                    · exact (hrow'.alloc _).of_block (hgrow.block B (by simp; omega) (fun c => by have := (hsl.lt B c.symm).1; omega))
                    · refine hsl3.congr fun i _ => ?_
                      unfold nv upd
                      by_cases e : i = ql <;> simp [e]
                    · have hb2 : Below B w (wr.setCell ⟨B, v, none⟩ (.int .i64 ((d t : Int) + 1))) := hbel.setCell (Nat.le_refl _) _
                      exact (hb2.alloc (by simp; omega) _).grown hgrow (by simp; omega) (fun c hc => by have := (hsl.lt c hc).1; omega)
                  have hDt' : ¬ v = t ∨ v = t := by omega
                  clear hBI hKn hrow hbel hBI' hKn' hrow' hsl3 hgrow hb3 e3 hti hnew hDt' hsl hD
                  go_wp2_with (at_builtin; refine wpList_append_run rfl (.tmp 65) (.tmp 67) 25 rfl rfl rfl hap ?_)
                  go_roundw
                  case rel => exact ⟨v + 1, by omega, by go_num, HN.out⟩
                  case measure => simp [intOf]; omega
                · have hge : ¬ D v < 0 := by omega
                  have HN : Hid (DR B n s nx w k (fun x => x < v + 1) (some t) u9 wr) := ⟨q, ql, d, D, (hBI.skip (v := v) hkq (.inr (.inr hold))).parts (fun x hx => by
                    rcases Nat.lt_or_ge x v with c | c
                    · exact .inl c
                    · exact .inr (by omega)), hKn, hti, hrow, hsl, hbel⟩
                  clear hBI hKn hti hrow hsl hbel hD hold
                  go_wp2
                  go_roundw
                  case rel => exact ⟨v + 1, by omega, by go_num, HN.out⟩
                  case measure => simp [intOf]; omega
              · rw [decide_eq_false hin] at cb
                have HN : Hid (DR B n s nx w k (fun x => x < v + 1) (some t) u9 wr) := ⟨q, ql, d, D, (hBI.skip (v := v) hkq (.inr (.inl (by rw [hqk]; exact hin)))).parts (fun x hx => by
                  rcases Nat.lt_or_ge x v with c | c
                  · exact .inl c
                  · exact .inr (by omega)), hKn, hti, hrow, hsl, hbel⟩
                clear hBI hKn hti hrow hsl hbel hin
                go_wp2
                go_roundw
                case rel => exact ⟨v + 1, by omega, by go_num, HN.out⟩
                case measure => simp [intOf]; omega
            · have hvn' : n = v := by omega
              subst hvn'
              have HN : Hid (DR B n s nx w (k + 1) (fun _ => False) none u9 wr) := ⟨q, ql, d, D, hBI.next hkq (fun x hx => g.lt t htn x (hqk ▸ hx)), hKn, (fun x hx => by cases hx), hrow, hsl, hbel⟩
              have hkn : k < n := by have := hBI.ql_le g hs; omega
              clear hBI hKn hti hrow hsl hbel
              go_wp2
              go_roundw
              case rel => exact ⟨k + 1, by go_num, HN.out⟩
              case measure => simp [intOf]; omega
        · have hkq : k = ql := by omega
          have HF : Hid (Dist nx n s D ∧ ∀ v, v < n → D v ≤ 100) := ⟨hBI.dist hkq hKn, fun v hv => by
            rcases hKn v hv with ⟨h, _⟩ | ⟨h, b, hb, hqb⟩
            · omega
            · have := hBI.dle b hb
              rw [hqb] at this
              omega⟩
          have HB2 : Hid _ := hbel
          have HR : Hid _ := hrow
          clear hBI hKn hsl hbel hrow
          go_wp2
          go_ret
          have hB := HB.out
          rw [← hB]
          exact ⟨rfl, ⟨D, HR.out, HF.out⟩, HB2.out⟩

theorem Short.skip {nx : Nat → List Nat} {t m : Nat} {D : Nat → Int} {l : Int} (h : Short nx t m D l) (hs : t ∉ nx m ∨ D m = -1 ∨ (0 < l ∧ l ≤ D m + 1)) : Short nx t (m + 1) D l := by
  rcases h with ⟨e, hno⟩ | ⟨hpos, ⟨u, hu, htu, hDu, e⟩, hle⟩
  · refine .inl ⟨e, fun u hu htu => ?_⟩
    by_cases c : u = m
    · subst c
      rcases hs with h | h | ⟨h, _⟩
      · exact absurd htu h
      · exact h
      · omega
    · exact hno u (by omega) htu
  · refine .inr ⟨hpos, ⟨u, by omega, htu, hDu, e⟩, fun x hx htx hDx => ?_⟩
    by_cases c : x = m
    · subst c
      rcases hs with h | h | ⟨_, h⟩
      · exact absurd htx h
      · omega
      · exact h
    · exact hle x (by omega) htx hDx

theorem Short.take {nx : Nat → List Nat} {t m : Nat} {D : Nat → Int} {l : Int} (h : Short nx t m D l) (hin : t ∈ nx m) (hD : 0 ≤ D m) (hs : l = 0 ∨ D m + 1 < l) (hall : ∀ u, u < m → D u = -1 ∨ 0 ≤ D u) : Short nx t (m + 1) D (D m + 1) := by
  refine .inr ⟨by omega, ⟨m, by omega, hin, hD, rfl⟩, fun x hx htx hDx => ?_⟩
  by_cases c : x = m
  · subst c; exact Int.le_refl _
  · rcases h with ⟨e, hno⟩ | ⟨hpos, _, hle⟩
    · have := hno x (by omega) htx
      omega
    · have := hle x (by omega) htx hDx
      have := hall x (by omega)
      rcases hs with h | h <;> omega

set_option maxRecDepth 20000 in
set_option maxHeartbeats 4000000 in
theorem shortest_any (A n t : Nat) (AB : Nat → Nat) (nx : Nat → List Nat) (w : World) (hA : AR w A n AB nx) (g : Gr n nx) (ht : t < n) (hn : n ≤ 100) :
    Calls Yba.prog 9 #[.slice (some ⟨A, 0, none⟩) n n, .int .i64 (t : Int), .int .i64 (n : Int)] w fun e w' => (∃ L : Nat, e = .returned (.int .i64 (L : Int)) ∧ ((L = 0 ∧ ∀ k, 0 < k → ¬ Wk nx k t t) ∨ Least nx t L)) ∧ Below w.heap.size w w' := by
  go_enter Yba.func9, Yba.ntmps9
  go_wp2_with fail
  refine (dist_any A n t AB nx w hA g ht hn).mono ?_
  rintro e w1 ⟨rfl, ⟨D, hrow, hdist, hD100⟩, hbel⟩
  have hA1 := hA.below hbel
  have HA : Hid _ := hA1
  have HD : Hid _ := hdist
  have HBL : Hid _ := hbel
  clear hA hA1 hdist hbel
  obtain ⟨B, hB⟩ : ∃ B, B = w.heap.size := ⟨_, rfl⟩
  rw [← hB] at hrow
  rw [← hB]
  have HB : Hid _ := hB
  clear hB
  have hcase : ∀ u, u < n → D u = -1 ∨ 0 ≤ D u := fun u hu => by
    rcases HD.out u hu with ⟨h, _⟩ | ⟨k, h, _⟩
    · exact .inl h
    · exact .inr (by omega)
  go_wp2
  go_loopw [8, 9] (fun i8 i9 wr => ∃ (l : Int) (u : Nat), u ≤ n ∧ i8 = .int .i64 l ∧ i9 = .int .i64 (u : Int) ∧ Short nx t u D l ∧ wr = w1) (fun _ i9 _ => n - (intOf i9).toNat)
  case atStart => exact ⟨0, 0, by omega, rfl, rfl, .inl ⟨rfl, fun u h => by omega⟩, rfl⟩
  case round =>
    obtain ⟨l, u, hu, rfl, rfl, hsh, rfl⟩ := hrel
    by_cases hlt : u < n
    · have ca := HA.out.rows u hlt
      have cb := HA.out.bits u hlt t ht
      have cd := hrow.cell hlt
      have hd100 := hD100 u hlt
      by_cases hin : t ∈ nx u
      · rw [decide_eq_true hin] at cb
        rcases hcase u hlt with hDu | hDu
        · have HS : Hid _ := hsh.skip (.inr (.inl hDu))
          rw [hDu] at cd
          clear hsh hDu hin hd100
          go_wp2
          go_roundw
          case rel => exact ⟨l, u + 1, by omega, rfl, by go_num, HS.out, trivial⟩
          case measure => simp [intOf]; omega
        · by_cases hl0 : l = 0
          · subst hl0
            have HS : Hid _ := hsh.take hin hDu (.inl rfl) (fun x hx => hcase x (by omega))
            clear hsh hin
            go_wp2
            go_roundw
            case rel => exact ⟨D u + 1, u + 1, by omega, by go_num, by go_num, HS.out, trivial⟩
            case measure => simp [intOf]; omega
          · by_cases hlt2 : D u + 1 < l
            · have HS : Hid _ := hsh.take hin hDu (.inr hlt2) (fun x hx => hcase x (by omega))
              clear hsh hin
              go_wp2
              go_roundw
              case rel => exact ⟨D u + 1, u + 1, by omega, by go_num, by go_num, HS.out, trivial⟩
              case measure => simp [intOf]; omega
            · have hlpos : 0 < l := by
                rcases hsh with ⟨e, _⟩ | ⟨h, _⟩
                · exact absurd e hl0
                · exact h
              have HS : Hid _ := hsh.skip (.inr (.inr ⟨hlpos, by omega⟩))
              clear hsh hin
              go_wp2
              go_roundw
              case rel => exact ⟨l, u + 1, by omega, rfl, by go_num, HS.out, trivial⟩
              case measure => simp [intOf]; omega
      · rw [decide_eq_false hin] at cb
        have HS : Hid _ := hsh.skip (.inl hin)
        clear hsh hin hd100
        go_wp2
        go_roundw
        case rel => exact ⟨l, u + 1, by omega, rfl, by go_num, HS.out, trivial⟩
        case measure => simp [intOf]; omega
    · have hun : n = u := by omega
      subst hun
      have HS : Hid _ := hsh.least HD.out g ht
      clear hsh
      go_wp2
      go_ret
      refine ⟨?_, HBL.out⟩
      rcases HS.out with ⟨e, h⟩ | ⟨L, e, h⟩
      · exact ⟨0, by rw [e]; rfl, .inl ⟨rfl, h⟩⟩
      · exact ⟨L, by rw [e]; rfl, .inr h⟩
end Go.Proofs.Ybulkcuye.A
