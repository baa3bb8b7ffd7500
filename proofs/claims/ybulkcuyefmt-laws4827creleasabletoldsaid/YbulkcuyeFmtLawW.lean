import Derived.Test.YbulkcuyeFmtLawR
namespace Go.Proofs.YbulkcuyeFmt
open Go.RowKit Go.Extern.Stop Go.Stop Go.Extern

theorem drewN_below' {w w2 : World} {B : Nat} (h : Below B w w2) (d : Nat) : Below B w (w2.drewN d) := ⟨h.os, h.tape, h.output, h.size, h.block⟩
theorem out_at {r : Int} {n : Nat} {nm : Nat → ByteArray} {md : Nat → Int} {q : ByteArray} {v : Int} {er : Value} (h : Out r n nm md q v er) (i : Nat) (hi : i < n) (hp : ∀ j, i < j → j < n → Pass nm q j) (hn : ¬ Pass nm q i) : At r nm md q i v er := by
  rcases h with ⟨h, _⟩ | ⟨i', hi', hp', ha⟩
  · exact absurd (h i hi) hn
  · rcases Nat.lt_trichotomy i i' with e | e | e
    · have hx := hp i' e hi'
      rcases ha with ⟨_, _, hb | ⟨_, hb, _⟩⟩ | ⟨_, _, _, hb, _⟩
      · rw [hx.1] at hb; cases hb
      · rw [hx.2] at hb; cases hb
      · rw [hx.2] at hb; cases hb
    · subst e; exact ha
    · exact absurd (hp' i e hi) hn
theorem out_none {r : Int} {n : Nat} {nm : Nat → ByteArray} {md : Nat → Int} {q : ByteArray} {v : Int} {er : Value} (h : Out r n nm md q v er) (hp : ∀ j, j < n → Pass nm q j) : v = 0 ∧ ∃ p, er = .iface 121 (.pointer (some p)) := by
  rcases h with ⟨_, h⟩ | ⟨i', hi', _, ha⟩
  · exact h
  · have hx := hp i' hi'
    rcases ha with ⟨_, _, hb | ⟨_, hb, _⟩⟩ | ⟨_, _, _, hb, _⟩
    · rw [hx.1] at hb; cases hb
    · rw [hx.2] at hb; cases hb
    · rw [hx.2] at hb; cases hb

set_option maxRecDepth 20000 in
set_option maxHeartbeats 4000000 in
theorem law_main (F : Interp) (x s : Int) (pd : Bool) (a3 : Option Addr) (L cap3 : Nat) (a4 : Option Addr) (M cap4 : Nat) (pa : Nat → Option Addr) (pn pc : Nat → Nat) (mo : Nat → Int) (ot : Nat → Bool) (z : Nat → Nat → Int) (zq : Nat → Int) (x0 x1 x2 x3 : Addr) (w : World)
    (hF : F.answers w.tape) (hx0 : 0 ≤ x) (hx1 : x ≤ 255) (hs0 : 0 ≤ s) (hs1 : s ≤ 255) (hE : Ents w a3 L pa pn pc mo ot z) (hq : 0 < M → ∃ b off, a4 = some ⟨b, off, none⟩ ∧ ∀ i, i < M → w.cell? ⟨b, off + i, none⟩ = some (.int .u8 (zq i))) (hzq : ∀ i, i < M → 0 ≤ zq i ∧ zq i ≤ 255)
    (hS : Sent w x0 x1 x2 x3) (h4 : 4 ≤ w.heap.size) :
    Calls Ybaf.prog 3 #[.int .u8 x, .int .u8 s, .bool pd, .slice a3 L cap3, .slice a4 M cap4] w fun e w' => e = .returned (.bool true) ∧ Below w.heap.size w w' := by
  by_cases hL : L ≤ 512 ∧ M ≤ 1024
  case neg =>
    by_cases hL1 : L ≤ 512
    · have hM1 : ¬ M ≤ 1024 := fun h => hL ⟨hL1, h⟩
      clear hL
      go_enter Ybaf.func3, Ybaf.ntmps3
      go_wp2
      go_ret
      exact ⟨rfl, Below.refl _ _⟩
    · clear hL
      go_enter Ybaf.func3, Ybaf.ntmps3
      go_wp2
      go_ret
      exact ⟨rfl, Below.refl _ _⟩
  obtain ⟨hL, hM⟩ := hL
  have HE : Hid _ := hE
  have HS : Hid _ := hS
  have HQ : Hid _ := hq
  have HZQ : Hid _ := hzq
  clear hE hS hq hzq
  go_enter Ybaf.func3, Ybaf.ntmps3
  go_wp2
  go_loopw [40] (fun i wr => ∃ k : Nat, k ≤ L ∧ i = .int .i64 (k : Int) ∧ Below w.heap.size w wr ∧ (∀ j, j < k → pn j ≤ 1024)) (fun i _ => L - (intOf i).toNat)
  case atStart => exact ⟨0, Nat.zero_le _, rfl, Below.refl _ _, fun j h => by omega⟩
  case round =>
    obtain ⟨k, hk, rfl, hb, hp⟩ := hrel
    by_cases hlt : k < L
    · obtain ⟨b, off, rfl, hc⟩ := HE.out.cells (by omega)
      obtain ⟨e0, e1, e2⟩ := hc k hlt
      have c0 : wr.cell? ⟨b, off + k * 3, none⟩ = _ := cell_later hb e0
      have c1 : wr.cell? ⟨b, off + k * 3 + 1, none⟩ = _ := cell_later hb e1
      have c2 : wr.cell? ⟨b, off + k * 3 + 2, none⟩ = _ := cell_later hb e2
      clear hc e0 e1 e2
      by_cases hp1 : pn k ≤ 1024
      · go_wp2
        exact ⟨⟨k + 1, by omega, by go_num, hb.alloc hb.size _, fun j hj => by
          rcases Nat.lt_or_ge j k with h | h
          · exact hp j h
          · obtain rfl : j = k := by omega
            exact hp1⟩, by simp [intOf]; omega⟩
      · go_wp2
        go_ret
        exact ⟨rfl, hb.alloc hb.size _⟩
    · obtain rfl : L = k := by omega
      obtain ⟨wk, hwk⟩ : ∃ wk : World, wk = wr := ⟨_, rfl⟩
      subst hwk
      obtain ⟨Z, hZ, hZs⟩ := z70
      have hm88 := run_make_row' (P := Ybaf.prog) 88 9 (.string ByteArray.empty) 16 Ybaf.underlying88 info9 rfl .i64 .i64 L (by omega) (by omega)
      have hm54 := run_make_row' (P := Ybaf.prog) 54 57 (.pointer none) 8 Ybaf.underlying54 info57 rfl .i64 .i64 L (by omega) (by omega)
      have HP : Hid _ := hp
      have HB : Hid _ := hb
      clear hp hlt hk
      cases pd with
      | true =>
        have hB0 := base_T hb Z hZs (x % 3) (s % 4) L
        go_wp2
        go_loopw [80] (fun i wq => ∃ (j : Nat) (nm : Nat → ByteArray) (eb : Nat → Nat), j ≤ L ∧ i = .int .i64 (j : Int) ∧ Bld (startT wk Z (x % 3) (s % 4) L) wq (wk.heap.size + 1) (wk.heap.size + 1 + 1) (wk.heap.size + 1 + 1 + 1 + 1) L j mo ot nm eb ∧ Below w.heap.size w wq) (fun i _ => L - (intOf i).toNat)
        case atStart => exact ⟨0, fun _ => ByteArray.empty, fun _ => 0, Nat.zero_le _, rfl, hB0.bld _ _ _ _, hB0.bel⟩
        case round =>
          obtain ⟨j, nm, eb, hj, rfl, hbl, hbw⟩ := hrel
          have HBL : Hid _ := hbl
          have hsz := hbl.size
          have HB0 : Hid _ := hB0
          by_cases hlt : j < L
          · obtain ⟨b, off, rfl, hc⟩ := HE.out.cells (by omega)
            obtain ⟨e0, e1, e2⟩ := hc j hlt
            have c0 : wr.cell? ⟨b, off + j * 3, none⟩ = _ := cell_later hbw e0
            have c1 : wr.cell? ⟨b, off + j * 3 + 1, none⟩ = _ := cell_later hbw e1
            have c2 : wr.cell? ⟨b, off + j * 3 + 2, none⟩ = _ := cell_later hbw e2
            have hpj := HP.out j hlt
            have hmo0 := (HE.out.mode j hlt).1
            have hmo1 := (HE.out.mode j hlt).2
            clear hc e0 e1 e2 hbl hB0
            go_wp2_with fail
            refine (path_any (pa j) (pn j) (pc j) (z j) _ hpj (HE.out.byte j hlt) (fun h => by
              obtain ⟨b', off', h1, h2⟩ := HE.out.path j hlt h
              exact ⟨b', off', h1, fun i hi => cell_later ((hbw.alloc hbw.size _)) (h2 i hi)⟩)).mono ?_
            rintro e wp ⟨⟨sj, hsj, rfl⟩, hbp⟩
            have hbwp : Below wr.heap.size wr wp := ((Below.refl _ wr).alloc (Nat.le_refl _) _).trans (hbp.mono (by simp))
            have hpz : wr.heap.size + 1 ≤ wp.heap.size := by have := hbp.size; simpa using this
            have k1 : wp.cell? ⟨wr.heap.size, 1, none⟩ = some (.int .u8 (mo j)) := cell_later hbp (by simp [go_sem])
            have k2 : wp.cell? ⟨wr.heap.size, 2, none⟩ = some (.bool (ot j)) := cell_later hbp (by simp [go_sem])
            have r0 := HBL.out.names.of_block (hbwp.block _ HBL.out.names.lt)
            have r1 := (HBL.out.list.of_block (hbwp.block _ HBL.out.list.lt)).setOther (a := ⟨wk.heap.size + 1 + 1 + 1 + 1, j, none⟩) (by show wk.heap.size + 1 + 1 + 1 + 1 + 1 ≠ wk.heap.size + 1 + 1 + 1 + 1; omega) (.string sj)
            have r2 := (HBL.out.snap.of_block (hbwp.block _ HBL.out.snap.lt)).setOther (a := ⟨wk.heap.size + 1 + 1 + 1 + 1, j, none⟩) (by show wk.heap.size + 1 + 1 + 1 + 1 + 1 + 1 ≠ wk.heap.size + 1 + 1 + 1 + 1; omega) (.string sj)
            have k1' : (wp.setCell ⟨wk.heap.size + 1 + 1 + 1 + 1, j, none⟩ (.string sj)).cell? ⟨wr.heap.size, 1, none⟩ = some (.int .u8 (mo j)) := (World.cell?_setCell_other _ _ _ _ (fun h => by injection h; omega)).trans k1
            have k2' : (wp.setCell ⟨wk.heap.size + 1 + 1 + 1 + 1, j, none⟩ (.string sj)).cell? ⟨wr.heap.size, 2, none⟩ = some (.bool (ot j)) := (World.cell?_setCell_other _ _ _ _ (fun h => by injection h; omega)).trans k2
            have p0 := r0.cell hlt
            have p1 := r1.cell hlt
            have p2 := r2.cell hlt
            have f0 := r0.frozen j
            have f1 := r1.frozen j
            have f2 := r2.frozen j
            clear r0 r1 r2 c0 c1 c2 k1 k2
            have HBP : Hid _ := hbp
            clear hbp
            have l1 : wr.heap.size < wp.heap.size := by omega
            have l2 : wk.heap.size + 1 + 1 + 1 + 1 < wp.heap.size := by omega
            have l3 : wk.heap.size + 1 + 1 + 1 + 1 + 1 < wp.heap.size := by omega
            have l4 : wk.heap.size + 1 + 1 + 1 + 1 + 1 + 1 < wp.heap.size := by omega
            have hbwp2 : Below w.heap.size w wp := hbw.trans (hbwp.mono hbw.size)
            clear hsz hpz hbwp
            cases hoj : ot j with
            | true =>
              go_wp2
              refine ⟨⟨j + 1, _, _, by omega, by go_num, HBL.out.step sj _ HBP.out _ (by rw [hoj]; rfl), ?_⟩, by simp [intOf]; omega⟩
              exact (((hbwp2.setCell (p := ⟨wk.heap.size + 1 + 1 + 1 + 1, j, none⟩) HB0.out.geN _).setCell (p := ⟨wk.heap.size + 1 + 1 + 1 + 1 + 1, j, none⟩) (by have := HB0.out.geN; show w.heap.size ≤ wk.heap.size + 1 + 1 + 1 + 1 + 1; omega) _).setCell (p := ⟨wk.heap.size + 1 + 1 + 1 + 1 + 1 + 1, j, none⟩) (by have := HB0.out.geN; show w.heap.size ≤ wk.heap.size + 1 + 1 + 1 + 1 + 1 + 1; omega) _).alloc (by have := hbwp2.size; simp; omega) _
            | false =>
              go_wp2
              refine ⟨⟨j + 1, _, _, by omega, by go_num, HBL.out.step sj _ HBP.out _ (by rw [hoj]; rfl), ?_⟩, by simp [intOf]; omega⟩
              exact (((hbwp2.setCell (p := ⟨wk.heap.size + 1 + 1 + 1 + 1, j, none⟩) HB0.out.geN _).setCell (p := ⟨wk.heap.size + 1 + 1 + 1 + 1 + 1, j, none⟩) (by have := HB0.out.geN; show w.heap.size ≤ wk.heap.size + 1 + 1 + 1 + 1 + 1; omega) _).setCell (p := ⟨wk.heap.size + 1 + 1 + 1 + 1 + 1 + 1, j, none⟩) (by have := HB0.out.geN; show w.heap.size ≤ wk.heap.size + 1 + 1 + 1 + 1 + 1 + 1; omega) _).alloc (by have := hbwp2.size; simp; omega) _
          · obtain rfl : j = L := by omega
            have t1 := HB0.out.tx.of_block (HBL.out.bel.block _ HB0.out.ltt)
            have ft2 := t1.frozen 2
            have ct2 := t1.cell (i := 2) (by omega)
            clear t1 hbl hB0 hsz
            go_wp2_with fail
            refine (path_any a4 M cap4 zq _ hM HZQ.out (fun h => by
              obtain ⟨b', off', h1, h2⟩ := HQ.out h
              exact ⟨b', off', h1, fun i hi => cell_later (hbw.setCell (p := ⟨wk.heap.size + 1, 2, none⟩) HB0.out.get _) (h2 i hi)⟩)).mono ?_
            rintro e wq ⟨⟨q, hq1, rfl⟩, hbq⟩
            have hR := ready_of HB0.out HBL.out hbw hbq
            have HR : Hid _ := hR
            go_wp2_with fail
            refine (rel_all F (wk.heap.size + 1) wk.heap.size (wk.heap.size + 1 + 1 + 1 + 1 + 1) j j (x % 3) (s % 4) (some ⟨wk.heap.size + 1 + 1 + 1, 0, none⟩) eb nm (mdf mo ot) x0 x1 x2 x3 q wq (by rw [hR.bel.tape]; exact hF) hR.txn (HS.out.below hR.bel h4) (Nat.le_trans h4 hR.bel.size) hL hR.list.lt
              (fun i hi => by have := hR.list.cell hi; simpa [ebf, hi] using this) (fun i hi => (hR.ent i hi).lt) (fun i hi => (hR.ent i hi).cell (i := 0) (by omega)) (fun i hi W hW => hR.mode i hi W hW)).mono ?_
            rintro e w2 ⟨⟨v, er, rfl, hA⟩, hb2⟩
            have hR2 := hR.below hb2
            have HA : Hid _ := hA
            have HR2 : Hid _ := hR2
            have t2 := hR2.txn.held
            have hn57 := neq57
            clear hR hbq ft2 ct2 hb2 hA hR2 HR HBL HB0
            go_wp2
            go_loopw [149] (fun i wy => ∃ (k d : Nat), k ≤ j ∧ i = .int .i64 (k : Int) ∧ wy = w2.drewN d) (fun i _ => j - (intOf i).toNat)
            case atStart => exact ⟨0, 0, Nat.zero_le _, rfl, rfl⟩
            case round =>
              obtain ⟨k, d, hk, rfl, rfl⟩ := hrel
              by_cases hlt3 : k < j
              · have q1 := HR2.out.list.cell hlt3
                have q2 := HR2.out.snap.cell hlt3
                have q3 := HR2.out.names.cell hlt3
                have q4 := (HR2.out.ent k hlt3).cell (i := 0) (by omega)
                simp only [ebf, nmf, hlt3, if_true] at q1 q2 q3
                have q4' : w2.cell? ⟨eb k, 0, none⟩ = some (.string (nm k)) := q4
                clear q4
                go_wp2_with fail
                go_quiet (fail)
                go_wp2
                exact ⟨⟨k + 1, _, by omega, by go_num, rfl⟩, by simp [intOf]; omega⟩
              · obtain rfl : k = j := by omega
                have hS2 := HS.out.below HR2.out.bel h4
                have g0 := hS2.g0
                have g1 := hS2.g1
                have g2 := hS2.g2
                have g3 := hS2.g3
                have he98 := eql98
                have hbE : Below w.heap.size w (w2.drewN d) := drewN_below' HR2.out.bel d
                clear hS2 t2 hn57
                by_cases hst2 : s % 4 = 2
                · have hA : v = 0 ∧ er = .iface 121 (.pointer (some x0)) := by
                    have := HA.out
                    have h20 : ¬ (s % 4 = 0) := by omega
                    unfold Ans at this
                    rw [if_neg h20, if_pos hst2] at this
                    exact this
                  obtain ⟨rfl, rfl⟩ := hA
                  clear HA
                  go_wp2
                  go_ret
                  exact ⟨rfl, hbE⟩
                · by_cases hst0 : s % 4 = 0
                  · have hA : v = 0 ∧ er = .iface 121 (.pointer (some x2)) := by
                      have := HA.out
                      simpa [Ans, hst0] using this
                    obtain ⟨rfl, rfl⟩ := hA
                    clear HA
                    go_wp2
                    go_ret
                    exact ⟨rfl, hbE⟩
                  · have hA : v = 0 ∧ er = .iface 121 (.pointer (some x1)) := by
                      have := HA.out
                      unfold Ans at this
                      rw [if_neg hst0, if_neg hst2] at this
                      exact this
                    obtain ⟨rfl, rfl⟩ := hA
                    clear HA
                    go_wp2
                    go_ret
                    exact ⟨rfl, hbE⟩
      | false =>
        have hB0 := base_F hb Z hZs (x % 3) (s % 4) L
        go_wp2
        go_loopw [80] (fun i wq => ∃ (j : Nat) (nm : Nat → ByteArray) (eb : Nat → Nat), j ≤ L ∧ i = .int .i64 (j : Int) ∧ Bld (startF wk Z (x % 3) (s % 4) L) wq (wk.heap.size + 1) (wk.heap.size + 1 + 1) (wk.heap.size + 1 + 1 + 1) L j mo ot nm eb ∧ Below w.heap.size w wq) (fun i _ => L - (intOf i).toNat)
        case atStart => exact ⟨0, fun _ => ByteArray.empty, fun _ => 0, Nat.zero_le _, rfl, hB0.bld _ _ _ _, hB0.bel⟩
        case round =>
          obtain ⟨j, nm, eb, hj, rfl, hbl, hbw⟩ := hrel
          have HBL : Hid _ := hbl
          have hsz := hbl.size
          have HB0 : Hid _ := hB0
          by_cases hlt : j < L
          · obtain ⟨b, off, rfl, hc⟩ := HE.out.cells (by omega)
            obtain ⟨e0, e1, e2⟩ := hc j hlt
            have c0 : wr.cell? ⟨b, off + j * 3, none⟩ = _ := cell_later hbw e0
            have c1 : wr.cell? ⟨b, off + j * 3 + 1, none⟩ = _ := cell_later hbw e1
            have c2 : wr.cell? ⟨b, off + j * 3 + 2, none⟩ = _ := cell_later hbw e2
            have hpj := HP.out j hlt
            have hmo0 := (HE.out.mode j hlt).1
            have hmo1 := (HE.out.mode j hlt).2
            clear hc e0 e1 e2 hbl hB0
            go_wp2_with fail
            refine (path_any (pa j) (pn j) (pc j) (z j) _ hpj (HE.out.byte j hlt) (fun h => by
              obtain ⟨b', off', h1, h2⟩ := HE.out.path j hlt h
              exact ⟨b', off', h1, fun i hi => cell_later ((hbw.alloc hbw.size _)) (h2 i hi)⟩)).mono ?_
            rintro e wp ⟨⟨sj, hsj, rfl⟩, hbp⟩
            have hbwp : Below wr.heap.size wr wp := ((Below.refl _ wr).alloc (Nat.le_refl _) _).trans (hbp.mono (by simp))
            have hpz : wr.heap.size + 1 ≤ wp.heap.size := by have := hbp.size; simpa using this
            have k1 : wp.cell? ⟨wr.heap.size, 1, none⟩ = some (.int .u8 (mo j)) := cell_later hbp (by simp [go_sem])
            have k2 : wp.cell? ⟨wr.heap.size, 2, none⟩ = some (.bool (ot j)) := cell_later hbp (by simp [go_sem])
            have r0 := HBL.out.names.of_block (hbwp.block _ HBL.out.names.lt)
            have r1 := (HBL.out.list.of_block (hbwp.block _ HBL.out.list.lt)).setOther (a := ⟨wk.heap.size + 1 + 1 + 1, j, none⟩) (by show wk.heap.size + 1 + 1 + 1 + 1 ≠ wk.heap.size + 1 + 1 + 1; omega) (.string sj)
            have r2 := (HBL.out.snap.of_block (hbwp.block _ HBL.out.snap.lt)).setOther (a := ⟨wk.heap.size + 1 + 1 + 1, j, none⟩) (by show wk.heap.size + 1 + 1 + 1 + 1 + 1 ≠ wk.heap.size + 1 + 1 + 1; omega) (.string sj)
            have k1' : (wp.setCell ⟨wk.heap.size + 1 + 1 + 1, j, none⟩ (.string sj)).cell? ⟨wr.heap.size, 1, none⟩ = some (.int .u8 (mo j)) := (World.cell?_setCell_other _ _ _ _ (fun h => by injection h; omega)).trans k1
            have k2' : (wp.setCell ⟨wk.heap.size + 1 + 1 + 1, j, none⟩ (.string sj)).cell? ⟨wr.heap.size, 2, none⟩ = some (.bool (ot j)) := (World.cell?_setCell_other _ _ _ _ (fun h => by injection h; omega)).trans k2
            have p0 := r0.cell hlt
            have p1 := r1.cell hlt
            have p2 := r2.cell hlt
            have f0 := r0.frozen j
            have f1 := r1.frozen j
            have f2 := r2.frozen j
            clear r0 r1 r2 c0 c1 c2 k1 k2
            have HBP : Hid _ := hbp
            clear hbp
            have l1 : wr.heap.size < wp.heap.size := by omega
            have l2 : wk.heap.size + 1 + 1 + 1 < wp.heap.size := by omega
            have l3 : wk.heap.size + 1 + 1 + 1 + 1 < wp.heap.size := by omega
            have l4 : wk.heap.size + 1 + 1 + 1 + 1 + 1 < wp.heap.size := by omega
            have hbwp2 : Below w.heap.size w wp := hbw.trans (hbwp.mono hbw.size)
            clear hsz hpz hbwp
            cases hoj : ot j with
            | true =>
              go_wp2
              refine ⟨⟨j + 1, _, _, by omega, by go_num, HBL.out.step sj _ HBP.out _ (by rw [hoj]; rfl), ?_⟩, by simp [intOf]; omega⟩
              exact (((hbwp2.setCell (p := ⟨wk.heap.size + 1 + 1 + 1, j, none⟩) HB0.out.geN _).setCell (p := ⟨wk.heap.size + 1 + 1 + 1 + 1, j, none⟩) (by have := HB0.out.geN; show w.heap.size ≤ wk.heap.size + 1 + 1 + 1 + 1; omega) _).setCell (p := ⟨wk.heap.size + 1 + 1 + 1 + 1 + 1, j, none⟩) (by have := HB0.out.geN; show w.heap.size ≤ wk.heap.size + 1 + 1 + 1 + 1 + 1; omega) _).alloc (by have := hbwp2.size; simp; omega) _
            | false =>
              go_wp2
              refine ⟨⟨j + 1, _, _, by omega, by go_num, HBL.out.step sj _ HBP.out _ (by rw [hoj]; rfl), ?_⟩, by simp [intOf]; omega⟩
              exact (((hbwp2.setCell (p := ⟨wk.heap.size + 1 + 1 + 1, j, none⟩) HB0.out.geN _).setCell (p := ⟨wk.heap.size + 1 + 1 + 1 + 1, j, none⟩) (by have := HB0.out.geN; show w.heap.size ≤ wk.heap.size + 1 + 1 + 1 + 1; omega) _).setCell (p := ⟨wk.heap.size + 1 + 1 + 1 + 1 + 1, j, none⟩) (by have := HB0.out.geN; show w.heap.size ≤ wk.heap.size + 1 + 1 + 1 + 1 + 1; omega) _).alloc (by have := hbwp2.size; simp; omega) _
          · obtain rfl : j = L := by omega
            have t1 := HB0.out.tx.of_block (HBL.out.bel.block _ HB0.out.ltt)
            have ft2 := t1.frozen 2
            have ct2 := t1.cell (i := 2) (by omega)
            clear t1 hbl hB0 hsz
            go_wp2_with fail
            refine (path_any a4 M cap4 zq _ hM HZQ.out (fun h => by
              obtain ⟨b', off', h1, h2⟩ := HQ.out h
              exact ⟨b', off', h1, fun i hi => cell_later (hbw.setCell (p := ⟨wk.heap.size + 1, 2, none⟩) HB0.out.get _) (h2 i hi)⟩)).mono ?_
            rintro e wq ⟨⟨q, hq1, rfl⟩, hbq⟩
            have hR := ready_of HB0.out HBL.out hbw hbq
            have HR : Hid _ := hR
            go_wp2_with fail
            refine (rel_all F (wk.heap.size + 1) wk.heap.size (wk.heap.size + 1 + 1 + 1 + 1) j j (x % 3) (s % 4) none eb nm (mdf mo ot) x0 x1 x2 x3 q wq (by rw [hR.bel.tape]; exact hF) hR.txn (HS.out.below hR.bel h4) (Nat.le_trans h4 hR.bel.size) hL hR.list.lt
              (fun i hi => by have := hR.list.cell hi; simpa [ebf, hi] using this) (fun i hi => (hR.ent i hi).lt) (fun i hi => (hR.ent i hi).cell (i := 0) (by omega)) (fun i hi W hW => hR.mode i hi W hW)).mono ?_
            rintro e w2 ⟨⟨v, er, rfl, hA⟩, hb2⟩
            have hR2 := hR.below hb2
            have HA : Hid _ := hA
            have HR2 : Hid _ := hR2
            have t2 := hR2.txn.held
            have hn57 := neq57
            clear hR hbq ft2 ct2 hb2 hA hR2 HR HBL HB0
            go_wp2
            go_loopw [149] (fun i wy => ∃ (k d : Nat), k ≤ j ∧ i = .int .i64 (k : Int) ∧ wy = w2.drewN d) (fun i _ => j - (intOf i).toNat)
            case atStart => exact ⟨0, 0, Nat.zero_le _, rfl, rfl⟩
            case round =>
              obtain ⟨k, d, hk, rfl, rfl⟩ := hrel
              by_cases hlt3 : k < j
              · have q1 := HR2.out.list.cell hlt3
                have q2 := HR2.out.snap.cell hlt3
                have q3 := HR2.out.names.cell hlt3
                have q4 := (HR2.out.ent k hlt3).cell (i := 0) (by omega)
                simp only [ebf, nmf, hlt3, if_true] at q1 q2 q3
                have q4' : w2.cell? ⟨eb k, 0, none⟩ = some (.string (nm k)) := q4
                clear q4
                go_wp2_with fail
                go_quiet (fail)
                go_wp2
                exact ⟨⟨k + 1, _, by omega, by go_num, rfl⟩, by simp [intOf]; omega⟩
              · obtain rfl : k = j := by omega
                have hS2 := HS.out.below HR2.out.bel h4
                have g0 := hS2.g0
                have g1 := hS2.g1
                have g2 := hS2.g2
                have g3 := hS2.g3
                have he98 := eql98
                have hbE : Below w.heap.size w (w2.drewN d) := drewN_below' HR2.out.bel d
                clear hS2 t2 hn57
                by_cases hst2 : s % 4 = 2
                · have hA : v = 0 ∧ er = .iface 121 (.pointer (some x0)) := by
                    have := HA.out
                    have h20 : ¬ (s % 4 = 0) := by omega
                    unfold Ans at this
                    rw [if_neg h20, if_pos hst2] at this
                    exact this
                  obtain ⟨rfl, rfl⟩ := hA
                  clear HA
                  go_wp2
                  go_ret
                  exact ⟨rfl, hbE⟩
                · by_cases hst0 : s % 4 = 0
                  · by_cases hr0 : x % 3 = 0
                    · have hA : v = 0 ∧ er = .iface 121 (.pointer (some x3)) := by
                        have := HA.out
                        simpa [Ans, hst0, hr0] using this
                      obtain ⟨rfl, rfl⟩ := hA
                      clear HA
                      go_wp2
                      go_ret
                      exact ⟨rfl, hbE⟩
                    · have hO : Out (x % 3) k nm (mdf mo ot) q v er := by
                        have := HA.out
                        simpa [Ans, hst0, hr0] using this
                      have HO : Hid _ := hO
                      clear HA hO g0 g1 g2 g3 he98
                      go_wp2
                      have e0 : (x % 3 == 0) = false := by simp [hr0]
                      simp only [e0]
                      clear e0 hst0 hst2 hr0
                      go_loopw [29] (fun i wz => ∃ (l e : Nat), l ≤ k ∧ i = .int .i64 ((l : Int) - 1) ∧ wz = w2.drewN e ∧ ∀ a, l ≤ a → a < k → Pass nm q a) (fun i _ => (intOf i + 1).toNat)
                      case atStart => exact ⟨k, d, Nat.le_refl _, by go_num, rfl, fun a h1 h2 => by omega⟩
                      case round =>
                        obtain ⟨l, e, hl, rfl, rfl, hpass⟩ := hrel
                        have HPA : Hid _ := hpass
                        clear hpass
                        have hbF : Below w.heap.size w (w2.drewN e) := drewN_below' HR2.out.bel e
                        by_cases hl0 : l = 0
                        · subst hl0
                          obtain ⟨rfl, pp, rfl⟩ := out_none HO.out (fun a ha => HPA.out a (Nat.zero_le _) ha)
                          go_wp2
                          go_ret
                          exact ⟨rfl, hbF⟩
                        · obtain ⟨i, rfl⟩ : ∃ i, l = i + 1 := ⟨l - 1, by omega⟩
                          have e1 : ((i + 1 : Nat) : Int) - 1 = (i : Int) := by omega
                          rw [e1]
                          have hi : i < k := by omega
                          obtain ⟨b, off, rfl, hc⟩ := HE.out.cells (by omega)
                          obtain ⟨e0, e1, e2⟩ := hc i hi
                          have c1 : w2.cell? ⟨b, off + i * 3 + 1, none⟩ = _ := cell_later HR2.out.bel e1
                          have c2 : w2.cell? ⟨b, off + i * 3 + 2, none⟩ = _ := cell_later HR2.out.bel e2
                          have q3 := HR2.out.names.cell hi
                          simp only [nmf, hi, if_true] at q3
                          have hmo0 := (HE.out.mode i hi).1
                          have hmo1 := (HE.out.mode i hi).2
                          clear hc e0 e1 e2
                          go_wp2_with fail
                          refine (zzbelow_any (nm i) q _).mono ?_
                          rintro e' w3 ⟨rfl, rfl⟩
                          cases hbv : below (nm i) q with
                          | true =>
                            have hA := out_at HO.out i hi (fun a h1 h2 => HPA.out a h1 h2) (fun h => by rw [h.1] at hbv; cases hbv)
                            rcases hA with ⟨rfl, ⟨pp, rfl⟩, _⟩ | ⟨_, _, h, _⟩
                            · go_wp2
                              go_ret
                              exact ⟨rfl, hbF⟩
                            · rw [hbv] at h; cases h
                          | false =>
                            cases heq : ((nm i).toList == q.toList) with
                            | false =>
                              go_wp2
                              go_roundw
                              case rel =>
                                refine ⟨i, e, by omega, by go_num, rfl, fun a h1 h2 => ?_⟩
                                rcases Nat.eq_or_lt_of_le h1 with h | h
                                · subst h; exact ⟨hbv, heq⟩
                                · exact HPA.out a h h2
                              case measure => simp [intOf]
                            | true =>
                              have hA := out_at HO.out i hi (fun a h1 h2 => HPA.out a h1 h2) (fun h => by rw [h.2] at heq; cases heq)
                              by_cases hr1 : x % 3 = 1
                              · cases hoi : ot i with
                                | true =>
                                  rw [hoi] at c2
                                  rcases hA with ⟨_, _, h | ⟨_, _, _, h⟩⟩ | ⟨rfl, rfl, _⟩
                                  · rw [hbv] at h; cases h
                                  · simp [mdf, hoi] at h
                                  · go_wp2
                                    go_ret
                                    exact ⟨rfl, hbF⟩
                                | false =>
                                  rw [hoi] at c2
                                  by_cases hm5 : mo i % 6 + 1 = 5
                                  · rcases hA with ⟨rfl, ⟨pp, rfl⟩, _⟩ | ⟨_, _, _, _, h⟩
                                    · go_wp2
                                      go_ret
                                      exact ⟨rfl, hbF⟩
                                    · exact absurd ⟨hr1, by simp [mdf, hoi, hm5]⟩ h
                                  · rcases hA with ⟨_, _, h | ⟨_, _, _, h⟩⟩ | ⟨rfl, rfl, _⟩
                                    · rw [hbv] at h; cases h
                                    · exact absurd (by simpa [mdf, hoi] using h) hm5
                                    · go_wp2
                                      go_ret
                                      exact ⟨rfl, hbF⟩
                              · rcases hA with ⟨_, _, h | ⟨_, _, h, _⟩⟩ | ⟨rfl, rfl, _⟩
                                · rw [hbv] at h; cases h
                                · exact absurd h hr1
                                · go_wp2
                                  go_ret
                                  exact ⟨rfl, hbF⟩
                  · have hA : v = 0 ∧ er = .iface 121 (.pointer (some x1)) := by
                      have := HA.out
                      unfold Ans at this
                      rw [if_neg hst0, if_neg hst2] at this
                      exact this
                    obtain ⟨rfl, rfl⟩ := hA
                    clear HA
                    go_wp2
                    go_ret
                    exact ⟨rfl, hbE⟩
end Go.Proofs.YbulkcuyeFmt
