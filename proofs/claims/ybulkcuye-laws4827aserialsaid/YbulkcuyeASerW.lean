/- 'serialOrder' (func 10), walked. -/
import Derived.Test.YbulkcuyeASerC
namespace Go.Proofs.Ybulkcuye.A
open Go.RowKit

theorem into_le {n : Nat} {nx : Nat → List Nat} (h : ∀ i, i < n → (nx i).length ≤ 2000) (pe : Nat → Nat) (v : Nat) : into n nx pe v ≤ 2000 * n := by
  unfold into
  have key : ∀ m, m ≤ n → tot (fun f => ((nx f).drop (pe f)).count v) m ≤ 2000 * m := by
    intro m
    induction m with
    | zero => intro _; exact Nat.zero_le _
    | succ m ih =>
      intro hm
      have h1 := ih (by omega)
      have h2 : ((nx m).drop (pe m)).count v ≤ 2000 := by
        have h3 := List.count_le_length (a := v) (l := (nx m).drop (pe m))
        have h4 := h m (by omega)
        rw [List.length_drop] at h3
        omega
      simp only [tot]
      omega
  exact key n (Nat.le_refl _)

set_option maxRecDepth 20000 in
set_option maxHeartbeats 4000000 in
theorem serial_any (G NB IB TX n r : Nat) (nx : Nat → List Nat) (na : Nat → Option Addr) (nc : Nat → Nat) (w : World) (hG : GRep w G NB n nx na nc) (g : Gr n nx) (gin : w.cell? ⟨G, 2, none⟩ = some (.slice (some ⟨IB, 0, none⟩) n n))
    (hin : w.rowIs IB 3 n (nv (into n nx fun _ => 0))) (gtx : w.cell? ⟨G, 0, none⟩ = some (.slice (some ⟨TX, 0, none⟩) n n)) (htx : ∀ i, i < n → w.cell? ⟨TX, i, none⟩ = some (.int .i64 (tf n r i : Int))) (hr : r < n) (hn : n ≤ 100) :
    Calls Yba.prog 10 #[.pointer (some ⟨G, 0, none⟩)] w fun e w' => (∃ (b ol : Nat), e = .returned (.slice (some ⟨b, 0, none⟩) ol n) ∧ (ol = n ↔ ∀ s k, s < n → 0 < k → ¬ Wk nx k s s)) ∧ Below w.heap.size w w' := by
  have HG : Hid _ := hG
  have HTX : Hid _ := htx
  have HCL : Hid _ := clone_any IB n (into n nx fun _ => 0) w hin (by omega) hn
  clear hG htx hin
  go_enter Yba.func10, Yba.ntmps10
  go_wp2_with fail
  refine Calls.mono HCL.out ?_
  rintro e w1 ⟨ib, icap, rfl, hir, hbel1⟩
  have g0 := later hbel1 gtx
  have hib := hir.lt ib rfl
  obtain ⟨W0, hW0⟩ : ∃ W0, W0 = w.heap.size := ⟨_, rfl⟩
  rw [← hW0] at hir hbel1 hib
  have HW0 : Hid _ := hW0
  have HIR : Hid _ := hir
  have HB1 : Hid _ := hbel1
  clear hW0 hir hbel1 HCL
  have hG0 : G < w1.heap.size := cell_lt g0
  go_wp2
  obtain ⟨hb, hhb⟩ : ∃ hb, hb = w1.heap.size := ⟨_, rfl⟩
  obtain ⟨w2, hw2⟩ : ∃ w2, w2 = w1.alloc (.cells #[.slice none 0 0] 68) := ⟨_, rfl⟩
  have hp0 : HP (hb + 1) hb w2 (.slice none 0 0) 0 (fun _ => 0) := by
    refine ⟨?_, Slc.nil _ _ _ _ _, by omega⟩
    have := World.rowIs_alloc w1 #[.slice none 0 0] 68 (fun _ => .slice none 0 0) (fun i hi => by simp at hi; subst hi; rfl)
    rw [← hw2, ← hhb] at this
    exact this
  have hb2 : Below hb w1 w2 := by rw [hw2, hhb]; exact (Below.refl _ _).alloc (Nat.le_refl _) _
  have hs2 : w2.heap.size = hb + 1 := by rw [hw2, hhb]; simp
  rw [← hw2, ← hhb]
  have HP0 : Hid _ := hp0
  have HB2 : Hid _ := hb2
  have HS2 : Hid _ := hs2
  have HHB : Hid _ := hhb
  clear hp0 hb2 hs2 hw2 hhb
  go_loopw [22] (fun x wr => ∃ (k : Nat) (v : Value) (hl : Nat) (q : Nat → Nat), k ≤ n ∧ x = .int .i64 (k : Int) ∧ HP (hb + 1) hb wr v hl q ∧ Rd n r k (fun i => (into n nx (fun _ => 0) i : Int)) q hl ∧ hb + 1 ≤ wr.heap.size ∧ Below hb w1 wr) (fun x _ => n - (intOf x).toNat)
  case atStart => exact ⟨0, _, 0, _, by omega, rfl, HP0.out, ⟨by omega, fun v => ⟨fun ⟨b, h, _⟩ => by omega, fun ⟨i, h, _⟩ => by omega⟩, fun a b _ h => by omega⟩, Nat.le_of_eq HS2.out.symm, HB2.out⟩
  case round =>
    obtain ⟨k, v, hl, q, hk, rfl, hp, hrd, hsz, hbz⟩ := hrel
    have hbw : Below w1.heap.size w1 wr := HHB.out ▸ hbz
    by_cases hlt : k < n
    · have ck := later hbw (later (HW0.out ▸ HB1.out) (HTX.out k hlt))
      obtain ⟨t, ht⟩ : ∃ t, t = tf n r k := ⟨_, rfl⟩
      have htn : t < n := by rw [ht]; exact Nat.mod_lt _ (by omega)
      rw [← ht] at ck
      have ci : wr.cell? ⟨ib, t, none⟩ = some (.int .i64 (into n nx (fun _ => 0) t : Int)) := later hbw (Slc.cell HIR.out (i := t) (by omega))
      have HT : Hid _ := ht
      have HP1 : Hid _ := hp
      have HR : Hid _ := hrd
      have HBZ : Hid _ := hbz
      clear ht hp hrd hbz hbw
      by_cases h0 : into n nx (fun _ => 0) t = 0
      · rw [h0] at ci
        go_wp2_with fail
        refine (hpush_any (hb + 1) hb hl v q t wr HP1.out hsz (by have := (HR.out).1; omega)).mono ?_
        rintro e w3 ⟨rfl, b, cap, q', hp3, hm3, hk3⟩
        have HP3 : Hid _ := hp3
        have HR3 : Hid _ := Rd.add HR.out hr hlt (by rw [← HT.out, h0]; rfl) (HT.out ▸ hm3)
        have HB3 : Hid (Below hb w1 w3) := HBZ.out.trans ⟨hk3.os, hk3.tape, hk3.output, hk3.size, fun b hb' => hk3.block b (by omega) (by omega) (fun e => by have := (HP1.out.sl.lt b e).1; omega)⟩
        have hs3 : hb + 1 ≤ w3.heap.size := by have := hk3.size; omega
        clear hp3 hm3 hk3
        go_wp2
        go_roundw
        case rel => exact ⟨k + 1, _, _, _, by omega, by go_num, HP3.out, HR3.out, hs3, HB3.out⟩
        case measure => simp [intOf]; omega
      · go_wp2
        go_roundw
        case rel => exact ⟨k + 1, _, _, _, by omega, by go_num, HP1.out, Rd.skip HR.out (by rw [← HT.out]; show ((into n nx (fun _ => 0) t : Nat) : Int) ≠ 0; omega), hsz, HBZ.out⟩
        case measure => simp [intOf]; omega
    · have hkn : n = k := by omega
      subst hkn
      have hm0 := make_empty n hn
      have g0' := later hbw g0
      have hGr := (HG.out.below (HW0.out ▸ HB1.out)).below hbw
      have HGR : Hid _ := hGr
      have HKI : Hid _ := Rd.start (nx := nx) hrd hr (fun v _ => rfl) (fun _ => 0)
      have HP1 : Hid _ := hp
      have HBZ : Hid _ := hbz
      have HIR1 : Hid (Slc wr W0 3 1 (.slice (some ⟨ib, 0, none⟩) n icap) n (nv (into n nx fun _ => 0))) := Slc.of HIR.out (fun b hb' => hbw.block b ((Slc.lt HIR.out b hb').2))
      have hGw : G < wr.heap.size := cell_lt g0'
      clear hGr hrd hp hbz hbw
      go_wp2
      obtain ⟨ob, hob⟩ : ∃ ob, ob = wr.heap.size := ⟨_, rfl⟩
      obtain ⟨w4, hw4⟩ : ∃ w4, w4 = wr.alloc (.cells (madeCells #[.int .i64 0] n) 3) := ⟨_, rfl⟩
      have hSR : SR W0 (hb + 1) hb ib icap ob n w w4 v hl q (fun i => (into n nx (fun _ => 0) i : Int)) (fun _ => 0) 0 := by
        have hrow := World.rowIs_made wr (.int .i64 0) n 3
        rw [← hw4, ← hob] at hrow
        have up : ∀ b, b < wr.heap.size → w4.heap[b]? = wr.heap[b]? := fun b hb' => by rw [hw4]; exact Below.heap_alloc _ _ _ hb'
        refine ⟨hib.1, by have := HHB.out; omega, by omega, ⟨HP1.out.box.of_block (up _ HP1.out.box.lt), HP1.out.sl.of (fun b hb' => up b (HP1.out.sl.lt b hb').2), HP1.out.lt⟩, ?_, ?_, fun e => ?_, ?_⟩
        · exact (Slc.of HIR1.out (fun b hb' => up b (Slc.lt HIR1.out b hb').2)).congr fun i _ => rfl
        · exact (Slc.made hrow (by omega) (Nat.zero_le _) (by unfold maxLen; omega)).congr fun i hi => by omega
        · have := (HP1.out.sl.lt ob e).2; omega
        · have h1 : Below W0 w wr := HB1.out.trans (HBZ.out.mono (by have := HHB.out; omega))
          rw [hw4]
          exact h1.alloc (by have := HHB.out; omega) _
      have hb4 : Below ob wr w4 := by rw [hw4, hob]; exact (Below.refl _ _).alloc (Nat.le_refl _) _
      have HGR4 : Hid _ := GRep.below HGR.out (hob ▸ hb4)
      rw [← hw4, ← hob]
      have HSR : Hid _ := hSR
      clear hSR hw4 hob hm0 hb4 HIR1 HP1 HBZ hGw g0' HGR
      go_loopw [7] (fun x wr => ∃ (v : Value) (hl : Nat) (q : Nat → Nat) (inn : Nat → Int) (pe o : Nat → Nat) (ol : Nat), x = .slice (some ⟨ob, 0, none⟩) ol n ∧ KI n nx inn pe q hl o ol none ∧ SR W0 (hb + 1) hb ib icap ob n w wr v hl q inn o ol) (fun x _ => n - lenOf x)
      case atStart => exact ⟨_, _, _, _, _, _, _, rfl, HKI.out, HSR.out⟩
      case round =>
        obtain ⟨v, hl, q, inn, pe, o, ol, rfl, hKI, hSR⟩ := hrel
        have c0 := hSR.hp.box.cell (i := 0) (by omega)
        obtain ⟨sa, scap, rfl, hsa⟩ := hSR.hp.sl.form
        have hl9 := hKI.hl_le
        have K1 : Hid _ := hKI
        have S1 : Hid _ := hSR
        clear hKI hSR
        go_wp2_with fail
        refine (len_any sa hl scap wr).mono ?_
        rintro e w5 ⟨rfl, rfl⟩
        cases hl with
        | zero =>
          go_wp2
          go_ret
          exact ⟨⟨ob, ol, rfl, K1.out.ends g rfl⟩, by rw [← HW0.out]; exact S1.out.bel⟩
        | succ m =>
          obtain ⟨sb, rfl⟩ := hsa (by omega)
          have hcap : m + 1 ≤ scap := by
            obtain ⟨_, _, e1, _, _, e2, _⟩ := S1.out.hp.sl.at (by omega)
            simp only [Value.slice.injEq] at e1
            omega
          have has := assert3
          go_wp2_with fail
          refine (hpop_any (hb + 1) hb sb m scap q w5 S1.out.hp (by omega) hcap).mono ?_
          rintro e w6 ⟨rfl, q', hp6, hm6, hk6⟩
          have hKI6 := K1.out.pop hm6
          have hSR6 := S1.out.heap hk6 hp6
          have hol := hKI6.ol_le
          obtain ⟨t, ht⟩ : ∃ t, t = q 0 := ⟨_, rfl⟩
          have htn : t < n := by rw [ht]; exact K1.out.hlt 0 (by omega)
          have hpt : pe t = 0 := K1.out.out t htn (fun a ha => by rw [ht]; exact K1.out.apart a 0 ha (by omega))
          rw [← ht] at hKI6 ⊢
          obtain ⟨w7, hap, hSR7⟩ := hSR6.order (by omega) t
          have hG7 := HG.out.below (w' := w7) (HW0.out ▸ hSR7.bel)
          have cg := hG7.head
          have cr := hG7.rows t htn
          obtain ⟨L, hL⟩ : ∃ L, L = (nx t).length := ⟨_, rfl⟩
          rw [← hL] at cr
          have hL2 : L ≤ 2000 := by rw [hL]; exact hG7.len t htn
          have HLL : Hid _ := hL
          have K7 : Hid _ := hKI6
          have S7 : Hid _ := hSR7
          clear hKI6 hSR6 hSR7 hG7 hL ht hp6 hm6 hk6 K1 S1 c0 hcap
          go_wp2_with (at_builtin; refine wpList_append_run rfl (.tmp 52) (.tmp 54) 25 rfl rfl rfl hap ?_)
          go_loopw [64] (fun x wz => ∃ (j : Nat) (v : Value) (hl : Nat) (q : Nat → Nat) (inn : Nat → Int) (pe : Nat → Nat), j ≤ L ∧ x = .int .i64 (j : Int) ∧ pe t = j ∧ KI n nx inn pe q hl (upd o ol t) (ol + 1) (some t) ∧ SR W0 (hb + 1) hb ib icap ob n w wz v hl q inn (upd o ol t) (ol + 1)) (fun x _ => L - (intOf x).toNat)
          case atStart => exact ⟨0, _, _, _, _, _, by omega, rfl, hpt, K7.out, S7.out⟩
          case round =>
            obtain ⟨j, v, hl, q, inn, pe, hj, rfl, hpj, hKI, hSR⟩ := hrel
            by_cases hjL : j < L
            · obtain ⟨u, hu⟩ : ∃ u, (nx t)[j]? = some u := ⟨_, List.getElem?_eq_getElem (by rw [← HLL.out]; exact hjL)⟩
              have hun : u < n := g.lt t htn u (List.mem_of_getElem? hu)
              have hGz := HG.out.below (w' := wr) (HW0.out ▸ hSR.bel)
              obtain ⟨bu, hna, cu⟩ := hGz.elem t htn j u hu
              rw [hna]
              have ci : wr.cell? ⟨ib, u, none⟩ = some (.int .i64 (inn u)) := hSR.ir.cell (i := u) (by omega)
              have fi := hSR.ir.frozen u
              rw [← hpj] at hu
              obtain ⟨hge, hk1, hk2⟩ := hKI.take g ⟨ol, by omega, upd_same _ _ _⟩ hu
              have hub : inn u ≤ 200000 := by
                have h1 := hKI.cnt u hun
                have h2 := into_le (n := n) (nx := nx) (fun i hi => hGz.len i hi) pe u
                omega
              have hS2 := hSR.dec u (inn u - 1)
              have hB2 := hS2.ltB
              have hl9' := hKI.hl_le
              have S2 : Hid _ := hS2
              have KK1 : Hid _ := hk1
              have KK2 : Hid _ := hk2
              have hpj' : upd pe t (pe t + 1) t = j + 1 := by rw [upd_same, hpj]
              clear hGz hna hKI hSR hk1 hk2 hS2 hu
              by_cases h0 : inn u - 1 = 0
              · have S2' := S2.out
                rw [h0] at S2' hB2
                have S2 : Hid _ := S2'
                clear S2'
                obtain ⟨w8, hw8⟩ : ∃ w8, w8 = wr.setCell ⟨ib, u, none⟩ (.int .i64 0) := ⟨_, rfl⟩
                go_upto_region 17 with fail
                rw [← hw8] at S2 hB2 ⊢
                have c8 : w8.cell? ⟨ib, u, none⟩ = some (.int .i64 0) := by
                  have := S2.out.ir.cell (i := u) (by omega)
                  rw [upd_same] at this
                  exact this
                have has := assert3
                clear hw8 ci fi
                go_wp2_with fail
                refine (hpush_any (hb + 1) hb hl v q u w8 S2.out.hp hB2 (by omega)).mono ?_
                rintro e w9 ⟨rfl, b9, cap9, q9, hp9, hm9, hk9⟩
                have hk := KK2.out h0 q9 hm9
                rw [h0] at hk
                have K9 : Hid _ := hk
                have S9 : Hid _ := S2.out.heap hk9 hp9
                clear hp9 hm9 hk9 c8 hk
                go_wp2
                go_roundw
                case rel => exact ⟨j + 1, _, _, _, _, _, by omega, by go_num, hpj', K9.out, S9.out⟩
                case measure => simp [intOf]; omega
              · have hne : ¬ inn u = 1 := by omega
                go_wp2
                go_roundw
                case rel => exact ⟨j + 1, _, _, _, _, _, by omega, by go_num, hpj', KK1.out h0, S2.out⟩
                case measure => simp [intOf]; omega
            · have hjl : j = L := by omega
              have K8 : Hid _ := hKI.done (by rw [hpj, hjl]; exact HLL.out)
              have S8 : Hid _ := hSR
              clear hKI hSR
              go_wp2
              go_roundw
              case rel => exact ⟨_, _, _, _, _, _, _, rfl, K8.out, S8.out⟩
              case measure => simp [lenOf]; omega
end Go.Proofs.Ybulkcuye.A
