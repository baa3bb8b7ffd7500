/- 'cycle' (func 8), walked. -/
import Derived.Test.YbulkcuyeACompW
import Derived.Test.YbulkcuyeACycB
import Derived.Test.YbulkcuyeAPathW
import Derived.Deep.CutRange
namespace Go.Proofs.Ybulkcuye.A
open Go.RowKit

theorem mkmap (w : World) : (Instr.makeMap 62 none).run Yba.prog w = .ok (.map (some w.heap.size)) (w.alloc (.map #[] 0)) := by
  rfl

set_option maxRecDepth 20000 in
set_option maxHeartbeats 4000000 in
theorem cycle_any (G NB TX n : Nat) (nx : Nat → List Nat) (na : Nat → Option Addr) (nc : Nat → Nat) (tx : Nat → Nat) (w : World) (hG : GRep w G NB n nx na nc) (g : Gr n nx) (gtx : w.cell? ⟨G, 0, none⟩ = some (.slice (some ⟨TX, 0, none⟩) n n))
    (htx : ∀ i, i < n → w.cell? ⟨TX, i, none⟩ = some (.int .i64 (tx i : Int))) (htn : ∀ i, i < n → tx i < n) (hn0 : 0 < n) (hn : n ≤ 100) :
    Calls Yba.prog 8 #[.pointer (some ⟨G, 0, none⟩)] w fun e w' => ((e = .returned (.slice none 0 0) ∧ ∀ i, i < n → ∀ k, 0 < k → ¬ Wk nx k (tx i) (tx i)) ∨
      (∃ (i0 b L cap : Nat) (c : Nat → Nat), e = .returned (.slice (some ⟨b, 0, none⟩) L cap) ∧ Cyc w' w.heap.size n nx tx i0 b L cap c)) ∧ Below w.heap.size w w' := by
  have HG : Hid _ := hG
  have HTX : Hid _ := htx
  go_enter Yba.func8, Yba.ntmps8
  go_wp2_with fail
  refine (components_any G NB n nx na nc w hG g hn0 hn).mono ?_
  rintro e w1 ⟨vs, comp, sz, sl, rfl, hco, hsz, hcomps, hbel⟩
  have c0 := later hbel gtx
  have HCO : Hid _ := hco
  have HSZ : Hid _ := hsz
  have HC : Hid _ := hcomps
  have HBL : Hid _ := hbel
  clear hG htx hco hcomps hbel
  have hslpos : 0 < sl := by have := (HC.out.of (tx 0) (htn 0 hn0)); omega
  obtain ⟨sb, scap, rfl, hsb, _⟩ := hsz.at hslpos
  clear hsz
  obtain ⟨B, hB⟩ : ∃ B, B = w.heap.size := ⟨_, rfl⟩
  rw [← hB]
  have HB : Hid _ := hB
  clear hB hsb
  go_wp2
  go_loopw [5, 26] (fun x5 x26 wr => ∃ k : Nat, k ≤ n ∧ x5 = .int .i64 (-1) ∧ x26 = .int .i64 (k : Int) ∧ (∀ i, i < k → ∀ j, 0 < j → ¬ Wk nx j (tx i) (tx i)) ∧ wr = w1) (fun _ x26 _ => n - (intOf x26).toNat)
  case atStart => exact ⟨0, by omega, rfl, rfl, fun i h => by omega, rfl⟩
  case round =>
    obtain ⟨k, hk, rfl, rfl, hno, rfl⟩ := hrel
    have HNO : Hid _ := hno
    clear hno
    by_cases hlt : k < n
    · have ck := later HBL.out (HTX.out k hlt)
      have hs := htn k hlt
      obtain ⟨s, hs'⟩ : ∃ s, s = tx k := ⟨_, rfl⟩
      rw [← hs'] at ck hs
      have cc : wr.cell? ⟨B + 4, s, none⟩ = some (.int .i64 (comp s)) := by rw [HB.out]; exact World.rowIs.cell HCO.out hs
      obtain ⟨h0, h1⟩ := HC.out.of s hs
      obtain ⟨cs, hcs⟩ : ∃ cs : Nat, comp s = (cs : Int) := ⟨(comp s).toNat, by omega⟩
      have hcl : cs < sl := by omega
      have cz : wr.cell? ⟨sb, cs, none⟩ = some (.int .i64 (sz cs : Int)) := Slc.cell HSZ.out (by omega)
      have hbig := HC.out.big g hs hcs
      rw [hcs] at cc
      have HCS : Hid _ := hcs
      have HS' : Hid _ := hs'
      clear h0 h1 hcs hs'
      by_cases hb : 1 < sz cs
      · have HE : Hid _ := hbig.1 hb
        clear hbig
        have hmm := mkmap
        go_wp2
        obtain ⟨mb, hmb⟩ : ∃ mb, mb = wr.heap.size := ⟨_, rfl⟩
        have HST : Hid _ := CY.start (nx := nx) (comp := comp) (w := wr) hs hmb.symm rfl
        obtain ⟨w2, hw2⟩ : ∃ w2, w2 = (wr.alloc (.map #[] 0)).alloc (.cells #[.int .i64 (s : Int)] 3) := ⟨_, rfl⟩
        have HB2 : Hid (Below mb wr w2) := by rw [hw2, hmb]; exact ((Below.refl _ _).alloc (Nat.le_refl _) _).alloc (by simp) _
        rw [← hw2] at HST
        rw [← hw2, ← hmb]
        have HMB : Hid _ := hmb
        have hGo := HG.out.below HBL.out
        have HGO : Hid _ := hGo
        have e37 : decide ((1 : Int) < ((sz cs : Nat) : Int)) = true := by simp; omega
        simp only [e37]
        clear e37 hmb hw2 hmm ck cz c0 hGo hcl hb
        obtain ⟨wo, hwo⟩ : ∃ wo, wo = wr := ⟨_, rfl⟩
        subst hwo
        go_loopw [9, 10] (fun vq x10 wz => ∃ (i : Nat) (q : Nat → Nat) (ql : Nat) (d : Nat → Nat) (fr : Nat → Option Nat), x10 = .int .i64 (i : Int) ∧ CY mb (mb + 1) n s nx comp i (fun _ => False) q ql d fr vq wz ∧ Below mb wo wz) (fun _ x10 _ => n - (intOf x10).toNat)
        case atStart => exact ⟨0, _, _, _, _, rfl, HST.out, HB2.out⟩
        case round =>
          obtain ⟨i, q, ql, d, fr, rfl, hCY, hbz⟩ := hrel
          have hql : ql ≤ 100 := by have := hCY.bi.ql_le g hs; omega
          have hqn : ql ≤ n := hCY.bi.ql_le g hs
          by_cases hi : i < ql
          · obtain ⟨qa, qcap, rfl, hqa⟩ := hCY.sl.form
            obtain ⟨qb, rfl⟩ := hqa (by omega)
            have cq : wr.cell? ⟨qb, i, none⟩ = some (.int .i64 (q i : Int)) := hCY.sl.cell (i := i) (by omega)
            obtain ⟨t, ht⟩ : ∃ t, t = q i := ⟨_, rfl⟩
            have htn' : t < n := by rw [ht]; exact hCY.bi.lt g hs i hi
            rw [← ht] at cq
            have hGz := HGO.out.below (w' := wr) (HMB.out ▸ hbz)
            have cg := hGz.head
            have cr := hGz.rows t htn'
            obtain ⟨L, hL⟩ : ∃ L, L = (nx t).length := ⟨_, rfl⟩
            rw [← hL] at cr
            have hL2 : L ≤ 2000 := by rw [hL]; exact hGz.len t htn'
            have HL : Hid _ := hL
            have HQ : Hid (∃ (j : Nat) (q' : Nat → Nat) (ql' : Nat) (d' : Nat → Nat) (fr' : Nat → Option Nat), j ≤ L ∧ Value.int .i64 0 = .int .i64 (j : Int) ∧ (i < ql' ∧ q' i = t) ∧ CY mb (mb + 1) n s nx comp i (fun x => x ∈ (nx t).take j) q' ql' d' fr' (.slice (some ⟨qb, 0, none⟩) ql qcap) wr ∧ Below mb wo wr) :=
              ⟨0, q, ql, d, fr, by omega, rfl, ⟨hi, ht.symm⟩, { hCY with bi := hCY.bi.parts (fun x hx => by simp at hx), ps := fun x hx => by simp at hx }, hbz⟩
            clear hCY hbz hGz ht hL hqa
            go_wp2
            go_loopw [9, 63] (fun vq x63 wz => ∃ (j : Nat) (q : Nat → Nat) (ql : Nat) (d : Nat → Nat) (fr : Nat → Option Nat), j ≤ L ∧ x63 = .int .i64 (j : Int) ∧ (i < ql ∧ q i = t) ∧ CY mb (mb + 1) n s nx comp i (fun x => x ∈ (nx t).take j) q ql d fr vq wz ∧ Below mb wo wz) (fun _ x63 _ => L - (intOf x63).toNat)
            case atStart => exact HQ.out
            case round =>
              obtain ⟨j, q, ql, d, fr, hj, rfl, ⟨hi, hqi⟩, hCY, hbz⟩ := hrel
              clear hql hqn
              have hqn : ql ≤ n := hCY.bi.ql_le g hs
              by_cases hjL : j < L
              · obtain ⟨u, hu⟩ : ∃ u, (nx t)[j]? = some u := ⟨_, List.getElem?_eq_getElem (by rw [← HL.out]; exact hjL)⟩
                have hun : u < n := g.lt t htn' u (List.mem_of_getElem? hu)
                have hGz := HGO.out.below (w' := wr) (HMB.out ▸ hbz)
                obtain ⟨bu, hna, cu⟩ := hGz.elem t htn' j u hu
                rw [hna]
                have ctk : (nx t).take (j + 1) = (nx t).take j ++ [u] := by
                  rw [List.take_add_one, hu]
                  rfl
                have hpart : ∀ x, x ∈ (nx t).take (j + 1) → x ∈ (nx t).take j ∨ x = u := fun x hx => by
                  rw [ctk, List.mem_append, List.mem_singleton] at hx
                  exact hx
                have humem : u ∈ nx (q i) := by rw [hqi]; exact List.mem_of_getElem? hu
                have hcu : wr.cell? ⟨B + 4, u, none⟩ = some (.int .i64 (comp u)) := later (HMB.out ▸ hbz) (by rw [HB.out]; exact World.rowIs.cell HCO.out hun)
                have hcs : wr.cell? ⟨B + 4, s, none⟩ = some (.int .i64 (comp s)) := later (HMB.out ▸ hbz) (by rw [HB.out]; exact World.rowIs.cell HCO.out hs)
                clear hGz hna ctk
                by_cases hus : u = s
                · subst hus
                  have hIlt : ∀ v, (∃ a, a < ql ∧ q a = v) → v < n := by
                    rintro v ⟨a, ha, rfl⟩
                    exact hCY.bi.lt g hs a ha
                  have hdt : d t ≤ 100 := by have := hCY.bi.dle i hi; rw [hqi] at this; omega
                  have hleast := hCY.bi.back (HC.out.back g hs) ⟨hs, rfl⟩ hi hCY.no humem
                  rw [hqi] at hleast humem
                  have HLE : Hid _ := hleast
                  have HHU : Hid _ := humem
                  have HBZ : Hid _ := hbz
                  have HP : Hid _ := path_any mb ql nx fr d (fun v => ∃ a, a < ql ∧ q a = v) u t wr hCY.mp hCY.bi.d0 ⟨i, hi, hqi⟩ (by
                    rintro v ⟨a, ha, rfl⟩ hv
                    obtain ⟨c, hc, h1, h2, h3⟩ := hCY.fk a (by
                      rcases Nat.eq_zero_or_pos a with e | e
                      · subst e; exact absurd hCY.bi.start hv
                      · exact e) ha
                    exact ⟨q c, h1, ⟨c, hc, rfl⟩, h2, h3⟩) (fun v hv => by have := hIlt v hv; omega) (by omega)
                  have hmbw : mb ≤ wr.heap.size := by have := hbz.size; have := HMB.out; omega
                  clear hCY hbz hleast humem hpart hcu hcs hu
                  go_wp2_with fail
                  refine Calls.mono HP.out ?_
                  rintro e w9 ⟨b9, cap9, c9, rfl, ⟨hsl9, hc0, hcd, hce, hci⟩, hbel9⟩
                  go_wp2
                  go_ret
                  have hB := HB.out
                  have hBm : w.heap.size ≤ mb := by have := HBL.out.size; have := HMB.out; omega
                  refine ⟨.inr ⟨k, b9, d t + 1, cap9, c9, rfl, ⟨hlt, HNO.out, by rw [← HS'.out]; exact HLE.out, hsl9.mono (by omega), by rw [← HS'.out]; exact hc0, fun x hx => hce x (by omega), ?_, fun x hx => hIlt _ (hci x (by omega)).2, fun x y hxy hy e => ?_, by omega⟩⟩, (HBL.out.trans (HBZ.out.mono hBm)).trans (hbel9.mono (by omega))⟩
                  · rw [← HS'.out, show d t + 1 - 1 = d t by omega, hcd]; exact HHU.out
                  · have h1 := (hci x (by omega)).1
                    have h2 := (hci y (by omega)).1
                    rw [e] at h1
                    omega
                · have hmp := hCY.mp
                  cases hfu : fr u with
                  | some x =>
                    have hlk := (hmp.look_some (v := u) (by omega) hfu).1
                    have HN : Hid _ := hCY.skip hi hus (.inr (by rw [hfu]; simp)) hpart
                    have HBZ : Hid _ := hbz
                    clear hCY hmp hbz hfu hpart humem
                    go_upto_region 23 with fail
                    go_quiet (fail)
                    revert nq
                    intro q3
                    go_wp2
                    go_roundw
                    case rel => exact ⟨j + 1, q, ql, d, fr, by omega, by go_num, ⟨hi, hqi⟩, HN.out.of fun _ => rfl, below_drewN HBZ.out _⟩
                    case measure => simp [intOf]; omega
                  | none =>
                    have hlk := hmp.look_none (v := u) (by omega) hfu
                    by_cases hcc : comp u = comp s
                    · rw [hcc] at hcu
                      have HCY : Hid _ := hCY
                      have HBZ : Hid _ := hbz
                      clear hCY hmp hbz
                      go_upto_region 23 with fail
                      go_quiet (fail)
                      revert nq
                      intro q3
                      go_upto_region 24 with fail
                      obtain ⟨w5, hw5⟩ : ∃ w5, w5 = wr.drewN q3 := ⟨_, rfl⟩
                      have hCY5 : CY mb (mb + 1) n s nx comp i (fun x => x ∈ (nx t).take j) q ql d fr u9 w5 := by rw [hw5]; exact HCY.out.of fun _ => rfl
                      have hbz5 : Below mb wo w5 := by rw [hw5]; exact below_drewN HBZ.out _
                      rw [← hw5]
                      clear hw5 hlk hcu hcs cu
                      obtain ⟨w6, hup, hmp6, hgr6⟩ := hCY5.mp.put (v := u) (x := t) (by omega) (by omega) (by omega)
                      have hml := hCY5.mp.lt
                      have hsl6 : Slc w6 (mb + 1) 3 1 u9 ql (nv q) := hCY5.sl.of fun b hb => hgr6.block b (hCY5.sl.lt b hb).2 (fun e => by have := (hCY5.sl.lt b hb).1; simp at e; omega)
                      have hs6 : mb + 1 ≤ w6.heap.size := by have := hgr6.size; omega
                      obtain ⟨b', cap', w7, hap, hsl7, hgr7, hb7⟩ := hsl6.app hs6 (by omega) (u : Int)
                      have k7 : ∀ b, b < w6.heap.size → u9.ownBlock ≠ some b → w7.heap[b]? = w6.heap[b]? := fun b hb hne => (hgr7.block b (by simp; omega) (fun e => hne e.symm)).trans (Below.heap_alloc _ _ _ hb)
                      have hmp7 : MP w7 mb (ql + 1) (upd fr u (some (q i))) := by
                        rw [hqi]
                        exact hmp6.of (k7 mb (by omega) (fun e => by have := (hsl6.lt mb e).1; omega))
                      have HN : Hid _ := hCY5.add (part' := fun x => x ∈ (nx t).take (j + 1)) hi humem ⟨hun, hcc⟩ hus hfu hpart hmp7 hsl7
                      have HB7 : Hid (Below mb wo w7) := hbz5.trans ⟨by rw [hgr7.os]; exact hgr6.os, by rw [hgr7.tape]; exact hgr6.tape, by rw [hgr7.output]; exact hgr6.output, by have h1 := hgr7.size; have h2 := hgr6.size; simp at h1; omega,
                        fun b hb => (k7 b (by omega) (fun e => by have := (hsl6.lt b e).1; omega)).trans (hgr6.block b (by omega) (fun e => by simp at e; omega))⟩
                      clear hCY5 hbz5 hmp6 hgr6 hsl6 hsl7 hgr7 hb7 k7 hmp7 hfu hpart humem hcc
                      go_wp2_with (at_builtin; refine wpList_append_run rfl (.tmp 96) (.tmp 98) 25 rfl rfl rfl hap ?_)
                      go_roundw
                      case rel => exact ⟨j + 1, _, _, _, _, by omega, by go_num, ⟨by omega, by rw [upd_ne _ _ _ (by omega)]; exact hqi⟩, HN.out, HB7.out⟩
                      case measure => simp [intOf]; omega
                    · have HN : Hid _ := hCY.skip hi hus (.inl fun h => hcc h.2) hpart
                      have HBZ : Hid _ := hbz
                      clear hCY hmp hbz hfu hpart humem
                      go_upto_region 23 with fail
                      go_quiet (fail)
                      revert nq
                      intro q3
                      go_wp2
                      go_roundw
                      case rel => exact ⟨j + 1, q, ql, d, fr, by omega, by go_num, ⟨hi, hqi⟩, HN.out.of fun _ => rfl, below_drewN HBZ.out _⟩
                      case measure => simp [intOf]; omega
              · have hjL' : j = L := by omega
                have HN : Hid _ := hCY.next hi (fun v hv => by rw [hqi] at hv; rw [hjL', HL.out, List.take_length]; exact hv)
                have HBZ : Hid _ := hbz
                clear hCY hbz
                go_wp2
                go_roundw
                case rel => exact ⟨i + 1, q, ql, d, fr, by go_num, HN.out, HBZ.out⟩
                case measure => simp [intOf]; omega
          · have hil : i = ql := by have := hCY.bi.le; omega
            obtain ⟨kk, hkk, hwk⟩ := HE.out
            exact absurd hwk (hCY.bi.ends (HC.out.back g hs) ⟨hs, rfl⟩ hil hCY.no kk hkk)
      · have hno2 : ∀ j, 0 < j → ¬ Wk nx j s s := fun j hj hw => hb (hbig.2 ⟨j, hj, hw⟩)
        have HN2 : Hid _ := hno2
        clear hbig hno2
        go_wp2
        go_roundw
        case rel =>
          refine ⟨k + 1, by omega, rfl, by go_num, fun i hi => ?_, trivial⟩
          by_cases e : i = k
          · subst e; rw [← HS'.out]; exact HN2.out
          · exact HNO.out i (by omega)
        case measure => simp [intOf]; omega
    · have hkn : n = k := by omega
      subst hkn
      go_wp2
      go_ret
      exact ⟨.inl ⟨rfl, HNO.out⟩, HBL.out⟩
end Go.Proofs.Ybulkcuye.A
