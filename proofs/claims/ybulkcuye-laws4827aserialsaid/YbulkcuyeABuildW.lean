/- 'zzs4827abuild' (func 7), walked. -/
import Derived.Test.YbulkcuyeAEdge
import Derived.Test.YbulkcuyeABuildC
import Derived.Deep.CutRange
import Derived.Deep.DeepCutAuto
namespace Go.Proofs.Ybulkcuye.A
open Go.RowKit

set_option maxRecDepth 20000 in
set_option maxHeartbeats 4000000 in
theorem build_any (n : Nat) (rot : Int) (a : Option Addr) (L cap : Nat) (ef et : Nat → Int) (w : World) (hn0 : 0 < n) (hn : n ≤ 100) (hr0 : 0 ≤ rot) (hr1 : rot ≤ 255) (hL : L ≤ 2000)
    (hE : 0 < L → ∃ b off, a = some ⟨b, off, none⟩ ∧ ∀ j, j < L → w.cell? ⟨b, off + j * 2, none⟩ = some (.int .u8 (ef j)) ∧ w.cell? ⟨b, off + j * 2 + 1, none⟩ = some (.int .u8 (et j))) (hby : ∀ j, j < L → 0 ≤ ef j ∧ ef j ≤ 255 ∧ 0 ≤ et j ∧ et j ≤ 255) :
    Calls Yba.prog 7 #[.int .i64 (n : Int), .int .u8 rot, .slice a L cap] w fun e w' => ∃ (G NB IB A TX r : Nat) (AB : Nat → Nat) (vo : Value) (nx : Nat → List Nat) (na : Nat → Option Addr) (nc : Nat → Nat),
      e = .returned (.tuple #[.pointer (some ⟨G, 0, none⟩), .slice (some ⟨A, 0, none⟩) n n, vo]) ∧ Built w w' n r G NB IB A TX AB vo nx na nc := by
  have HE : Hid _ := hE
  have HBY : Hid _ := hby
  clear hE hby
  have hm0 := make_empty n hn
  have hm1 := run_make_row' (P := Yba.prog) 54 25 (.slice none 0 0) 24 Yba.underlying54 info25 rfl .i64 .i64 n (by omega) (by omega)
  have hm2 := run_make_row' (P := Yba.prog) 25 3 (.int .i64 0) 8 Yba.underlying25 info3 rfl .i64 .i64 n (by omega) (by omega)
  go_enter Yba.func7, Yba.ntmps7
  go_upto_region 1 with fail
  go_cut [9] (fun v9 wx => ∃ X0 X1 X2, v9 = .pointer (some ⟨w.heap.size + 3, 0, none⟩) ∧ BS w.heap.size n X0 X1 X2 wx ∧ Below w.heap.size w wx)
  case first =>
    go_region
    all_goals (go_wp2_with fail; go_meet)
    all_goals simp only [Nat.add_assoc, Nat.reduceAdd]
    all_goals first
      | (obtain ⟨X0, X1, X2, h⟩ := bs0 w n; exact ⟨X0, X1, X2, trivial, h⟩)
      | (obtain ⟨X0, X1, X2, h⟩ := bs1 w n; exact ⟨X0, X1, X2, trivial, h⟩)
      | (obtain ⟨X0, X1, X2, h⟩ := bs2 w n; exact ⟨X0, X1, X2, trivial, h⟩)
      | (obtain ⟨X0, X1, X2, h⟩ := bs3 w n; exact ⟨X0, X1, X2, trivial, h⟩)
      | (obtain ⟨X0, X1, X2, h⟩ := bs4 w n; exact ⟨X0, X1, X2, trivial, h⟩)
      | (obtain ⟨X0, X1, X2, h⟩ := bs5 w n; exact ⟨X0, X1, X2, trivial, h⟩)
  case rest =>
    obtain ⟨X0, X1, X2, rfl, hbs, hbel⟩ := hcut
    obtain ⟨r, hr⟩ : ∃ r : Nat, (r : Int) = rot % (n : Int) := ⟨(rot % (n : Int)).toNat, by have := Int.emod_nonneg rot (show (n : Int) ≠ 0 by omega); omega⟩
    have hrn : r < n := by have := Int.emod_lt_of_pos rot (show (0 : Int) < (n : Int) by omega); omega
    have hst := L1.start (r := r) hbs hbel hn
    go_wp2
    rw [hbs.sz, ← hr]
    obtain ⟨w1, hw1⟩ : ∃ w1, w1 = wc.alloc (.cells (madeCells #[.int .i64 0] n) 3) := ⟨_, rfl⟩
    rw [← hw1] at hst ⊢
    obtain ⟨B, hB⟩ : ∃ B, B = w.heap.size := ⟨_, rfl⟩
    rw [← hB] at hst hbs ⊢
    have HST : Hid _ := hst
    have HBS : Hid _ := hbs
    have HB : Hid _ := hB
    have HR : Hid _ := hr
    clear hst hbs hbel hB hr hw1 hm0
    go_loopw [11, 12] (fun v11 i wr => ∃ k : Nat, k ≤ n ∧ v11 = .slice (some ⟨B + 4, 0, none⟩) k n ∧ i = .int .i64 (k : Int) ∧ L1 B n r k X0 X1 X2 w wr) (fun _ i _ => n - (intOf i).toNat)
    case atStart => exact ⟨0, by omega, rfl, rfl, HST.out⟩
    case round =>
      obtain ⟨k, hk, rfl, rfl, hL⟩ := hrel
      by_cases hlt : k < n
      · obtain ⟨v1, v2, hap1, c3, f3, hap2, hL2⟩ := hL.step hlt HBS.out.l0 HBS.out.l1 HBS.out.l2 HBS.out.d01 HBS.out.d02
        have cg : wr.cell? ⟨B + 3, 0, none⟩ = some (.slice (some ⟨X0, 0, none⟩) k n) := hL.rg.cell (i := 0) (by omega)
        have hg3 : B + 3 < wr.heap.size := by have := hL.sz; omega
        have HL2 : Hid _ := hL2
        have hn00 : ¬ n = 0 := by omega
        have hwr : IntKind.i64.wrap ((k : Int) + (r : Int)) = (k : Int) + (r : Int) := by rw [IntKind.wrap_i64]; omega
        have htm : ((k : Int) + (r : Int)).tmod (n : Int) = ((k : Int) + (r : Int)) % (n : Int) := Int.tmod_eq_emod_of_nonneg (by omega)
        clear hL hL2
        go_upto_region 7 with fail
        go_cut [] (fun wx => wx = v1.setCell ⟨B + 3, 0, none⟩ (.slice (some ⟨X0, 0, none⟩) (k + 1) n))
        case first =>
          go_region_law (refine step_append_run (by rfl) (.tmp 42) (.tmp 48) 25 (by rfl) (by rfl) (by rfl) hap1 ?_)
          all_goals (go_wp2_with fail; go_meet)
          all_goals rfl
        case rest =>
          subst hcut
          clear htm hwr
          have htm : ((k : Int) + (r : Int)).tmod (n : Int) = ((k : Int) + (r : Int)) % (n : Int) := Int.tmod_eq_emod_of_nonneg (by omega)
          go_wp2_with (at_builtin; refine wpList_append_run rfl (.tmp 52) (.tmp 58) 25 rfl rfl rfl hap2 ?_)
          go_roundw
          case rel => exact ⟨k + 1, by omega, rfl, by go_num, HL2.out⟩
          case measure => simp [intOf]; omega
      · have hkn : n = k := by omega
        subst hkn
        have hm3 := run_make_row' (P := Yba.prog) 24 30 (.slice none 0 0) 24 Yba.underlying24 info30 rfl .i64 .i64 n (by omega) (by omega)
        have hm4 := run_make_row' (P := Yba.prog) 30 4 (.bool false) 1 Yba.underlying30 info4 rfl .i64 .i64 n (by omega) (by omega)
        obtain ⟨A, hA⟩ : ∃ A, A = wr.heap.size := ⟨_, rfl⟩
        have HL : Hid _ := hL
        have HA : Hid _ := hA
        have HS2 : Hid _ := L2.start (n := n) hA.symm
        clear hL hm1 hm2
        go_wp2
        rw [← hA]
        clear hA
        obtain ⟨w2, hw2⟩ : ∃ w2, w2 = wr.alloc (.cells (madeCells #[.slice none 0 0] n) 30) := ⟨_, rfl⟩
        rw [← hw2] at HS2 ⊢
        clear hw2
        obtain ⟨wo, hwo⟩ : ∃ wo, wo = wr := ⟨_, rfl⟩
        subst hwo
        go_loopw [14] (fun i wz => ∃ k : Nat, k ≤ n ∧ i = .int .i64 (k : Int) ∧ L2 A n k wo wz) (fun i _ => n - (intOf i).toNat)
        case atStart => exact ⟨0, by omega, rfl, HS2.out⟩
        case round =>
          obtain ⟨k, hk, rfl, hL2⟩ := hrel
          by_cases hlt : k < n
          · have ca := hL2.row.cell hlt
            have fa := hL2.row.frozen k
            have hsz := hL2.sz
            have HN : Hid _ := hL2.step
            have hAlt : A < wr.heap.size := hL2.row.lt
            have HSZ : Hid _ := hsz
            clear hL2 hsz
            simp only [Nat.lt_irrefl, if_false] at ca
            go_wp2
            rw [HSZ.out]
            go_roundw
            case rel => exact ⟨k + 1, by omega, by go_num, HN.out⟩
            case measure => simp [intOf]; omega
          · have hkn : n = k := by omega
            subst hkn
            have HST : Hid _ := L3.start HL.out hL2 HA.out.symm HB.out HBS.out.l1 HBS.out.l2
            have HL2 : Hid _ := hL2
            clear hL2 hm3 hm4
            go_wp2
            obtain ⟨w3, hw3⟩ : ∃ w3, w3 = wr := ⟨_, rfl⟩
            subst hw3
            go_loopw [74] (fun i wz => ∃ (k : Nat) (nx : Nat → List Nat) (vl : Nat → Value) (inn : Nat → Nat), k ≤ L ∧ i = .int .i64 (k : Int) ∧ L3 A (A + 1 + n) (B + 3) X1 X2 n k w w3 wz nx vl inn) (fun i _ => L - (intOf i).toNat)
            case atStart => exact ⟨0, _, _, _, by omega, rfl, HST.out⟩
            case round =>
              obtain ⟨k, nx, vl, inn, hk, rfl, hL3⟩ := hrel
              by_cases hlt : k < L
              · obtain ⟨eb, eo, rfl, hc⟩ := HE.out (by omega)
                obtain ⟨c0, c1⟩ := hc k hlt
                have c0 := later hL3.bel c0
                have c1 := later hL3.bel c1
                obtain ⟨b0, b1, b2, b3⟩ := HBY.out k hlt
                obtain ⟨x, hx⟩ : ∃ x, x = ef k := ⟨_, rfl⟩
                obtain ⟨y, hy⟩ : ∃ y, y = et k := ⟨_, rfl⟩
                rw [← hx] at c0 b0 b1
                rw [← hy] at c1 b2 b3
                clear hx hy hc
                obtain ⟨f, hf⟩ : ∃ f : Nat, (f : Int) = x % (n : Int) := ⟨(x % (n : Int)).toNat, by have := Int.emod_nonneg x (show (n : Int) ≠ 0 by omega); omega⟩
                obtain ⟨t, ht⟩ : ∃ t : Nat, (t : Int) = y % (n : Int) := ⟨(y % (n : Int)).toNat, by have := Int.emod_nonneg y (show (n : Int) ≠ 0 by omega); omega⟩
                have hfn : f < n := by have := Int.emod_lt_of_pos x (show (0 : Int) < (n : Int) by omega); omega
                have htn : t < n := by have := Int.emod_lt_of_pos y (show (0 : Int) < (n : Int) by omega); omega
                have hww : w.heap.size ≤ A + 1 + n := by
                  have h1 := HL.out.sz
                  have h2 := HA.out
                  have h3 := HB.out
                  omega
                have hal := hL3.alloc hww (.cells #[.int .u8 x, .int .u8 y] 58)
                have HF : Hid _ := hf
                have HT : Hid _ := ht
                have H3 : Hid _ := hL3
                clear hf ht hL3
                go_wp2_with fail
                rw [← HF.out, ← HT.out]
                obtain ⟨w4, hw4⟩ : ∃ w4, w4 = wr.alloc (.cells #[.int .u8 x, .int .u8 y] 58) := ⟨_, rfl⟩
                rw [← hw4] at hal ⊢
                have HAL : Hid _ := hal
                clear hal hw4 c0 c1
                by_cases hft : f = t
                · subst hft
                  refine (edge_eq w4 (B + 3) f).mono ?_
                  rintro e w5 ⟨rfl, rfl⟩
                  go_wp2
                  go_roundw
                  case rel => exact ⟨k + 1, _, _, _, by omega, by go_num, HAL.out.more⟩
                  case measure => simp [intOf]; omega
                · refine (edge_ne (A + 1 + n) w4 (B + 3) X1 X2 n nx vl inn f t HAL.out.er HAL.out.sz hfn htn hft (by have := HAL.out.len f hfn; omega) (by have := HAL.out.inle t htn; omega)).mono ?_
                  rintro e w5 ⟨rfl, ⟨v', he⟩, hk5⟩
                  have hs1 := HL.out.sz
                  have hs2 := HA.out
                  have hs3 := HB.out
                  have hl1 := HBS.out.l1
                  have hl2 := HBS.out.l2
                  obtain ⟨c5, f5, hold5, hN⟩ := HAL.out.step hfn htn hft he hk5 rfl ⟨by omega, by omega⟩ ⟨by omega, by omega⟩ (by omega)
                  have cA : w5.cell? ⟨A, f, none⟩ = some (.slice (some ⟨A + 1 + f, 0, none⟩) n n) := by
                    have h6 := HL2.out.row.cell hfn
                    rw [if_pos hfn] at h6
                    rw [World.cell?_of_block (w := w4) (hold5 A (by omega) (by omega) (by omega)), World.cell?_of_block (w := w3) (HAL.out.old A (by omega) (by omega) (by omega) (.inl (by omega)))]
                    exact h6
                  have HN : Hid _ := hN
                  clear he hk5 hs1 hs2 hs3 hl1 hl2 hold5 hN
                  go_wp2
                  go_roundw
                  case rel => exact ⟨k + 1, _, _, _, by omega, by go_num, HN.out⟩
                  case measure => simp [intOf]; omega
              · have hkL : L = k := by omega
                subst hkL
                obtain ⟨na, nc, hbu⟩ := Built.of HL.out HL2.out HA.out.symm HBS.out.l0 HBS.out.l1 HBS.out.l2 HBS.out.d01 HBS.out.d02 hL3 hL hrn
                have HBU : Hid _ := hbu
                clear hL3 hbu
                go_wp2
                refine bodyPost_ret (v := .tuple #[.pointer (some ⟨B + 3, 0, none⟩), .slice (some ⟨A, 0, none⟩) n n, .slice (some ⟨B + 4, 0, none⟩) n n]) ?_ rfl ?_
                · simp [results, Yba.f7, go_sem]
                · exact ⟨_, _, _, _, _, _, _, _, _, _, _, rfl, HBU.out⟩
end Go.Proofs.Ybulkcuye.A
