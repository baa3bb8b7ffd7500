/- container/heap's down (27), walked. -/
import Derived.Test.YbulkcuyeAUpW
namespace Go.Proofs.Ybulkcuye.A
open Go.RowKit

set_option maxRecDepth 20000 in
set_option maxHeartbeats 4000000 in
theorem down_any (B hb sb m cap : Nat) (q : Nat → Nat) (w : World) (h : HP B hb w (.slice (some ⟨sb, 0, none⟩) (m + 1) cap) (m + 1) q) (hm : m ≤ 1000) :
    Calls Yba.prog 27 #[.iface 67 (.pointer (some ⟨hb, 0, none⟩)), .int .i64 0, .int .i64 (m : Int)] w fun e w' => (∃ r : Bool, e = .returned (.bool r)) ∧ (∃ q', HP B hb w' (.slice (some ⟨sb, 0, none⟩) (m + 1) cap) (m + 1) q' ∧ Mix m q q' ∧ ∀ b, m ≤ b → q' b = q b) ∧ Only sb w w' := by
  go_enter Yba.func27, Yba.ntmps27
  go_wp2
  go_loopw [7] (fun x wr => ∃ (i : Nat) (q' : Nat → Nat), i ≤ m ∧ x = .int .i64 (i : Int) ∧ HP B hb wr (.slice (some ⟨sb, 0, none⟩) (m + 1) cap) (m + 1) q' ∧ Mix m q q' ∧ (∀ b, m ≤ b → q' b = q b) ∧ Only sb w wr) (fun x _ => m + 1 - (intOf x).toNat)
  case atStart => exact ⟨0, q, by omega, rfl, h, Mix.refl _ _, fun _ _ => rfl, Only.refl _ _⟩
  case round =>
    obtain ⟨i, q', hi, rfl, hp, hmix, hlast, hon⟩ := hrel
    have HP' : Hid _ := hp
    have HM : Hid _ := hmix
    have HT : Hid _ := hlast
    have HO : Hid _ := hon
    have c0 := hp.box.cell (i := 0) (by omega)
    have hml := mLess hb _ (m + 1) cap wr c0
    clear hp hmix hlast hon
    by_cases h1 : 2 * i + 1 < m
    · obtain ⟨j1, hj1⟩ : ∃ j1, j1 = 2 * i + 1 := ⟨_, rfl⟩
      obtain ⟨j2, hj2⟩ : ∃ j2, j2 = j1 + 1 := ⟨_, rfl⟩
      have e1 : 2 * (i : Int) + 1 = (j1 : Int) := by omega
      have e2 : (j1 : Int) + 1 = (j2 : Int) := by omega
      have hij : i < j1 := by omega
      have hij2 : i < j2 := by omega
      have hjm : j1 < m := by omega
      have hb2 : 2 * i < 2000 := by omega
      clear hj1 hj2 h1
      by_cases h2 : j2 < m
      · go_wp2_with fail
        refine (less_any B sb (m + 1) cap q' wr HP'.out.sl j2 j1 (by omega) (by omega)).mono ?_
        rintro e w2 ⟨⟨r, rfl⟩, k2, rfl⟩
        have hp2 : HP B hb (wr.drewN k2) (.slice (some ⟨sb, 0, none⟩) (m + 1) cap) (m + 1) q' := HP'.out.drewN k2
        have HO2 : Hid _ := HO.out.drewN k2
        obtain ⟨w2, hw2⟩ : ∃ w2, w2 = wr.drewN k2 := ⟨_, rfl⟩
        rw [← hw2] at hp2 HO2 ⊢
        have HP2 : Hid _ := hp2
        have c2 := hp2.box.cell (i := 0) (by omega)
        have hml2 := mLess hb _ (m + 1) cap w2 c2
        clear hw2 hp2 HO HP' hml c0
        cases r with
        | false =>
          go_wp2_with fail
          refine (less_any B sb (m + 1) cap q' w2 HP2.out.sl (j1) i (by omega) (by omega)).mono ?_
          rintro e w3 ⟨⟨r2, rfl⟩, k3, rfl⟩
          have hp3 : HP B hb (w2.drewN k3) (.slice (some ⟨sb, 0, none⟩) (m + 1) cap) (m + 1) q' := HP2.out.drewN k3
          have HO3 : Hid _ := HO2.out.drewN k3
          obtain ⟨w3, hw3⟩ : ∃ w3, w3 = w2.drewN k3 := ⟨_, rfl⟩
          rw [← hw3] at hp3 HO3 ⊢
          have HP3 : Hid _ := hp3
          have c3 := hp3.box.cell (i := 0) (by omega)
          have hms := mSwap hb _ (m + 1) cap w3 c3
          clear hw3 hp3 c2 hml2
          cases r2 with
          | false =>
            go_wp2
            go_ret
            exact ⟨⟨decide (0 < i), rfl⟩, ⟨q', HP3.out, HM.out, HT.out⟩, HO3.out⟩
          | true =>
            go_wp2_with fail
            refine (swap_any B sb (m + 1) cap q' w3 HP3.out.sl i (j1) (by omega) (by omega)).mono ?_
            rintro e w4 ⟨rfl, hsl4, hon4⟩
            have HP4 : Hid _ := HP3.out.of_only hon4 hsl4
            have HM4 : Hid _ := Mix.trans HM.out (Mix.swap q' (i := i) (j := j1) (by omega) (by omega))
            have HO4 : Hid _ := HO3.out.trans hon4
            have HT4 : Hid (∀ b, m ≤ b → upd (upd q' i (q' (j1))) (j1) (q' i) b = q b) := fun b hb => by
              rw [upd_ne _ _ _ (by omega), upd_ne _ _ _ (by omega)]
              exact HT.out b hb
            clear hsl4 hon4 hms c3
            go_wp2
            go_roundw
            case rel => exact ⟨j1, _, by omega, by go_num, HP4.out, HM4.out, HT4.out, HO4.out⟩
            case measure => simp [intOf]; omega
        | true =>
          go_wp2_with fail
          refine (less_any B sb (m + 1) cap q' w2 HP2.out.sl (j2) i (by omega) (by omega)).mono ?_
          rintro e w3 ⟨⟨r2, rfl⟩, k3, rfl⟩
          have hp3 : HP B hb (w2.drewN k3) (.slice (some ⟨sb, 0, none⟩) (m + 1) cap) (m + 1) q' := HP2.out.drewN k3
          have HO3 : Hid _ := HO2.out.drewN k3
          obtain ⟨w3, hw3⟩ : ∃ w3, w3 = w2.drewN k3 := ⟨_, rfl⟩
          rw [← hw3] at hp3 HO3 ⊢
          have HP3 : Hid _ := hp3
          have c3 := hp3.box.cell (i := 0) (by omega)
          have hms := mSwap hb _ (m + 1) cap w3 c3
          clear hw3 hp3 c2 hml2
          cases r2 with
          | false =>
            go_wp2
            go_ret
            exact ⟨⟨decide (0 < i), rfl⟩, ⟨q', HP3.out, HM.out, HT.out⟩, HO3.out⟩
          | true =>
            go_wp2_with fail
            refine (swap_any B sb (m + 1) cap q' w3 HP3.out.sl i (j2) (by omega) (by omega)).mono ?_
            rintro e w4 ⟨rfl, hsl4, hon4⟩
            have HP4 : Hid _ := HP3.out.of_only hon4 hsl4
            have HM4 : Hid _ := Mix.trans HM.out (Mix.swap q' (i := i) (j := j2) (by omega) (by omega))
            have HO4 : Hid _ := HO3.out.trans hon4
            have HT4 : Hid (∀ b, m ≤ b → upd (upd q' i (q' (j2))) (j2) (q' i) b = q b) := fun b hb => by
              rw [upd_ne _ _ _ (by omega), upd_ne _ _ _ (by omega)]
              exact HT.out b hb
            clear hsl4 hon4 hms c3
            go_wp2
            go_roundw
            case rel => exact ⟨j2, _, by omega, by go_num, HP4.out, HM4.out, HT4.out, HO4.out⟩
            case measure => simp [intOf]; omega
      · obtain ⟨w2, hw2⟩ : ∃ w2, w2 = wr := ⟨_, rfl⟩
        subst hw2
        have HP2 : Hid _ := HP'.out
        have HO2 : Hid _ := HO.out
        have c2 := c0
        have hml2 := hml
        clear HP' HO c0 hml
        go_wp2_with fail
        refine (less_any B sb (m + 1) cap q' w2 HP2.out.sl (j1) i (by omega) (by omega)).mono ?_
        rintro e w3 ⟨⟨r2, rfl⟩, k3, rfl⟩
        have hp3 : HP B hb (w2.drewN k3) (.slice (some ⟨sb, 0, none⟩) (m + 1) cap) (m + 1) q' := HP2.out.drewN k3
        have HO3 : Hid _ := HO2.out.drewN k3
        obtain ⟨w3, hw3⟩ : ∃ w3, w3 = w2.drewN k3 := ⟨_, rfl⟩
        rw [← hw3] at hp3 HO3 ⊢
        have HP3 : Hid _ := hp3
        have c3 := hp3.box.cell (i := 0) (by omega)
        have hms := mSwap hb _ (m + 1) cap w3 c3
        clear hw3 hp3 c2 hml2
        cases r2 with
        | false =>
          go_wp2
          go_ret
          exact ⟨⟨decide (0 < i), rfl⟩, ⟨q', HP3.out, HM.out, HT.out⟩, HO3.out⟩
        | true =>
          go_wp2_with fail
          refine (swap_any B sb (m + 1) cap q' w3 HP3.out.sl i (j1) (by omega) (by omega)).mono ?_
          rintro e w4 ⟨rfl, hsl4, hon4⟩
          have HP4 : Hid _ := HP3.out.of_only hon4 hsl4
          have HM4 : Hid _ := Mix.trans HM.out (Mix.swap q' (i := i) (j := j1) (by omega) (by omega))
          have HO4 : Hid _ := HO3.out.trans hon4
          have HT4 : Hid (∀ b, m ≤ b → upd (upd q' i (q' (j1))) (j1) (q' i) b = q b) := fun b hb => by
            rw [upd_ne _ _ _ (by omega), upd_ne _ _ _ (by omega)]
            exact HT.out b hb
          clear hsl4 hon4 hms c3
          go_wp2
          go_roundw
          case rel => exact ⟨j1, _, by omega, by go_num, HP4.out, HM4.out, HT4.out, HO4.out⟩
          case measure => simp [intOf]; omega
    · go_wp2
      go_ret
      refine ⟨?_, ⟨q', HP'.out, HM.out, HT.out⟩, HO.out⟩
      show Ending.returned (.bool (decide (0 < i))) = Ending.returned (.bool false) ∨ Ending.returned (.bool (decide (0 < i))) = Ending.returned (.bool true)
      cases decide (0 < i)
      · exact .inl rfl
      · exact .inr rfl
end Go.Proofs.Ybulkcuye.A
