/- container/heap's Push (20) and Pop (22), walked. -/
import Derived.Test.YbulkcuyeADownW
namespace Go.Proofs.Ybulkcuye.A
open Go.RowKit

set_option maxRecDepth 20000 in
set_option maxHeartbeats 2000000 in
theorem hpush_any (B hb hl : Nat) (v : Value) (q : Nat → Nat) (x : Nat) (w : World) (h : HP B hb w v hl q) (hB : B ≤ w.heap.size) (hl5 : hl ≤ 900) :
    Calls Yba.prog 20 #[.iface 67 (.pointer (some ⟨hb, 0, none⟩)), .iface 3 (.int .i64 (x : Int))] w fun e w' => e = .returned (.tuple #[]) ∧
      (∃ b cap q', HP B hb w' (.slice (some ⟨b, 0, none⟩) (hl + 1) cap) (hl + 1) q' ∧ Mix (hl + 1) (upd q hl x) q' ∧ HK hb v (.slice (some ⟨b, 0, none⟩) (hl + 1) cap) w w') := by
  have H : Hid _ := h
  have hmp := mPush hb w
  clear h
  go_enter Yba.func20, Yba.ntmps20
  go_wp2_with fail
  refine (mpush_any B hb hl v q x w H.out hB (by omega)).mono ?_
  rintro e w1 ⟨rfl, b, cap, hp1, hk1⟩
  have c1 := hp1.box.cell (i := 0) (by omega)
  have hmn := mLen hb _ (hl + 1) cap w1 c1
  have H1 : Hid _ := hp1
  have K1 : Hid _ := hk1
  clear hp1 hk1 hmp
  go_wp2_with fail
  refine (len_any (some ⟨b, 0, none⟩) (hl + 1) cap w1).mono ?_
  rintro e w1' ⟨rfl, rfl⟩
  have e1 : ((hl + 1 : Nat) : Int) - 1 = (hl : Int) := by omega
  go_wp2_with fail
  refine (up_any B hb b (hl + 1) cap (upd q hl x) hl w1' H1.out (by omega) (by omega)).mono ?_
  rintro e w2 ⟨rfl, ⟨q', hp2, hm2⟩, hon2⟩
  go_wp2
  go_end0
  exact ⟨rfl, b, cap, q', hp2, hm2, HK.trans K1.out (HK.of_only hon2)⟩

set_option maxRecDepth 20000 in
set_option maxHeartbeats 2000000 in
theorem hpop_any (B hb sb m cap : Nat) (q : Nat → Nat) (w : World) (h : HP B hb w (.slice (some ⟨sb, 0, none⟩) (m + 1) cap) (m + 1) q) (hm : m ≤ 900) (hcap : m + 1 ≤ cap) :
    Calls Yba.prog 22 #[.iface 67 (.pointer (some ⟨hb, 0, none⟩))] w fun e w' => e = .returned (.iface 3 (.int .i64 (q 0 : Int))) ∧
      (∃ q', HP B hb w' (.slice (some ⟨sb, 0, none⟩) m cap) m q' ∧ Mix m (upd q 0 (q m)) q' ∧ HK hb (.slice (some ⟨sb, 0, none⟩) (m + 1) cap) (.slice (some ⟨sb, 0, none⟩) m cap) w w') := by
  have c0 := h.box.cell (i := 0) (by omega)
  have hmn := mLen hb _ (m + 1) cap w c0
  have H : Hid _ := h
  clear h
  go_enter Yba.func22, Yba.ntmps22
  go_wp2_with fail
  refine (len_any (some ⟨sb, 0, none⟩) (m + 1) cap w).mono ?_
  rintro e w' ⟨rfl, rfl⟩
  have e1 : ((m + 1 : Nat) : Int) - 1 = (m : Int) := by omega
  have hms := mSwap hb _ (m + 1) cap w' c0
  clear hmn
  go_wp2_with fail
  refine (swap_any B sb (m + 1) cap q w' H.out.sl 0 m (by omega) (by omega)).mono ?_
  rintro e w2 ⟨rfl, hsl2, hon2⟩
  have H2 : Hid _ := H.out.of_only hon2 hsl2
  clear hms hsl2
  go_wp2_with fail
  refine (down_any B hb sb m cap (upd (upd q 0 (q m)) m (q 0)) w2 H2.out (by omega)).mono ?_
  rintro e w3 ⟨⟨r, rfl⟩, ⟨q', hp3, hm3, hl3⟩, hon3⟩
  have hmp := mPop hb w3
  have hq0 : q' m = q 0 := by rw [hl3 m (Nat.le_refl _), upd_same]
  have H3 : Hid _ := hp3
  clear hp3
  go_wp2_with fail
  refine (mpop_any B hb m cap sb q' w3 H3.out (by omega) hcap).mono ?_
  rintro e w4 ⟨rfl, hp4, hon4⟩
  rw [hq0]
  go_wp2
  go_ret
  refine ⟨rfl, q', hp4, ?_, (HK.of_only (c' := cap) (m := m + 1) (hon2.trans hon3)).trans ⟨hon4.os, hon4.tape, hon4.output, Nat.le_of_eq hon4.size.symm, fun b _ h1 _ => hon4.block b h1, fun b h => .inl h⟩⟩
  have same : ∀ b, b < m → upd (upd q 0 (q m)) m (q 0) b = upd q 0 (q m) b := fun b hb => upd_ne _ _ _ (by omega)
  refine ⟨fun v => (hm3.1 v).trans ?_, fun hin => hm3.2 fun a b hab hb => ?_⟩
  · constructor
    · rintro ⟨b, hb, e⟩; exact ⟨b, hb, by rw [← same b hb]; exact e⟩
    · rintro ⟨b, hb, e⟩; exact ⟨b, hb, by rw [same b hb]; exact e⟩
  · rw [same a (by omega), same b hb]; exact hin a b hab hb
end Go.Proofs.Ybulkcuye.A
