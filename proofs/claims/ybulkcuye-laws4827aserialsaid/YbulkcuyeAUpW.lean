/- container/heap's up (26), down (27), Push (20), Pop (22), walked. -/
import Derived.Test.YbulkcuyeAHeapW
namespace Go.Proofs.Ybulkcuye.A
open Go.RowKit

theorem mPush (hb : Nat) (w : World) : (Go.method 340 67 (.pointer (some ⟨hb, 0, none⟩)) "Push").run Yba.prog w = .ok (53, .pointer (some ⟨hb, 0, none⟩)) w := by kernel_rfl
theorem mPop (hb : Nat) (w : World) : (Go.method 340 67 (.pointer (some ⟨hb, 0, none⟩)) "Pop").run Yba.prog w = .ok (52, .pointer (some ⟨hb, 0, none⟩)) w := by kernel_rfl
theorem load68 (hb : Nat) (a : Option Addr) (n c : Nat) (w : World) (hc : w.cell? ⟨hb, 0, none⟩ = some (.slice a n c)) : (loadVar 68 ⟨hb, 0, none⟩).run Yba.prog w = .ok (.slice a n c) w := by
  simp [loadVar, hc, go_sem]
theorem find67 (nm : String) (f : FuncId) (h : (Yba.t67.methods.find? (·.name == nm)).map (fun m => (m.path, m.func)) = some (#[], some (f, false))) : ∃ m, Yba.t67.methods.find? (·.name == nm) = some m ∧ m.path = #[] ∧ m.func = some (f, false) := by
  obtain ⟨m, hm, h2⟩ := Option.map_eq_some_iff.1 h
  simp only [Prod.mk.injEq] at h2
  exact ⟨m, hm, h2.1, h2.2⟩
theorem mVal (nm : String) (f : FuncId) (h : (Yba.t67.methods.find? (·.name == nm)).map (fun m => (m.path, m.func)) = some (#[], some (f, false))) (hb : Nat) (a : Option Addr) (n c d : Nat) (w : World) (hc : w.cell? ⟨hb, 0, none⟩ = some (.slice a n c)) :
    (Go.method (d + 1) 67 (.pointer (some ⟨hb, 0, none⟩)) nm).run Yba.prog w = .ok (f, .slice a n c) w := by
  obtain ⟨m, hm, hp, hf⟩ := find67 nm f h
  have hl := load68 hb a n c w hc
  have hi : (typeInfo 67).run Yba.prog w = .ok Yba.t67 w := by kernel_rfl
  unfold Go.method
  simp only [Sem.run_bind, hi, Result.andThen_ok, hm, hp, hf, follow, Sem.run_pure, receiverAt, run_underlying Yba.underlying67, Place.get]
  have hs : ∀ name : String, (Builtin.ssaWrapNilChk_ #[67] 67 #[.pointer (some ⟨hb, 0, none⟩), strVal "", strVal name]).run Yba.prog w = .ok (.pointer (some ⟨hb, 0, none⟩)) w := fun _ => rfl
  have ha : (asAddr (.pointer (some ⟨hb, 0, none⟩))).run Yba.prog w = .ok ⟨hb, 0, none⟩ w := rfl
  simp [hs, ha, hl]
theorem mLess (hb : Nat) (a : Option Addr) (n c : Nat) (w : World) (hc : w.cell? ⟨hb, 0, none⟩ = some (.slice a n c)) : (Go.method 340 67 (.pointer (some ⟨hb, 0, none⟩)) "Less").run Yba.prog w = .ok (51, .slice a n c) w :=
  mVal "Less" 51 (by kernel_rfl) hb a n c 339 w hc
theorem mSwap (hb : Nat) (a : Option Addr) (n c : Nat) (w : World) (hc : w.cell? ⟨hb, 0, none⟩ = some (.slice a n c)) : (Go.method 340 67 (.pointer (some ⟨hb, 0, none⟩)) "Swap").run Yba.prog w = .ok (54, .slice a n c) w :=
  mVal "Swap" 54 (by kernel_rfl) hb a n c 339 w hc
theorem mLen (hb : Nat) (a : Option Addr) (n c : Nat) (w : World) (hc : w.cell? ⟨hb, 0, none⟩ = some (.slice a n c)) : (Go.method 340 67 (.pointer (some ⟨hb, 0, none⟩)) "Len").run Yba.prog w = .ok (21, .slice a n c) w :=
  mVal "Len" 21 (by kernel_rfl) hb a n c 339 w hc

theorem HP.drewN {B hb hl : Nat} {w : World} {v : Value} {q : Nat → Nat} (h : HP B hb w v hl q) (k : Nat) : HP B hb (w.drewN k) v hl q := ⟨h.box.of_block rfl, h.sl.of (fun _ _ => rfl), h.lt⟩

set_option maxRecDepth 20000 in
set_option maxHeartbeats 2000000 in
theorem up_any (B hb sb n cap : Nat) (q : Nat → Nat) (j0 : Nat) (w : World) (h : HP B hb w (.slice (some ⟨sb, 0, none⟩) n cap) n q) (hj0 : j0 < n) (hn : n ≤ 1000) :
    Calls Yba.prog 26 #[.iface 67 (.pointer (some ⟨hb, 0, none⟩)), .int .i64 (j0 : Int)] w fun e w' => e = .returned (.tuple #[]) ∧ (∃ q', HP B hb w' (.slice (some ⟨sb, 0, none⟩) n cap) n q' ∧ Mix n q q') ∧ Only sb w w' := by
  go_enter Yba.func26, Yba.ntmps26
  go_wp2
  go_loopw [1] (fun x wr => ∃ (j : Nat) (q' : Nat → Nat), j < n ∧ x = .int .i64 (j : Int) ∧ HP B hb wr (.slice (some ⟨sb, 0, none⟩) n cap) n q' ∧ Mix n q q' ∧ Only sb w wr) (fun x _ => (intOf x).toNat)
  case atStart => exact ⟨j0, q, hj0, rfl, h, Mix.refl _ _, Only.refl _ _⟩
  case round =>
    obtain ⟨j, q', hj, rfl, hp, hmix, hon⟩ := hrel
    have c0 := hp.box.cell (i := 0) (by omega)
    by_cases hj1 : j = 0
    · subst hj1
      have HP' : Hid _ := hp
      have HM : Hid _ := hmix
      have HO : Hid _ := hon
      clear hp hmix hon
      go_wp2
      go_end0
      exact ⟨rfl, ⟨q', HP'.out, HM.out⟩, HO.out⟩
    · obtain ⟨i, hi⟩ : ∃ i, i = (j - 1) / 2 := ⟨_, rfl⟩
      have hq : ((j : Int) - 1) / 2 = (i : Int) := by omega
      have hij : i < j := by omega
      have hne : ¬ i = j := by omega
      have hml := mLess hb _ n cap wr c0
      have HP' : Hid _ := hp
      have HM : Hid _ := hmix
      have HO : Hid _ := hon
      clear hi hp hmix hon
      go_wp2_with fail
      refine (less_any B sb n cap q' wr HP'.out.sl j i hj (by omega)).mono ?_
      rintro e w2 ⟨⟨r, rfl⟩, k2, rfl⟩
      have hp2 : HP B hb (wr.drewN k2) (.slice (some ⟨sb, 0, none⟩) n cap) n q' := HP'.out.drewN k2
      have HO2 : Hid _ := HO.out.drewN k2
      obtain ⟨w2, hw2⟩ : ∃ w2, w2 = wr.drewN k2 := ⟨_, rfl⟩
      rw [← hw2] at hp2 HO2 ⊢
      have HP2 : Hid _ := hp2
      have c2 := hp2.box.cell (i := 0) (by omega)
      have hms := mSwap hb _ n cap w2 c2
      clear hw2 hp2 HO HP' hml c0
      cases r with
      | false =>
        go_wp2
        go_end0
        exact ⟨rfl, ⟨q', HP2.out, HM.out⟩, HO2.out⟩
      | true =>
        go_wp2_with fail
        refine (swap_any B sb n cap q' w2 HP2.out.sl i j (by omega) hj).mono ?_
        rintro e w3 ⟨rfl, hsl3, hon3⟩
        have HP3 : Hid _ := HP2.out.of_only hon3 hsl3
        have HM3 : Hid _ := Mix.trans HM.out (Mix.swap q' (i := i) (j := j) (by omega) hj)
        have HO3 : Hid _ := HO2.out.trans hon3
        clear hsl3 hon3 hms c2
        go_wp2
        go_roundw
        case rel => exact ⟨i, _, by omega, rfl, HP3.out, HM3.out, HO3.out⟩
        case measure => simp [intOf]; omega
end Go.Proofs.Ybulkcuye.A
