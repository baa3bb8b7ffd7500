/- The closure 'reach' (func 24), walked. -/
import Derived.Test.YbulkcuyeAReach
namespace Go.Proofs.Ybulkcuye.A
open Go.RowKit

set_option maxRecDepth 20000 in
theorem reach_any (B n : Nat) (s : TS) (p : Nat → Nat) (vo vc vs : Value) (u : Nat) (w : World) (h : Rep B n { s with pr := p } w vo vc vs) (hu : u < n) (hc : s.cnt ≤ 100000) (ho : s.ol ≤ 100000) (hl : s.cl ≤ 100000) (hne : ∀ i, i < s.cl → s.ct i ≠ u) :
    Calls Yba.prog 24 #[.int .i64 (u : Int), .pointer (some ⟨B + 7, 0, none⟩), .pointer (some ⟨B + 1, 0, none⟩), .pointer (some ⟨B + 3, 0, none⟩), .pointer (some ⟨B + 5, 0, none⟩), .pointer (some ⟨B + 6, 0, none⟩)] w fun e w' =>
      e = .returned (.tuple #[]) ∧ (∃ vo' vc', Rep B n (s.reach p u) w' vo' vc' vs) ∧ Below B w w' := by
  have c7 : w.cell? ⟨B + 7, 0, none⟩ = some (.int .i64 (s.cnt : Int)) := h.br.cell (by omega)
  have f7 := h.br.frozen 0
  have h1 : Rep B n { s with pr := p, cnt := s.cnt + 1 } (w.setCell ⟨B + 7, 0, none⟩ (.int .i64 ((s.cnt : Int) + 1))) vo vc vs := h.cnt_set (s.cnt + 1)
  have b1 : Below B w (w.setCell ⟨B + 7, 0, none⟩ (.int .i64 ((s.cnt : Int) + 1))) := (Below.refl B w).setCell (by show B ≤ B + 7; omega) _
  go_enter Yba.func24, Yba.ntmps24
  go_wp2
  clear c7 f7 h
  obtain ⟨w1, hw1⟩ : ∃ w1, w1 = w.setCell ⟨B + 7, 0, none⟩ (.int .i64 ((s.cnt : Int) + 1)) := ⟨_, rfl⟩
  rw [← hw1] at h1 b1 ⊢
  clear hw1
  have c1 : w1.cell? ⟨B + 1, 0, none⟩ = some (.slice (some ⟨B, 0, none⟩) n n) := h1.bi.cell (by omega)
  have c3 : w1.cell? ⟨B + 3, 0, none⟩ = some (.slice (some ⟨B + 2, 0, none⟩) n n) := h1.bl.cell (by omega)
  have c7 : w1.cell? ⟨B + 7, 0, none⟩ = some (.int .i64 ((s.cnt : Int) + 1)) := h1.br.cell (by omega)
  have d0 : w1.cell? ⟨B, u, none⟩ = some (nv s.idx u) := h1.ix.cell hu
  have d2 : w1.cell? ⟨B + 2, u, none⟩ = some (nv s.low u) := h1.lo.cell hu
  have f0 := h1.ix.frozen u
  have f2 := h1.lo.frozen u
  have h2 := (h1.idx_set u (s.cnt + 1)).low_set u (s.cnt + 1)
  have H1 : Hid _ := h1
  have H2 : Hid _ := h2
  clear h1 h2
  go_region
  obtain ⟨w2, hw2⟩ : ∃ w2, w2 = ((w1.setCell ⟨B, u, none⟩ (.int .i64 ((s.cnt : Int) + 1))).setCell ⟨B + 2, u, none⟩ (.int .i64 ((s.cnt : Int) + 1))).drew := ⟨_, rfl⟩
  have h2 : Rep B n { s with pr := p, cnt := s.cnt + 1, idx := upd s.idx u (s.cnt + 1), low := upd s.low u (s.cnt + 1) } w2 vo vc vs := by rw [hw2]; exact H2.out.of (fun _ _ => rfl)
  have b2 : Below B w w2 := by rw [hw2]; exact ((b1.setCell (p := ⟨B, u, none⟩) (Nat.le_refl B) _).setCell (p := ⟨B + 2, u, none⟩) (by show B ≤ B + 2; omega) _).drew
  rw [← hw2]
  clear hw2 c1 c3 c7 d0 d2 f0 f2 H1 H2 b1
  obtain ⟨b, cap, w3, hap, f5, _, h3, b3⟩ := h2.open_app ho u
  obtain ⟨b', cap', w4, hap', f6, _, h4, b4⟩ := h3.calls_app hl u hne
  have c5 : w2.cell? ⟨B + 5, 0, none⟩ = some vo := h2.bo.cell (by omega)
  have c6 : w3.cell? ⟨B + 6, 0, none⟩ = some vc := by
    have := h3.bc.cell (i := 0) (by omega)
    rw [World.cell?_of_block (w := w3) (Below.heap_setCell _ _ _ _ (by simp))] at this
    exact this
  have e3 : (w3.setCell ⟨B + 5, 0, none⟩ (.slice (some ⟨b, 0, none⟩) (s.ol + 1) cap)).heap.size = w3.heap.size := by simp
  have H4 : Hid _ := h4
  have HB4 : Hid _ := (b2.trans b3).trans b4
  clear h2 b2 h3 b3 h4 b4
  dsimp only at hap hap'
  rw [e3] at hap'
  clear e3
  go_wp2_with (first | (at_builtin; refine wpList_append_run rfl (.tmp 17) (.tmp 19) 25 rfl rfl rfl hap ?_) | (at_builtin; refine wpList_append_run rfl (.tmp 21) (.tmp 24) 74 rfl rfl rfl hap' ?_))
  go_end0
  exact ⟨rfl, ⟨_, _, H4.out⟩, HB4.out⟩
end Go.Proofs.Ybulkcuye.A
