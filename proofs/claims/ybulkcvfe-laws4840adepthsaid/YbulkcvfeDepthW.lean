import Derived.Test.YbulkcvfeBase
import Derived.Test.YbulkcvfeLen64
namespace Go.Proofs.Ybulkcvfe
open Go.RowKit

theorem new_any (cnt : Int) (w : World) :
    Calls Yba.prog 6 #[.int .u64 cnt, .nilIface, .nilFunc] w fun e w' => e = .returned (.pointer (some ⟨w.heap.size, 0, none⟩)) ∧
      Own w' w.heap.size (w.heap.size + 1) cnt (.slice none 0 0) [] ∧ w'.heap.size = w.heap.size + 1 ∧ Below w.heap.size w w' := by
  go_enter Yba.func6, Yba.ntmps6
  go_wp2
  go_ret
  exact ⟨rfl, ⟨bld_new w cnt, World.ownsRow_nil _ _ _ _⟩, World.size_alloc _ _, (Below.refl _ _).alloc (Nat.le_refl _) _⟩

/-- The shape of an owned slice. -/
theorem own_shape {w : World} {b base : Nat} {cnt : Int} {v : Value} {ps : List (Nat × Option Addr)} (h : Own w b base cnt v ps) : ∃ (ao : Option Addr) (cap : Nat), v = .slice ao ps.length cap := by
  rcases h.2.2 with ⟨rfl, h0⟩ | ⟨g, cap, cur, rfl, _⟩
  · rw [h0]; exact ⟨none, 0, rfl⟩
  · exact ⟨_, cap, rfl⟩
theorem own_cells {w : World} {b base : Nat} {cnt : Int} {v : Value} {ps : List (Nat × Option Addr)} (h : Own w b base cnt v ps) (hne : 0 < ps.length) :
    ∃ (g cap : Nat), v = .slice (some ⟨g, 0, none⟩) ps.length cap ∧ ps.length ≤ cap ∧ base ≤ g ∧ ∀ i p, ps[i]? = some p → w.cell? ⟨g, i * 2, none⟩ = some (.int .u64 (p.1 : Int)) ∧ w.cell? ⟨g, i * 2 + 1, none⟩ = some (.pointer p.2) := by
  obtain ⟨h1, h2⟩ := h
  have h2' := h2
  rcases h2.2 with ⟨rfl, h0⟩ | ⟨g, cap, cur, rfl, hg, hh, hc, _⟩
  · omega
  · refine ⟨g, cap, rfl, hc, hg, fun i p hp => ?_⟩
    have hi : i < ps.length := (List.getElem?_eq_some_iff.1 hp).1
    have := flat_count ps i p hp
    rw [h2'.cellAt (i * 2) (by omega), h2'.cellAt (i * 2 + 1) (by omega)]
    exact this

theorem beq_max (c : Nat) (h : c < 18446744073709551615) : ((c : Int) == 18446744073709551615) = false := by
  rw [beq_eq_false_iff_ne]; omega

theorem getLast_at (l : List Nat) (x : Nat) (h : l.getLast? = some x) : l[l.length - 1]? = some x := by
  rw [List.getLast?_eq_getElem?] at h; exact h

theorem len64_n (c n : Nat) (w : World) (h1 : 1 < c) (h2 : c < 18446744073709551615) (hn : n = Lib.bitLenAux 64 (c - 1)) :
    Calls Yba.prog 7 #[.int .u64 ((c : Int) - 1)] w fun e w' => e = .returned (.int .i64 (n : Int)) ∧ w' = w := by
  have h := len64_any ((c : Int) - 1) w (by omega) (by omega)
  rw [show ((c : Int) - 1).toNat = c - 1 by omega] at h
  rw [hn]
  exact h

set_option maxHeartbeats 400000 in
theorem law_depth_mid (c : Nat) (h1 : 1 < c) (h2 : c < 18446744073709551615) (w : World) :
    Calls Yba.prog 4 #[.int .u64 (c : Int)] w fun e w' => e = .returned (.bool true) ∧ Below w.heap.size w w' := by
  have hlen := chain_len 64 c h2
  have hlast := getLast_at _ _ (chain_last 64 c h2 h1 (by omega))
  have hhead : (chain 64 c)[0]? = some c := by rw [chain_big 63 c (by omega)]; rfl
  have hle := chain_len_le 64 c
  have hne := beq_max c h2
  obtain ⟨n, hn⟩ : ∃ n, n = (chain 64 c).length := ⟨_, rfl⟩
  have hn0 : 0 < n := by rw [hn]; exact (List.getElem?_eq_some_iff.1 hhead).1
  rw [← hn] at hle
  have HN : Hid _ := hn
  have HL : Hid _ := hlen
  have HX : Hid _ := hlast
  have HH : Hid _ := hhead
  clear hlen hlast hhead hn
  go_enter Yba.func4, Yba.ntmps4
  go_wp2_with fail
  refine (new_any _ w).mono ?_
  rintro e w1 ⟨rfl, hO, hs, hb1⟩
  have HS : Hid (w1.heap.size = w.heap.size + 1) := hs
  clear hs
  go_wp2_with fail
  refine (descend_any w.heap.size (w.heap.size + 1) _ _ [] c w1 hO (by omega) (by rw [HS.out]; exact Nat.le_refl _) (by simp) (by omega)).mono ?_
  rintro e w2 ⟨rfl, v, hO2, hbut⟩
  simp only [List.nil_append] at hO2
  have hb2 : Below w.heap.size w w2 := hb1.trans (hbut.below (Nat.le_refl _) (by omega))
  obtain ⟨g, cap, rfl, hcap, hg, hcells⟩ := own_cells hO2 (by rw [List.length_map, ← HN.out]; exact hn0)
  have c5 : w2.cell? ⟨w.heap.size, 5, none⟩ = some (.slice (some ⟨g, 0, none⟩) n cap) := by
    have := hO2.1.cell (i := 5) (by omega)
    rw [List.length_map, ← HN.out] at this
    exact this
  have x0 : w2.cell? ⟨g, 0, none⟩ = some (.int .u64 (c : Int)) := (hcells 0 (c, none) (by rw [List.getElem?_map, HH.out]; rfl)).1
  have xl : w2.cell? ⟨g, (n - 1) * 2, none⟩ = some (.int .u64 2) := (hcells (n - 1) (2, none) (by rw [List.getElem?_map, HN.out, HX.out]; rfl)).1
  clear hcells hcap hO hO2 hbut hb1
  go_wp2_with fail
  refine (len64_n c n w2 h1 h2 (HN.out.trans HL.out)).mono ?_
  rintro e w3 ⟨rfl, hw3⟩
  rw [hw3]
  clear hw3
  go_wp2
  go_ret
  exact ⟨rfl, hb2⟩

set_option maxHeartbeats 400000 in
theorem law_depth_small (c : Nat) (h1 : c ≤ 1) (w : World) :
    Calls Yba.prog 4 #[.int .u64 (c : Int)] w fun e w' => e = .returned (.bool true) ∧ Below w.heap.size w w' := by
  have hne := beq_max c (by omega)
  have hch := chain_small 64 c h1
  have HC : Hid _ := hch
  clear hch
  go_enter Yba.func4, Yba.ntmps4
  go_wp2_with fail
  refine (new_any _ w).mono ?_
  rintro e w1 ⟨rfl, hO, hs, hb1⟩
  have HS : Hid (w1.heap.size = w.heap.size + 1) := hs
  clear hs
  go_wp2_with fail
  refine (descend_any w.heap.size (w.heap.size + 1) _ _ [] c w1 hO (by omega) (by rw [HS.out]; exact Nat.le_refl _) (by simp) (by omega)).mono ?_
  rintro e w2 ⟨rfl, v, hO2, hbut⟩
  rw [HC.out] at hO2
  have hb2 : Below w.heap.size w w2 := hb1.trans (hbut.below (Nat.le_refl _) (by omega))
  obtain ⟨ao, cap, rfl⟩ := own_shape hO2
  have c5 : w2.cell? ⟨w.heap.size, 5, none⟩ = some (.slice ao 0 cap) := hO2.1.cell (i := 5) (by omega)
  clear hO hO2 hbut hb1
  go_wp2
  go_ret
  exact ⟨rfl, hb2⟩

set_option maxHeartbeats 400000 in
theorem law_depth_max (w : World) :
    Calls Yba.prog 4 #[.int .u64 18446744073709551615] w fun e w' => e = .returned (.bool true) ∧ Below w.heap.size w w' := by
  have HC : Hid _ := chain_max 63
  go_enter Yba.func4, Yba.ntmps4
  go_wp2_with fail
  refine (new_any _ w).mono ?_
  rintro e w1 ⟨rfl, hO, hs, hb1⟩
  have HS : Hid (w1.heap.size = w.heap.size + 1) := hs
  clear hs
  go_wp2_with fail
  refine (descend_any w.heap.size (w.heap.size + 1) _ _ [] 18446744073709551615 w1 hO (by omega) (by rw [HS.out]; exact Nat.le_refl _) (by simp) (by omega)).mono ?_
  rintro e w2 ⟨rfl, v, hO2, hbut⟩
  rw [HC.out] at hO2
  have hb2 : Below w.heap.size w w2 := hb1.trans (hbut.below (Nat.le_refl _) (by omega))
  obtain ⟨g, cap, rfl, hcap, hg, hcells⟩ := own_cells hO2 (by simp)
  have c5 : w2.cell? ⟨w.heap.size, 5, none⟩ = some (.slice (some ⟨g, 0, none⟩) 1 cap) := hO2.1.cell (i := 5) (by omega)
  have x0 : w2.cell? ⟨g, 0, none⟩ = some (.int .u64 18446744073709551615) := (hcells 0 (18446744073709551615, none) rfl).1
  clear hcells hcap hO hO2 hbut hb1
  go_wp2
  go_ret
  exact ⟨rfl, hb2⟩

theorem law_depth (a0 : Int) (h : 0 ≤ a0 ∧ a0 ≤ 18446744073709551615) (w : World) :
    Calls Yba.prog 4 #[.int .u64 a0] w fun e w' => e = .returned (.bool true) ∧ Below w.heap.size w w' := by
  obtain ⟨c, rfl⟩ : ∃ c : Nat, a0 = (c : Int) := ⟨a0.toNat, by omega⟩
  by_cases h1 : c ≤ 1
  · exact law_depth_small c h1 w
  · by_cases h2 : c < 18446744073709551615
    · exact law_depth_mid c (by omega) h2 w
    · have hc : (c : Int) = 18446744073709551615 := by omega
      rw [hc]; exact law_depth_max w
end Go.Proofs.Ybulkcvfe
