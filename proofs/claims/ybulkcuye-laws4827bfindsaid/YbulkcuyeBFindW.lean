import Derived.Test.YbulkcuyeBKeepW
import Derived.Test.YbulkcuyeBFindB
namespace Go.Proofs.Ybulkcuye
open Go.RowKit

set_option maxHeartbeats 400000 in
set_option maxRecDepth 20000 in
theorem law_find_pos (a0 a1 : ByteArray) (a2 a3 : Int) (w2 : 0 ≤ a2 ∧ a2 ≤ 255) (w3 : 0 ≤ a3 ∧ a3 ≤ 255) (w : World) (hpos : 0 < a2 % 64) :
    Calls Yba.prog 6 #[.string a0, .string a1, .int .u8 a2, .int .u8 a3] w fun e w' => e = .returned (.bool true) ∧ Below w.heap.size w w' := by
  obtain ⟨kn, hkn⟩ : ∃ kn : Nat, a2 % 64 = (kn : Int) := ⟨(a2 % 64).toNat, by omega⟩
  obtain ⟨w20, w21⟩ := w2
  obtain ⟨w30, w31⟩ := w3
  have hk63 : kn ≤ 63 := by omega
  have hk0 : 0 < kn := by omega
  clear hpos
  go_enter Yba.func6, Yba.ntmps6
  go_wp2_with fail
  refine (mk_ents kn _ _ hk63 hk0).mono ?_
  rintro e w1 ⟨rfl, hb1, he1, hs1, bl1⟩
  simp only [World.size_alloc] at hb1 he1 hs1 bl1
  obtain ⟨g, Hg⟩ : ∃ g, Hid (g = w.heap.size + 1) := ⟨_, rfl⟩
  rw [World.size_alloc]
  rw [← Hg.out] at hb1 he1 hs1 bl1
  rw [← Hg.out]
  have hcg : w.heap.size < g := by rw [Hg.out]; omega
  have hr1 := below_row bl1 hcg (pc_new w)
  have b1 : Below w.heap.size w w1 := ((Below.refl _ _).alloc (Nat.le_refl _) _).trans (bl1.mono (by omega))
  have Hs1 : Hid (w1.heap.size = g + 1 + kn) := hs1
  clear hs1 bl1
  obtain ⟨m, Hm, hm8, hmk⟩ : ∃ m, Hid (m = min kn 8) ∧ m ≤ 8 ∧ m ≤ kn := ⟨_, rfl, by omega, by omega⟩
  have hm0 : 0 < m := by have := Hm.out; omega
  go_wp2_with fail
  refine (keep_pos w.heap.size _ a0 _ _ w1 hr1 g kn kn (by omega) _ hb1 m Hm hm8).mono ?_
  rintro e w2 ⟨rfl, hc2, ho2⟩
  have hb2 := ho2.row (by omega) hb1
  have he2 := he1.only ho2 (by omega)
  have Hs2 : Hid (w2.heap.size = g + 1 + kn) := ho2.size.trans Hs1.out
  have b2 := b1.trans (ho2.below (B := w.heap.size) (by omega))
  clear hb1 he1 Hs1 b1 ho2 hr1
  have n32 := neq32
  have q36 : ∀ (w : World) (a : Option Addr) (n c : Nat), (binOp .neq 36 (.slice a n c) (.slice none 0 0)).run Yba.prog w = .ok (.bool (!a.isNone)) w := fun w a n c => run_neq_slice_nil_any w 36 32 a n c 0 0 Yba.underlying36
  have hcel : Hid (∀ j, j < m → w2.cell? ⟨w.heap.size, 1 + j, none⟩ = some (.pointer (some ⟨g + 1 + j, 0, none⟩))) := fun j hj => keep_cell hc2 hj (by omega)
  obtain ⟨idx, hix⟩ : ∃ idx : Nat, a3 % (kn : Int) = (idx : Int) := ⟨(a3 % (kn : Int)).toNat, by have := Int.emod_nonneg a3 (show (kn : Int) ≠ 0 by omega); omega⟩
  have hidx : idx < kn := by have := Int.emod_lt_of_pos a3 (show (0 : Int) < kn by omega); omega
  by_cases h8 : 8 < kn
  · obtain rfl : m = 8 := by have := Hm.out; omega
    go_wp2_with fail
    by_cases hpq : (a0.toList == a1.toList) = true
    · obtain rfl := bytes_eq_of hpq
      refine (find_hit w.heap.size 8 a0 _ w2 hc2 (by omega) (by omega)).mono ?_
      rintro e w3 ⟨rfl, q3, rfl⟩
      go_wp2
      go_loopw [14] (fun i wr => ∃ n q : Nat, n ≤ 8 ∧ i = .int .i64 n ∧ wr = w2.drewN q) (fun i _ => 8 - (intOf i).toNat)
      case atStart => exact ⟨0, q3, by omega, rfl, rfl⟩
      case round =>
        obtain ⟨n, q, hn, rfl, rfl⟩ := hrel
        by_cases hlt : n < 8
        · have x1 := hcel.out n (by omega)
          have x2 : w2.cell? ⟨g, n, none⟩ = some (.pointer (some ⟨g + 1 + n, 0, none⟩)) := ent_cell hb2 (by omega)
          go_wp2_with fail
          go_quiet (fail)
          go_wp2
          go_roundw
          case rel => exact ⟨n + 1, _, by omega, by go_num, rfl⟩
          case measure => simp [intOf]; omega
        · skip
          go_wp2_with fail
          refine (forget_no w.heap.size 8 w2.heap.size a0 _ (fun j => g + 1 + j) _ (World.rowIs.alloc (w := w2.drewN q) hc2 _) (by omega) (fun j hj => keep_cell (World.rowIs.alloc (w := w2.drewN q) hc2 _) hj (by omega)) (fun j hj => by have := Hs2.out; omega) ⟨_, Go.Deep.blk_alloc_new (w2.drewN q) _⟩ (fun j hj => (EntB.alloc (w := w2.drewN q) he2 _ (Nat.le_of_eq Hs2.out.symm)) j (by omega))).mono ?_
          rintro e w4 ⟨rfl, q4, hw4⟩
          have hc4 : w4.rowIs w.heap.size 35 10 (pc a0 (fun j => if j < 8 then entP g kn j else none) (8 : Nat)) := by rw [hw4]; exact World.rowIs.alloc (w := w2.drewN q) hc2 _
          have hb4 : w4.rowIs g 32 kn (ptrs (entP g kn)) := by rw [hw4]; exact World.rowIs.alloc (w := w2.drewN q) hb2 _
          have he4 : EntB w4 g kn := by rw [hw4]; exact EntB.alloc (w := w2.drewN q) he2 _ (Nat.le_of_eq Hs2.out.symm)
          have b4 : Below w.heap.size w w4 := by rw [hw4]; exact below_drewN (Below.alloc (w := w2.drewN q) (below_drewN b2 _) (by have h : w2.heap.size = g + 1 + kn := Hs2.out; show w.heap.size ≤ w2.heap.size; omega) _) _
          clear hw4
          go_wp2_with fail
          refine (find_hit w.heap.size 8 a0 _ w4 hc4 (by omega) (by omega)).mono ?_
          rintro e w5 ⟨rfl, q5, hw5⟩
          have hc5 : w5.rowIs w.heap.size 35 10 (pc a0 (fun j => if j < 8 then entP g kn j else none) (8 : Nat)) := by rw [hw5]; exact hc4
          have hb5 : w5.rowIs g 32 kn (ptrs (entP g kn)) := by rw [hw5]; exact hb4
          have he5 : EntB w5 g kn := by rw [hw5]; exact he4
          have b5 : Below w.heap.size w w5 := by rw [hw5]; exact below_drewN b4 _
          clear hw5 hc4 hb4 he4 b4
          have xi : w5.cell? ⟨g, idx, none⟩ = some (.pointer (some ⟨g + 1 + idx, 0, none⟩)) := ent_cell hb5 hidx
          go_wp2_with fail
          by_cases hw : idx < 8
          · refine (forget_yes w.heap.size 8 a0 _ (fun j => g + 1 + j) w5 hc5 (by omega) (fun j hj => keep_cell hc5 hj (by omega)) idx hw (fun j hj => by omega) (fun j hj => he5 j (by omega))).mono ?_
            rintro e w6 ⟨rfl, hc6, ho6⟩
            go_wp2_with fail
            refine (find_zero w.heap.size a0 a0 _ w6 hc6).mono ?_
            rintro e w7 ⟨rfl, hw7⟩
            go_wp2
            go_ret
            exact ⟨rfl, b5.trans (ho6.below (Nat.le_refl _))⟩
          · refine (forget_no w.heap.size 8 (g + 1 + idx) a0 _ (fun j => g + 1 + j) w5 hc5 (by omega) (fun j hj => keep_cell hc5 hj (by omega)) (fun j hj => by omega) (he5 idx hidx) (fun j hj => he5 j (by omega))).mono ?_
            rintro e w6 ⟨rfl, q6, hw6⟩
            have hc6 : w6.rowIs w.heap.size 35 10 (pc a0 (fun j => if j < 8 then entP g kn j else none) (8 : Nat)) := by rw [hw6]; exact hc5
            have b6 : Below w.heap.size w w6 := by rw [hw6]; exact below_drewN b5 _
            clear hw6
            go_wp2_with fail
            refine (find_hit w.heap.size 8 a0 _ w6 hc6 (by omega) (by omega)).mono ?_
            rintro e w7 ⟨rfl, q7, hw7⟩
            go_wp2
            go_ret
            exact ⟨rfl, below_drewN b6 _⟩

    · have hpq : (a0.toList == a1.toList) = false := by simpa using hpq
      have hqp : (a1.toList == a0.toList) = false := by rw [← hpq]; exact Bool.beq_comm
      refine (find_other w.heap.size 8 a0 a1 _ w2 hc2 (by omega) hpq).mono ?_
      rintro e w3 ⟨rfl, hw3⟩
      rw [hw3]
      clear hw3
      go_wp2_with fail
      refine (forget_no w.heap.size 8 w2.heap.size a0 _ (fun j => g + 1 + j) _ (World.rowIs.alloc (w := w2) hc2 _) (by omega) (fun j hj => keep_cell (World.rowIs.alloc (w := w2) hc2 _) hj (by omega)) (fun j hj => by have := Hs2.out; omega) ⟨_, Go.Deep.blk_alloc_new (w2) _⟩ (fun j hj => (EntB.alloc (w := w2) he2 _ (Nat.le_of_eq Hs2.out.symm)) j (by omega))).mono ?_
      rintro e w4 ⟨rfl, q4, hw4⟩
      have hc4 : w4.rowIs w.heap.size 35 10 (pc a0 (fun j => if j < 8 then entP g kn j else none) (8 : Nat)) := by rw [hw4]; exact World.rowIs.alloc (w := w2) hc2 _
      have hb4 : w4.rowIs g 32 kn (ptrs (entP g kn)) := by rw [hw4]; exact World.rowIs.alloc (w := w2) hb2 _
      have he4 : EntB w4 g kn := by rw [hw4]; exact EntB.alloc (w := w2) he2 _ (Nat.le_of_eq Hs2.out.symm)
      have b4 : Below w.heap.size w w4 := by rw [hw4]; exact below_drewN (Below.alloc (w := w2) b2 (by have h : w2.heap.size = g + 1 + kn := Hs2.out; show w.heap.size ≤ w2.heap.size; omega) _) _
      clear hw4
      go_wp2_with fail
      refine (find_hit w.heap.size 8 a0 _ w4 hc4 (by omega) (by omega)).mono ?_
      rintro e w5 ⟨rfl, q5, hw5⟩
      have hc5 : w5.rowIs w.heap.size 35 10 (pc a0 (fun j => if j < 8 then entP g kn j else none) (8 : Nat)) := by rw [hw5]; exact hc4
      have hb5 : w5.rowIs g 32 kn (ptrs (entP g kn)) := by rw [hw5]; exact hb4
      have he5 : EntB w5 g kn := by rw [hw5]; exact he4
      have b5 : Below w.heap.size w w5 := by rw [hw5]; exact below_drewN b4 _
      clear hw5 hc4 hb4 he4 b4
      have xi : w5.cell? ⟨g, idx, none⟩ = some (.pointer (some ⟨g + 1 + idx, 0, none⟩)) := ent_cell hb5 hidx
      go_wp2_with fail
      by_cases hw : idx < 8
      · refine (forget_yes w.heap.size 8 a0 _ (fun j => g + 1 + j) w5 hc5 (by omega) (fun j hj => keep_cell hc5 hj (by omega)) idx hw (fun j hj => by omega) (fun j hj => he5 j (by omega))).mono ?_
        rintro e w6 ⟨rfl, hc6, ho6⟩
        go_wp2_with fail
        refine (find_zero w.heap.size a0 a0 _ w6 hc6).mono ?_
        rintro e w7 ⟨rfl, hw7⟩
        go_wp2
        go_ret
        exact ⟨rfl, b5.trans (ho6.below (Nat.le_refl _))⟩
      · refine (forget_no w.heap.size 8 (g + 1 + idx) a0 _ (fun j => g + 1 + j) w5 hc5 (by omega) (fun j hj => keep_cell hc5 hj (by omega)) (fun j hj => by omega) (he5 idx hidx) (fun j hj => he5 j (by omega))).mono ?_
        rintro e w6 ⟨rfl, q6, hw6⟩
        have hc6 : w6.rowIs w.heap.size 35 10 (pc a0 (fun j => if j < 8 then entP g kn j else none) (8 : Nat)) := by rw [hw6]; exact hc5
        have b6 : Below w.heap.size w w6 := by rw [hw6]; exact below_drewN b5 _
        clear hw6
        go_wp2_with fail
        refine (find_hit w.heap.size 8 a0 _ w6 hc6 (by omega) (by omega)).mono ?_
        rintro e w7 ⟨rfl, q7, hw7⟩
        go_wp2
        go_ret
        exact ⟨rfl, below_drewN b6 _⟩
  · obtain rfl : m = kn := by have := Hm.out; omega
    go_wp2_with fail
    by_cases hpq : (a0.toList == a1.toList) = true
    · obtain rfl := bytes_eq_of hpq
      refine (find_hit w.heap.size m a0 _ w2 hc2 (by omega) (by omega)).mono ?_
      rintro e w3 ⟨rfl, q3, rfl⟩
      go_wp2
      go_loopw [14] (fun i wr => ∃ n q : Nat, n ≤ m ∧ i = .int .i64 n ∧ wr = w2.drewN q) (fun i _ => m - (intOf i).toNat)
      case atStart => exact ⟨0, q3, by omega, rfl, rfl⟩
      case round =>
        obtain ⟨n, q, hn, rfl, rfl⟩ := hrel
        by_cases hlt : n < m
        · have x1 := hcel.out n (by omega)
          have x2 : w2.cell? ⟨g, n, none⟩ = some (.pointer (some ⟨g + 1 + n, 0, none⟩)) := ent_cell hb2 (by omega)
          go_wp2_with fail
          go_quiet (fail)
          go_wp2
          go_roundw
          case rel => exact ⟨n + 1, _, by omega, by go_num, rfl⟩
          case measure => simp [intOf]; omega
        · skip
          go_wp2_with fail
          refine (forget_no w.heap.size m w2.heap.size a0 _ (fun j => g + 1 + j) _ (World.rowIs.alloc (w := w2.drewN q) hc2 _) (by omega) (fun j hj => keep_cell (World.rowIs.alloc (w := w2.drewN q) hc2 _) hj (by omega)) (fun j hj => by have := Hs2.out; omega) ⟨_, Go.Deep.blk_alloc_new (w2.drewN q) _⟩ (fun j hj => (EntB.alloc (w := w2.drewN q) he2 _ (Nat.le_of_eq Hs2.out.symm)) j (by omega))).mono ?_
          rintro e w4 ⟨rfl, q4, hw4⟩
          have hc4 : w4.rowIs w.heap.size 35 10 (pc a0 (fun j => if j < m then entP g m j else none) (m : Nat)) := by rw [hw4]; exact World.rowIs.alloc (w := w2.drewN q) hc2 _
          have hb4 : w4.rowIs g 32 m (ptrs (entP g m)) := by rw [hw4]; exact World.rowIs.alloc (w := w2.drewN q) hb2 _
          have he4 : EntB w4 g m := by rw [hw4]; exact EntB.alloc (w := w2.drewN q) he2 _ (Nat.le_of_eq Hs2.out.symm)
          have b4 : Below w.heap.size w w4 := by rw [hw4]; exact below_drewN (Below.alloc (w := w2.drewN q) (below_drewN b2 _) (by have h : w2.heap.size = g + 1 + m := Hs2.out; show w.heap.size ≤ w2.heap.size; omega) _) _
          clear hw4
          go_wp2_with fail
          refine (find_hit w.heap.size m a0 _ w4 hc4 (by omega) (by omega)).mono ?_
          rintro e w5 ⟨rfl, q5, hw5⟩
          have hc5 : w5.rowIs w.heap.size 35 10 (pc a0 (fun j => if j < m then entP g m j else none) (m : Nat)) := by rw [hw5]; exact hc4
          have hb5 : w5.rowIs g 32 m (ptrs (entP g m)) := by rw [hw5]; exact hb4
          have he5 : EntB w5 g m := by rw [hw5]; exact he4
          have b5 : Below w.heap.size w w5 := by rw [hw5]; exact below_drewN b4 _
          clear hw5 hc4 hb4 he4 b4
          have xi : w5.cell? ⟨g, idx, none⟩ = some (.pointer (some ⟨g + 1 + idx, 0, none⟩)) := ent_cell hb5 hidx
          go_wp2_with fail
          by_cases hw : idx < m
          · refine (forget_yes w.heap.size m a0 _ (fun j => g + 1 + j) w5 hc5 (by omega) (fun j hj => keep_cell hc5 hj (by omega)) idx hw (fun j hj => by omega) (fun j hj => he5 j (by omega))).mono ?_
            rintro e w6 ⟨rfl, hc6, ho6⟩
            go_wp2_with fail
            refine (find_zero w.heap.size a0 a0 _ w6 hc6).mono ?_
            rintro e w7 ⟨rfl, hw7⟩
            go_wp2
            go_ret
            exact ⟨rfl, b5.trans (ho6.below (Nat.le_refl _))⟩
          · exfalso; omega
    · have hpq : (a0.toList == a1.toList) = false := by simpa using hpq
      have hqp : (a1.toList == a0.toList) = false := by rw [← hpq]; exact Bool.beq_comm
      refine (find_other w.heap.size m a0 a1 _ w2 hc2 (by omega) hpq).mono ?_
      rintro e w3 ⟨rfl, hw3⟩
      rw [hw3]
      clear hw3
      go_wp2_with fail
      refine (forget_no w.heap.size m w2.heap.size a0 _ (fun j => g + 1 + j) _ (World.rowIs.alloc (w := w2) hc2 _) (by omega) (fun j hj => keep_cell (World.rowIs.alloc (w := w2) hc2 _) hj (by omega)) (fun j hj => by have := Hs2.out; omega) ⟨_, Go.Deep.blk_alloc_new (w2) _⟩ (fun j hj => (EntB.alloc (w := w2) he2 _ (Nat.le_of_eq Hs2.out.symm)) j (by omega))).mono ?_
      rintro e w4 ⟨rfl, q4, hw4⟩
      have hc4 : w4.rowIs w.heap.size 35 10 (pc a0 (fun j => if j < m then entP g m j else none) (m : Nat)) := by rw [hw4]; exact World.rowIs.alloc (w := w2) hc2 _
      have hb4 : w4.rowIs g 32 m (ptrs (entP g m)) := by rw [hw4]; exact World.rowIs.alloc (w := w2) hb2 _
      have he4 : EntB w4 g m := by rw [hw4]; exact EntB.alloc (w := w2) he2 _ (Nat.le_of_eq Hs2.out.symm)
      have b4 : Below w.heap.size w w4 := by rw [hw4]; exact below_drewN (Below.alloc (w := w2) b2 (by have h : w2.heap.size = g + 1 + m := Hs2.out; show w.heap.size ≤ w2.heap.size; omega) _) _
      clear hw4
      go_wp2_with fail
      refine (find_hit w.heap.size m a0 _ w4 hc4 (by omega) (by omega)).mono ?_
      rintro e w5 ⟨rfl, q5, hw5⟩
      have hc5 : w5.rowIs w.heap.size 35 10 (pc a0 (fun j => if j < m then entP g m j else none) (m : Nat)) := by rw [hw5]; exact hc4
      have hb5 : w5.rowIs g 32 m (ptrs (entP g m)) := by rw [hw5]; exact hb4
      have he5 : EntB w5 g m := by rw [hw5]; exact he4
      have b5 : Below w.heap.size w w5 := by rw [hw5]; exact below_drewN b4 _
      clear hw5 hc4 hb4 he4 b4
      have xi : w5.cell? ⟨g, idx, none⟩ = some (.pointer (some ⟨g + 1 + idx, 0, none⟩)) := ent_cell hb5 hidx
      go_wp2_with fail
      by_cases hw : idx < m
      · refine (forget_yes w.heap.size m a0 _ (fun j => g + 1 + j) w5 hc5 (by omega) (fun j hj => keep_cell hc5 hj (by omega)) idx hw (fun j hj => by omega) (fun j hj => he5 j (by omega))).mono ?_
        rintro e w6 ⟨rfl, hc6, ho6⟩
        go_wp2_with fail
        refine (find_zero w.heap.size a0 a0 _ w6 hc6).mono ?_
        rintro e w7 ⟨rfl, hw7⟩
        go_wp2
        go_ret
        exact ⟨rfl, b5.trans (ho6.below (Nat.le_refl _))⟩
      · exfalso; omega
set_option maxHeartbeats 400000 in
set_option maxRecDepth 20000 in
theorem law_find_zero (a0 a1 : ByteArray) (a2 a3 : Int) (w2 : 0 ≤ a2 ∧ a2 ≤ 255) (w : World) (hz : a2 % 64 = 0) :
    Calls Yba.prog 6 #[.string a0, .string a1, .int .u8 a2, .int .u8 a3] w fun e w' => e = .returned (.bool true) ∧ Below w.heap.size w w' := by
  obtain ⟨w20, w21⟩ := w2
  have q36 : ∀ (w : World) (a : Option Addr) (n c : Nat), (binOp .neq 36 (.slice a n c) (.slice none 0 0)).run Yba.prog w = .ok (.bool (!a.isNone)) w := fun w a n c => run_neq_slice_nil_any w 36 32 a n c 0 0 Yba.underlying36
  go_enter Yba.func6, Yba.ntmps6
  go_wp2_with fail
  refine (mk_zero _ _).mono ?_
  rintro e w1 ⟨rfl, hw1⟩
  have hr1 : w1.rowIs w.heap.size 35 10 (pc ByteArray.empty (fun _ => none) 0) := by rw [hw1]; exact pc_new w
  have b1 : Below w.heap.size w w1 := by rw [hw1]; exact (Below.refl _ _).alloc (Nat.le_refl _) _
  have hlt1 : w.heap.size < w1.heap.size := by rw [hw1]; simp
  clear hw1
  go_wp2_with fail
  refine (keep_nil w.heap.size _ a0 _ _ w1 hr1).mono ?_
  rintro e w2 ⟨rfl, hc2, ho2⟩
  have b2 := b1.trans (ho2.below (B := w.heap.size) (by omega))
  have hlt2 : w.heap.size < w2.heap.size := by rw [ho2.size]; exact hlt1
  clear ho2 hr1
  go_wp2_with fail
  refine (find_zero w.heap.size a0 a1 _ w2 hc2).mono ?_
  rintro e w3 ⟨rfl, hw3⟩
  rw [hw3]
  clear hw3
  go_wp2_with fail
  refine (forget_no w.heap.size 0 w2.heap.size a0 _ (fun j => j) _ (World.rowIs.alloc (w := w2) hc2 _) (by omega) (fun j hj => absurd hj (by omega)) (fun j hj => by omega) ⟨_, Go.Deep.blk_alloc_new w2 _⟩ (fun j hj => absurd hj (by omega))).mono ?_
  rintro e w4 ⟨rfl, q4, hw4⟩
  have hc4 : w4.rowIs w.heap.size 35 10 (pc a0 (fun _ => none) 0) := by rw [hw4]; exact World.rowIs.alloc (w := w2) hc2 _
  have b4 : Below w.heap.size w w4 := by rw [hw4]; exact below_drewN (Below.alloc (w := w2) b2 (by omega) _) _
  clear hw4
  go_wp2_with fail
  refine (find_zero w.heap.size a0 a0 _ w4 hc4).mono ?_
  rintro e w5 ⟨rfl, hw5⟩
  rw [hw5]
  clear hw5
  go_wp2
  go_ret
  exact ⟨rfl, b4⟩

theorem law_find (a0 a1 : ByteArray) (a2 a3 : Int) (w2 : 0 ≤ a2 ∧ a2 ≤ 255) (w3 : 0 ≤ a3 ∧ a3 ≤ 255) (w : World) :
    Calls Yba.prog 6 #[.string a0, .string a1, .int .u8 a2, .int .u8 a3] w fun e w' => e = .returned (.bool true) ∧ Below w.heap.size w w' := by
  by_cases h : a2 % 64 = 0
  · exact law_find_zero a0 a1 a2 a3 w2 w h
  · exact law_find_pos a0 a1 a2 a3 w2 w3 w (by omega)
end Go.Proofs.Ybulkcuye
