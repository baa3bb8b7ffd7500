import Derived.Test.YbulkcuyeBBase
namespace Go.Proofs.Ybulkcuye
open Go.RowKit

/-- A slice of k pointers in a row of the call's own, or nil. -/
def IsPtrs (w : World) (ao : Option Addr) (k base : Nat) (h : Nat → Option Addr) : Prop := (k = 0 ∧ ao = none) ∨ ∃ g, base ≤ g ∧ ao = some ⟨g, 0, none⟩ ∧ w.rowIs g 32 k (ptrs h)

theorem mk_any (k : Nat) (tag : Int) (w : World) (hk : k ≤ 63) :
    Calls Yba.prog 11 #[.int .i64 k, .int .u32 tag] w fun e w' => ∃ ao h, e = .returned (.slice ao k k) ∧ IsPtrs w' ao k w.heap.size h ∧ Below w.heap.size w w' := by
  by_cases h0 : k = 0
  · subst h0
    refine (mk_zero tag w).mono ?_
    rintro e w' ⟨rfl, rfl⟩
    exact ⟨none, entP 0 0, rfl, .inl ⟨rfl, rfl⟩, Below.refl _ _⟩
  · refine (mk_pos k tag w hk (by omega)).mono ?_
    rintro e w' ⟨rfl, hr, hs, hb⟩
    exact ⟨_, _, rfl, .inr ⟨_, Nat.le_refl _, rfl, hr⟩, hb⟩

theorem keep_any (c : Nat) (p0 p : ByteArray) (ents : Nat → Option Addr) (n0 : Int) (w : World) (hr : w.rowIs c 35 10 (pc p0 ents n0))
    (ao : Option Addr) (k base : Nat) (h : Nat → Option Addr) (hs : IsPtrs w ao k base h) (hb : c < base) :
    Calls Yba.prog 12 #[.pointer (some ⟨c, 0, none⟩), .string p, .slice ao k k] w fun e w' =>
      ∃ (v : Value) (ents' : Nat → Option Addr) (n' : Int), e = .returned v ∧ w'.rowIs c 35 10 (pc p ents' n') ∧ Only c w w' := by
  rcases hs with ⟨rfl, rfl⟩ | ⟨g, hg, rfl, hs⟩
  · refine (keep_nil c p0 p ents n0 w hr).mono ?_
    rintro e w' ⟨rfl, hr', ho⟩
    exact ⟨_, _, _, rfl, hr', ho⟩
  · refine (keep_pos c p0 p ents n0 w hr g k k (by omega) h hs (min k 8) rfl (by omega)).mono ?_
    rintro e w' ⟨rfl, hr', ho⟩
    exact ⟨_, _, _, rfl, hr', ho⟩

theorem pc_new (w : World) : (w.alloc (.cells #[.string ByteArray.empty, .pointer none, .pointer none, .pointer none, .pointer none, .pointer none, .pointer none, .pointer none, .pointer none, .int .i64 0] 35)).rowIs w.heap.size 35 10 (pc ByteArray.empty (fun _ => none) 0) :=
  World.rowIs_alloc w _ 35 _ (fun i hi => by
    match i, hi with
    | 0, _ => rfl
    | 1, _ => rfl
    | 2, _ => rfl
    | 3, _ => rfl
    | 4, _ => rfl
    | 5, _ => rfl
    | 6, _ => rfl
    | 7, _ => rfl
    | 8, _ => rfl
    | 9, _ => rfl)

theorem old_new (w : World) (ents : Nat → Option Addr) : (w.alloc (.cells #[.pointer (ents 0), .pointer (ents 1), .pointer (ents 2), .pointer (ents 3), .pointer (ents 4), .pointer (ents 5), .pointer (ents 6), .pointer (ents 7)] 33)).rowIs w.heap.size 33 8 (ptrs ents) :=
  World.rowIs_alloc w _ 33 _ (fun i hi => by
    match i, hi with
    | 0, _ => rfl
    | 1, _ => rfl
    | 2, _ => rfl
    | 3, _ => rfl
    | 4, _ => rfl
    | 5, _ => rfl
    | 6, _ => rfl
    | 7, _ => rfl)

theorem keep_cell {w : World} {c g k m n : Nat} {p : ByteArray} {ents : Nat → Option Addr} {x : Int} (h : w.rowIs c 35 10 (pc p (fun j => if j < m then entP g k j else ents j) x)) (hn : n < m) (hm : m ≤ 8 ∧ m ≤ k) :
    w.cell? ⟨c, 1 + n, none⟩ = some (.pointer (some ⟨g + 1 + n, 0, none⟩)) := by
  rw [h.cell (i := 1 + n) (by omega)]
  unfold pc entP
  rw [if_neg (by omega), if_neg (by omega), show 1 + n - 1 = n by omega]
  simp [hn, show n < k by omega]
theorem old_cell {w : World} {c g k m n : Nat} {p : ByteArray} {ents : Nat → Option Addr} {x : Int} (h : w.rowIs c 35 10 (pc p (fun j => if j < m then entP g k j else ents j) x)) (hn : m ≤ n) (hm : n < 8) :
    w.cell? ⟨c, 1 + n, none⟩ = some (.pointer (ents n)) := by
  rw [h.cell (i := 1 + n) (by omega)]
  unfold pc
  rw [if_neg (by omega), if_neg (by omega), show 1 + n - 1 = n by omega]
  simp [show ¬ n < m by omega]
theorem nil_cell {w : World} {c n : Nat} {p : ByteArray} {ents : Nat → Option Addr} {x : Int} (h : w.rowIs c 35 10 (pc p ents x)) (hm : n < 8) :
    w.cell? ⟨c, 1 + n, none⟩ = some (.pointer (ents n)) := by
  rw [h.cell (i := 1 + n) (by omega)]
  unfold pc
  rw [if_neg (by omega), if_neg (by omega), show 1 + n - 1 = n by omega]
theorem bc_cell {w : World} {g g2 k n : Nat} (h : w.rowIs g2 32 k fun j => if 0 ≤ j ∧ j < 0 + k then ptrs (entP g k) (j - 0) else Value.pointer none) (hn : n < k) : w.cell? ⟨g2, n, none⟩ = some (.pointer (some ⟨g + 1 + n, 0, none⟩)) := by
  rw [h.cell (i := n) hn]
  unfold ptrs entP
  simp [hn]
theorem ent_cell {w : World} {g k n : Nat} (h : w.rowIs g 32 k (ptrs (entP g k))) (hn : n < k) : w.cell? ⟨g, n, none⟩ = some (.pointer (some ⟨g + 1 + n, 0, none⟩)) := by
  rw [h.cell (i := n) hn]
  unfold ptrs entP
  simp [hn]

set_option maxHeartbeats 400000 in
set_option maxRecDepth 20000 in
theorem law_keep (a0 : ByteArray) (a1 : Int) (a2 : ByteArray) (a3 : Int) (w1 : 0 ≤ a1 ∧ a1 ≤ 255) (w3 : 0 ≤ a3 ∧ a3 ≤ 255) (w : World) :
    Calls Yba.prog 5 #[.string a0, .int .u8 a1, .string a2, .int .u8 a3] w fun e w' => e = .returned (.bool true) ∧ Below w.heap.size w w' := by
  obtain ⟨jn, hj⟩ : ∃ jn : Nat, a1 % 64 = (jn : Int) := ⟨(a1 % 64).toNat, by omega⟩
  obtain ⟨kn, hkn⟩ : ∃ kn : Nat, a3 % 64 = (kn : Int) := ⟨(a3 % 64).toNat, by omega⟩
  obtain ⟨w10, w11⟩ := w1
  obtain ⟨w30, w31⟩ := w3
  have hj63 : jn ≤ 63 := by omega
  have hk63 : kn ≤ 63 := by omega
  go_enter Yba.func5, Yba.ntmps5
  go_wp2_with fail
  refine (mk_any jn _ _ hj63).mono ?_
  rintro e w1 ⟨ao, h, rfl, hp, hb1⟩
  have hsz1 : w.heap.size < w1.heap.size := by have := hb1.size; simp at this; omega
  have hr1 := below_row hb1 (by simp) (pc_new w)
  go_wp2_with fail
  refine (keep_any w.heap.size _ a0 _ _ w1 hr1 ao jn _ h hp (by simp)).mono ?_
  rintro e w2 ⟨v, ents, n2, rfl, hr2, ho2⟩
  have hsz2 : w.heap.size < w2.heap.size := by have := ho2.size; omega
  have b2 : Below w.heap.size w w2 := (((Below.refl _ _).alloc (Nat.le_refl _) _).trans (hb1.mono (by simp))).trans (ho2.below (Nat.le_refl _))
  clear hp hb1 hr1 ho2
  obtain ⟨e1, q1⟩ : ∃ x, x = ents 0 := ⟨_, rfl⟩
  obtain ⟨e2, q2⟩ : ∃ x, x = ents 1 := ⟨_, rfl⟩
  obtain ⟨e3, q3⟩ : ∃ x, x = ents 2 := ⟨_, rfl⟩
  obtain ⟨e4, q4⟩ : ∃ x, x = ents 3 := ⟨_, rfl⟩
  obtain ⟨e5, q5⟩ : ∃ x, x = ents 4 := ⟨_, rfl⟩
  obtain ⟨e6, q6⟩ : ∃ x, x = ents 5 := ⟨_, rfl⟩
  obtain ⟨e7, q7⟩ : ∃ x, x = ents 6 := ⟨_, rfl⟩
  obtain ⟨e8, q8⟩ : ∃ x, x = ents 7 := ⟨_, rfl⟩
  have c1 : w2.cell? ⟨w.heap.size, 1, none⟩ = some (.pointer e1) := by rw [q1]; exact hr2.cell (i := 1) (by omega)
  have c2 : w2.cell? ⟨w.heap.size, 2, none⟩ = some (.pointer e2) := by rw [q2]; exact hr2.cell (i := 2) (by omega)
  have c3 : w2.cell? ⟨w.heap.size, 3, none⟩ = some (.pointer e3) := by rw [q3]; exact hr2.cell (i := 3) (by omega)
  have c4 : w2.cell? ⟨w.heap.size, 4, none⟩ = some (.pointer e4) := by rw [q4]; exact hr2.cell (i := 4) (by omega)
  have c5 : w2.cell? ⟨w.heap.size, 5, none⟩ = some (.pointer e5) := by rw [q5]; exact hr2.cell (i := 5) (by omega)
  have c6 : w2.cell? ⟨w.heap.size, 6, none⟩ = some (.pointer e6) := by rw [q6]; exact hr2.cell (i := 6) (by omega)
  have c7 : w2.cell? ⟨w.heap.size, 7, none⟩ = some (.pointer e7) := by rw [q7]; exact hr2.cell (i := 7) (by omega)
  have c8 : w2.cell? ⟨w.heap.size, 8, none⟩ = some (.pointer e8) := by rw [q8]; exact hr2.cell (i := 8) (by omega)
  have HQ : Hid (e1 = ents 0 ∧ e2 = ents 1 ∧ e3 = ents 2 ∧ e4 = ents 3 ∧ e5 = ents 4 ∧ e6 = ents 5 ∧ e7 = ents 6 ∧ e8 = ents 7) := ⟨q1, q2, q3, q4, q5, q6, q7, q8⟩
  clear q1 q2 q3 q4 q5 q6 q7 q8
  go_wp2_with fail
  obtain ⟨w3, hw3⟩ : ∃ w3, w3 = w2.alloc (.cells #[.pointer e1, .pointer e2, .pointer e3, .pointer e4, .pointer e5, .pointer e6, .pointer e7, .pointer e8] 33) := ⟨_, rfl⟩
  have hold : w3.rowIs w2.heap.size 33 8 (ptrs ents) := by
    obtain ⟨rfl, rfl, rfl, rfl, rfl, rfl, rfl, rfl⟩ := HQ.out
    rw [hw3]; exact old_new w2 ents
  have hr3 : w3.rowIs w.heap.size 35 10 (pc a0 ents n2) := by rw [hw3]; exact hr2.alloc _
  have b3 : Below w.heap.size w w3 := by rw [hw3]; exact b2.alloc (by omega) _
  have Hs3 : Hid (w3.heap.size = w2.heap.size + 1) := by rw [hw3]; exact World.size_alloc _ _
  obtain ⟨d, Hd⟩ : ∃ d, Hid (d = w2.heap.size) := ⟨_, rfl⟩
  rw [← Hd.out] at hold
  rw [← hw3]
  rw [← Hd.out]
  have hdlt : w.heap.size < d := by rw [Hd.out]; exact hsz2
  have hd3 : d < w3.heap.size := by rw [Hs3.out, Hd.out]; omega
  clear hw3 c1 c2 c3 c4 c5 c6 c7 c8 HQ hr2 b2
  by_cases hk0 : kn = 0
  · subst hk0
    refine (mk_zero _ _).mono ?_
    rintro e w4 ⟨rfl, hw4⟩
    rw [hw4]
    have hmk0 := run_make_row' (P := Yba.prog) 36 32 (.pointer none) 8 Yba.underlying36 info32 rfl .i64 .i64 0 (by omega) (by omega)
    simp only [Int.natCast_zero] at hmk0
    have hcp := run_copy_none (P := Yba.prog) (w3.alloc (.cells (madeCells #[.pointer none] 0) 32)) 36 36 3 32 (some ⟨w3.heap.size, 0, none⟩) none 0 0 0 0 Yba.underlying36 size32 rfl
    go_wp2_with fail
    refine (keep_nil w.heap.size a0 a2 ents n2 _ (hr3.alloc _)).mono ?_
    rintro e w6 ⟨rfl, hc6, ho6⟩
    have hold6 := ho6.row (by omega) (hold.alloc _)
    have b6 : Below w.heap.size w w6 := (b3.alloc (by omega) _).trans (ho6.below (by omega))
    clear hcp ho6 hr3 hold b3
    have cn : w6.cell? ⟨w.heap.size, 9, none⟩ = some (.int .i64 0) := hc6.cell (by omega)
    have cp : w6.cell? ⟨w.heap.size, 0, none⟩ = some (.string a2) := hc6.cell (by omega)
    have n32 := neq32
    go_wp2
    refine wp_loop_rounds 1 ?_
    rw [rounds_succ]
    go_wp2
    go_loopw [19] (fun i wr => ∃ n q : Nat, n ≤ 8 ∧ i = .int .i64 n ∧ wr = w6.drewN q) (fun i _ => 8 - (intOf i).toNat)
    case atStart => exact ⟨0, 0, by omega, rfl, rfl⟩
    case round =>
      obtain ⟨n', q', hn', rfl, rfl⟩ := hrel
      by_cases hlt' : n' < 8
      · have x1 : w6.cell? ⟨w.heap.size, 1 + n', none⟩ = some (.pointer (ents n')) := nil_cell hc6 (by omega)
        have x2 : w6.cell? ⟨d, n', none⟩ = some (.pointer (ents n')) := hold6.cell (by omega)
        go_wp2_with fail
        go_quiet (fail)
        go_wp2
        go_roundw
        case rel => exact ⟨n' + 1, _, by omega, by go_num, rfl⟩
        case measure => simp [intOf]; omega
      · go_wp2
        refine wp_loop_rounds 1 ?_
        rw [rounds_succ]
        go_wp2
        go_ret
        exact ⟨rfl, below_drewN b6 _⟩
  · refine (mk_pos kn _ _ hk63 (by omega)).mono ?_
    rintro e w4 ⟨rfl, hr4, hs4, hb4⟩
    obtain ⟨g, Hg⟩ : ∃ g, Hid (g = w3.heap.size) := ⟨_, rfl⟩
    rw [← Hg.out] at hr4 hs4 hb4
    rw [← Hg.out]
    have hdg : d < g := by rw [Hg.out]; exact hd3
    have hg4 : g < w4.heap.size := by omega
    have hold4 := below_row hb4 (by omega) hold
    have hc4 := below_row hb4 (by omega) hr3
    have b4 : Below w.heap.size w w4 := b3.trans (hb4.mono (by omega))
    have hmk := run_make_row' (P := Yba.prog) 36 32 (.pointer none) 8 Yba.underlying36 info32 rfl .i64 .i64 kn (by omega) (by omega)
    obtain ⟨w5, hcp, hr5, ho5⟩ := copy_rows (w4.alloc (.cells (madeCells #[.pointer none] kn) 32)) w4.heap.size 0 kn kn kn 32 _ (World.rowIs_made w4 (.pointer none) kn 32) (by omega) g kn kn 32 _ (hr4.alloc _) (fun _ _ => rfl) 3 kn (by omega)
    have hold5 := ho5.row (by omega) (hold4.alloc _)
    have hc5 := ho5.row (by omega) (hc4.alloc _)
    have hb5 := ho5.row (by omega) (hr4.alloc _)
    have b5 : Below w.heap.size w w5 := (b4.alloc (by omega) _).trans (ho5.below (by omega))
    have Hs4 : Hid (w4.heap.size = g + 1 + kn) := hs4
    clear hold4 hc4 hr4 b4 hr3 b3 hold hs4
    go_wp2_with fail
    obtain ⟨m, Hm, hm8, hmk⟩ : ∃ m, Hid (m = min kn 8) ∧ m ≤ 8 ∧ m ≤ kn := ⟨_, rfl, by omega, by omega⟩
    refine (keep_pos w.heap.size a0 a2 ents n2 w5 hc5 g kn kn (by omega) _ hb5 m Hm hm8).mono ?_
    rintro e w6 ⟨rfl, hc6, ho6⟩
    have hold6 := ho6.row (by omega) hold5
    have hb6 := ho6.row (by omega) hb5
    have hbc6 := ho6.row (by omega) hr5
    have b6 : Below w.heap.size w w6 := b5.trans (ho6.below (by omega))
    obtain ⟨g2, Hg2⟩ : ∃ g, Hid (g = w4.heap.size) := ⟨_, rfl⟩
    rw [← Hg2.out] at hbc6
    rw [← Hg2.out]
    clear hold5 hc5 hb5 hr5 b5 hcp ho5 ho6
    have cn : w6.cell? ⟨w.heap.size, 9, none⟩ = some (.int .i64 m) := hc6.cell (by omega)
    have cp : w6.cell? ⟨w.heap.size, 0, none⟩ = some (.string a2) := hc6.cell (by omega)
    have n32 := neq32
    have n40 := neq40
    by_cases h8 : 8 < kn
    · obtain rfl : m = 8 := by have := Hm.out; omega
      go_wp2
      go_loopw [18] (fun i wr => ∃ n q : Nat, n ≤ 8 ∧ i = .int .i64 n ∧ wr = w6.drewN q) (fun i _ => 8 - (intOf i).toNat)
      case atStart => exact ⟨0, 0, by omega, rfl, rfl⟩
      case round =>
        obtain ⟨n, q, hn, rfl, rfl⟩ := hrel
        by_cases hlt : n < 8
        · have x1 : w6.cell? ⟨w.heap.size, 1 + n, none⟩ = some (.pointer (some ⟨g + 1 + n, 0, none⟩)) := keep_cell hc6 (by omega) (by omega)
          have x2 : w6.cell? ⟨g, n, none⟩ = some (.pointer (some ⟨g + 1 + n, 0, none⟩)) := ent_cell hb6 (by omega)
          have hl8 : (n : Int) < 8 := by omega
          go_wp2_with fail
          go_quiet (fail)
          go_wp2
          go_roundw
          case rel => exact ⟨n + 1, _, by omega, by go_num, rfl⟩
          case measure => simp [intOf]; omega
        · go_wp2
          go_loopw [19] (fun i wr => ∃ n q : Nat, 8 ≤ n ∧ n ≤ 8 ∧ i = .int .i64 n ∧ wr = w6.drewN q) (fun i _ => 8 - (intOf i).toNat)
          case atStart => exact ⟨8, q, by omega, by omega, by rfl, rfl⟩
          case round =>
            obtain ⟨n', q', hn0', hn', rfl, rfl⟩ := hrel
            by_cases hlt' : n' < 8
            · exfalso; omega
            · go_wp2
              go_loopw [20] (fun i wr => ∃ n q : Nat, n ≤ kn ∧ i = .int .i64 n ∧ wr = w6.drewN q) (fun i _ => kn - (intOf i).toNat)
              case atStart => exact ⟨0, q', by omega, rfl, rfl⟩
              case round =>
                obtain ⟨n2, q2, hn2, rfl, rfl⟩ := hrel
                by_cases hlt2 : n2 < kn
                · have x2 : w6.cell? ⟨g, n2, none⟩ = some (.pointer (some ⟨g + 1 + n2, 0, none⟩)) := ent_cell hb6 (by omega)
                  have x3 : w6.cell? ⟨g2, n2, none⟩ = some (.pointer (some ⟨g + 1 + n2, 0, none⟩)) := bc_cell hbc6 (by omega)
                  go_wp2_with fail
                  go_quiet (fail)
                  go_wp2
                  go_roundw
                  case rel => exact ⟨n2 + 1, _, by omega, by go_num, rfl⟩
                  case measure => simp [intOf]; omega
                · go_wp2
                  go_ret
                  exact ⟨rfl, below_drewN b6 _⟩
    · obtain rfl : m = kn := by have := Hm.out; omega
      go_wp2
      go_loopw [18] (fun i wr => ∃ n q : Nat, n ≤ m ∧ i = .int .i64 n ∧ wr = w6.drewN q) (fun i _ => 8 - (intOf i).toNat)
      case atStart => exact ⟨0, 0, by omega, rfl, rfl⟩
      case round =>
        obtain ⟨n, q, hn, rfl, rfl⟩ := hrel
        by_cases hlt : n < m
        · have x1 : w6.cell? ⟨w.heap.size, 1 + n, none⟩ = some (.pointer (some ⟨g + 1 + n, 0, none⟩)) := keep_cell hc6 (by omega) (by omega)
          have x2 : w6.cell? ⟨g, n, none⟩ = some (.pointer (some ⟨g + 1 + n, 0, none⟩)) := ent_cell hb6 (by omega)
          have hl8 : (n : Int) < 8 := by omega
          go_wp2_with fail
          go_quiet (fail)
          go_wp2
          go_roundw
          case rel => exact ⟨n + 1, _, by omega, by go_num, rfl⟩
          case measure => simp [intOf]; omega
        · go_wp2
          go_loopw [19] (fun i wr => ∃ n q : Nat, m ≤ n ∧ n ≤ 8 ∧ i = .int .i64 n ∧ wr = w6.drewN q) (fun i _ => 8 - (intOf i).toNat)
          case atStart => exact ⟨m, q, by omega, by omega, by rfl, rfl⟩
          case round =>
            obtain ⟨n', q', hn0', hn', rfl, rfl⟩ := hrel
            by_cases hlt' : n' < 8
            · have x1 : w6.cell? ⟨w.heap.size, 1 + n', none⟩ = some (.pointer (ents n')) := old_cell hc6 (by omega) (by omega)
              have x2 : w6.cell? ⟨d, n', none⟩ = some (.pointer (ents n')) := hold6.cell (by omega)
              go_wp2_with fail
              go_quiet (fail)
              go_wp2
              go_roundw
              case rel => exact ⟨n' + 1, _, by omega, by omega, by go_num, rfl⟩
              case measure => simp [intOf]; omega
            · go_wp2
              go_loopw [20] (fun i wr => ∃ n q : Nat, n ≤ m ∧ i = .int .i64 n ∧ wr = w6.drewN q) (fun i _ => m - (intOf i).toNat)
              case atStart => exact ⟨0, q', by omega, rfl, rfl⟩
              case round =>
                obtain ⟨n2, q2, hn2, rfl, rfl⟩ := hrel
                by_cases hlt2 : n2 < m
                · have x2 : w6.cell? ⟨g, n2, none⟩ = some (.pointer (some ⟨g + 1 + n2, 0, none⟩)) := ent_cell hb6 (by omega)
                  have x3 : w6.cell? ⟨g2, n2, none⟩ = some (.pointer (some ⟨g + 1 + n2, 0, none⟩)) := bc_cell hbc6 (by omega)
                  go_wp2_with fail
                  go_quiet (fail)
                  go_wp2
                  go_roundw
                  case rel => exact ⟨n2 + 1, _, by omega, by go_num, rfl⟩
                  case measure => simp [intOf]; omega
                · go_wp2
                  go_ret
                  exact ⟨rfl, below_drewN b6 _⟩
end Go.Proofs.Ybulkcuye
