import Derived.Test.YbulkcvfeBase
namespace Go.Proofs.Ybulkcvfe
open Go.RowKit

theorem info29 : (Yba.prog.info? 29).map (fun i => (i.zero, i.size, i.bytes)) = some (some (.pointer none), 1, 8) := by kernel_rfl

/-- The lefts as they lie in the law's own slice. -/
def lft (ps : List (Nat × Option Addr)) (j : Nat) : Value := .pointer (ps[j]?.bind (·.2))
theorem lft_at (ps : List (Nat × Option Addr)) (j : Nat) (p : Nat × Option Addr) (h : ps[j]? = some p) : lft ps j = .pointer p.2 := by
  unfold lft; rw [h]; rfl
theorem lft_step (ps : List (Nat × Option Addr)) (x : Nat) (l : Option Addr) (j : Nat) : (if j = ps.length then .pointer l else lft ps j) = lft (ps ++ [(x, l)]) j := by
  unfold lft
  by_cases h : j = ps.length
  · subst h; simp
  · rw [if_neg h]
    by_cases h2 : j < ps.length
    · rw [List.getElem?_append_left h2]
    · rw [List.getElem?_eq_none (by omega), List.getElem?_eq_none (by simp; omega)]

/-- A node that bears a count alone. -/
def nodeO (x : Int) : Obj := .cells #[.int .u8 0, .int .u8 0, .int .u8 0, .int .u8 0, .int .u8 0, .int .u8 0, .int .u8 0, .int .u8 0, .int .u8 0, .int .u8 0, .int .u8 0, .int .u8 0, .int .u8 0, .int .u8 0, .int .u8 0, .int .u8 0,
  .int .u8 0, .int .u8 0, .int .u8 0, .int .u8 0, .int .u8 0, .int .u8 0, .int .u8 0, .int .u8 0, .int .u8 0, .int .u8 0, .int .u8 0, .int .u8 0, .int .u8 0, .int .u8 0, .int .u8 0, .int .u8 0,
  .int .u64 x, .int .u64 0, .pointer none, .pointer none, .int .u64 0, .int .u64 0, .int .u64 0] 36

theorem own_cells' {w : World} {b base : Nat} {cnt : Int} {v : Value} {ps : List (Nat × Option Addr)} (h : Own w b base cnt v ps) (hne : 0 < ps.length) :
    ∃ (g cap : Nat), v = .slice (some ⟨g, 0, none⟩) ps.length cap ∧ ps.length ≤ cap ∧ base ≤ g ∧ ∀ i p, ps[i]? = some p → w.cell? ⟨g, i * 2, none⟩ = some (.int .u64 (p.1 : Int)) ∧ w.cell? ⟨g, i * 2 + 1, none⟩ = some (.pointer p.2) := by
  obtain ⟨h1, h2⟩ := h
  have h2' := h2
  rcases h2.2 with ⟨rfl, h0⟩ | ⟨g, cap, cur, rfl, hg, hh, hc, _⟩
  · omega
  · refine ⟨g, cap, rfl, hc, hg, fun i p hp => ?_⟩
    have hi : i < ps.length := (List.getElem?_eq_some_iff.1 hp).1
    have := flat_count ps i p hp
    rw [h2'.cellAt (i * 2) (by omega), h2'.cellAt (i * 2 + 1) (by omega)]
    exact this

theorem has36 : (Yba.prog.info? 36).isSome = true := by kernel_rfl
theorem neq29 (w : World) (x : Option Addr) : (binOp .neq 29 (.pointer x) (.pointer x)).run Yba.prog w = .ok (.bool false) w := by
  obtain ⟨j, hj⟩ := Option.isSome_iff_exists.1 has36
  have h : ∀ d : Nat, (Op.equalIn (d + 1) 29 (.pointer x) (.pointer x)).run Yba.prog w = .ok true w := fun d => by
    cases x with
    | none => simp [Op.equalIn, run_underlying Yba.underlying29]
    | some a => simp [Op.equalIn, run_underlying Yba.underlying29, sizeOf, typeInfo, hj, run_sameAddr_same]
  simp only [binOp]
  simp [Op.equal, Op.maxDepth, h 9999]

theorem below_drewN' {B : Nat} {a w : World} (h : Below B a w) (n : Nat) : Below B a (w.drewN n) := ⟨h.os, h.tape, h.output, h.size, h.block⟩
theorem chain_none (c : Nat) (h : (chain 64 c).length = 0) : c ≤ 1 := by
  by_cases h1 : c ≤ 1
  · exact h1
  · rw [chain_big 63 c h1] at h; simp at h
theorem chain_max' (f : Nat) (h : 18446744073709551615 ≤ 2 ^ f) : chain f 18446744073709551615 = [18446744073709551615] := by
  cases f with
  | zero => simp at h
  | succ f => exact chain_max f
theorem beq_max' (c : Nat) (h : c < 18446744073709551615) : ((c : Int) == 18446744073709551615) = false := by
  rw [beq_eq_false_iff_ne]; omega
theorem sub_num (c : Nat) (h : c < 18446744073709551615) : (c : Int) - (c : Int) / 2 = (((c + 1) % 18446744073709551616 / 2 : Nat) : Int) := by omega
theorem sub_val (c : Nat) (h : c < 18446744073709551615) : Value.int IntKind.u64 ((c : Int) - (c : Int) / 2) = .int .u64 (((c + 1) % 18446744073709551616 / 2 : Nat) : Int) := by rw [sub_num c h]
theorem sub_meas (c : Nat) (h : c < 18446744073709551615) (h1 : 1 < c) : (intOf (Value.int IntKind.u64 ((c : Int) - (c : Int) / 2))).toNat < (intOf (Value.int IntKind.u64 (c : Int))).toNat := by
  simp only [intOf]; omega

/-- The law's state while it opens its own nodes: ps has been opened. -/
def St (w wr : World) (L : Nat) (P : Nat → Nat) (cnt : Int) (n : Nat) (v : Value) (ps : List (Nat × Option Addr)) : Prop :=
  ps.length = n ∧ (∀ j p, ps[j]? = some p → p.1 = P j) ∧ Own wr w.heap.size (w.heap.size + 2) cnt v ps ∧ wr.rowIs (w.heap.size + 1) 29 L (lft ps) ∧ w.heap.size + 2 ≤ wr.heap.size ∧ Below w.heap.size w wr

theorem own_setCell {w : World} {b base : Nat} {cnt : Int} {v : Value} {ps : List (Nat × Option Addr)} (h : Own w b base cnt v ps) {a : Addr} (ha : a.block < base) (hb : b ≠ a.block) (u : Value) : Own (w.setCell a u) b base cnt v ps :=
  ⟨h.1.setOther hb u, ownsRow_setCell_below h.2 ha u⟩
theorem own_alloc {w : World} {b base : Nat} {cnt : Int} {v : Value} {ps : List (Nat × Option Addr)} (h : Own w b base cnt v ps) (o : Obj) : Own (w.alloc o) b base cnt v ps :=
  ⟨h.1.alloc o, h.2.alloc o⟩

/-- One round of the first loop: W is the world with lefts[n] stored (and, where there is one, the new node laid). -/
theorem round_step {w wr W : World} {L : Nat} {P : Nat → Nat} {cnt : Int} {n : Nat} {v : Value} {ps : List (Nat × Option Addr)} {l : Option Addr} (hS : St w wr L P cnt n v ps) (hnL : n < L) (hL : L ≤ 1024)
    (hO : Own W w.heap.size (w.heap.size + 2) cnt v ps) (hr : W.rowIs (w.heap.size + 1) 29 L (fun j => if j = n then .pointer l else lft ps j)) (hsz : wr.heap.size ≤ W.heap.size) (hb : Below w.heap.size w W) :
    ∃ (g cap : Nat) (w1 : World), (Builtin.append_ #[28, 28] 28 #[v, .slice (some ⟨W.heap.size, 0, none⟩) 1 1]).run Yba.prog (W.alloc (.cells #[.int .u64 (P n : Int), .pointer l] 38)) = .ok (.slice (some ⟨g, 0, none⟩) (n + 1) cap) w1 ∧
      w1.cell? ⟨w.heap.size, 5, none⟩ = some v ∧ w1.frozen? ⟨w.heap.size, 5, none⟩ = false ∧
      St w (w1.setCell ⟨w.heap.size, 5, none⟩ (.slice (some ⟨g, 0, none⟩) (n + 1) cap)) L P cnt (n + 1) (.slice (some ⟨g, 0, none⟩) (n + 1) cap) (ps ++ [(P n, l)]) := by
  obtain ⟨h1, h2, _, _, h5, _⟩ := hS
  subst h1
  obtain ⟨g, cap, w1, hap, hr1, hs1, hO1, hb1⟩ := open_append W w.heap.size (w.heap.size + 2) cnt v ps hO (by omega) (by omega) (by omega) (P ps.length) l
  refine ⟨g, cap, w1, hap, hr1.cell (i := 5) (by omega), hr1.frozen 5, by simp, ?_, hO1, ?_, ?_, hb.trans (hb1.below (Nat.le_refl _) (by omega))⟩
  · intro j p hp
    by_cases hj : j < ps.length
    · rw [List.getElem?_append_left hj] at hp; exact h2 j p hp
    · have hlt := (List.getElem?_eq_some_iff.1 hp).1
      simp at hlt
      have : j = ps.length := by omega
      subst this
      simp at hp; subst hp; rfl
  · exact (hr.of_block (hb1.block _ (by omega) (by omega))).congr fun j _ => lft_step ps _ l j
  · have := hb1.size; omega

set_option maxHeartbeats 1000000 in
set_option maxRecDepth 20000 in
theorem law_opens_pos (c : Nat) (hc : c < 18446744073709551616) (pb poff L cap1 : Nat) (P : Nat → Nat) (a2 : Bool) (w : World) (hL0 : 0 < L) (hL : L ≤ 1024)
    (hcell : ∀ i, i < L → w.cell? ⟨pb, poff + i, none⟩ = some (.int .u64 (P i : Int))) :
    Calls Yba.prog 3 #[.int .u64 (c : Int), .slice (some ⟨pb, poff, none⟩) L cap1, .bool a2] w fun e w' => e = .returned (.bool true) ∧ Below w.heap.size w w' := by
  have hpb : pb < w.heap.size := World.block_lt_of_cell? _ _ (hcell 0 hL0)
  have HC : Hid _ := hcell
  clear hcell
  have hmk := run_make_row' (P := Yba.prog) 32 29 (.pointer none) 8 Yba.underlying32 info29 rfl .i64 .i64 L (by omega) (by omega)
  go_enter Yba.func3, Yba.ntmps3
  go_wp2
  go_loopw [27] (fun i wr => ∃ (n : Nat) (v : Value) (ps : List (Nat × Option Addr)), n ≤ L ∧ i = .int .i64 n ∧ St w wr L P c n v ps) (fun i _ => L - (intOf i).toNat)
  case atStart =>
    refine ⟨0, .slice none 0 0, [], by omega, rfl, rfl, by simp, ⟨World.rowIs.alloc (bld_new w c) _, World.ownsRow_nil _ _ _ _⟩, ?_, by simp, ((Below.refl _ _).alloc (Nat.le_refl _) _).alloc (by simp) _⟩
    have := World.rowIs_made (w.alloc (.cells #[.int .u64 (c : Int), .int .u64 0, .nilIface, .nilFunc, .bool false, .slice none 0 0, .pointer none] 31)) (.pointer none) L 29
    rw [World.size_alloc] at this
    exact this
  case round =>
    obtain ⟨n, v, ps, hn, rfl, hS⟩ := hrel
    have HS : Hid _ := hS
    have hsz : w.heap.size + 2 ≤ wr.heap.size := hS.2.2.2.2.1
    have hlt1 : w.heap.size + 1 < wr.heap.size := by omega
    have hlt0 : w.heap.size < wr.heap.size := by omega
    have hbw : Below w.heap.size w wr := hS.2.2.2.2.2
    have c5 : wr.cell? ⟨w.heap.size, 5, none⟩ = some v := hS.2.2.1.1.cell (i := 5) (by omega)
    clear hS
    by_cases hlt : n < L
    · have hx : wr.cell? ⟨pb, poff + n, none⟩ = some (.int .u64 (P n : Int)) := (hbw.cell (p := ⟨pb, poff + n, none⟩) hpb).trans (HC.out n hlt)
      have cl := HS.out.2.2.2.1.cell hlt
      have fl := HS.out.2.2.2.1.frozen n
      by_cases hnew : a2 = true ∧ n % 2 = 0
      · obtain ⟨rfl, hev⟩ := hnew
        have hev' : ((n : Int) % 2 == 0) = true := by simp; omega
        obtain ⟨g, cap, w1, hap, c51, f51, hS1⟩ := round_step (W := (wr.setCell ⟨w.heap.size + 1, n, none⟩ (.pointer (some ⟨wr.heap.size, 0, none⟩))).alloc (nodeO (P n))) (l := some ⟨wr.heap.size, 0, none⟩) HS.out hlt hL
          (own_alloc (own_setCell HS.out.2.2.1 (by show w.heap.size + 1 < w.heap.size + 2; omega) (by show w.heap.size ≠ w.heap.size + 1; omega) _) _) ((HS.out.2.2.2.1.set n _).alloc _) (by simp) ((hbw.setCell (by show w.heap.size ≤ w.heap.size + 1; omega) _).alloc (by simp; omega) _)
        simp only [World.size_alloc, World.size_setCell, nodeO] at hap
        have HS1 : Hid _ := hS1
        clear hS1
        go_wp2_with (at_builtin; refine wpList_append_run rfl (.tmp 49) (.tmp 53) 28 rfl rfl rfl hap ?_)
        go_roundw
        case rel => exact ⟨n + 1, _, _, by omega, by go_num, HS1.out⟩
        case measure => simp [intOf]; omega
      · obtain ⟨g, cap, w1, hap, c51, f51, hS1⟩ := round_step (W := wr.setCell ⟨w.heap.size + 1, n, none⟩ (.pointer none)) (l := none) HS.out hlt hL
          (own_setCell HS.out.2.2.1 (by show w.heap.size + 1 < w.heap.size + 2; omega) (by show w.heap.size ≠ w.heap.size + 1; omega) _) (HS.out.2.2.2.1.set n _) (by simp) (hbw.setCell (by show w.heap.size ≤ w.heap.size + 1; omega) _)
        simp only [World.size_setCell] at hap
        have HS1 : Hid _ := hS1
        clear hS1
        cases a2 with
        | false =>
          go_wp2_with (at_builtin; refine wpList_append_run rfl (.tmp 49) (.tmp 53) 28 rfl rfl rfl hap ?_)
          go_roundw
          case rel => exact ⟨n + 1, _, _, by omega, by go_num, HS1.out⟩
          case measure => simp [intOf]; omega
        | true =>
          have hev' : ((n : Int) % 2 == 0) = false := by simp; simp at hnew; omega
          go_wp2_with (at_builtin; refine wpList_append_run rfl (.tmp 49) (.tmp 53) 28 rfl rfl rfl hap ?_)
          go_roundw
          case rel => exact ⟨n + 1, _, _, by omega, by go_num, HS1.out⟩
          case measure => simp [intOf]; omega
    · obtain rfl : n = L := by omega
      go_wp2_with fail
      refine (descend_any w.heap.size (w.heap.size + 2) _ _ ps c wr HS.out.2.2.1 (by omega) hsz (by have := HS.out.1; omega) hc).mono ?_
      rintro e w2 ⟨rfl, v2, hO2, hbut⟩
      have hb2 : Below w.heap.size w w2 := hbw.trans (hbut.below (Nat.le_refl _) (by omega))
      have hl2 : w2.rowIs (w.heap.size + 1) 29 n (lft ps) := HS.out.2.2.2.1.of_block (hbut.block _ (by omega) (by omega))
      obtain ⟨K, hK⟩ : ∃ K, K = (chain 64 c).length := ⟨_, rfl⟩
      have hNl : (ps ++ (chain 64 c).map (fun c => (c, (none : Option Addr)))).length = n + K := by rw [List.length_append, List.length_map, HS.out.1, hK]
      obtain ⟨g, cap, rfl, hcap, hg, hcells⟩ := own_cells' hO2 (by rw [hNl]; omega)
      have d0 : w2.cell? ⟨w.heap.size, 0, none⟩ = some (.int .u64 c) := hO2.1.cell (i := 0) (by omega)
      have d1 : w2.cell? ⟨w.heap.size, 1, none⟩ = some (.int .u64 0) := hO2.1.cell (i := 1) (by omega)
      have d2 : w2.cell? ⟨w.heap.size, 2, none⟩ = some .nilIface := hO2.1.cell (i := 2) (by omega)
      have d4 : w2.cell? ⟨w.heap.size, 4, none⟩ = some (.bool false) := hO2.1.cell (i := 4) (by omega)
      have d6 : w2.cell? ⟨w.heap.size, 6, none⟩ = some (.pointer none) := hO2.1.cell (i := 6) (by omega)
      have d5 : w2.cell? ⟨w.heap.size, 5, none⟩ = some (.slice (some ⟨g, 0, none⟩) (n + K) cap) := by rw [← hNl]; exact hO2.1.cell (i := 5) (by omega)
      rw [hNl] at hcap
      have HCL : Hid _ := hcells
      have HKL : Hid _ := hK
      have hK64 : K ≤ 64 := by rw [hK]; exact chain_len_le 64 c
      have hPre : ∀ i, i < n → ∃ l, w2.cell? ⟨g, i * 2, none⟩ = some (.int .u64 (P i : Int)) ∧ w2.cell? ⟨g, i * 2 + 1, none⟩ = some (.pointer l) ∧ w2.cell? ⟨w.heap.size + 1, i, none⟩ = some (.pointer l) := by
        intro i hi
        obtain ⟨p, hp⟩ : ∃ p, ps[i]? = some p := ⟨_, List.getElem?_eq_getElem (by rw [HS.out.1]; exact hi)⟩
        have h := hcells i p (by rw [List.getElem?_append_left (by rw [HS.out.1]; exact hi)]; exact hp)
        rw [HS.out.2.1 i p hp] at h
        exact ⟨p.2, h.1, h.2, by rw [hl2.cell hi, lft_at ps i p hp]⟩
      have HPre : Hid _ := hPre
      have n29 := neq29
      clear hPre hcells hK hNl hO2 hl2 hbut
      go_wp2
      go_loopw [104] (fun i wr => ∃ k q : Nat, k ≤ n ∧ i = .int .i64 k ∧ wr = w2.drewN q) (fun i _ => n - (intOf i).toNat)
      case atStart => exact ⟨0, 0, by omega, rfl, rfl⟩
      case round =>
        obtain ⟨k, q, hk, rfl, rfl⟩ := hrel
        by_cases hlt2 : k < n
        · obtain ⟨l, x1, x2, x3⟩ := HPre.out k hlt2
          have x4 : w2.cell? ⟨pb, poff + k, none⟩ = some (.int .u64 (P k : Int)) := (hb2.cell (p := ⟨pb, poff + k, none⟩) hpb).trans (HC.out k hlt2)
          go_wp2_with fail
          go_quiet (fail)
          go_wp2
          go_roundw
          case rel => exact ⟨k + 1, _, by omega, by go_num, rfl⟩
          case measure => simp [intOf]; omega
        · by_cases hK0 : K = 0
          · have hc1 : ¬ (1 : Int) < (c : Int) := by
              have := chain_none c (HKL.out.symm.trans hK0); omega
            go_wp2
            all_goals
              refine wp_loop_rounds 1 ?_
              rw [rounds_succ]
              go_wp2
              go_ret
              exact ⟨rfl, below_drewN' hb2 _⟩
          · go_wp2
            go_loop [14, 15] (fun a b => ∃ (k c' f : Nat) (done : List Nat), c' < 18446744073709551616 ∧ a = .int .i64 k ∧ b = .int .u64 (c' : Int) ∧ k = done.length ∧ k ≤ K ∧ done ++ chain f c' = chain 64 c ∧ c' ≤ 2 ^ f) (fun _ b => (intOf b).toNat)
            case atStart => exact ⟨0, c, 64, [], hc, rfl, rfl, rfl, by omega, rfl, by omega⟩
            case round =>
              obtain ⟨j, c', f, done, hc', rfl, rfl, hj, hjK, hd, hf⟩ := hrel
              have HJ : Hid _ := hj
              have HD : Hid _ := hd
              have HF : Hid _ := hf
              clear hj hd hf
              by_cases hbig : 1 < c'
              · obtain ⟨f', hd', hf'⟩ := desc_step f c' done _ HD.out (by omega) HF.out
                have hat : (chain 64 c)[j]? = some c' := by rw [← hd', HJ.out]; simp
                have hjl : j < K := by rw [HKL.out]; exact (List.getElem?_eq_some_iff.1 hat).1
                have hel := HCL.out (n + j) (c', none) (by
                  rw [List.getElem?_append_right (by rw [HS.out.1]; omega), HS.out.1, List.getElem?_map, show n + j - n = j by omega, hat]; rfl)
                rw [show (n + j) * 2 = n * 2 + j * 2 by omega] at hel
                obtain ⟨y1, y2⟩ := hel
                have HD' : Hid _ := hd'
                have HF' : Hid _ := hf'
                clear hd' hf' hat
                by_cases hmx : c' < 18446744073709551615
                · have hne := beq_max' c' hmx
                  go_wp2
                  go_round
                  case rel => exact ⟨j + 1, (c' + 1) % 18446744073709551616 / 2, f', done ++ [c'], by omega, by go_num, sub_val c' hmx, by rw [List.length_append, HJ.out]; rfl, by omega, HD'.out, HF'.out⟩
                  case measure => exact sub_meas c' hmx hbig
                · obtain rfl : c' = 18446744073709551615 := by omega
                  have hfin : ((j : Int) + 1 == (K : Int)) = true := by
                    have := HD.out
                    rw [chain_max' f HF.out] at this
                    rw [beq_iff_eq, HKL.out, ← this, List.length_append, HJ.out]; simp
                  have h64 : j + 1 ≤ 64 := by omega
                  go_wp2
                  go_ret
                  exact ⟨rfl, below_drewN' hb2 _⟩
              · have hfin : ((j : Int) == (K : Int)) = true := by
                  have := HD.out
                  rw [chain_small f c' (by omega), List.append_nil] at this
                  rw [beq_iff_eq, HKL.out, ← this, HJ.out]
                go_wp2
                go_ret
                exact ⟨rfl, below_drewN' hb2 _⟩

set_option maxHeartbeats 1000000 in
set_option maxRecDepth 20000 in
theorem law_opens_zero (c : Nat) (hc : c < 18446744073709551616) (a1 : Option Addr) (cap1 : Nat) (a2 : Bool) (w : World) :
    Calls Yba.prog 3 #[.int .u64 (c : Int), .slice a1 0 cap1, .bool a2] w fun e w' => e = .returned (.bool true) ∧ Below w.heap.size w w' := by
  have hmk := run_make_row' (P := Yba.prog) 32 29 (.pointer none) 8 Yba.underlying32 info29 rfl .i64 .i64 0 (by omega) (by omega)
  simp only [Int.natCast_zero] at hmk
  go_enter Yba.func3, Yba.ntmps3
  go_wp2
  refine wp_loop_rounds 1 ?_
  rw [rounds_succ]
  go_wp2_with fail
  obtain ⟨w1, hw1⟩ : ∃ w1, w1 = (w.alloc (.cells #[.int .u64 (c : Int), .int .u64 0, .nilIface, .nilFunc, .bool false, .slice none 0 0, .pointer none] 31)).alloc (.cells (madeCells #[.pointer none] 0) 29) := ⟨_, rfl⟩
  rw [← hw1]
  have hO1 : Own w1 w.heap.size (w.heap.size + 2) c (.slice none 0 0) [] := by rw [hw1]; exact ⟨World.rowIs.alloc (bld_new w c) _, World.ownsRow_nil _ _ _ _⟩
  have hs1 : w.heap.size + 2 ≤ w1.heap.size := by rw [hw1]; simp
  have hb1 : Below w.heap.size w w1 := by rw [hw1]; exact ((Below.refl _ _).alloc (Nat.le_refl _) _).alloc (by simp) _
  clear hw1
  refine (descend_any w.heap.size (w.heap.size + 2) _ _ [] c w1 hO1 (by omega) hs1 (by simp) hc).mono ?_
  rintro e w2 ⟨rfl, v2, hO2, hbut⟩
  simp only [List.nil_append] at hO2
  have hb2 : Below w.heap.size w w2 := hb1.trans (hbut.below (Nat.le_refl _) (by omega))
  have d0 : w2.cell? ⟨w.heap.size, 0, none⟩ = some (.int .u64 c) := hO2.1.cell (i := 0) (by omega)
  have d1 : w2.cell? ⟨w.heap.size, 1, none⟩ = some (.int .u64 0) := hO2.1.cell (i := 1) (by omega)
  have d2 : w2.cell? ⟨w.heap.size, 2, none⟩ = some .nilIface := hO2.1.cell (i := 2) (by omega)
  have d4 : w2.cell? ⟨w.heap.size, 4, none⟩ = some (.bool false) := hO2.1.cell (i := 4) (by omega)
  have d6 : w2.cell? ⟨w.heap.size, 6, none⟩ = some (.pointer none) := hO2.1.cell (i := 6) (by omega)
  have d5 : w2.cell? ⟨w.heap.size, 5, none⟩ = some v2 := hO2.1.cell (i := 5) (by omega)
  obtain ⟨K, hK⟩ : ∃ K, K = (chain 64 c).length := ⟨_, rfl⟩
  have hK64 : K ≤ 64 := by rw [hK]; exact chain_len_le 64 c
  have HKL : Hid _ := hK
  clear hK
  by_cases hK0 : K = 0
  · have hc0 : c ≤ 1 := chain_none c (HKL.out.symm.trans hK0)
    have hc1 : ¬ (1 : Int) < (c : Int) := by omega
    rw [chain_small 64 c hc0] at hO2
    have hsh : ∃ (ao : Option Addr) (cap : Nat), v2 = .slice ao 0 cap := by
      rcases hO2.2.2 with ⟨rfl, _⟩ | ⟨g, cap, cur, rfl, _⟩
      · exact ⟨none, 0, rfl⟩
      · exact ⟨_, cap, rfl⟩
    obtain ⟨ao, cap, rfl⟩ := hsh
    clear hO2 hO1 hbut
    go_wp2
    refine wp_loop_rounds 1 ?_
    rw [rounds_succ]
    go_wp2
    all_goals
      refine wp_loop_rounds 1 ?_
      rw [rounds_succ]
      go_wp2
      go_ret
      exact ⟨rfl, hb2⟩
  · obtain ⟨g, cap, rfl, hcap, hg, hcells⟩ := own_cells' hO2 (by rw [List.length_map, ← HKL.out]; omega)
    rw [List.length_map, ← HKL.out] at d5 hcap
    have HCL : Hid _ := hcells
    clear hcells hO2 hO1 hbut
    go_wp2
    refine wp_loop_rounds 1 ?_
    rw [rounds_succ]
    go_wp2
    go_loop [14, 15] (fun a b => ∃ (k c' f : Nat) (done : List Nat), c' < 18446744073709551616 ∧ a = .int .i64 k ∧ b = .int .u64 (c' : Int) ∧ k = done.length ∧ k ≤ K ∧ done ++ chain f c' = chain 64 c ∧ c' ≤ 2 ^ f) (fun _ b => (intOf b).toNat)
    case atStart => exact ⟨0, c, 64, [], hc, rfl, rfl, rfl, by omega, rfl, by omega⟩
    case round =>
      obtain ⟨j, c', f, done, hc', rfl, rfl, hj, hjK, hd, hf⟩ := hrel
      have HJ : Hid _ := hj
      have HD : Hid _ := hd
      have HF : Hid _ := hf
      clear hj hd hf
      by_cases hbig : 1 < c'
      · obtain ⟨f', hd', hf'⟩ := desc_step f c' done _ HD.out (by omega) HF.out
        have hat : (chain 64 c)[j]? = some c' := by rw [← hd', HJ.out]; simp
        have hjl : j < K := by rw [HKL.out]; exact (List.getElem?_eq_some_iff.1 hat).1
        have hel := HCL.out j (c', none) (by
          rw [List.getElem?_map, hat]; rfl)
        obtain ⟨y1, y2⟩ := hel
        have HD' : Hid _ := hd'
        have HF' : Hid _ := hf'
        clear hd' hf' hat
        by_cases hmx : c' < 18446744073709551615
        · have hne := beq_max' c' hmx
          go_wp2
          go_round
          case rel => exact ⟨j + 1, (c' + 1) % 18446744073709551616 / 2, f', done ++ [c'], by omega, by go_num, sub_val c' hmx, by rw [List.length_append, HJ.out]; rfl, by omega, HD'.out, HF'.out⟩
          case measure => exact sub_meas c' hmx hbig
        · obtain rfl : c' = 18446744073709551615 := by omega
          have hfin : ((j : Int) + 1 == (K : Int)) = true := by
            have := HD.out
            rw [chain_max' f HF.out] at this
            rw [beq_iff_eq, HKL.out, ← this, List.length_append, HJ.out]; simp
          have h64 : j + 1 ≤ 64 := by omega
          go_wp2
          go_ret
          exact ⟨rfl, hb2⟩
      · have hfin : ((j : Int) == (K : Int)) = true := by
          have := HD.out
          rw [chain_small f c' (by omega), List.append_nil] at this
          rw [beq_iff_eq, HKL.out, ← this, HJ.out]
        go_wp2
        go_ret
        exact ⟨rfl, hb2⟩

set_option maxRecDepth 20000 in
theorem law_opens (a0 : Int) (h0 : 0 ≤ a0 ∧ a0 ≤ 18446744073709551615) (a1 : Option Addr) (L cap1 : Nat) (a2 : Bool) (w : World) (hmax : L ≤ 9223372036854775807)
    (hcell : 0 < L → ∃ (pb poff : Nat) (P : Nat → Nat), a1 = some ⟨pb, poff, none⟩ ∧ ∀ i, i < L → w.cell? ⟨pb, poff + i, none⟩ = some (.int .u64 (P i : Int))) :
    Calls Yba.prog 3 #[.int .u64 a0, .slice a1 L cap1, .bool a2] w fun e w' => e = .returned (.bool true) ∧ Below w.heap.size w w' := by
  obtain ⟨c, rfl⟩ : ∃ c : Nat, a0 = (c : Int) := ⟨a0.toNat, by omega⟩
  by_cases hL : L ≤ 1024
  · by_cases hL0 : L = 0
    · subst hL0; exact law_opens_zero c (by omega) a1 cap1 a2 w
    · obtain ⟨pb, poff, P, rfl, hc⟩ := hcell (by omega)
      exact law_opens_pos c (by omega) pb poff L cap1 P a2 w (by omega) hL hc
  · have hL' : (1024 : Int) < (L : Int) := by omega
    clear hcell
    go_enter Yba.func3, Yba.ntmps3
    go_wp2
    go_ret
    exact ⟨rfl, Below.refl _ _⟩
end Go.Proofs.Ybulkcvfe
