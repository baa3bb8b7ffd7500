/- What the walk of 'zzs4827abuild' (func 7) wants besides. -/
import Derived.Test.YbulkcuyeACompB
import Derived.Deep.DeepAppendRoom
namespace Go.Proofs.Ybulkcuye.A
open Go.RowKit

theorem info25 : (Yba.prog.info? 25).map (fun i => (i.zero, i.size, i.bytes)) = some (some (.slice none 0 0), 1, 24) := by kernel_rfl
theorem info30 : (Yba.prog.info? 30).map (fun i => (i.zero, i.size, i.bytes)) = some (some (.slice none 0 0), 1, 24) := by kernel_rfl
theorem info4 : (Yba.prog.info? 4).map (fun i => (i.zero, i.size, i.bytes)) = some (some (.bool false), 1, 1) := by kernel_rfl

theorem make_empty (n : Nat) (hn : n ≤ 100) (w : World) : (Instr.makeSlice 25 (.int .i64 0) (.int .i64 (n : Int))).run Yba.prog w = .ok (.slice (some ⟨w.heap.size, 0, none⟩) 0 n) (w.alloc (.cells (madeCells #[.int .i64 0] n) 3)) := by
  obtain ⟨i, hi, hz, hs, hb⟩ := info_parts info3
  have hr := run_make (P := Yba.prog) w 25 3 i (.int .i64 0) Yba.underlying25 hi hz .i64 .i64 0 n (by omega) (by omega) (by rw [hb]; omega) (by omega)
  simp only [Int.toNat_natCast, hs, Nat.mul_one] at hr
  exact hr

/-- One whole number is appended where there is room. -/
theorem Slc.room {w : World} {B b n cap : Nat} {f : Nat → Value} (h : Slc w B 3 1 (.slice (some ⟨b, 0, none⟩) n cap) n f) (hroom : n + 1 ≤ cap) (x : Int) :
    ∃ w' : World, (Builtin.append_ #[25, 25] 25 #[.slice (some ⟨b, 0, none⟩) n cap, .slice (some ⟨w.heap.size, 0, none⟩) 1 1]).run Yba.prog (w.alloc (.cells #[.int .i64 x] 3)) = .ok (.slice (some ⟨b, 0, none⟩) (n + 1) cap) w' ∧
      Slc w' B 3 1 (.slice (some ⟨b, 0, none⟩) (n + 1) cap) (n + 1) (upd f n (.int .i64 x)) ∧ (w.alloc (.cells #[.int .i64 x] 3)).grownBy w' (some b) := by
  obtain ⟨i0, hi, hz0, hz1, hz2⟩ := info_parts info3
  have hcell : ∀ j u, [Value.int .i64 x][j]? = some u → (w.alloc (.cells #[.int .i64 x] 3)).cell? ((⟨w.heap.size, 0, none⟩ : Addr).add j) = some u := by
    intro j u hj
    match j, hj with
    | 0, hj => simp at hj; subst hj; simp [Addr.add, go_sem]
  have h0 : (w.alloc (.cells #[.int .i64 x] 3)).ownsRow B 3 1 (.slice (some ⟨b, 0, none⟩) n cap) n ((List.range (n * 1)).map f) := World.ownsRow.alloc h _
  obtain ⟨w1, hrun, hown', hgrow⟩ := run_append_own_spare (P := Yba.prog) (w.alloc (.cells #[.int .i64 x] 3)) B 25 25 3 i0 1 Yba.underlying25 hi hz1
    b n cap _ h0 ⟨w.heap.size, 0, none⟩ 1 1 [.int .i64 x] rfl hcell (by intro u hu; simp at hu; subst hu; rfl) hroom
  refine ⟨w1, hrun, ?_, hgrow⟩
  unfold Slc
  rw [Nat.mul_one, range_upd]
  rw [Nat.mul_one] at hown'
  exact hown'

/-- The three fields of the graph. -/
def gfld (v0 v1 v2 : Value) (i : Nat) : Value :=
  match i with
  | 0 => v0
  | 1 => v1
  | _ => v2

/-- What region 1 leaves, whatever its order. -/
structure BS (B n X0 X1 X2 : Nat) (wx : World) : Prop where
  d01 : X0 ≠ X1
  d02 : X0 ≠ X2
  d12 : X1 ≠ X2
  l0 : B ≤ X0 ∧ X0 < B + 3
  l1 : B ≤ X1 ∧ X1 < B + 3
  l2 : B ≤ X2 ∧ X2 < B + 3
  r0 : wx.rowIs X0 3 n (fun _ => .int .i64 0)
  r1 : wx.rowIs X1 25 n (fun _ => .slice none 0 0)
  r2 : wx.rowIs X2 3 n (fun _ => .int .i64 0)
  rg : wx.rowIs (B + 3) 56 3 (gfld (.slice (some ⟨X0, 0, none⟩) 0 n) (.slice (some ⟨X1, 0, none⟩) n n) (.slice (some ⟨X2, 0, none⟩) n n))
  sz : wx.heap.size = B + 4

theorem four_rows (w : World) (z0 z1 z2 : Value) (n : Nat) (t0 t1 t2 : TypeId) (a b c : Value) :
    ((((w.alloc (.cells (madeCells #[z0] n) t0)).alloc (.cells (madeCells #[z1] n) t1)).alloc (.cells (madeCells #[z2] n) t2)).alloc (.cells #[a, b, c] 56)).drew.rowIs w.heap.size t0 n (fun _ => z0) ∧
    ((((w.alloc (.cells (madeCells #[z0] n) t0)).alloc (.cells (madeCells #[z1] n) t1)).alloc (.cells (madeCells #[z2] n) t2)).alloc (.cells #[a, b, c] 56)).drew.rowIs (w.heap.size + 1) t1 n (fun _ => z1) ∧
    ((((w.alloc (.cells (madeCells #[z0] n) t0)).alloc (.cells (madeCells #[z1] n) t1)).alloc (.cells (madeCells #[z2] n) t2)).alloc (.cells #[a, b, c] 56)).drew.rowIs (w.heap.size + 2) t2 n (fun _ => z2) ∧
    ((((w.alloc (.cells (madeCells #[z0] n) t0)).alloc (.cells (madeCells #[z1] n) t1)).alloc (.cells (madeCells #[z2] n) t2)).alloc (.cells #[a, b, c] 56)).drew.rowIs (w.heap.size + 3) 56 3 (gfld a b c) ∧
    ((((w.alloc (.cells (madeCells #[z0] n) t0)).alloc (.cells (madeCells #[z1] n) t1)).alloc (.cells (madeCells #[z2] n) t2)).alloc (.cells #[a, b, c] 56)).drew.heap.size = w.heap.size + 4 ∧
    Below w.heap.size w ((((w.alloc (.cells (madeCells #[z0] n) t0)).alloc (.cells (madeCells #[z1] n) t1)).alloc (.cells (madeCells #[z2] n) t2)).alloc (.cells #[a, b, c] 56)).drew := by
  refine ⟨?_, ?_, ?_, ?_, ?_, ?_⟩
  · exact World.rowIs.drew ((((World.rowIs_made w z0 n t0).alloc _).alloc _).alloc _)
  · have := ((World.rowIs_made (w.alloc (.cells (madeCells #[z0] n) t0)) z1 n t1).alloc (.cells (madeCells #[z2] n) t2)).alloc (.cells #[a, b, c] 56)
    simp at this
    exact World.rowIs.drew this
  · have := (World.rowIs_made ((w.alloc (.cells (madeCells #[z0] n) t0)).alloc (.cells (madeCells #[z1] n) t1)) z2 n t2).alloc (.cells #[a, b, c] 56)
    simp at this
    exact World.rowIs.drew this
  · have := World.rowIs_alloc (((w.alloc (.cells (madeCells #[z0] n) t0)).alloc (.cells (madeCells #[z1] n) t1)).alloc (.cells (madeCells #[z2] n) t2)) #[a, b, c] 56 (gfld a b c) (fun i hi => by
      simp at hi
      match i, hi with
      | 0, _ => rfl
      | 1, _ => rfl
      | 2, _ => rfl)
    simp at this
    exact World.rowIs.drew this
  · show (World.heap _).size = _
    simp
  · exact ((((Below.refl _ _).alloc (Nat.le_refl _) _).alloc (by simp) _).alloc (by simp; omega) _ |>.alloc (by simp; omega) _).drew

theorem bs0 (w : World) (n : Nat) : ∃ X0 X1 X2, BS w.heap.size n X0 X1 X2 (((((w.alloc (.cells (madeCells #[.int .i64 0] n) 3)).alloc (.cells (madeCells #[.slice none 0 0] n) 25)).alloc (.cells (madeCells #[.int .i64 0] n) 3)).alloc (.cells #[.slice (some ⟨w.heap.size, 0, none⟩) 0 n, .slice (some ⟨w.heap.size + 1, 0, none⟩) n n, .slice (some ⟨w.heap.size + 2, 0, none⟩) n n] 56)).drew) ∧ Below w.heap.size w (((((w.alloc (.cells (madeCells #[.int .i64 0] n) 3)).alloc (.cells (madeCells #[.slice none 0 0] n) 25)).alloc (.cells (madeCells #[.int .i64 0] n) 3)).alloc (.cells #[.slice (some ⟨w.heap.size, 0, none⟩) 0 n, .slice (some ⟨w.heap.size + 1, 0, none⟩) n n, .slice (some ⟨w.heap.size + 2, 0, none⟩) n n] 56)).drew) := by
  obtain ⟨q0, q1, q2, q3, q4, q5⟩ := four_rows w (.int .i64 0) (.slice none 0 0) (.int .i64 0) n 3 25 3 (.slice (some ⟨w.heap.size, 0, none⟩) 0 n) (.slice (some ⟨w.heap.size + 1, 0, none⟩) n n) (.slice (some ⟨w.heap.size + 2, 0, none⟩) n n)
  exact ⟨w.heap.size, w.heap.size + 1, w.heap.size + 2, ⟨by omega, by omega, by omega, by omega, by omega, by omega, q0, q1, q2, q3, q4⟩, q5⟩

theorem bs1 (w : World) (n : Nat) : ∃ X0 X1 X2, BS w.heap.size n X0 X1 X2 (((((w.alloc (.cells (madeCells #[.int .i64 0] n) 3)).alloc (.cells (madeCells #[.int .i64 0] n) 3)).alloc (.cells (madeCells #[.slice none 0 0] n) 25)).alloc (.cells #[.slice (some ⟨w.heap.size, 0, none⟩) 0 n, .slice (some ⟨w.heap.size + 2, 0, none⟩) n n, .slice (some ⟨w.heap.size + 1, 0, none⟩) n n] 56)).drew) ∧ Below w.heap.size w (((((w.alloc (.cells (madeCells #[.int .i64 0] n) 3)).alloc (.cells (madeCells #[.int .i64 0] n) 3)).alloc (.cells (madeCells #[.slice none 0 0] n) 25)).alloc (.cells #[.slice (some ⟨w.heap.size, 0, none⟩) 0 n, .slice (some ⟨w.heap.size + 2, 0, none⟩) n n, .slice (some ⟨w.heap.size + 1, 0, none⟩) n n] 56)).drew) := by
  obtain ⟨q0, q1, q2, q3, q4, q5⟩ := four_rows w (.int .i64 0) (.int .i64 0) (.slice none 0 0) n 3 3 25 (.slice (some ⟨w.heap.size, 0, none⟩) 0 n) (.slice (some ⟨w.heap.size + 2, 0, none⟩) n n) (.slice (some ⟨w.heap.size + 1, 0, none⟩) n n)
  exact ⟨w.heap.size, w.heap.size + 2, w.heap.size + 1, ⟨by omega, by omega, by omega, by omega, by omega, by omega, q0, q2, q1, q3, q4⟩, q5⟩

theorem bs2 (w : World) (n : Nat) : ∃ X0 X1 X2, BS w.heap.size n X0 X1 X2 (((((w.alloc (.cells (madeCells #[.slice none 0 0] n) 25)).alloc (.cells (madeCells #[.int .i64 0] n) 3)).alloc (.cells (madeCells #[.int .i64 0] n) 3)).alloc (.cells #[.slice (some ⟨w.heap.size + 1, 0, none⟩) 0 n, .slice (some ⟨w.heap.size, 0, none⟩) n n, .slice (some ⟨w.heap.size + 2, 0, none⟩) n n] 56)).drew) ∧ Below w.heap.size w (((((w.alloc (.cells (madeCells #[.slice none 0 0] n) 25)).alloc (.cells (madeCells #[.int .i64 0] n) 3)).alloc (.cells (madeCells #[.int .i64 0] n) 3)).alloc (.cells #[.slice (some ⟨w.heap.size + 1, 0, none⟩) 0 n, .slice (some ⟨w.heap.size, 0, none⟩) n n, .slice (some ⟨w.heap.size + 2, 0, none⟩) n n] 56)).drew) := by
  obtain ⟨q0, q1, q2, q3, q4, q5⟩ := four_rows w (.slice none 0 0) (.int .i64 0) (.int .i64 0) n 25 3 3 (.slice (some ⟨w.heap.size + 1, 0, none⟩) 0 n) (.slice (some ⟨w.heap.size, 0, none⟩) n n) (.slice (some ⟨w.heap.size + 2, 0, none⟩) n n)
  exact ⟨w.heap.size + 1, w.heap.size, w.heap.size + 2, ⟨by omega, by omega, by omega, by omega, by omega, by omega, q1, q0, q2, q3, q4⟩, q5⟩

theorem bs3 (w : World) (n : Nat) : ∃ X0 X1 X2, BS w.heap.size n X0 X1 X2 (((((w.alloc (.cells (madeCells #[.slice none 0 0] n) 25)).alloc (.cells (madeCells #[.int .i64 0] n) 3)).alloc (.cells (madeCells #[.int .i64 0] n) 3)).alloc (.cells #[.slice (some ⟨w.heap.size + 2, 0, none⟩) 0 n, .slice (some ⟨w.heap.size, 0, none⟩) n n, .slice (some ⟨w.heap.size + 1, 0, none⟩) n n] 56)).drew) ∧ Below w.heap.size w (((((w.alloc (.cells (madeCells #[.slice none 0 0] n) 25)).alloc (.cells (madeCells #[.int .i64 0] n) 3)).alloc (.cells (madeCells #[.int .i64 0] n) 3)).alloc (.cells #[.slice (some ⟨w.heap.size + 2, 0, none⟩) 0 n, .slice (some ⟨w.heap.size, 0, none⟩) n n, .slice (some ⟨w.heap.size + 1, 0, none⟩) n n] 56)).drew) := by
  obtain ⟨q0, q1, q2, q3, q4, q5⟩ := four_rows w (.slice none 0 0) (.int .i64 0) (.int .i64 0) n 25 3 3 (.slice (some ⟨w.heap.size + 2, 0, none⟩) 0 n) (.slice (some ⟨w.heap.size, 0, none⟩) n n) (.slice (some ⟨w.heap.size + 1, 0, none⟩) n n)
  exact ⟨w.heap.size + 2, w.heap.size, w.heap.size + 1, ⟨by omega, by omega, by omega, by omega, by omega, by omega, q2, q0, q1, q3, q4⟩, q5⟩

theorem bs4 (w : World) (n : Nat) : ∃ X0 X1 X2, BS w.heap.size n X0 X1 X2 (((((w.alloc (.cells (madeCells #[.int .i64 0] n) 3)).alloc (.cells (madeCells #[.int .i64 0] n) 3)).alloc (.cells (madeCells #[.slice none 0 0] n) 25)).alloc (.cells #[.slice (some ⟨w.heap.size + 1, 0, none⟩) 0 n, .slice (some ⟨w.heap.size + 2, 0, none⟩) n n, .slice (some ⟨w.heap.size, 0, none⟩) n n] 56)).drew) ∧ Below w.heap.size w (((((w.alloc (.cells (madeCells #[.int .i64 0] n) 3)).alloc (.cells (madeCells #[.int .i64 0] n) 3)).alloc (.cells (madeCells #[.slice none 0 0] n) 25)).alloc (.cells #[.slice (some ⟨w.heap.size + 1, 0, none⟩) 0 n, .slice (some ⟨w.heap.size + 2, 0, none⟩) n n, .slice (some ⟨w.heap.size, 0, none⟩) n n] 56)).drew) := by
  obtain ⟨q0, q1, q2, q3, q4, q5⟩ := four_rows w (.int .i64 0) (.int .i64 0) (.slice none 0 0) n 3 3 25 (.slice (some ⟨w.heap.size + 1, 0, none⟩) 0 n) (.slice (some ⟨w.heap.size + 2, 0, none⟩) n n) (.slice (some ⟨w.heap.size, 0, none⟩) n n)
  exact ⟨w.heap.size + 1, w.heap.size + 2, w.heap.size, ⟨by omega, by omega, by omega, by omega, by omega, by omega, q1, q2, q0, q3, q4⟩, q5⟩

theorem bs5 (w : World) (n : Nat) : ∃ X0 X1 X2, BS w.heap.size n X0 X1 X2 (((((w.alloc (.cells (madeCells #[.int .i64 0] n) 3)).alloc (.cells (madeCells #[.slice none 0 0] n) 25)).alloc (.cells (madeCells #[.int .i64 0] n) 3)).alloc (.cells #[.slice (some ⟨w.heap.size + 2, 0, none⟩) 0 n, .slice (some ⟨w.heap.size + 1, 0, none⟩) n n, .slice (some ⟨w.heap.size, 0, none⟩) n n] 56)).drew) ∧ Below w.heap.size w (((((w.alloc (.cells (madeCells #[.int .i64 0] n) 3)).alloc (.cells (madeCells #[.slice none 0 0] n) 25)).alloc (.cells (madeCells #[.int .i64 0] n) 3)).alloc (.cells #[.slice (some ⟨w.heap.size + 2, 0, none⟩) 0 n, .slice (some ⟨w.heap.size + 1, 0, none⟩) n n, .slice (some ⟨w.heap.size, 0, none⟩) n n] 56)).drew) := by
  obtain ⟨q0, q1, q2, q3, q4, q5⟩ := four_rows w (.int .i64 0) (.slice none 0 0) (.int .i64 0) n 3 25 3 (.slice (some ⟨w.heap.size + 2, 0, none⟩) 0 n) (.slice (some ⟨w.heap.size + 1, 0, none⟩) n n) (.slice (some ⟨w.heap.size, 0, none⟩) n n)
  exact ⟨w.heap.size + 2, w.heap.size + 1, w.heap.size, ⟨by omega, by omega, by omega, by omega, by omega, by omega, q2, q1, q0, q3, q4⟩, q5⟩

/-- The order: i + r, around n. -/
def tf (n r i : Nat) : Nat := (i + r) % n

/-- Ahead of round k of the first loop. -/
structure L1 (B n r k X0 X1 X2 : Nat) (w wr : World) : Prop where
  rg : wr.rowIs (B + 3) 56 3 (gfld (.slice (some ⟨X0, 0, none⟩) k n) (.slice (some ⟨X1, 0, none⟩) n n) (.slice (some ⟨X2, 0, none⟩) n n))
  tx : Slc wr B 3 1 (.slice (some ⟨X0, 0, none⟩) k n) k (nv (tf n r))
  od : Slc wr B 3 1 (.slice (some ⟨B + 4, 0, none⟩) k n) k (nv (tf n r))
  r1 : wr.rowIs X1 25 n (fun _ => .slice none 0 0)
  r2 : wr.rowIs X2 3 n (fun _ => .int .i64 0)
  bel : Below B w wr
  sz : B + 5 ≤ wr.heap.size

theorem L1.start {B n r X0 X1 X2 : Nat} {w wx : World} (h : BS B n X0 X1 X2 wx) (hb : Below B w wx) (hn : n ≤ 100) : L1 B n r 0 X0 X1 X2 w (wx.alloc (.cells (madeCells #[.int .i64 0] n) 3)) := by
  have h4 := World.rowIs_made wx (.int .i64 0) n 3
  rw [h.sz] at h4
  exact ⟨h.rg.alloc _, (Slc.made (h.r0.alloc _) h.l0.1 (Nat.zero_le _) (by unfold maxLen; omega)).congr (fun i hi => by omega), (Slc.made h4 (by omega) (Nat.zero_le _) (by unfold maxLen; omega)).congr (fun i hi => by omega),
    h.r1.alloc _, h.r2.alloc _, hb.alloc (by rw [h.sz]; omega) _, by simp [h.sz]⟩

theorem tf_cast (n r k : Nat) : ((tf n r k : Nat) : Int) = ((k : Int) + (r : Int)) % (n : Int) := by
  unfold tf
  simp [Int.natCast_emod]

theorem upd_tf (n r k i : Nat) : upd (nv (tf n r)) k (.int .i64 (((k : Int) + (r : Int)) % (n : Int))) i = nv (tf n r) i := by
  unfold upd nv
  by_cases e : i = k
  · subst e; simp [tf_cast]
  · simp [e]

/-- One round of the first loop: both lists grow by one. -/
theorem L1.step {B n r k X0 X1 X2 : Nat} {w wr : World} (h : L1 B n r k X0 X1 X2 w wr) (hk : k < n) (l0 : B ≤ X0 ∧ X0 < B + 3) (l1 : B ≤ X1 ∧ X1 < B + 3) (l2 : B ≤ X2 ∧ X2 < B + 3) (d01 : X0 ≠ X1) (d02 : X0 ≠ X2) :
    ∃ w1 w2 : World, (Builtin.append_ #[25, 25] 25 #[.slice (some ⟨X0, 0, none⟩) k n, .slice (some ⟨wr.heap.size, 0, none⟩) 1 1]).run Yba.prog (wr.drew.alloc (.cells #[.int .i64 (((k : Int) + (r : Int)) % (n : Int))] 3)) = .ok (.slice (some ⟨X0, 0, none⟩) (k + 1) n) w1 ∧
      w1.cell? ⟨B + 3, 0, none⟩ = some (.slice (some ⟨X0, 0, none⟩) k n) ∧ w1.frozen? ⟨B + 3, 0, none⟩ = false ∧
      (Builtin.append_ #[25, 25] 25 #[.slice (some ⟨B + 4, 0, none⟩) k n, .slice (some ⟨w1.heap.size, 0, none⟩) 1 1]).run Yba.prog ((w1.setCell ⟨B + 3, 0, none⟩ (.slice (some ⟨X0, 0, none⟩) (k + 1) n)).alloc (.cells #[.int .i64 (((k : Int) + (r : Int)) % (n : Int))] 3)) = .ok (.slice (some ⟨B + 4, 0, none⟩) (k + 1) n) w2 ∧
      L1 B n r (k + 1) X0 X1 X2 w w2 := by
  obtain ⟨w1, hap1, hs1, hg1⟩ := Slc.room (w := wr.drew) h.tx (by omega) (((k : Int) + (r : Int)) % (n : Int))
  have hsz : B + 5 ≤ wr.heap.size := h.sz
  have k1 : ∀ b, b < wr.heap.size → b ≠ X0 → w1.heap[b]? = wr.heap[b]? := fun b hb hne =>
    (hg1.block b (by show b < (wr.alloc _).heap.size; simp; omega) (fun e => hne (by simpa using e))).trans (Below.heap_alloc wr _ b hb)
  obtain ⟨W, hW⟩ : ∃ W, W = w1.setCell ⟨B + 3, 0, none⟩ (.slice (some ⟨X0, 0, none⟩) (k + 1) n) := ⟨_, rfl⟩
  have k2 : ∀ b, b ≠ B + 3 → W.heap[b]? = w1.heap[b]? := fun b hb => by rw [hW]; exact Below.heap_setCell _ _ _ _ hb
  have hsz1 : wr.heap.size + 1 ≤ w1.heap.size := by
    have h1 : (wr.alloc (.cells #[.int .i64 (((k : Int) + (r : Int)) % (n : Int))] 3)).heap.size ≤ w1.heap.size := hg1.size
    simp at h1
    omega
  have hszW : W.heap.size = w1.heap.size := by rw [hW]; simp
  have od1 : Slc W B 3 1 (.slice (some ⟨B + 4, 0, none⟩) k n) k (nv (tf n r)) := h.od.of fun b hb => by
    have : B + 4 = b := by simpa [Value.ownBlock] using hb
    subst this
    rw [k2 _ (by omega), k1 _ (by omega) (by omega)]
  obtain ⟨w2, hap2, hs2, hg2⟩ := od1.room (by omega) (((k : Int) + (r : Int)) % (n : Int))
  have k3 : ∀ b, b < W.heap.size → b ≠ B + 4 → w2.heap[b]? = W.heap[b]? := fun b hb hne =>
    (hg2.block b (by simp; omega) (fun e => hne (by simpa using e))).trans (Below.heap_alloc W _ b hb)
  have rg1 := h.rg.of_block (k1 (B + 3) (by omega) (by omega))
  have all : ∀ b, b < wr.heap.size → b ≠ X0 → b ≠ B + 3 → b ≠ B + 4 → w2.heap[b]? = wr.heap[b]? := fun b hb h1 h2 h3 => by
    rw [k3 b (by omega) h3, k2 b h2, k1 b hb h1]
  refine ⟨w1, w2, hap1, rg1.cell (i := 0) (by omega), rg1.frozen 0, ?_, ?_⟩
  · rw [hszW, hW] at hap2
    exact hap2
  · refine ⟨?_, ?_, ?_, ?_, ?_, ?_, ?_⟩
    · have : W.rowIs (B + 3) 56 3 (gfld (.slice (some ⟨X0, 0, none⟩) (k + 1) n) (.slice (some ⟨X1, 0, none⟩) n n) (.slice (some ⟨X2, 0, none⟩) n n)) := by
        rw [hW]
        refine (rg1.set 0 _).congr fun j hj => ?_
        match j, hj with
        | 0, _ => rfl
        | 1, _ => rfl
        | 2, _ => rfl
      exact this.of_block (k3 _ (by omega) (by omega))
    · refine (hs1.of fun b hb => ?_).congr fun i _ => upd_tf n r k i
      have : X0 = b := by simpa [Value.ownBlock] using hb
      subst this
      rw [k3 _ (by omega) (by omega), k2 _ (by omega)]
    · exact hs2.congr fun i _ => upd_tf n r k i
    · exact h.r1.of_block (all _ h.r1.lt (fun e => d01 e.symm) (by omega) (by omega))
    · exact h.r2.of_block (all _ h.r2.lt (fun e => d02 e.symm) (by omega) (by omega))
    · refine h.bel.trans ⟨?_, ?_, ?_, ?_, fun b hb => all b (by omega) (by omega) (by omega) (by omega)⟩
      · rw [hg2.os]; show W.os = _; rw [hW]; exact hg1.os
      · rw [hg2.tape]; show W.tape = _; rw [hW]; exact hg1.tape
      · rw [hg2.output]; show W.output = _; rw [hW]; exact hg1.output
      · have := hg2.size; simp at this; omega
    · have := hg2.size; simp at this; omega

end Go.Proofs.Ybulkcuye.A
