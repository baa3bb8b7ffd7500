/- The third loop of 'zzs4827abuild': an edge more. -/
import Derived.Test.YbulkcuyeAEdge
import Derived.Test.YbulkcuyeABuildB
import Derived.Test.YbulkcuyeADistW
namespace Go.Proofs.Ybulkcuye.A
open Go.RowKit

theorem ER.of {B : Nat} {w w' : World} {G X1 X2 n : Nat} {nx : Nat → List Nat} {vl : Nat → Value} {inn : Nat → Nat} (h : ER B w G X1 X2 n nx vl inn) (hk : ∀ b, b < w.heap.size → (b = G ∨ b = X1 ∨ b = X2 ∨ B ≤ b) → w'.heap[b]? = w.heap[b]?) : ER B w' G X1 X2 n nx vl inn :=
  ⟨h.ne1, h.ne2, (World.cell?_of_block (w := w) (hk G (cell_lt h.g1) (.inl rfl))).trans h.g1, (World.cell?_of_block (w := w) (hk G (cell_lt h.g1) (.inl rfl))).trans h.g2,
    h.row1.of_block (hk X1 h.row1.lt (.inr (.inl rfl))), h.row2.of_block (hk X2 h.row2.lt (.inr (.inr (.inl rfl)))),
    fun i hi => (h.lists i hi).of (fun b hb => hk b ((h.lists i hi).lt b hb).2 (.inr (.inr (.inr ((h.lists i hi).lt b hb).1)))), h.apart, h.off⟩

theorem into_add {n : Nat} {nx : Nat → List Nat} {f t : Nat} (hf : f < n) (v : Nat) : into n (upd nx f (nx f ++ [t])) (fun _ => 0) v = into n nx (fun _ => 0) v + (if v = t then 1 else 0) := by
  have := tot_at (f := fun g => ((upd nx f (nx f ++ [t]) g).drop 0).count v) (g := fun g => ((nx g).drop 0).count v) hf (fun g _ hne => by simp only [upd_ne _ _ _ hne])
  simp only [upd_same, List.drop_zero, List.count_append] at this
  have e : List.count v [t] = if v = t then 1 else 0 := by
    by_cases c : v = t
    · subst c; simp
    · simp [c, show ¬ t = v from fun e => c e.symm]
  rw [e] at this
  unfold into
  simp only [List.drop_zero]
  omega

/-- Ahead of round k of the third loop. w3: the world ahead of the loop. -/
structure L3 (A C G X1 X2 n k : Nat) (w w3 wr : World) (nx : Nat → List Nat) (vl : Nat → Value) (inn : Nat → Nat) : Prop where
  er : ER C wr G X1 X2 n nx vl inn
  sz : C ≤ wr.heap.size
  adj : ∀ i, i < n → wr.rowIs (A + 1 + i) 4 n (fun j => .bool (decide (j ∈ nx i)))
  old : ∀ b, b < C → b ≠ X1 → b ≠ X2 → (b < A + 1 ∨ A + 1 + n ≤ b) → wr.heap[b]? = w3.heap[b]?
  gr : Gr n nx
  cnt : ∀ t, t < n → inn t = into n nx (fun _ => 0) t
  len : ∀ i, i < n → (nx i).length ≤ k
  inle : ∀ t, t < n → inn t ≤ k
  bel : Below w.heap.size w wr

theorem L3.alloc {A C G X1 X2 n k : Nat} {w w3 wr : World} {nx : Nat → List Nat} {vl : Nat → Value} {inn : Nat → Nat} (h : L3 A C G X1 X2 n k w w3 wr nx vl inn) (hw : w.heap.size ≤ C) (o : Obj) : L3 A C G X1 X2 n k w w3 (wr.alloc o) nx vl inn := by
  have hsz := h.sz
  exact ⟨h.er.of (fun b hb _ => Below.heap_alloc wr o b hb), by simp; omega, fun i hi => (h.adj i hi).alloc o, fun b hb h1 h2 h3 => (Below.heap_alloc wr o b (by omega)).trans (h.old b hb h1 h2 h3), h.gr, h.cnt, h.len, h.inle, h.bel.alloc (by omega) o⟩

theorem L3.more {A C G X1 X2 n k : Nat} {w w3 wr : World} {nx : Nat → List Nat} {vl : Nat → Value} {inn : Nat → Nat} (h : L3 A C G X1 X2 n k w w3 wr nx vl inn) : L3 A C G X1 X2 n (k + 1) w w3 wr nx vl inn :=
  { h with len := fun i hi => Nat.le_succ_of_le (h.len i hi), inle := fun t ht => Nat.le_succ_of_le (h.inle t ht) }

theorem L3.step {A C G X1 X2 n k f t : Nat} {w w3 wr w5 : World} {nx : Nat → List Nat} {vl : Nat → Value} {inn : Nat → Nat} {v' : Value} (h : L3 A C G X1 X2 n k w w3 wr nx vl inn) (hf : f < n) (ht : t < n) (hft : f ≠ t)
    (he : ER C w5 G X1 X2 n (upd nx f (nx f ++ [t])) (upd vl f v') (upd inn t (inn t + 1))) (hk : EK G X1 X2 (vl f) wr w5) (hC : C = A + 1 + n) (hX1 : X1 < A ∧ w.heap.size ≤ X1) (hX2 : X2 < A ∧ w.heap.size ≤ X2) (hG : G < A) :
    w5.cell? ⟨A + 1 + f, t, none⟩ = some (.bool (decide (t ∈ nx f))) ∧ w5.frozen? ⟨A + 1 + f, t, none⟩ = false ∧ (∀ b, b < A + 1 → b ≠ X1 → b ≠ X2 → w5.heap[b]? = wr.heap[b]?) ∧
      L3 A C G X1 X2 n (k + 1) w w3 (w5.setCell ⟨A + 1 + f, t, none⟩ (.bool true)) (upd nx f (nx f ++ [t])) (upd vl f v') (upd inn t (inn t + 1)) := by
  have hsz := h.sz
  have own : ∀ b, b < C → (vl f).ownBlock ≠ some b := fun b hb e => by have := ((h.er.lists f hf).lt b e).1; omega
  have k5 : ∀ b, b < C → b ≠ X1 → b ≠ X2 → w5.heap[b]? = wr.heap[b]? := fun b hb h1 h2 => hk.block b (by omega) h1 h2 (own b hb)
  have adj5 : ∀ i, i < n → w5.rowIs (A + 1 + i) 4 n (fun j => .bool (decide (j ∈ nx i))) := fun i hi => (h.adj i hi).of_block (k5 _ (by omega) (by omega) (by omega))
  refine ⟨(adj5 f hf).cell ht, (adj5 f hf).frozen t, fun b hb h1 h2 => k5 b (by omega) h1 h2, ?_⟩
  have k6 : ∀ b, b ≠ A + 1 + f → (w5.setCell ⟨A + 1 + f, t, none⟩ (.bool true)).heap[b]? = w5.heap[b]? := fun b hb => Below.heap_setCell _ _ _ _ hb
  refine ⟨he.of fun b _ hb => k6 b (by rcases hb with e | e | e | e <;> omega), ?_, ?_, ?_, ?_, ?_, ?_, ?_, ?_⟩
  · have := hk.size; simp; omega
  · intro i hi
    by_cases e : i = f
    · subst e
      rw [upd_same]
      refine ((adj5 i hf).set t _).congr fun j _ => ?_
      by_cases c : j = t
      · subst c; simp
      · simp [c]
    · rw [upd_ne _ _ _ e]
      exact (adj5 i hi).of_block (k6 _ (by omega))
  · intro b hb h1 h2 h3
    rw [k6 b (by omega), k5 b hb h1 h2]
    exact h.old b hb h1 h2 h3
  · constructor
    · intro u hu v hv
      by_cases e : u = f
      · subst e
        rw [upd_same, List.mem_append, List.mem_singleton] at hv
        rcases hv with c | c
        · exact h.gr.lt u hu v c
        · omega
      · rw [upd_ne _ _ _ e] at hv; exact h.gr.lt u hu v hv
    · intro u v hv
      by_cases e : u = f
      · subst e
        rw [upd_same, List.mem_append, List.mem_singleton] at hv
        rcases hv with c | c
        · exact h.gr.ne u v c
        · exact fun e => hft (by omega)
      · rw [upd_ne _ _ _ e] at hv; exact h.gr.ne u v hv
  · intro v hv
    rw [into_add hf]
    by_cases e : v = t
    · subst e; rw [upd_same, if_pos rfl, h.cnt v hv]
    · rw [upd_ne _ _ _ e, if_neg e, h.cnt v hv]; rfl
  · intro i hi
    by_cases e : i = f
    · subst e; rw [upd_same, List.length_append, List.length_singleton]; have := h.len i hi; omega
    · rw [upd_ne _ _ _ e]; have := h.len i hi; omega
  · intro v hv
    by_cases e : v = t
    · subst e; rw [upd_same]; have := h.inle v hv; omega
    · rw [upd_ne _ _ _ e]; have := h.inle v hv; omega
  · refine h.bel.trans ⟨hk.os, hk.tape, hk.output, ?_, fun b hb => ?_⟩
    · have := hk.size; simp; omega
    · rw [k6 b (by omega), k5 b (by omega) (by omega) (by omega)]

/-- What 'build' leaves. -/
structure Built (w w' : World) (n r : Nat) (G NB IB A TX : Nat) (AB : Nat → Nat) (vo : Value) (nx : Nat → List Nat) (na : Nat → Option Addr) (nc : Nat → Nat) : Prop where
  rlt : r < n
  gr : Gr n nx
  grep : GRep w' G NB n nx na nc
  inn : w'.rowIs IB 3 n (nv (into n nx fun _ => 0))
  gin : w'.cell? ⟨G, 2, none⟩ = some (.slice (some ⟨IB, 0, none⟩) n n)
  gtx : w'.cell? ⟨G, 0, none⟩ = some (.slice (some ⟨TX, 0, none⟩) n n)
  tx : ∀ i, i < n → w'.cell? ⟨TX, i, none⟩ = some (.int .i64 (tf n r i : Int))
  adj : AR w' A n AB nx
  od : ∃ b, vo = .slice (some ⟨b, 0, none⟩) n n ∧ ∀ i, i < n → w'.cell? ⟨b, i, none⟩ = some (.int .i64 (tf n r i : Int))
  bel : Below w.heap.size w w'

/-- Ahead of round k of the second loop. -/
structure L2 (A n k : Nat) (w1 wr : World) : Prop where
  row : wr.rowIs A 30 n (fun j => if j < k then .slice (some ⟨A + 1 + j, 0, none⟩) n n else .slice none 0 0)
  bits : ∀ j, j < k → wr.rowIs (A + 1 + j) 4 n (fun _ => .bool false)
  sz : wr.heap.size = A + 1 + k
  bel : Below A w1 wr

theorem L2.start {A n : Nat} {w1 : World} (h : w1.heap.size = A) : L2 A n 0 w1 (w1.alloc (.cells (madeCells #[.slice none 0 0] n) 30)) := by
  have h0 := World.rowIs_made w1 (.slice none 0 0) n 30
  rw [h] at h0
  exact ⟨h0.congr (fun j _ => by simp), fun j hj => by omega, by simp [h], (Below.refl _ _).alloc (by omega) _⟩

theorem L2.step {A n k : Nat} {w1 wr : World} (h : L2 A n k w1 wr) : L2 A n (k + 1) w1 ((wr.setCell ⟨A, k, none⟩ (.slice (some ⟨A + 1 + k, 0, none⟩) n n)).alloc (.cells (madeCells #[.bool false] n) 4)) := by
  have hb := World.rowIs_made (wr.setCell ⟨A, k, none⟩ (.slice (some ⟨A + 1 + k, 0, none⟩) n n)) (.bool false) n 4
  have hsz := h.sz
  simp [hsz] at hb
  refine ⟨((h.row.set k _).congr (fun j _ => ?_)).alloc _, fun j hj => ?_, by simp [h.sz]; omega, (h.bel.setCell (Nat.le_refl _) _).alloc (by simp; omega) _⟩
  · by_cases e : j = k
    · subst e; simp
    · by_cases e2 : j < k
      · simp [e, e2, show j < k + 1 by omega]
      · simp [e, e2, show ¬ j < k + 1 by omega]
  · by_cases e : j = k
    · subst e; exact hb
    · exact ((h.bits j (by omega)).setOther (by show A + 1 + j ≠ A; omega) _).alloc _

theorem tot_none (n : Nat) : tot (fun _ => 0) n = 0 := by
  induction n with
  | zero => rfl
  | succ n ih => simp [tot, ih]

theorem L3.start {A B n r X0 X1 X2 : Nat} {w w1 w3 : World} (h1 : L1 B n r n X0 X1 X2 w w1) (h2 : L2 A n n w1 w3) (hA : w1.heap.size = A) (hB : B = w.heap.size) (l1 : B ≤ X1 ∧ X1 < B + 3) (l2 : B ≤ X2 ∧ X2 < B + 3) :
    L3 A (A + 1 + n) (B + 3) X1 X2 n 0 w w3 w3 (fun _ => []) (fun _ => .slice none 0 0) (fun _ => 0) := by
  have hs := h1.sz
  have up : ∀ {b t m f}, w1.rowIs b t m f → b < A → w3.rowIs b t m f := fun h hb => h.of_block (h2.bel.block _ hb)
  have rg := up h1.rg (by omega)
  refine ⟨⟨by omega, by omega, rg.cell (i := 1) (by omega), rg.cell (i := 2) (by omega), up h1.r1 (by omega), up h1.r2 (by omega), fun i _ => Slc.nil _ _ _ _ _, fun i j _ _ _ b hb => (by cases hb), fun i _ => ⟨fun h => (by cases h), fun h => (by cases h)⟩⟩,
    by rw [h2.sz]; exact Nat.le_refl _, fun i hi => (h2.bits i hi).congr (fun j _ => by simp), fun b _ _ _ _ => rfl, ⟨(fun u _ v hv => by cases hv), (fun u v hv => by cases hv)⟩, fun t _ => ?_, fun i _ => Nat.le_refl _, fun t _ => Nat.le_refl _, ?_⟩
  · unfold into
    simp [tot_none]
  · rw [← hB]
    exact h1.bel.trans ((h2.bel).mono (by omega))

theorem Built.of {A B n r L X0 X1 X2 : Nat} {w w1 w3 wr : World} {nx : Nat → List Nat} {vl : Nat → Value} {inn : Nat → Nat} (h1 : L1 B n r n X0 X1 X2 w w1) (h2 : L2 A n n w1 w3) (hA : w1.heap.size = A) (l0 : B ≤ X0 ∧ X0 < B + 3) (l1 : B ≤ X1 ∧ X1 < B + 3) (l2 : B ≤ X2 ∧ X2 < B + 3) (d01 : X0 ≠ X1) (d02 : X0 ≠ X2)
    (h3 : L3 A (A + 1 + n) (B + 3) X1 X2 n L w w3 wr nx vl inn) (hL : L ≤ 2000) (hrn : r < n) :
    ∃ na nc, Built w wr n r (B + 3) X1 X2 A X0 (fun i => A + 1 + i) (.slice (some ⟨B + 4, 0, none⟩) n n) nx na nc := by
  have hs := h1.sz
  have old : ∀ b, b < A + 1 → b ≠ X1 → b ≠ X2 → wr.heap[b]? = w3.heap[b]? := fun b hb e1 e2 => h3.old b (by omega) e1 e2 (.inl hb)
  have old1 : ∀ b, b < A → b ≠ X1 → b ≠ X2 → wr.heap[b]? = w1.heap[b]? := fun b hb e1 e2 => (old b (by omega) e1 e2).trans (h2.bel.block b hb)
  have hf : ∀ i, ∃ p : Option Addr × Nat, i < n → vl i = .slice p.1 (nx i).length p.2 ∧ (0 < (nx i).length → ∃ b, p.1 = some ⟨b, 0, none⟩) := fun i => by
    by_cases hi : i < n
    · obtain ⟨a, c, e1, e2⟩ := (h3.er.lists i hi).form
      exact ⟨(a, c), fun _ => ⟨e1, e2⟩⟩
    · exact ⟨(none, 0), fun h => absurd h hi⟩
  refine ⟨fun i => (Classical.choose (hf i)).1, fun i => (Classical.choose (hf i)).2, hrn, h3.gr, ⟨h3.er.g1, fun i hi => ?_, fun i hi j u hu => ?_, fun i hi => Nat.le_trans (h3.len i hi) hL⟩, ?_, h3.er.g2, ?_, ?_, ⟨fun i hi => ?_, fun i hi j hj => (h3.adj i hi).cell hj⟩, ⟨B + 4, rfl, ?_⟩, h3.bel⟩
  · rw [h3.er.row1.cell hi, ← (Classical.choose_spec (hf i) hi).1]
  · have hl := (List.getElem?_eq_some_iff.1 hu).1
    obtain ⟨e1, e2⟩ := Classical.choose_spec (hf i) hi
    obtain ⟨b, hb⟩ := e2 (by omega)
    refine ⟨b, hb, ?_⟩
    have hsl := h3.er.lists i hi
    rw [e1, hb] at hsl
    rw [hsl.cell (i := j) (by omega)]
    unfold lv
    rw [List.getD_eq_getElem?_getD, hu]
    rfl
  · exact h3.er.row2.congr fun j hj => by unfold nv; rw [h3.cnt j hj]
  · rw [World.cell?_of_block (w := w1) (old1 (B + 3) (by omega) (by omega) (by omega))]
    exact h1.rg.cell (i := 0) (by omega)
  · intro i hi
    rw [World.cell?_of_block (w := w1) (old1 X0 (by omega) d01 d02)]
    exact h1.tx.cell (i := i) (by omega)
  · have := h2.row.cell hi
    rw [if_pos hi] at this
    rw [World.cell?_of_block (w := w3) (old A (by omega) (by omega) (by omega))]
    exact this
  · intro i hi
    rw [World.cell?_of_block (w := w1) (old1 (B + 4) (by omega) (by omega) (by omega))]
    exact h1.od.cell (i := i) (by omega)

end Go.Proofs.Ybulkcuye.A
