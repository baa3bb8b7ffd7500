/- Plain: walks in a graph given by its lists of successors. No Go in sight. -/
import Derived.Handy
namespace Go.Proofs.Ybulkcuye.A

/-- A walk of k edges. -/
def Wk (nx : Nat → List Nat) : Nat → Nat → Nat → Prop
  | 0, u, v => u = v
  | k + 1, u, v => ∃ m, m ∈ nx u ∧ Wk nx k m v

theorem Wk.append {nx : Nat → List Nat} : ∀ {j k u v x}, Wk nx j u v → Wk nx k v x → Wk nx (j + k) u x
  | 0, k, u, v, x, h, g => by
    have h' : u = v := h
    subst h'
    rw [Nat.zero_add]
    exact g
  | j + 1, k, u, v, x, ⟨m, hm, h⟩, g => by
    rw [Nat.succ_add]
    exact ⟨m, hm, Wk.append h g⟩

theorem Wk.snoc {nx : Nat → List Nat} {k u v x : Nat} (h : Wk nx k u v) (e : x ∈ nx v) : Wk nx (k + 1) u x := Wk.append h ⟨x, e, rfl⟩

theorem Wk.last {nx : Nat → List Nat} : ∀ {k u x}, Wk nx (k + 1) u x → ∃ v, Wk nx k u v ∧ x ∈ nx v
  | 0, u, x, ⟨m, hm, h⟩ => by
    have h' : m = x := h
    subst h'
    exact ⟨u, rfl, hm⟩
  | k + 1, u, x, ⟨m, hm, h⟩ => by
    obtain ⟨v, hv, hx⟩ := Wk.last h
    exact ⟨v, ⟨m, hm, hv⟩, hx⟩

/-- Reached by some walk. -/
def Rc (nx : Nat → List Nat) (u v : Nat) : Prop := ∃ k, Wk nx k u v
theorem Rc.refl {nx : Nat → List Nat} (u : Nat) : Rc nx u u := ⟨0, rfl⟩
theorem Rc.trans {nx : Nat → List Nat} {u v x : Nat} (h : Rc nx u v) (g : Rc nx v x) : Rc nx u x := by
  obtain ⟨j, hj⟩ := h
  obtain ⟨k, hk⟩ := g
  exact ⟨j + k, hj.append hk⟩
theorem Rc.edge {nx : Nat → List Nat} {u v : Nat} (h : v ∈ nx u) : Rc nx u v := ⟨1, v, h, rfl⟩
theorem Rc.step {nx : Nat → List Nat} {u v x : Nat} (h : Rc nx u v) (g : x ∈ nx v) : Rc nx u x := h.trans (Rc.edge g)

/-- A set that no edge leaves is left by no walk. -/
theorem Rc.closed {nx : Nat → List Nat} {S : Nat → Prop} (hS : ∀ u, S u → ∀ v, v ∈ nx u → S v) {u v : Nat} (h : Rc nx u v) (hu : S u) : S v := by
  obtain ⟨k, hk⟩ := h
  induction k generalizing u with
  | zero =>
    have hk' : u = v := hk
    subst hk'
    exact hu
  | succ k ih =>
    obtain ⟨m, hm, hk⟩ := hk
    exact ih (hS u hu m hm) hk

/-- A graph over the numbers below n, without loops. -/
structure Gr (n : Nat) (nx : Nat → List Nat) : Prop where
  lt : ∀ u, u < n → ∀ v, v ∈ nx u → v < n
  ne : ∀ u v, v ∈ nx u → v ≠ u

theorem Gr.rc_lt {n : Nat} {nx : Nat → List Nat} (g : Gr n nx) {u v : Nat} (h : Rc nx u v) (hu : u < n) : v < n :=
  Rc.closed (S := fun u => u < n) (fun u hu v hv => g.lt u hu v hv) h hu

/-- The state of the search: how many are reached, the index (0: not reached), the low number, the component (-1: not known), the open ones, the calls, how many edges of each were taken, the sizes. -/
structure TS where
  cnt : Nat
  idx : Nat → Nat
  low : Nat → Nat
  comp : Nat → Int
  op : Nat → Nat
  ol : Nat
  ct : Nat → Nat
  cl : Nat
  pr : Nat → Nat
  sz : Nat → Nat
  sl : Nat

def upd {α : Type} (f : Nat → α) (i : Nat) (x : α) : Nat → α := fun j => if j = i then x else f j
theorem upd_same {α : Type} (f : Nat → α) (i : Nat) (x : α) : upd f i x i = x := by simp [upd]
theorem upd_ne {α : Type} (f : Nat → α) (i : Nat) (x : α) {j : Nat} (h : j ≠ i) : upd f i x j = f j := by simp [upd, h]

/-- Reached, of no known component. -/
def TS.Op (s : TS) (v : Nat) : Prop := s.idx v ≠ 0 ∧ s.comp v = -1
def TS.Gray (s : TS) (v : Nat) : Prop := ∃ i, i < s.cl ∧ s.ct i = v

structure TI (n : Nat) (nx : Nat → List Nat) (s : TS) : Prop where
  idx_le : ∀ v, v < n → s.idx v ≤ s.cnt
  inj : ∀ u v, u < n → v < n → s.idx u = s.idx v → s.idx u ≠ 0 → u = v
  comp_of : ∀ v, v < n → s.comp v = -1 ∨ (0 ≤ s.comp v ∧ s.comp v < (s.sl : Int) ∧ s.idx v ≠ 0)
  surj : ∀ c, 0 < c → c ≤ s.cnt → ∃ v, v < n ∧ s.idx v = c
  inh : ∀ c : Nat, c < s.sl → ∃ v, v < n ∧ s.comp v = c
  op_lt : ∀ i, i < s.ol → s.op i < n
  op_op : ∀ i, i < s.ol → s.Op (s.op i)
  op_up : ∀ i j, i < j → j < s.ol → s.idx (s.op i) < s.idx (s.op j)
  op_all : ∀ v, v < n → s.Op v → ∃ i, i < s.ol ∧ s.op i = v
  ct_lt : ∀ i, i < s.cl → s.ct i < n
  ct_op : ∀ i, i < s.cl → s.Op (s.ct i)
  ct_up : ∀ i j, i < j → j < s.cl → s.idx (s.ct i) < s.idx (s.ct j)
  pr_le : ∀ i, i < s.cl → s.pr (s.ct i) ≤ (nx (s.ct i)).length
  black : ∀ v, v < n → s.idx v ≠ 0 → ¬ s.Gray v → s.pr v = (nx v).length + 1
  seen : ∀ v, v < n → s.idx v ≠ 0 → ∀ j u, j < s.pr v → (nx v)[j]? = some u → s.idx u ≠ 0 ∧ (s.Op v → s.Op u → s.low v ≤ s.idx u)
  done : ∀ v, v < n → 0 ≤ s.comp v → ∀ u, u ∈ nx v → 0 ≤ s.comp u
  scc : ∀ u v, u < n → v < n → 0 ≤ s.comp u → 0 ≤ s.comp v → (s.comp u = s.comp v ↔ Rc nx u v ∧ Rc nx v u)
  size : ∀ c, c < s.sl → (1 < s.sz c ↔ ∃ u v, u < n ∧ v < n ∧ u ≠ v ∧ s.comp u = c ∧ s.comp v = c)
  down : ∀ i v, i < s.cl → v < n → s.idx (s.ct i) ≤ s.idx v → Rc nx (s.ct i) v
  back : ∀ v, v < n → s.Op v → ¬ s.Gray v → s.low v < s.idx v ∧ ∃ x, x < n ∧ s.Op x ∧ s.idx x = s.low v ∧ Rc nx v x
  under : ∀ i v, i < s.cl → v < n → s.Op v → ¬ s.Gray v → s.idx (s.ct i) < s.idx v → (i + 1 < s.cl → s.idx v < s.idx (s.ct (i + 1))) → s.low (s.ct i) ≤ s.low v
  own : ∀ i, i < s.cl → s.low (s.ct i) ≤ s.idx (s.ct i) ∧ ∃ x, x < n ∧ s.Op x ∧ s.idx x = s.low (s.ct i) ∧ Rc nx (s.ct i) x

/-- What is left to do. -/
def tot (f : Nat → Nat) : Nat → Nat
  | 0 => 0
  | n + 1 => tot f n + f n

theorem tot_le {f g : Nat → Nat} : ∀ {n : Nat}, (∀ v, v < n → f v ≤ g v) → tot f n ≤ tot g n
  | 0, _ => Nat.le_refl _
  | n + 1, h => by
    have := tot_le (n := n) fun v hv => h v (by omega)
    have := h n (by omega)
    simp only [tot]
    omega

theorem tot_lt {f g : Nat → Nat} {x : Nat} : ∀ {n : Nat}, (∀ v, v < n → f v ≤ g v) → x < n → f x < g x → tot f n < tot g n
  | 0, _, h, _ => absurd h (by omega)
  | n + 1, h, hx, hl => by
    simp only [tot]
    by_cases e : x = n
    · subst e
      have := tot_le (n := x) fun v hv => h v (by omega)
      omega
    · have := tot_lt (n := n) (fun v hv => h v (by omega)) (by omega) hl
      have := h n (by omega)
      omega

def TS.left (nx : Nat → List Nat) (s : TS) (v : Nat) : Nat := if s.idx v = 0 then (nx v).length + 2 else (nx v).length + 1 - s.pr v
def TS.todo (n : Nat) (nx : Nat → List Nat) (s : TS) : Nat := tot (s.left nx) n

def TS.init : TS := ⟨0, fun _ => 0, fun _ => 0, fun _ => -1, fun _ => 0, 0, fun _ => 0, 0, fun _ => 0, fun _ => 0, 0⟩

theorem TI.init (n : Nat) (nx : Nat → List Nat) : TI n nx TS.init := by
  constructor <;> intros <;> simp_all [TS.init, TS.Op]

end Go.Proofs.Ybulkcuye.A
