/- What the walk of 'components' (func 16) wants besides: the state's steps in memory. -/
import Derived.Test.YbulkcuyeAReachW
namespace Go.Proofs.Ybulkcuye.A
open Go.RowKit

/-- The graph as it lies in memory: the block of its three fields, the block of the successors' slices. -/
structure GRep (w : World) (G NB n : Nat) (nx : Nat → List Nat) (na : Nat → Option Addr) (nc : Nat → Nat) : Prop where
  head : w.cell? ⟨G, 1, none⟩ = some (.slice (some ⟨NB, 0, none⟩) n n)
  rows : ∀ i, i < n → w.cell? ⟨NB, i, none⟩ = some (.slice (na i) (nx i).length (nc i))
  elem : ∀ i, i < n → ∀ j u : Nat, (nx i)[j]? = some u → ∃ b, na i = some ⟨b, 0, none⟩ ∧ w.cell? ⟨b, j, none⟩ = some (.int .i64 (u : Int))
  len : ∀ i, i < n → (nx i).length ≤ 2000

theorem cell_lt {w : World} {a : Addr} {v : Value} (h : w.cell? a = some v) : a.block < w.heap.size := World.block_lt_of_cell? w a h
theorem later {w w' : World} {a : Addr} {v : Value} (b : Below w.heap.size w w') (h : w.cell? a = some v) : w'.cell? a = some v := (b.cell (cell_lt h)).trans h

theorem GRep.below {w w' : World} {G NB n : Nat} {nx : Nat → List Nat} {na : Nat → Option Addr} {nc : Nat → Nat} (h : GRep w G NB n nx na nc) (b : Below w.heap.size w w') : GRep w' G NB n nx na nc :=
  ⟨later b h.head, fun i hi => later b (h.rows i hi), fun i hi j u hu => by obtain ⟨c, h1, h2⟩ := h.elem i hi j u hu; exact ⟨c, h1, later b h2⟩, h.len⟩

/-- A least number with p, of whatever p holds somewhere. -/
theorem least_ex : ∃ μ : (Nat → Prop) → Nat, ∀ p m, p m → p (μ p) ∧ μ p ≤ m := by
  have key : ∀ p : Nat → Prop, ∃ k, ∀ m, p m → p k ∧ k ≤ m := by
    intro p
    by_cases h : ∃ m, p m
    · obtain ⟨m, hm⟩ := h
      induction m using Nat.strongRecOn with
      | _ m ih =>
        by_cases c : ∃ j, j < m ∧ p j
        · obtain ⟨j, hj, hp⟩ := c
          exact ih j hj hp
        · exact ⟨m, fun j hj => ⟨hm, by
            rcases Nat.lt_or_ge j m with d | d
            · exact absurd ⟨j, d, hj⟩ c
            · exact d⟩⟩
    · exact ⟨0, fun m hm => absurd ⟨m, hm⟩ h⟩
  exact ⟨fun p => Classical.choose (key p), fun p => Classical.choose_spec (key p)⟩

theorem Rep.pr_ghost {B n : Nat} {s : TS} {w : World} {vo vc vs : Value} (h : Rep B n s w vo vc vs) (p : Nat → Nat) (hp : ∀ i, i < s.cl → p (s.ct i) = s.pr (s.ct i)) : Rep B n { s with pr := p } w vo vc vs :=
  ⟨h.ix, h.bi, h.lo, h.bl, h.co, h.bo, h.bc, h.br, h.ro, h.rc.congr (fun j hj => by
    show callf s.ct s.pr j = callf s.ct p j
    unfold callf
    rw [hp (j / 2) (by omega)]), h.rs, h.apart⟩

theorem Rep.edge_set {B n : Nat} {s : TS} {w : World} {vo vs : Value} {gc k cap t : Nat} (hcl : s.cl = k + 1) (h : Rep B n s w vo (.slice (some ⟨gc, 0, none⟩) (k + 1) cap) vs) (ht : s.ct k = t) (hne : ∀ i, i < k → s.ct i ≠ t) (x : Nat) :
    Rep B n { s with pr := upd s.pr t x } (w.setCell ⟨gc, k * 2 + 1, none⟩ (.int .i64 (x : Int))) vo (.slice (some ⟨gc, 0, none⟩) (k + 1) cap) vs := by
  have hrc := h.rc
  rw [hcl] at hrc
  have hg : B + 8 ≤ gc := (hrc.lt gc rfl).1
  have off : ∀ b, b ≠ gc → (w.setCell ⟨gc, k * 2 + 1, none⟩ (.int .i64 (x : Int))).heap[b]? = w.heap[b]? := fun b hb => Below.heap_setCell _ _ _ _ hb
  refine ⟨h.ix.of_block (off _ (by omega)), h.bi.of_block (off _ (by omega)), h.lo.of_block (off _ (by omega)), h.bl.of_block (off _ (by omega)), h.co.of_block (off _ (by omega)), h.bo.of_block (off _ (by omega)), h.bc.of_block (off _ (by omega)), h.br.of_block (off _ (by omega)),
    h.ro.of (fun b hb => off b (fun e => h.ro.typed hrc (by decide) b hb (by rw [e]; rfl))), ?_, h.rs.of (fun b hb => off b (fun e => h.rs.typed hrc (by decide) b hb (by rw [e]; rfl))), h.apart⟩
  show Slc _ (B + 8) 76 2 _ s.cl _
  rw [hcl]
  refine (hrc.set (k * 2 + 1) _).congr fun j hj => ?_
  show upd (callf s.ct s.pr) (k * 2 + 1) _ j = callf s.ct (upd s.pr t x) j
  by_cases e : j = k * 2 + 1
  · subst e
    rw [upd_same]
    unfold callf
    rw [if_neg (by omega), show (k * 2 + 1) / 2 = k by omega, ht, upd_same]
  · rw [upd_ne _ _ _ e]
    unfold callf
    by_cases e2 : j % 2 = 0
    · rw [if_pos e2, if_pos e2]
    · rw [if_neg e2, if_neg e2, upd_ne _ _ _ (hne (j / 2) (by omega))]

theorem Rep.calls_pop {B n : Nat} {s : TS} {w : World} {vo vs : Value} {gc k cap : Nat} (hcl : s.cl = k + 1) (h : Rep B n s w vo (.slice (some ⟨gc, 0, none⟩) (k + 1) cap) vs) :
    Rep B n { s with cl := k } (w.setCell ⟨B + 6, 0, none⟩ (.slice (some ⟨gc, 0, none⟩) k cap)) vo (.slice (some ⟨gc, 0, none⟩) k cap) vs := by
  have hrc := h.rc
  rw [hcl] at hrc
  exact ⟨h.ix.setOther (by simp) _, h.bi.setOther (by simp) _, h.lo.setOther (by simp) _, h.bl.setOther (by simp) _, h.co.setOther (by simp) _, h.bo.setOther (by simp) _, (h.bc.set 0 _).congr (fun i hi => by simp [show i = 0 by omega]),
    h.br.setOther (by simp) _, h.ro.low (by simp) _, (hrc.take (by omega)).low (by simp) _, h.rs.low (by simp) _, h.apart⟩

theorem Rep.open_cut {B n : Nat} {s : TS} {w : World} {vc vs : Value} {go k m cap : Nat} (hol : s.ol = m) (h : Rep B n s w (.slice (some ⟨go, 0, none⟩) m cap) vc vs) (hk : k ≤ m) :
    Rep B n { s with ol := k } (w.setCell ⟨B + 5, 0, none⟩ (.slice (some ⟨go, 0, none⟩) k cap)) (.slice (some ⟨go, 0, none⟩) k cap) vc vs := by
  have hro := h.ro
  rw [hol] at hro
  exact ⟨h.ix.setOther (by simp) _, h.bi.setOther (by simp) _, h.lo.setOther (by simp) _, h.bl.setOther (by simp) _, h.co.setOther (by simp) _, (h.bo.set 0 _).congr (fun i hi => by simp [show i = 0 by omega]), h.bc.setOther (by simp) _,
    h.br.setOther (by simp) _, (hro.take hk).low (by simp) _, h.rc.low (by simp) _, h.rs.low (by simp) _, h.apart⟩

theorem Rep.size_app {B n : Nat} {s : TS} {w : World} {vo vc vs : Value} (h : Rep B n s w vo vc vs) (hl : s.sl ≤ 100000) (x : Nat) :
    ∃ (b cap : Nat) (w1 : World), (Builtin.append_ #[25, 25] 25 #[vs, .slice (some ⟨w.heap.size, 0, none⟩) 1 1]).run Yba.prog (w.alloc (.cells #[.int .i64 (x : Int)] 3)) = .ok (.slice (some ⟨b, 0, none⟩) (s.sl + 1) cap) w1 ∧
      Rep B n { s with sz := upd s.sz s.sl x, sl := s.sl + 1 } w1 vo vc (.slice (some ⟨b, 0, none⟩) (s.sl + 1) cap) ∧ Below B w w1 := by
  have hsz : B + 8 ≤ w.heap.size := h.br.lt
  obtain ⟨b, cap, w1, hrun, hsl, hgrow, hb⟩ := h.rs.app hsz hl (x : Int)
  have hlow : ∀ k, k < B + 8 → w1.heap[k]? = w.heap[k]? := fun k hk =>
    (hgrow.block k (by simp; omega) (fun e => by have := (h.rs.lt k e.symm).1; omega)).trans (Below.heap_alloc _ _ _ (by omega))
  have hother : ∀ k, k < w.heap.size → vs.ownBlock ≠ some k → w1.heap[k]? = w.heap[k]? := fun k hk hne =>
    (hgrow.block k (by simp; omega) (fun e => hne e.symm)).trans (Below.heap_alloc _ _ _ (by omega))
  refine ⟨b, cap, w1, hrun, ?_, ⟨hgrow.os, hgrow.tape, hgrow.output, by have := hgrow.size; simp at this; omega, fun k hk => hlow k (by omega)⟩⟩
  refine ⟨h.ix.of_block (hlow _ (by omega)), h.bi.of_block (hlow _ (by omega)), h.lo.of_block (hlow _ (by omega)), h.bl.of_block (hlow _ (by omega)), h.co.of_block (hlow _ (by omega)), h.bo.of_block (hlow _ (by omega)), h.bc.of_block (hlow _ (by omega)), h.br.of_block (hlow _ (by omega)), ?_, ?_, ?_, ?_⟩
  · exact h.ro.of fun k hk => hother k (h.ro.lt k hk).2 (h.apart k hk)
  · exact h.rc.of fun k hk => hother k (h.rc.lt k hk).2 (h.rc.typed h.rs (by decide) k hk)
  · refine hsl.congr fun i _ => ?_
    unfold nv upd
    by_cases e : i = s.sl <;> simp [e]
  · intro k hk hk'
    have hkb : b = k := by simpa [Value.ownBlock] using hk'
    subst hkb
    rcases hb with e | e
    · exact h.apart b hk e
    · have := (h.ro.lt b hk).2; omega

theorem TI.cnt_le {n : Nat} {nx : Nat → List Nat} {s : TS} (h : TI n nx s) : s.cnt ≤ n := by
  have hx : ∀ c, ∃ v, c < s.cnt → v < n ∧ s.idx v = c + 1 := fun c => by
    by_cases e : c < s.cnt
    · obtain ⟨v, h1, h2⟩ := h.surj (c + 1) (by omega) (by omega)
      exact ⟨v, fun _ => ⟨h1, h2⟩⟩
    · exact ⟨0, fun h => absurd h e⟩
  refine pigeon n s.cnt (fun c => Classical.choose (hx c)) (fun c hc => (Classical.choose_spec (hx c) hc).1) (fun a b hab hb e => ?_)
  have h1 := (Classical.choose_spec (hx a) (by omega)).2
  have h2 := (Classical.choose_spec (hx b) hb).2
  rw [e] at h1
  omega
theorem TI.ol_le {n : Nat} {nx : Nat → List Nat} {s : TS} (h : TI n nx s) : s.ol ≤ n :=
  pigeon n s.ol s.op h.op_lt fun a b hab hb e => by have := h.op_up a b hab hb; rw [e] at this; omega
theorem TI.ct_ne {n : Nat} {nx : Nat → List Nat} {s : TS} (h : TI n nx s) : ∀ i j, i < j → j < s.cl → s.ct i ≠ s.ct j := fun i j hij hj e => by
  have := h.ct_up i j hij hj
  rw [e] at this
  omega
theorem TI.cl_le {n : Nat} {nx : Nat → List Nat} {s : TS} (h : TI n nx s) : s.cl ≤ n := pigeon n s.cl s.ct h.ct_lt h.ct_ne

theorem TI.sl_le {n : Nat} {nx : Nat → List Nat} {s : TS} (h : TI n nx s) : s.sl ≤ n := by
  have hx : ∀ c : Nat, ∃ v, c < s.sl → v < n ∧ s.comp v = c := fun c => by
    by_cases e : c < s.sl
    · obtain ⟨v, h1, h2⟩ := h.inh c e
      exact ⟨v, fun _ => ⟨h1, h2⟩⟩
    · exact ⟨0, fun h => absurd h e⟩
  refine pigeon n s.sl (fun c => Classical.choose (hx c)) (fun c hc => (Classical.choose_spec (hx c) hc).1) (fun a b hab hb e => ?_)
  have h1 := (Classical.choose_spec (hx a) (by omega)).2
  have h2 := (Classical.choose_spec (hx b) hb).2
  rw [e] at h1
  omega

/-- Each round does some of what is left. -/
theorem todo_lt {n : Nat} {nx : Nat → List Nat} {s s' : TS} {t : Nat} (ht : t < n) (h1 : s.idx t ≠ 0) (h2 : s'.idx t ≠ 0) (hlt : s.pr t < s'.pr t) (hle : s.pr t ≤ (nx t).length) (ho : ∀ v, v < n → v ≠ t → s'.left nx v ≤ s.left nx v) : s'.todo n nx < s.todo n nx := by
  refine tot_lt (x := t) (fun v hv => ?_) ht ?_
  · by_cases e : v = t
    · subst e
      unfold TS.left
      rw [if_neg h1, if_neg h2]
      omega
    · exact ho v hv e
  · unfold TS.left
    rw [if_neg h1, if_neg h2]
    omega

end Go.Proofs.Ybulkcuye.A
