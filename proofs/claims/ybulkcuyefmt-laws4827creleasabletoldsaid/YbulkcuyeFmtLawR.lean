import Derived.Test.YbulkcuyeFmtLawH
import Derived.Test.YbulkcuyeFmtRel
namespace Go.Proofs.YbulkcuyeFmt
open Go.RowKit Go.Extern.Stop Go.Stop Go.Extern

theorem has123 : (Ybaf.prog.info? 123).isSome = true := by kernel_rfl
theorem has121 : (Ybaf.prog.info? 121).isSome = true := by kernel_rfl
theorem comp121 : (Ybaf.prog.info? 121).map (·.comparable) = some true := by kernel_rfl
theorem eql98 (w : World) (x : Addr) : (binOp .eql 98 (.iface 121 (.pointer (some x))) (.iface 121 (.pointer (some x)))).run Ybaf.prog w = .ok (.bool true) w := by
  obtain ⟨j, hj⟩ := Option.isSome_iff_exists.1 has123
  obtain ⟨k, hk⟩ := Option.isSome_iff_exists.1 has121
  have hc := comp121
  rw [hk] at hc
  have hkc : k.comparable = true := by simpa using hc
  have h : ∀ d, (Op.equalIn (d + 1 + 1) 98 (.iface 121 (.pointer (some x))) (.iface 121 (.pointer (some x)))).run Ybaf.prog w = .ok true w := fun d => by
    rw [Op.equalIn]
    simp [run_underlying Ybaf.underlying98, equal_self w 121 123 j (some x) Ybaf.underlying121 hj d, typeInfo, hk, hkc]
  simp only [binOp]
  simp [Op.equal, Op.maxDepth, h 9998]

/-- What releasable answers, whatever the state. -/
def Ans (st r : Int) (p : Option Addr) (n : Nat) (nm : Nat → ByteArray) (md : Nat → Int) (q : ByteArray) (x0 x1 x2 x3 : Addr) (v : Int) (er : Value) : Prop :=
  if st = 0 then (if p = none then (if r = 0 then v = 0 ∧ er = .iface 121 (.pointer (some x3)) else Out r n nm md q v er) else v = 0 ∧ er = .iface 121 (.pointer (some x2))) else v = 0 ∧ er = .iface 121 (.pointer (some (if st = 2 then x0 else x1)))

theorem rel_all (F : Interp) (b m g n cap : Nat) (r st : Int) (p : Option Addr) (eb : Nat → Nat) (nm : Nat → ByteArray) (md : Nat → Int) (x0 x1 x2 x3 : Addr) (q : ByteArray) (w : World) (hF : F.answers w.tape) (ht : TxnAt w b m r st (.slice (some ⟨g, 0, none⟩) n cap) p) (hs : Sent w x0 x1 x2 x3) (h4 : 4 ≤ w.heap.size)
    (hn : n ≤ 512) (hg : g < w.heap.size) (hrow : ∀ j, j < n → w.cell? ⟨g, j, none⟩ = some (.pointer (some ⟨eb j, 0, none⟩))) (heb : ∀ j, j < n → eb j < w.heap.size) (hnm : ∀ j, j < n → w.cell? ⟨eb j, 0, none⟩ = some (.string (nm j)))
    (hmode : ∀ j, j < n → ∀ W, Below w.heap.size w W → Calls Ybaf.prog 11 #[.pointer (some ⟨eb j, 0, none⟩), .pointer (some ⟨b, 0, none⟩)] W fun e w' => e = .returned (.int .u8 (md j)) ∧ w' = W) :
    Calls Ybaf.prog 5 #[.pointer (some ⟨b, 0, none⟩), .string q] w fun e w' => (∃ v er, e = .returned (.tuple #[.int .i64 v, er]) ∧ Ans st r p n nm md q x0 x1 x2 x3 v er) ∧ Below w.heap.size w w' := by
  by_cases hst : st = 0
  · subst hst
    cases p with
    | none =>
      by_cases hr : r = 0
      · subst hr
        exact (rel_rig b m _ x0 x1 x2 x3 q w ht hs h4).mono fun e w' ⟨he, hb⟩ => ⟨⟨_, _, he, by simp [Ans]⟩, hb⟩
      · exact (rel_main F b m g n cap r eb nm md x0 x1 x2 x3 q w hF ht hs h4 hr hn hg hrow heb hnm hmode).mono fun e w' ⟨⟨v, er, he, ho⟩, hb⟩ => ⟨⟨v, er, he, by simpa [Ans, hr] using ho⟩, hb⟩
    | some a =>
      exact (rel_ended b m r 0 _ (some a) x0 x1 x2 x3 x2 q w ht hs h4 (by simp [running])).mono fun e w' ⟨he, hb⟩ => ⟨⟨_, _, he, by simp [Ans]⟩, hb⟩
  · exact (rel_ended b m r st _ p x0 x1 x2 x3 (if st = 2 then x0 else x1) q w ht hs h4 (by simp [running, hst])).mono fun e w' ⟨he, hb⟩ => ⟨⟨_, _, he, by simp [Ans, hst]⟩, hb⟩

/-- All is laid, and t holds the entries. -/
structure Ready (w wq : World) (m t o N n : Nat) (r st : Int) (p : Option Addr) (mo : Nat → Int) (ot : Nat → Bool) (nm : Nat → ByteArray) (eb : Nat → Nat) : Prop where
  txn : TxnAt wq t m r st (.slice (some ⟨N + 1, 0, none⟩) n n) p
  tr : ∃ f, wq.rowIs t 83 17 f
  orow : ∃ f, wq.rowIs o 83 17 f
  ne : o ≠ t
  names : wq.rowIs N 9 n (nmf nm n)
  list : wq.rowIs (N + 1) 57 n (ebf eb n)
  snap : wq.rowIs (N + 1 + 1) 57 n (ebf eb n)
  ent : ∀ i, i < n → wq.rowIs (eb i) 96 10 (enf (nm i) (holder t o (ot i)) (mo i % 6 + 1))
  bel : Below w.heap.size w wq

theorem Ready.below {w wq w2 : World} {m t o N n : Nat} {r st : Int} {p : Option Addr} {mo : Nat → Int} {ot : Nat → Bool} {nm : Nat → ByteArray} {eb : Nat → Nat} (h : Ready w wq m t o N n r st p mo ot nm eb) (k : Below wq.heap.size wq w2) : Ready w w2 m t o N n r st p mo ot nm eb := by
  obtain ⟨h1, ⟨f, h2⟩, ⟨f', h3⟩, h4, h5, h6, h7, h8, h9⟩ := h
  exact ⟨h1.below k h1.ltb h1.ltm, ⟨f, h2.of_block (k.block _ h2.lt)⟩, ⟨f', h3.of_block (k.block _ h3.lt)⟩, h4, h5.of_block (k.block _ h5.lt), h6.of_block (k.block _ h6.lt), h7.of_block (k.block _ h7.lt), fun i hi => (h8 i hi).of_block (k.block _ (h8 i hi).lt), h9.trans (k.mono h9.size)⟩

theorem ready_of {w W1 wr wq : World} {m t o N n : Nat} {r st : Int} {p : Option Addr} {mo : Nat → Int} {ot : Nat → Bool} {nm : Nat → ByteArray} {eb : Nat → Nat} (hB : Base0 w W1 m t o N r st p n) (hl : Bld W1 wr t o N n n mo ot nm eb) (hbw : Below w.heap.size w wr)
    (hq : Below (wr.setCell ⟨t, 2, none⟩ (.slice (some ⟨N + 1, 0, none⟩) n n)).heap.size (wr.setCell ⟨t, 2, none⟩ (.slice (some ⟨N + 1, 0, none⟩) n n)) wq) : Ready w wq m t o N n r st p mo ot nm eb := by
  have hN := hl.size
  have hm := hB.ltm
  have ht := hB.ltt
  have ho := hB.lto
  have r1 := hB.tx.of_block (hl.bel.block _ ht)
  have r2 := hB.ox.of_block (hl.bel.block _ ho)
  have c1 := (hl.bel.cell (p := ⟨m, 1, none⟩) hm).trans hB.rule
  have s1 := r1.set 2 (.slice (some ⟨N + 1, 0, none⟩) n n)
  have q1 := s1.of_block (hq.block _ s1.lt)
  have s2 := r2.setOther (a := ⟨t, 2, none⟩) (by show o ≠ t; exact hB.ne) (.slice (some ⟨N + 1, 0, none⟩) n n)
  have q2 := s2.of_block (hq.block _ s2.lt)
  have c2 : wq.cell? ⟨m, 1, none⟩ = some (.int .u8 r) := cell_later hq ((World.cell?_setCell_other _ _ _ _ (fun h => by simp at h)).trans c1)
  refine ⟨⟨q1.cell (i := 0) (by omega), c2, q1.cell (i := 2) (by omega), q1.cell (i := 7) (by omega), q1.cell (i := 12) (by omega), q1.lt, ?_⟩, ⟨_, q1⟩, ⟨_, q2⟩, hB.ne, ?_, ?_, ?_, ?_, ?_⟩
  · have := hq.size; rw [World.size_setCell] at this; omega
  · have s := hl.names.setOther (a := ⟨t, 2, none⟩) (by show N ≠ t; omega) (.slice (some ⟨N + 1, 0, none⟩) n n)
    exact s.of_block (hq.block _ s.lt)
  · have s := hl.list.setOther (a := ⟨t, 2, none⟩) (by show N + 1 ≠ t; omega) (.slice (some ⟨N + 1, 0, none⟩) n n)
    exact s.of_block (hq.block _ s.lt)
  · have s := hl.snap.setOther (a := ⟨t, 2, none⟩) (by show N + 1 + 1 ≠ t; omega) (.slice (some ⟨N + 1, 0, none⟩) n n)
    exact s.of_block (hq.block _ s.lt)
  · intro i hi
    obtain ⟨h1, h2⟩ := hl.ent i hi
    have s := h2.setOther (a := ⟨t, 2, none⟩) (by show eb i ≠ t; omega) (.slice (some ⟨N + 1, 0, none⟩) n n)
    exact s.of_block (hq.block _ s.lt)
  · exact (hbw.setCell (p := ⟨t, 2, none⟩) hB.get _).trans (hq.mono (by rw [World.size_setCell]; exact hbw.size))

/-- The mode in which t holds entry i. -/
def mdf (mo : Nat → Int) (ot : Nat → Bool) (i : Nat) : Int := if ot i then 0 else mo i % 6 + 1
theorem Ready.mode {w wq : World} {m t o N n : Nat} {r st : Int} {p : Option Addr} {mo : Nat → Int} {ot : Nat → Bool} {nm : Nat → ByteArray} {eb : Nat → Nat} (h : Ready w wq m t o N n r st p mo ot nm eb) (j : Nat) (hj : j < n) (W : World) (k : Below wq.heap.size wq W) :
    Calls Ybaf.prog 11 #[.pointer (some ⟨eb j, 0, none⟩), .pointer (some ⟨t, 0, none⟩)] W fun e w' => e = .returned (.int .u8 (mdf mo ot j)) ∧ w' = W := by
  have h := h.below k
  have he := h.ent j hj
  unfold mdf
  cases hoj : ot j with
  | false =>
    rw [hoj] at he
    exact mode_own (eb j) t _ W (he.cell (i := 4) (by omega)) (he.cell (i := 2) (by omega)) (he.cell (i := 6) (by omega))
  | true =>
    rw [hoj] at he
    obtain ⟨f, cur, hb, _⟩ := h.tr
    obtain ⟨f', cur', hb', _⟩ := h.orow
    exact mode_other (eb j) t o cur' cur W (he.cell (i := 4) (by omega)) (he.cell (i := 2) (by omega)) (he.cell (i := 3) (by omega)) hb' hb h.ne
end Go.Proofs.YbulkcuyeFmt
