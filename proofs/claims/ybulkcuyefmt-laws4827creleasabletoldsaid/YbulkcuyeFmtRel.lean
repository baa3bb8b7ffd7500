import Derived.Test.YbulkcuyeFmtBack
namespace Go.Proofs.YbulkcuyeFmt
open Go.RowKit Go.Extern.Stop Go.Stop Go.Extern Go.Shelf
attribute [local go_sem] Oper.semAt_some

theorem Sent.below {w w' : World} {B : Nat} {x0 x1 x2 x3 : Addr} (h : Sent w x0 x1 x2 x3) (k : Below B w w') (hB : 4 ≤ B) : Sent w' x0 x1 x2 x3 :=
  ⟨(k.cell (p := ⟨0, 0, none⟩) (by show 0 < B; omega)).trans h.g0, (k.cell (p := ⟨1, 0, none⟩) (by show 1 < B; omega)).trans h.g1, (k.cell (p := ⟨2, 0, none⟩) (by show 2 < B; omega)).trans h.g2, (k.cell (p := ⟨3, 0, none⟩) (by show 3 < B; omega)).trans h.g3⟩

theorem boxes_below (w : World) (o1 o2 o3 o4 : Obj) : Below w.heap.size w ((((w.alloc o1).alloc o2).alloc o3).alloc o4) :=
  ((((Below.refl _ w).alloc (Nat.le_refl _) _).alloc (by simp) _).alloc (by simp; omega) _).alloc (by simp; omega) _

set_option maxRecDepth 20000 in
theorem rel_ended (b m : Nat) (r st : Int) (held : Value) (pend : Option Addr) (x0 x1 x2 x3 x : Addr) (q : ByteArray) (w : World) (ht : TxnAt w b m r st held pend) (hs : Sent w x0 x1 x2 x3) (h4 : 4 ≤ w.heap.size) (hx : running st pend x0 x1 x2 = .iface 121 (.pointer (some x))) :
    Calls Ybaf.prog 5 #[.pointer (some ⟨b, 0, none⟩), .string q] w fun e w' => e = .returned (.tuple #[.int .i64 0, .iface 121 (.pointer (some x))]) ∧ Below w.heap.size w w' := by
  go_enter Ybaf.func5, Ybaf.ntmps5
  go_wp2_with fail
  have hb0 := boxes_below w (.cells #[.pointer (some ⟨b, 0, none⟩)] 71) (.cells #[.string q] 9) (.cells #[.int .i64 0] 3) (.cells #[.nilIface] 98)
  refine (running_any b m r st held pend x0 x1 x2 x3 _ (ht.below hb0 ht.ltb ht.ltm) (hs.below hb0 h4)).mono ?_
  rintro e w' ⟨rfl, rfl⟩
  rw [hx]
  go_wp2
  refine bodyPost_ret (v := .tuple #[.int .i64 0, .iface 121 (.pointer (some x))]) ?_ rfl ⟨rfl, boxes_below w _ _ _ _⟩
  simp [results, Ybaf.f5, go_sem]
set_option maxRecDepth 20000 in
theorem rel_rig (b m : Nat) (held : Value) (x0 x1 x2 x3 : Addr) (q : ByteArray) (w : World) (ht : TxnAt w b m 0 0 held none) (hs : Sent w x0 x1 x2 x3) (h4 : 4 ≤ w.heap.size) :
    Calls Ybaf.prog 5 #[.pointer (some ⟨b, 0, none⟩), .string q] w fun e w' => e = .returned (.tuple #[.int .i64 0, .iface 121 (.pointer (some x3))]) ∧ Below w.heap.size w w' := by
  go_enter Ybaf.func5, Ybaf.ntmps5
  go_wp2_with fail
  have hb0 := boxes_below w (.cells #[.pointer (some ⟨b, 0, none⟩)] 71) (.cells #[.string q] 9) (.cells #[.int .i64 0] 3) (.cells #[.nilIface] 98)
  refine (running_any b m 0 0 held none x0 x1 x2 x3 _ (ht.below hb0 ht.ltb ht.ltm) (hs.below hb0 h4)).mono ?_
  rintro e w' ⟨rfl, rfl⟩
  have c0 : ∀ W, Below w.heap.size w W → W.cell? ⟨b, 0, none⟩ = some (.pointer (some ⟨m, 0, none⟩)) := fun W k => (k.cell (p := ⟨b, 0, none⟩) ht.ltb).trans ht.man
  have c1 : ∀ W, Below w.heap.size w W → W.cell? ⟨m, 1, none⟩ = some (.int .u8 0) := fun W k => (k.cell (p := ⟨m, 1, none⟩) ht.ltm).trans ht.rule
  have c3 : ∀ W, Below w.heap.size w W → W.cell? ⟨3, 0, none⟩ = some (.iface 121 (.pointer (some x3))) := fun W k => (k.cell (p := ⟨3, 0, none⟩) h4).trans hs.g3
  have d0 := ht.man
  have d1 := ht.rule
  have d3 := hs.g3
  simp only [running, if_pos]
  clear d0 d1 d3
  go_wp2

  go_region
  all_goals go_wp2
  all_goals refine bodyPost_ret (v := .tuple #[.int .i64 0, .iface 121 (.pointer (some x3))]) ?_ rfl ⟨rfl, ?_⟩
  · simp [results, Ybaf.f5, go_sem]
  · exact ((boxes_below w _ _ _ _).alloc (by simp; omega) _).drew

/-- Entry j neither lies below q nor is q. -/
def Pass (nm : Nat → ByteArray) (q : ByteArray) (j : Nat) : Prop := below (nm j) q = false ∧ ((nm j).toList == q.toList) = false
/-- What is answered where the search stops at entry i. -/
def At (r : Int) (nm : Nat → ByteArray) (md : Nat → Int) (q : ByteArray) (i : Nat) (v : Int) (er : Value) : Prop :=
  (v = 0 ∧ (∃ p, er = .iface 121 (.pointer (some p))) ∧ (below (nm i) q = true ∨ (below (nm i) q = false ∧ ((nm i).toList == q.toList) = true ∧ r = 1 ∧ md i = 5))) ∨
  (v = (i : Int) ∧ er = .nilIface ∧ below (nm i) q = false ∧ ((nm i).toList == q.toList) = true ∧ ¬ (r = 1 ∧ md i = 5))
def Out (r : Int) (n : Nat) (nm : Nat → ByteArray) (md : Nat → Int) (q : ByteArray) (v : Int) (er : Value) : Prop :=
  ((∀ j, j < n → Pass nm q j) ∧ v = 0 ∧ ∃ p, er = .iface 121 (.pointer (some p))) ∨ ∃ i, i < n ∧ (∀ j, i < j → j < n → Pass nm q j) ∧ At r nm md q i v er

theorem two0 (W : World) (u v : Value) (t : TypeId) : (W.alloc (.cells #[u, v] t)).drew.drew.cell? ⟨W.heap.size, 0, none⟩ = some u := by
  rw [cell_drew_own, cell_drew_own]; simp [go_sem]
theorem two1 (W : World) (u v : Value) (t : TypeId) : (W.alloc (.cells #[u, v] t)).drew.drew.cell? ⟨W.heap.size, 1, none⟩ = some v := by
  rw [cell_drew_own, cell_drew_own]; simp [go_sem]
theorem err_kept {W w' : World} {o : Obj} {a : Addr} {v : Value} (hb : Below (W.alloc o).drew.drew.heap.size (W.alloc o).drew.drew w') (h : W.cell? a = some v) (f : W.frozen? a = false) : w'.cell? a = some v ∧ w'.frozen? a = false := by
  have hlt : a.block < W.heap.size := by
    rcases Nat.lt_or_ge a.block W.heap.size with h' | h'
    · exact h'
    · simp [World.cell?, Array.getElem?_eq_none h'] at h
  have hb2 : Below W.heap.size W w' := ((Below.refl _ W).alloc (Nat.le_refl _) o).drew.drew.trans (hb.mono (by show W.heap.size ≤ (W.alloc o).heap.size; simp))
  exact ⟨(hb2.cell hlt).trans h, (hb2.frozen hlt).trans f⟩
/-- Since W nothing has turned below A, and nothing that is no cells. -/
structure Grew (A : Nat) (W W' : World) : Prop where
  below : Below A W W'
  keeps : KeepsOthers W W'
theorem Grew.refl (A : Nat) (W : World) : Grew A W W := ⟨Below.refl _ _, KeepsOthers.refl _⟩
theorem Grew.setCell {A k o : Nat} {W W' : World} (hk : A ≤ k) (v : Value) (h : Grew A W W') : Grew A W (W'.setCell ⟨k, o, none⟩ v) := ⟨h.below.setCell hk v, h.keeps.trans (KeepsOthers.setCell _ _ _)⟩
theorem Grew.alloc {A : Nat} {W W' : World} (o : Obj) (hA : A ≤ W.heap.size) (h : Grew A W W') : Grew A W (W'.alloc o) := ⟨h.below.alloc (Nat.le_trans hA h.below.size) o, h.keeps.trans (KeepsOthers.alloc _ _)⟩
theorem Grew.drew {A : Nat} {W W' : World} (h : Grew A W W') : Grew A W W'.drew := ⟨h.below.drew, h.keeps.trans (KeepsOthers.drew _)⟩
theorem Grew.step {A : Nat} {W W' W'' : World} (hA : A ≤ W.heap.size) (k : Below W'.heap.size W' W'') (h : Grew A W W') : Grew A W W'' :=
  ⟨h.below.trans (k.mono (Nat.le_trans hA h.below.size)), h.keeps.trans ⟨k.size, fun i _ hi _ => (k.block i (Array.getElem?_eq_some_iff.1 hi).1).trans hi⟩⟩

theorem err_kept2 {W w' : World} {o : Obj} {a b : Addr} {v u : Value} (hb : Below (W.alloc o).drew.drew.heap.size (W.alloc o).drew.drew w') (h : W.cell? a = some v) (f : W.frozen? a = false) (h2 : W.cell? b = some u) (f2 : W.frozen? b = false) :
    w'.cell? a = some v ∧ w'.frozen? a = false ∧ w'.cell? b = some u ∧ w'.frozen? b = false ∧ Grew W.heap.size W w' :=
  ⟨(err_kept hb h f).1, (err_kept hb h f).2, (err_kept hb h2 f2).1, (err_kept hb h2 f2).2, ((((Grew.refl W.heap.size W).alloc o (Nat.le_refl _)).drew.drew).step (Nat.le_refl _) hb)⟩
theorem one0 (W : World) (u : Value) (t : TypeId) : (W.alloc (.cells #[u] t)).drew.drew.cell? ⟨W.heap.size, 0, none⟩ = some u := by
  rw [cell_drew_own, cell_drew_own]; simp [go_sem]
theorem one0' (W : World) (u : Value) (t : TypeId) : (W.alloc (.cells #[u] t)).cell? ⟨W.heap.size, 0, none⟩ = some u := by simp [go_sem]
theorem Grew.mono {A B : Nat} {W W' : World} (h : Grew B W W') (hA : A ≤ B) : Grew A W W' := ⟨h.below.mono hA, h.keeps⟩
theorem err_close {A : Nat} {W w' : World} {u v : Value} (hA : A ≤ W.heap.size) (hgr : Grew W.heap.size W w') (z4 : w'.cell? ⟨A + 1 + 1, 0, none⟩ = some u) (z5 : w'.cell? ⟨A + 1 + 1 + 1, 0, none⟩ = some v) (x : Int) (y : Value) :
    Grew A W ((w'.setCell ⟨A + 1 + 1, 0, none⟩ (.int .i64 x)).setCell ⟨A + 1 + 1 + 1, 0, none⟩ y) ∧
      ((w'.setCell ⟨A + 1 + 1, 0, none⟩ (.int .i64 x)).setCell ⟨A + 1 + 1 + 1, 0, none⟩ y).cell? ⟨A + 1 + 1, 0, none⟩ = some (.int .i64 x) ∧
      ((w'.setCell ⟨A + 1 + 1, 0, none⟩ (.int .i64 x)).setCell ⟨A + 1 + 1 + 1, 0, none⟩ y).cell? ⟨A + 1 + 1 + 1, 0, none⟩ = some y := by
  refine ⟨Grew.setCell (by omega) _ (Grew.setCell (by omega) _ (hgr.mono hA)), ?_, ?_⟩
  · rw [World.cell?_setCell_other _ _ _ _ (by simp)]
    exact World.cell?_setCell_same' _ _ _ (by rw [z4]; rfl)
  · exact World.cell?_setCell_same' _ _ _ (by rw [World.cell?_setCell_other _ _ _ _ (by simp), z5]; rfl)
theorem err_kept2' {W w' : World} {o : Obj} {a b : Addr} {v u : Value} (hb : Below (W.alloc o).heap.size (W.alloc o) w') (h : W.cell? a = some v) (f : W.frozen? a = false) (h2 : W.cell? b = some u) (f2 : W.frozen? b = false) :
    w'.cell? a = some v ∧ w'.frozen? a = false ∧ w'.cell? b = some u ∧ w'.frozen? b = false ∧ Grew W.heap.size W w' :=
  err_kept2 (o := o) ((⟨rfl, rfl, rfl, Nat.le_refl _, fun _ _ => rfl⟩ : Below (W.alloc o).heap.size (W.alloc o).drew.drew (W.alloc o)).trans hb) h f h2 f2
set_option maxRecDepth 100000 in
set_option maxHeartbeats 2000000 in
theorem rel_main (F : Interp) (b m g n cap : Nat) (r : Int) (eb : Nat → Nat) (nm : Nat → ByteArray) (md : Nat → Int) (x0 x1 x2 x3 : Addr) (q : ByteArray) (w : World) (hF : F.answers w.tape) (ht : TxnAt w b m r 0 (.slice (some ⟨g, 0, none⟩) n cap) none) (hs : Sent w x0 x1 x2 x3) (h4 : 4 ≤ w.heap.size)
    (hr : r ≠ 0) (hn : n ≤ 512) (hg : g < w.heap.size) (hrow : ∀ j, j < n → w.cell? ⟨g, j, none⟩ = some (.pointer (some ⟨eb j, 0, none⟩))) (heb : ∀ j, j < n → eb j < w.heap.size) (hnm : ∀ j, j < n → w.cell? ⟨eb j, 0, none⟩ = some (.string (nm j)))
    (hmode : ∀ j, j < n → ∀ W, Below w.heap.size w W → Calls Ybaf.prog 11 #[.pointer (some ⟨eb j, 0, none⟩), .pointer (some ⟨b, 0, none⟩)] W fun e w' => e = .returned (.int .u8 (md j)) ∧ w' = W) :
    Calls Ybaf.prog 5 #[.pointer (some ⟨b, 0, none⟩), .string q] w fun e w' => (∃ v er, e = .returned (.tuple #[.int .i64 v, er]) ∧ Out r n nm md q v er) ∧ Below w.heap.size w w' := by
  refine (callsIn_wide (n := 5)).1 ?_
  refine callsIn_of_wp_marks Ybaf.func5 rfl trivial ?_ rfl
  simp only [Ybaf.ntmps5, List.size_toArray, List.length_cons, List.length_nil, Nat.reduceAdd, Nat.reduceSub, Array.replicate_succ, Array.replicate_zero, List.push_toArray, List.append_toArray, List.nil_append, List.cons_append]
  have hb0 := boxes_below w (.cells #[.pointer (some ⟨b, 0, none⟩)] 71) (.cells #[.string q] 9) (.cells #[.int .i64 0] 3) (.cells #[.nilIface] 98)
  have c0 : ∀ W, Below w.heap.size w W → W.cell? ⟨b, 0, none⟩ = some (.pointer (some ⟨m, 0, none⟩)) := fun W k => (k.cell (p := ⟨b, 0, none⟩) ht.ltb).trans ht.man
  have c1 : ∀ W, Below w.heap.size w W → W.cell? ⟨m, 1, none⟩ = some (.int .u8 r) := fun W k => (k.cell (p := ⟨m, 1, none⟩) ht.ltm).trans ht.rule
  have c2 : ∀ W, Below w.heap.size w W → W.cell? ⟨b, 2, none⟩ = some (.slice (some ⟨g, 0, none⟩) n cap) := fun W k => (k.cell (p := ⟨b, 2, none⟩) ht.ltb).trans ht.held
  have hb1 := hb0.alloc (by simp; omega) (.cells #[.int .u8 r] 26)
  have hreq : (r == 0) = false := by simpa using hr
  gi_wp2_with (first
    | (refine ⟨trivial, ?_⟩; gi_at_call 7; refine (callsIn_wide.2 (running_any b m r 0 _ none x0 x1 x2 x3 _ (ht.below hb0 ht.ltb ht.ltm) (hs.below hb0 h4))).mono ?_; rintro e w' ⟨rfl, rfl⟩; simp only [running, if_pos])
    | (refine ⟨trivial, ?_⟩; gi_at_call 8; refine (back_in Fence.wide _ trivial rfl _ _ _ _).mono ?_; rintro e w' ⟨rfl, rfl⟩))
  obtain ⟨W0, hW0⟩ : ∃ W0, ((((((w.alloc (.cells #[.pointer (some ⟨b, 0, none⟩)] 71)).alloc (.cells #[.string q] 9)).alloc (.cells #[.int .i64 0] 3)).alloc (.cells #[.nilIface] 98)).alloc (.cells #[.int .u8 r] 26)).alloc (.cells #[.slice (some ⟨g, 0, none⟩) n cap] 54)) = W0 := ⟨_, rfl⟩
  rw [hW0]
  have hsz : W0.heap.size = w.heap.size + 6 := by rw [← hW0]; simp
  have hB0 : Below w.heap.size w W0 := by rw [← hW0]; exact hb1.alloc (by simp; omega) _
  have k2 : W0.cell? ⟨w.heap.size, 0, none⟩ = some (.pointer (some ⟨b, 0, none⟩)) := by rw [← hW0]; simp [go_sem]
  have k3 : W0.cell? ⟨w.heap.size + 1, 0, none⟩ = some (.string q) := by rw [← hW0]; simp [go_sem]
  have k4 : W0.cell? ⟨w.heap.size + 1 + 1, 0, none⟩ = some (.int .i64 0) := by rw [← hW0]; simp [go_sem]
  have k5 : W0.cell? ⟨w.heap.size + 1 + 1 + 1, 0, none⟩ = some .nilIface := by rw [← hW0]; simp [go_sem]
  have k7 : W0.cell? ⟨w.heap.size + 1 + 1 + 1 + 1, 0, none⟩ = some (.int .u8 r) := by rw [← hW0]; simp [go_sem]
  have kB : W0.cell? ⟨w.heap.size + 1 + 1 + 1 + 1 + 1, 0, none⟩ = some (.slice (some ⟨g, 0, none⟩) n cap) := by rw [← hW0]; simp [go_sem]
  have f4 : W0.frozen? ⟨w.heap.size + 1 + 1, 0, none⟩ = false := by rw [← hW0]; simp [go_sem]
  have f5 : W0.frozen? ⟨w.heap.size + 1 + 1 + 1, 0, none⟩ = false := by rw [← hW0]; simp [go_sem]
  clear hW0 hb0 hb1
  refine wpIn_rangeFunc_ownG rfl (by omega) (gf := 13) (lb := #[.pointer (some ⟨w.heap.size + 1 + 1 + 1 + 1 + 1, 0, none⟩)]) rfl trivial (enters_of Ybaf.func13 (by kernel_rfl) rfl)
    (back_stops Fence.wide _ trivial rfl (by omega) (w.heap.size + 1 + 1 + 1 + 1 + 1) W0.heap.size g n cap eb hn (by omega) W0 (by omega) (Nat.le_refl _) kB (fun j hj => (hB0.cell (p := ⟨g, j, none⟩) hg).trans (hrow j hj)))
    belowK_t (belowK_b (Nat.le_refl _)) (Below.refl _ _) (fun _ => rfl)
    (fun pre W => (∀ p ∈ pre, Pass nm q p.1) ∧ Below W0.heap.size W0 W)
    (fun c pre W => (c = .ret ∧ ∃ ini, ∃ last : Ix n, pre = ini ++ [last] ∧ (∀ p ∈ ini, Pass nm q p.1) ∧ ∃ v er, At r nm md q last.1 v er ∧ W.cell? ⟨w.heap.size + 1 + 1, 0, none⟩ = some (.int .i64 v) ∧ W.cell? ⟨w.heap.size + 1 + 1 + 1, 0, none⟩ = some er) ∧ Below w.heap.size w W)
    (OwnFrom.and (ownFrom_pure _ _) (ownFrom_below (Nat.le_refl _) (Nat.le_refl _)))
    (fun c => OwnFrom.and (Own.from (fun s A B row hs hg hr => by obtain ⟨hc, ini, last, e1, e2, v, er, e3, e4, e5⟩ := hs; exact ⟨hc, ini, last, e1, e2, v, er, e3, cell_kept e4 hg hr, cell_kept e5 hg hr⟩) _) (ownFrom_below (Nat.le_refl _) (by omega)))
    ⟨by simp, Below.refl _ _⟩
    (fun x : Ix n => { tmps := #[.pointer (some ⟨b, 0, none⟩), .string q, .pointer (some ⟨w.heap.size, 0, none⟩), .pointer (some ⟨w.heap.size + 1, 0, none⟩), .pointer (some ⟨w.heap.size + 1 + 1, 0, none⟩), .pointer (some ⟨w.heap.size + 1 + 1 + 1, 0, none⟩), .nilIface, .pointer (some ⟨w.heap.size + 1 + 1 + 1 + 1, 0, none⟩), .int .i64 (x.1 : Int), .pointer (some ⟨eb x.1, 0, none⟩), .pointer (some ⟨b, 0, none⟩), .nilIface, .nilIface, .bool false, undef, .pointer (some ⟨b, 0, none⟩), .pointer (some ⟨b, 0, none⟩), .pointer (some ⟨b, 0, none⟩), .pointer (some ⟨m, 0, none⟩), .pointer (some ⟨m, 0, none⟩), .pointer (some ⟨m, 1, none⟩), .int .u8 r, .int .u8 r, .bool false, undef, .pointer (some ⟨b, 0, none⟩), .pointer (some ⟨b, 0, none⟩), .pointer (some ⟨b, 2, none⟩), .slice (some ⟨g, 0, none⟩) n cap, .func (.func 13) #[] #[.pointer (some ⟨w.heap.size + 1 + 1 + 1 + 1 + 1, 0, none⟩)], .int .i64 (x.1 : Int), .pointer (some ⟨eb x.1, 0, none⟩), undef, undef, undef, undef, undef, undef, undef, undef, undef, undef, undef, undef, undef, undef, undef, undef, undef, undef, undef, undef, undef, undef, undef, undef, undef, undef, undef, undef, undef, undef, undef, undef, undef, undef, undef, undef, undef, undef, undef, undef, undef], defers := [] }) ?assign ?body ?done ?stop
  case assign =>
    intro l x W K hK
    gi_wp2
    exact hK
  case body =>
    rintro l pre x W ⟨hp, hB⟩ _
    have hBw : Below w.heap.size w W := hB0.trans (hB.mono (by omega))
    have q2 := (hB.cell (p := ⟨w.heap.size, 0, none⟩) (by show w.heap.size < W0.heap.size; omega)).trans k2
    have q3 := (hB.cell (p := ⟨w.heap.size + 1, 0, none⟩) (by show w.heap.size + 1 < W0.heap.size; omega)).trans k3
    have q4 := (hB.cell (p := ⟨w.heap.size + 1 + 1, 0, none⟩) (by show w.heap.size + 1 + 1 < W0.heap.size; omega)).trans k4
    have q5 := (hB.cell (p := ⟨w.heap.size + 1 + 1 + 1, 0, none⟩) (by show w.heap.size + 1 + 1 + 1 < W0.heap.size; omega)).trans k5
    have q7 := (hB.cell (p := ⟨w.heap.size + 1 + 1 + 1 + 1, 0, none⟩) (by show w.heap.size + 1 + 1 + 1 + 1 < W0.heap.size; omega)).trans k7
    have g4 := (hB.frozen (p := ⟨w.heap.size + 1 + 1, 0, none⟩) (by show w.heap.size + 1 + 1 < W0.heap.size; omega)).trans f4
    have g5 := (hB.frozen (p := ⟨w.heap.size + 1 + 1 + 1, 0, none⟩) (by show w.heap.size + 1 + 1 + 1 < W0.heap.size; omega)).trans f5
    have cx : W.cell? ⟨eb x.1, 0, none⟩ = some (.string (nm x.1)) := (hBw.cell (p := ⟨eb x.1, 0, none⟩) (heb x.1 x.2)).trans (hnm x.1 x.2)
    have hFW : F.answers W.tape := by rw [hBw.tape]; exact hF
    clear k2 k3 k4 k5 k7 kB f4 f5
    have hmx : Ybaf.prog.follows .mixedOrders = true := by kernel_rfl
    cases hbv : below (nm x.1) q with
    | true =>
      gi_wp2_with fail
      refine Code.wpIn_mono (Q := fun e a' w' => e = .normal ∧ a' = { tmps := #[.pointer (some ⟨b, 0, none⟩), .string q, .pointer (some ⟨w.heap.size, 0, none⟩), .pointer (some ⟨w.heap.size + 1, 0, none⟩), .pointer (some ⟨w.heap.size + 1 + 1, 0, none⟩), .pointer (some ⟨w.heap.size + 1 + 1 + 1, 0, none⟩), .nilIface, .pointer (some ⟨w.heap.size + 1 + 1 + 1 + 1, 0, none⟩), .int .i64 (x.1 : Int), .pointer (some ⟨eb x.1, 0, none⟩), .pointer (some ⟨b, 0, none⟩), .nilIface, .nilIface, .bool false, undef, .pointer (some ⟨b, 0, none⟩), .pointer (some ⟨b, 0, none⟩), .pointer (some ⟨b, 0, none⟩), .pointer (some ⟨m, 0, none⟩), .pointer (some ⟨m, 0, none⟩), .pointer (some ⟨m, 1, none⟩), .int .u8 r, .int .u8 r, .bool false, undef, .pointer (some ⟨b, 0, none⟩), .pointer (some ⟨b, 0, none⟩), .pointer (some ⟨b, 2, none⟩), .slice (some ⟨g, 0, none⟩) n cap, .func (.func 13) #[] #[.pointer (some ⟨w.heap.size + 1 + 1 + 1 + 1 + 1, 0, none⟩)], .int .i64 (x.1 : Int), .pointer (some ⟨eb x.1, 0, none⟩), .bool true, .pointer (some ⟨eb x.1, 0, none⟩), .pointer (some ⟨eb x.1, 0, none⟩), .pointer (some ⟨eb x.1, 0, none⟩), .string (nm x.1), .string q, .bool true, undef, undef, undef, undef, undef, undef, undef, undef, undef, undef, undef, undef, undef, undef, undef, undef, undef, undef, undef, undef, undef, undef, undef, undef, undef, undef, undef, undef, undef, undef, undef, undef, undef, undef], defers := [] } ∧ w' = W.drew) ?mono ?reg
      case reg =>
        gi_region_with_o (refine ⟨trivial, ?_⟩; gi_at_call 9; refine (CallsIn.inRound l (callsIn_wide.2 (below_any _ _ _))).mono ?_; rintro e w' ⟨rfl, rfl⟩)
        all_goals exact ⟨rfl, rfl, rfl⟩
      case mono =>
        rintro e a' w' ⟨rfl, rfl, rfl⟩
        gi_wp2
        refine Code.wpIn_mono (Q := fun e _ w' => e = .normal ∧ Grew w.heap.size W w' ∧ ∃ p, w'.cell? ⟨w.heap.size + 1 + 1, 0, none⟩ = some (.int .i64 0) ∧ w'.cell? ⟨w.heap.size + 1 + 1 + 1, 0, none⟩ = some (.iface 121 (.pointer (some p)))) ?mono2 ?reg2
        case mono2 =>
          rintro e a' w' ⟨rfl, hG, p, z4, z5⟩
          gi_wp2
          exact ⟨hG.keeps.from _, ⟨rfl, pre, x, rfl, hp, 0, _, Or.inl ⟨rfl, ⟨p, rfl⟩, Or.inl hbv⟩, z4, z5⟩, hBw.trans hG.below⟩
        case reg2 =>
          have hWA : w.heap.size ≤ W.heap.size := hBw.size
          gi_region_with_o (refine ⟨trivial, ?_⟩; gi_at_call 10; refine (CallsIn.inRound l (callsIn_wide.2 (errorf_below F q (nm x.1) W.heap.size (W.alloc (.cells #[.iface 9 (.string q), .iface 9 (.string (nm x.1))] 20)).drew.drew hFW (two0 _ _ _ _) (two1 _ _ _ _)))).mono ?_; rintro e w' ⟨⟨p, rfl⟩, hb'⟩; have zz := @err_kept2 W w' _ ⟨w.heap.size + 1 + 1, 0, none⟩ ⟨w.heap.size + 1 + 1 + 1, 0, none⟩ (.int .i64 0) (Value.nilIface) hb' q4 g4 q5 g5; clear hb'; obtain ⟨z4, y4, z5, y5, hgr⟩ := zz)
          all_goals exact ⟨rfl, (err_close hWA hgr z4 z5 _ _).1, _, (err_close hWA hgr z4 z5 _ _).2.1, (err_close hWA hgr z4 z5 _ _).2.2⟩
    | false =>
      gi_wp2_with fail
      refine Code.wpIn_mono (Q := fun e a' w' => e = .normal ∧ a' = { tmps := #[.pointer (some ⟨b, 0, none⟩), .string q, .pointer (some ⟨w.heap.size, 0, none⟩), .pointer (some ⟨w.heap.size + 1, 0, none⟩), .pointer (some ⟨w.heap.size + 1 + 1, 0, none⟩), .pointer (some ⟨w.heap.size + 1 + 1 + 1, 0, none⟩), .nilIface, .pointer (some ⟨w.heap.size + 1 + 1 + 1 + 1, 0, none⟩), .int .i64 (x.1 : Int), .pointer (some ⟨eb x.1, 0, none⟩), .pointer (some ⟨b, 0, none⟩), .nilIface, .nilIface, .bool false, undef, .pointer (some ⟨b, 0, none⟩), .pointer (some ⟨b, 0, none⟩), .pointer (some ⟨b, 0, none⟩), .pointer (some ⟨m, 0, none⟩), .pointer (some ⟨m, 0, none⟩), .pointer (some ⟨m, 1, none⟩), .int .u8 r, .int .u8 r, .bool false, undef, .pointer (some ⟨b, 0, none⟩), .pointer (some ⟨b, 0, none⟩), .pointer (some ⟨b, 2, none⟩), .slice (some ⟨g, 0, none⟩) n cap, .func (.func 13) #[] #[.pointer (some ⟨w.heap.size + 1 + 1 + 1 + 1 + 1, 0, none⟩)], .int .i64 (x.1 : Int), .pointer (some ⟨eb x.1, 0, none⟩), .bool false, .pointer (some ⟨eb x.1, 0, none⟩), .pointer (some ⟨eb x.1, 0, none⟩), .pointer (some ⟨eb x.1, 0, none⟩), .string (nm x.1), .string q, .bool false, undef, undef, undef, undef, undef, undef, undef, undef, undef, undef, undef, undef, undef, undef, undef, undef, undef, undef, undef, undef, undef, undef, undef, undef, undef, undef, undef, undef, undef, undef, undef, undef, undef, undef], defers := [] } ∧ w' = W.drew) ?mono ?reg
      case reg =>
        gi_region_with_o (refine ⟨trivial, ?_⟩; gi_at_call 9; refine (CallsIn.inRound l (callsIn_wide.2 (below_any _ _ _))).mono ?_; rintro e w' ⟨rfl, rfl⟩)
        all_goals exact ⟨rfl, rfl, rfl⟩
      case mono =>
        rintro e a' w' ⟨rfl, rfl, rfl⟩
        gi_wp2
        cases heq : ((nm x.1).toList == q.toList) with
        | false =>
          refine Code.wpIn_mono (Q := fun e a' w' => e = .normal ∧ a' = { tmps := #[.pointer (some ⟨b, 0, none⟩), .string q, .pointer (some ⟨w.heap.size, 0, none⟩), .pointer (some ⟨w.heap.size + 1, 0, none⟩), .pointer (some ⟨w.heap.size + 1 + 1, 0, none⟩), .pointer (some ⟨w.heap.size + 1 + 1 + 1, 0, none⟩), .nilIface, .pointer (some ⟨w.heap.size + 1 + 1 + 1 + 1, 0, none⟩), .int .i64 (x.1 : Int), .pointer (some ⟨eb x.1, 0, none⟩), .pointer (some ⟨b, 0, none⟩), .nilIface, .nilIface, .bool false, undef, .pointer (some ⟨b, 0, none⟩), .pointer (some ⟨b, 0, none⟩), .pointer (some ⟨b, 0, none⟩), .pointer (some ⟨m, 0, none⟩), .pointer (some ⟨m, 0, none⟩), .pointer (some ⟨m, 1, none⟩), .int .u8 r, .int .u8 r, .bool false, undef, .pointer (some ⟨b, 0, none⟩), .pointer (some ⟨b, 0, none⟩), .pointer (some ⟨b, 2, none⟩), .slice (some ⟨g, 0, none⟩) n cap, .func (.func 13) #[] #[.pointer (some ⟨w.heap.size + 1 + 1 + 1 + 1 + 1, 0, none⟩)], .int .i64 (x.1 : Int), .pointer (some ⟨eb x.1, 0, none⟩), .bool false, .pointer (some ⟨eb x.1, 0, none⟩), .pointer (some ⟨eb x.1, 0, none⟩), .pointer (some ⟨eb x.1, 0, none⟩), .string (nm x.1), .string q, .bool false, undef, undef, undef, undef, undef, undef, undef, undef, undef, .bool true, .pointer (some ⟨eb x.1, 0, none⟩), .pointer (some ⟨eb x.1, 0, none⟩), .pointer (some ⟨eb x.1, 0, none⟩), .string (nm x.1), .string q, .bool true, undef, undef, undef, undef, undef, undef, undef, undef, undef, undef, undef, undef, undef, undef, undef, undef, undef, undef], defers := [] } ∧ w' = W.drew.drew) ?mono3 ?reg3
          case reg3 =>
            gi_region_with_o (fail)
            all_goals exact ⟨rfl, rfl, rfl⟩
          case mono3 =>
            rintro e a' w' ⟨rfl, rfl, rfl⟩
            gi_wp2
            exact ⟨((KeepsOthers.drew _).trans (KeepsOthers.drew _)).from _, (Below.refl _ W).drew.drew, fun p' hp' => (List.mem_append.1 hp').elim (hp p') (fun e => by simp at e; subst e; exact ⟨hbv, heq⟩), hB.drew.drew⟩
        | true =>
          refine Code.wpIn_mono (Q := fun e a' w' => e = .normal ∧ a' = { tmps := #[.pointer (some ⟨b, 0, none⟩), .string q, .pointer (some ⟨w.heap.size, 0, none⟩), .pointer (some ⟨w.heap.size + 1, 0, none⟩), .pointer (some ⟨w.heap.size + 1 + 1, 0, none⟩), .pointer (some ⟨w.heap.size + 1 + 1 + 1, 0, none⟩), .nilIface, .pointer (some ⟨w.heap.size + 1 + 1 + 1 + 1, 0, none⟩), .int .i64 (x.1 : Int), .pointer (some ⟨eb x.1, 0, none⟩), .pointer (some ⟨b, 0, none⟩), .nilIface, .nilIface, .bool false, undef, .pointer (some ⟨b, 0, none⟩), .pointer (some ⟨b, 0, none⟩), .pointer (some ⟨b, 0, none⟩), .pointer (some ⟨m, 0, none⟩), .pointer (some ⟨m, 0, none⟩), .pointer (some ⟨m, 1, none⟩), .int .u8 r, .int .u8 r, .bool false, undef, .pointer (some ⟨b, 0, none⟩), .pointer (some ⟨b, 0, none⟩), .pointer (some ⟨b, 2, none⟩), .slice (some ⟨g, 0, none⟩) n cap, .func (.func 13) #[] #[.pointer (some ⟨w.heap.size + 1 + 1 + 1 + 1 + 1, 0, none⟩)], .int .i64 (x.1 : Int), .pointer (some ⟨eb x.1, 0, none⟩), .bool false, .pointer (some ⟨eb x.1, 0, none⟩), .pointer (some ⟨eb x.1, 0, none⟩), .pointer (some ⟨eb x.1, 0, none⟩), .string (nm x.1), .string q, .bool false, undef, undef, undef, undef, undef, undef, undef, undef, undef, .bool false, .pointer (some ⟨eb x.1, 0, none⟩), .pointer (some ⟨eb x.1, 0, none⟩), .pointer (some ⟨eb x.1, 0, none⟩), .string (nm x.1), .string q, .bool false, undef, undef, undef, undef, undef, undef, undef, undef, undef, undef, undef, undef, undef, undef, undef, undef, undef, undef], defers := [] } ∧ w' = W.drew.drew) ?mono4 ?reg4
          case reg4 =>
            gi_region_with_o (fail)
            all_goals exact ⟨rfl, rfl, rfl⟩
          case mono4 =>
            rintro e a' w' ⟨rfl, rfl, rfl⟩
            have hWA : w.heap.size ≤ W.heap.size := hBw.size
            have hBd : Below w.heap.size w W.drew.drew := hBw.drew.drew
            by_cases hr1 : r = 1
            · subst hr1
              by_cases hm5 : md x.1 = 5
              · gi_wp2_with (first
                  | (refine ⟨trivial, ?_⟩; gi_at_call 11; refine (CallsIn.inRound l (callsIn_wide.2 (hmode x.1 x.2 _ hBd))).mono ?_; rintro e w' ⟨rfl, rfl⟩; rw [hm5])
                  | (refine ⟨trivial, ?_⟩; gi_at_call 10; refine (CallsIn.inRound l (callsIn_wide.2 (errorf_strict F q W.heap.size (W.alloc (.cells #[.iface 9 (.string q)] 20)).drew.drew hFW (one0 _ _ _)))).mono ?_; rintro e w' ⟨⟨p, rfl⟩, hb'⟩; have zz := @err_kept2 W w' _ ⟨w.heap.size + 1 + 1, 0, none⟩ ⟨w.heap.size + 1 + 1 + 1, 0, none⟩ (.int .i64 0) (Value.nilIface) hb' q4 g4 q5 g5; clear hb'; obtain ⟨z4, y4, z5, y5, hgr⟩ := zz))
                exact ⟨(err_close hWA hgr z4 z5 _ _).1.keeps.from _, ⟨rfl, pre, x, rfl, hp, 0, _, Or.inl ⟨rfl, ⟨_, rfl⟩, Or.inr ⟨hbv, heq, rfl, hm5⟩⟩, (err_close hWA hgr z4 z5 _ _).2.1, (err_close hWA hgr z4 z5 _ _).2.2⟩, hBw.trans (err_close hWA hgr z4 z5 _ _).1.below⟩
              · gi_wp2_with (refine ⟨trivial, ?_⟩; gi_at_call 11; refine (CallsIn.inRound l (callsIn_wide.2 (hmode x.1 x.2 _ hBd))).mono ?_; rintro e w' ⟨rfl, rfl⟩)
                exact ⟨(err_close hWA (Grew.refl _ W) q4 q5 _ _).1.drew.drew.keeps.from _, ⟨rfl, pre, x, rfl, hp, _, _, Or.inr ⟨rfl, rfl, hbv, heq, fun h => hm5 h.2⟩, (err_close hWA (Grew.refl _ W) q4 q5 _ _).2.1, (err_close hWA (Grew.refl _ W) q4 q5 _ _).2.2⟩, hBw.trans (err_close hWA (Grew.refl _ W) q4 q5 _ _).1.drew.drew.below⟩
            · gi_wp2
              refine ⟨trivial, ?_⟩
              gi_wp2
              exact ⟨(err_close hWA (Grew.refl _ W) q4 q5 _ _).1.drew.drew.keeps.from _, ⟨rfl, pre, x, rfl, hp, _, _, Or.inr ⟨rfl, rfl, hbv, heq, fun h => hr1 h.1⟩, (err_close hWA (Grew.refl _ W) q4 q5 _ _).2.1, (err_close hWA (Grew.refl _ W) q4 q5 _ _).2.2⟩, hBw.trans (err_close hWA (Grew.refl _ W) q4 q5 _ _).1.drew.drew.below⟩
  case done =>
    rintro D ys W hD hall ⟨hp, hB⟩ hK
    have hBw : Below w.heap.size w W := hB0.trans (hB.mono (by omega))
    have hWA : w.heap.size ≤ W.heap.size := hBw.size
    have q3 := (hB.cell (p := ⟨w.heap.size + 1, 0, none⟩) (by show w.heap.size + 1 < W0.heap.size; omega)).trans k3
    have q4 := (hB.cell (p := ⟨w.heap.size + 1 + 1, 0, none⟩) (by show w.heap.size + 1 + 1 < W0.heap.size; omega)).trans k4
    have q5 := (hB.cell (p := ⟨w.heap.size + 1 + 1 + 1, 0, none⟩) (by show w.heap.size + 1 + 1 + 1 < W0.heap.size; omega)).trans k5
    have g4 := (hB.frozen (p := ⟨w.heap.size + 1 + 1, 0, none⟩) (by show w.heap.size + 1 + 1 < W0.heap.size; omega)).trans f4
    have g5 := (hB.frozen (p := ⟨w.heap.size + 1 + 1 + 1, 0, none⟩) (by show w.heap.size + 1 + 1 + 1 < W0.heap.size; omega)).trans f5
    have hFW : F.answers W.tape := by rw [hBw.tape]; exact hF
    clear k2 k3 k4 k5 k7 kB f4 f5
    gi_wp2_with (refine ⟨trivial, ?_⟩; gi_at_call 10; refine (callsIn_wide.2 (errorf_none F q W.heap.size (W.alloc (.cells #[.iface 9 (.string q)] 20)) hFW (one0' _ _ _))).mono ?_; rintro e w' ⟨⟨p, rfl⟩, hb'⟩; have zz := @err_kept2' W w' _ ⟨w.heap.size + 1 + 1, 0, none⟩ ⟨w.heap.size + 1 + 1 + 1, 0, none⟩ (.int .i64 0) (Value.nilIface) hb' q4 g4 q5 g5; clear hb'; obtain ⟨z4, y4, z5, y5, hgr⟩ := zz)
    have hE := err_close hWA hgr z4 z5 0 (.iface 121 (.pointer (some p)))
    have hK' := hE.1.keeps.same D _ hK rfl
    refine ⟨by simp, .inl ⟨_, _, rfl, run_takeDeferred hK', ?_⟩⟩
    have hc4 := cell_kept hE.2.1 (grownBy_putObj' _ D (.deferred none)) (fun r e => by cases e; exact ⟨_, hK', rfl⟩)
    have hc5 := cell_kept hE.2.2 (grownBy_putObj' _ D (.deferred none)) (fun r e => by cases e; exact ⟨_, hK', rfl⟩)
    refine ⟨.tuple #[.int .i64 0, .iface 121 (.pointer (some p))], ?_, ⟨0, _, rfl, Or.inl ⟨fun j hj => hp ⟨j, hj⟩ (hall j hj (Nat.zero_le _)), rfl, p, rfl⟩⟩, hBw.trans (hE.1.below.trans (belowK_b (w := w) (Nat.le_refl _) _ D _ _ (by omega) hK' rfl rfl))⟩
    simp [results, Ybaf.f5, go_sem, hc4, hc5]
  case stop =>
    rintro D c pre W hD ⟨ini', last', e0, hfr⟩ ⟨⟨rfl, ini, last, e1, e2, v, er, e3, e4, e5⟩, hB⟩ hK
    subst e0
    obtain ⟨rfl, e6⟩ := List.append_inj' e1 rfl
    obtain rfl : last' = last := by simpa using e6
    gi_wp2
    refine ⟨by simp, .inl ⟨_, _, rfl, run_takeDeferred hK, ?_⟩⟩
    have hc4 := cell_kept e4 (grownBy_putObj' _ D (.deferred none)) (fun r e => by cases e; exact ⟨_, hK, rfl⟩)
    have hc5 := cell_kept e5 (grownBy_putObj' _ D (.deferred none)) (fun r e => by cases e; exact ⟨_, hK, rfl⟩)
    refine ⟨.tuple #[.int .i64 v, er], ?_, ⟨v, er, rfl, Or.inr ⟨last'.1, last'.2, fun j h1 h2 => e2 ⟨j, h2⟩ (hfr j h2 h1), e3⟩⟩, hB.trans (belowK_b (w := w) (Nat.le_refl _) _ D _ _ (by omega) hK rfl rfl)⟩
    simp [results, Ybaf.f5, go_sem, hc4, hc5]
end Go.Proofs.YbulkcuyeFmt
