import Derived.Test.YbulkcvkaBase
namespace Go.Proofs.Ybulkcvka
open Go.RowKit Go.Maps

theorem info9 : (Yba.prog.info? 9).map (fun i => (i.zero, i.size, i.bytes)) = some (some (.string ByteArray.empty), 1, 16) := by kernel_rfl
theorem info20 : (Yba.prog.info? 20).map (fun i => (i.zero, i.size, i.bytes)) = some (some .nilIface, 1, 16) := by kernel_rfl

/-- The first n cells of block g (of type e, none frozen) are f. -/
def rowPre (w : World) (g : Nat) (e : TypeId) (n : Nat) (f : Nat → Value) : Prop := ∃ c : Array Value, w.heap[g]? = some (.cells c e (0, 0)) ∧ n ≤ c.size ∧ ∀ i, i < n → c[i]? = some (f i)
theorem rowPre.cell {w : World} {g : Nat} {e : TypeId} {n : Nat} {f : Nat → Value} (h : rowPre w g e n f) {i : Nat} (hi : i < n) : w.cell? ⟨g, i, none⟩ = some (f i) := by
  obtain ⟨c, hb, _, hc⟩ := h
  simp [World.cell?, hb, hc i hi]
theorem rowPre.frozen {w : World} {g : Nat} {e : TypeId} {n : Nat} {f : Nat → Value} (h : rowPre w g e n f) (i : Nat) : w.frozen? ⟨g, i, none⟩ = false := by
  obtain ⟨c, hb, _, _⟩ := h
  simp [World.frozen?, hb]
theorem rowPre.lt {w : World} {g : Nat} {e : TypeId} {n : Nat} {f : Nat → Value} (h : rowPre w g e n f) : g < w.heap.size := by
  obtain ⟨c, hb, _, _⟩ := h
  exact (Array.getElem?_eq_some_iff.1 hb).1
theorem rowPre.of_block {w w' : World} {g : Nat} {e : TypeId} {n : Nat} {f : Nat → Value} (h : rowPre w g e n f) (hb : w'.heap[g]? = w.heap[g]?) : rowPre w' g e n f := by
  obtain ⟨c, h1, h2, h3⟩ := h
  exact ⟨c, hb.trans h1, h2, h3⟩
theorem rowPre.alloc {w : World} {g : Nat} {e : TypeId} {n : Nat} {f : Nat → Value} (h : rowPre w g e n f) (o : Obj) : rowPre (w.alloc o) g e n f := h.of_block (Below.heap_alloc _ _ _ h.lt)
theorem rowPre.drew {w : World} {g : Nat} {e : TypeId} {n : Nat} {f : Nat → Value} (h : rowPre w g e n f) : rowPre w.drew g e n f := h

/-- append(nil, xs...): a new row with the same cells. -/
theorem append_new (W : World) (t e : TypeId) (i : TypeInfo) (z : Value) (ht : Yba.prog.underlying t = some (.slice e)) (hi : Yba.prog.info? e = some i) (hz : i.zero = some z) (hsz : i.size = 1) (hby : i.bytes = 16) (hzs : z.cells.size = 1)
    (g n c : Nat) (f : Nat → Value) (hc : ∀ j, j < n → W.cell? ⟨g, j, none⟩ = some (f j)) (h1 : ∀ j, j < n → (f j).oneCell' = true) (hn : n ≤ 2000) (hn0 : 0 < n) (ty : TypeId) :
    ∃ (g' cap : Nat) (w' : World), (Builtin.append_ #[t, t] ty #[.slice none 0 0, .slice (some ⟨g, 0, none⟩) n c]).run Yba.prog W = .ok (.slice (some ⟨g', 0, none⟩) n cap) w' ∧ W.heap.size ≤ g' ∧ rowPre w' g' e n f ∧ W.grownBy w' none := by
  have hnews : ∀ j u, ((List.range n).map f)[j]? = some u → W.cell? ((⟨g, 0, none⟩ : Addr).add j) = some u := by
    intro j u hj
    simp only [List.getElem?_map, Option.map_eq_some_iff] at hj
    obtain ⟨x, hx, rfl⟩ := hj
    simp only [List.getElem?_eq_some_iff, List.getElem_range] at hx
    obtain ⟨hlt, rfl⟩ := hx
    simp at hlt
    have hadd : (⟨g, 0, none⟩ : Addr).add j = ⟨g, j, none⟩ := by unfold Addr.add; split <;> simp_all
    rw [hadd]
    exact hc j hlt
  obtain ⟨v', w', hrun, hown, hgrow, hnil⟩ := run_append_own (P := Yba.prog) W W.heap.size t ty e i z 1 16 ht hi hz hsz hby hzs (by omega) (.slice none 0 0) 0 [] (World.ownsRow_nil _ _ _ _) ⟨g, 0, none⟩ n c ((List.range n).map f) (by simp) hnews
    (by intro u hu; simp only [List.mem_map, List.mem_range] at hu; obtain ⟨j, hj, rfl⟩ := hu; exact h1 j hj) (by unfold maxLen; omega) (by omega) (Nat.le_refl _)
  rcases hown.2 with ⟨rfl, h0⟩ | ⟨g', cap, cur, rfl, hg, hh, hcap, _, hsize, htake⟩
  · omega
  · refine ⟨g', cap, w', by rw [hrun]; simp, hg, ⟨cur, hh, by omega, fun i hi => ?_⟩, hgrow⟩
    have h2 : (cur.toList.take ((0 + n) * 1))[i]? = some (f i) := by rw [htake]; simp [hi]
    rw [List.getElem?_take, if_pos (by omega)] at h2
    simpa using h2
theorem append_none (W : World) (t e : TypeId) (i : TypeInfo) (z : Value) (ht : Yba.prog.underlying t = some (.slice e)) (hi : Yba.prog.info? e = some i) (hz : i.zero = some z) (hsz : i.size = 1) (hby : i.bytes = 16) (hzs : z.cells.size = 1)
    (g c : Nat) (ty : TypeId) :
    ∃ (w' : World), (Builtin.append_ #[t, t] ty #[.slice none 0 0, .slice (some ⟨g, 0, none⟩) 0 c]).run Yba.prog W = .ok (.slice none 0 0) w' ∧ W.grownBy w' none := by
  obtain ⟨v', w', hrun, hown, hgrow, hnil⟩ := run_append_own (P := Yba.prog) W W.heap.size t ty e i z 1 16 ht hi hz hsz hby hzs (by omega) (.slice none 0 0) 0 [] (World.ownsRow_nil _ _ _ _) ⟨g, 0, none⟩ 0 c [] (by simp) (by simp)
    (by simp) (by unfold maxLen; omega) (by omega) (Nat.le_refl _)
  have := hnil.2 ⟨rfl, rfl⟩
  subst this
  exact ⟨w', hrun, hgrow⟩

/-- A builtin append as one step of a region that draws its order, by its run. -/
theorem step_append_run {P : Program} {ops : Array Oper} {o : Oper} {a : Act} {w w' : World} {K : Act → World → Prop} {Q : Exit → Act → World → Prop} {E : Prop} (hgd : o.guard = none) (s x : Operand) (t : TypeId)
    (ho : o.op = .call { callee := .builtin .append, args := #[s, x], argTypes := #[t, t] }) {v u v' : Value} (hs : a.eval s = v) (hx : a.eval x = u)
    (hrun : (Builtin.append_ #[t, t] o.type #[v, u]).run P w = .ok v' w') (h : K (a.put o.dst v') w') : if Region.wanted o (yielded ops a.tmps) = true then Oper.wp P o a w K Q else E := by
  have hw : Region.wanted o (yielded ops a.tmps) = true := by simp [Region.wanted, hgd]
  rw [if_pos hw]
  unfold Oper.wp
  simp only [execOp]
  simp only [ho, resolve, invoke, builtin, Sem.run_bind, Sem.run_pure, Result.andThen_ok, List.map_toArray, List.map_cons, List.map_nil, hs, hx, hrun]
  exact h

/-- What the region's loads read. -/
theorem held_keep {w W W' : World} {b : Nat} {ks vs : Value} {pend : Bool} (hb : b < w.heap.size)
    (h : W.cell? ⟨b, 0, none⟩ = some ks ∧ W.cell? ⟨b, 1, none⟩ = some vs ∧ W.cell? ⟨b, 3, none⟩ = some (.bool pend) ∧ Below w.heap.size w W) (hg : W.grownBy W' none) :
    W'.cell? ⟨b, 0, none⟩ = some ks ∧ W'.cell? ⟨b, 1, none⟩ = some vs ∧ W'.cell? ⟨b, 3, none⟩ = some (.bool pend) ∧ Below w.heap.size w W' := by
  obtain ⟨h0, h1, h3, hB⟩ := h
  have hk := hg.block b (by have := hB.size; omega) (by simp)
  refine ⟨(World.cell?_of_block (a := ⟨b, 0, none⟩) hk).trans h0, (World.cell?_of_block (a := ⟨b, 1, none⟩) hk).trans h1, (World.cell?_of_block (a := ⟨b, 3, none⟩) hk).trans h3, ?_⟩
  exact hB.grown hg hB.size (by simp)

def ival (V : Nat → Int) (j : Nat) : Value := .iface 2 (.int .i64 (V j))
def sval (K : Nat → ByteArray) (j : Nat) : Value := .string (K j)

set_option maxRecDepth 20000 in
set_option maxHeartbeats 1000000 in
theorem clone_pos (b gk ck gv cv n : Nat) (K : Nat → ByteArray) (V : Nat → Int) (pend : Bool) (sz mg : Int) (w : World) (hn0 : 0 < n) (hn : n ≤ 2000)
    (hr : w.rowIs b 29 6 (mp (.slice (some ⟨gk, 0, none⟩) n ck) (.slice (some ⟨gv, 0, none⟩) n cv) (.map none) pend sz mg))
    (hk : rowPre w gk 9 n (sval K)) (hv : rowPre w gv 20 n (ival V)) (hK : ∀ j, j < n → (K j).size ≤ maxLen) :
    Calls Yba.prog 4 #[.pointer (some ⟨b, 0, none⟩)] w fun e w' => ∃ (g1 cap1 g2 cap2 c : Nat) (ixv : Value), e = .returned (.pointer (some ⟨c, 0, none⟩)) ∧ w.heap.size ≤ g1 ∧ g1 < g2 ∧ g2 < c ∧
      rowPre w' g1 9 n (sval K) ∧ rowPre w' g2 20 n (ival V) ∧ w'.rowIs c 29 6 (mp (.slice (some ⟨g1, 0, none⟩) n cap1) (.slice (some ⟨g2, 0, none⟩) n cap2) ixv pend 0 0) ∧ Below w.heap.size w w' ∧
      (n < 16 → ixv = .map none) ∧ (16 ≤ n → ∃ bm, ixv = .map (some bm) ∧ c < bm ∧ w'.ownsMap Yba.prog 9 (plainElem (H := Unit) Yba.prog 3) bm n (idxD K n)) := by
  have HKL : Hid _ := hK
  clear hK
  have c0 : w.cell? ⟨b, 0, none⟩ = some (.slice (some ⟨gk, 0, none⟩) n ck) := hr.cell (i := 0) (by omega)
  have c1 : w.cell? ⟨b, 1, none⟩ = some (.slice (some ⟨gv, 0, none⟩) n cv) := hr.cell (i := 1) (by omega)
  have c3 : w.cell? ⟨b, 3, none⟩ = some (.bool pend) := hr.cell (i := 3) (by omega)
  have hbw : b < w.heap.size := hr.lt
  have hkw := hk.lt
  have hvw := hv.lt
  obtain ⟨i9, hi9, hz9, hs9, hb9⟩ := info_parts info9
  obtain ⟨i20, hi20, hz20, hs20, hb20⟩ := info_parts info20
  have start : w.drew.cell? ⟨b, 0, none⟩ = some (.slice (some ⟨gk, 0, none⟩) n ck) ∧ w.drew.cell? ⟨b, 1, none⟩ = some (.slice (some ⟨gv, 0, none⟩) n cv) ∧ w.drew.cell? ⟨b, 3, none⟩ = some (.bool pend) ∧ Below w.heap.size w w.drew :=
    ⟨c0, c1, c3, (Below.refl _ _).drew⟩
  have HA : Hid (∀ W : World, Below w.heap.size w W → ∃ (g' cap : Nat) (w' : World), (Builtin.append_ #[22, 22] 22 #[.slice none 0 0, .slice (some ⟨gk, 0, none⟩) n ck]).run Yba.prog W = .ok (.slice (some ⟨g', 0, none⟩) n cap) w' ∧ W.heap.size ≤ g' ∧ rowPre w' g' 9 n (sval K) ∧ W.grownBy w' none) :=
    fun W hW => append_new W 22 9 i9 _ Yba.underlying22 hi9 hz9 hs9 hb9 rfl gk n ck (sval K) (fun j hj => (hk.of_block (hW.block _ hkw)).cell hj) (fun _ _ => rfl) hn hn0 22
  have HB : Hid (∀ W : World, Below w.heap.size w W → ∃ (g' cap : Nat) (w' : World), (Builtin.append_ #[25, 25] 25 #[.slice none 0 0, .slice (some ⟨gv, 0, none⟩) n cv]).run Yba.prog W = .ok (.slice (some ⟨g', 0, none⟩) n cap) w' ∧ W.heap.size ≤ g' ∧ rowPre w' g' 20 n (ival V) ∧ W.grownBy w' none) :=
    fun W hW => append_new W 25 20 i20 _ Yba.underlying25 hi20 hz20 hs20 hb20 rfl gv n cv (ival V) (fun j hj => (hv.of_block (hW.block _ hvw)).cell hj) (fun _ _ => rfl) hn hn0 25
  clear hk hv hr
  go_enter Yba.func4, Yba.ntmps4
  go_wp2_with fail
  go_region_held3 (fun w' => w'.cell? ⟨b, 0, none⟩ = some (.slice (some ⟨gk, 0, none⟩) n ck) ∧ w'.cell? ⟨b, 1, none⟩ = some (.slice (some ⟨gv, 0, none⟩) n cv) ∧ w'.cell? ⟨b, 3, none⟩ = some (.bool pend) ∧ Below w.heap.size w w')
    (first | exact start | exact held_keep hbw (by assumption) (by assumption) | exact held_keep hbw (by assumption) (World.grownBy_alloc _ _ _))
    (first
      | (obtain ⟨g1, cap1, w1, hap1, hg1, hrow1, hgrow1⟩ := HA.out _ (by assumption : _ ∧ _ ∧ _ ∧ _).2.2.2; refine step_append_run (by rfl) _ _ 22 (by rfl) (by rfl) (by rfl) hap1 ?_)
      | (obtain ⟨g2, cap2, w2, hap2, hg2, hrow2, hgrow2⟩ := HB.out _ (by assumption : _ ∧ _ ∧ _ ∧ _).2.2.2; refine step_append_run (by rfl) _ _ 25 (by rfl) (by rfl) (by rfl) hap2 ?_))
  clear HA HB start
  have hb2 : Below w.heap.size w w2 := (((Below.refl _ _).drew).grown hgrow1 (Nat.le_refl _) (by simp)).grown hgrow2 (hgrow1.size) (by simp)
  have hlt1 : g1 < w1.heap.size := hrow1.lt
  have hlt2 : g2 < w2.heap.size := hrow2.lt
  have hg1' : w.heap.size ≤ g1 := hg1
  have hrow1' : rowPre w2 g1 9 n (sval K) := hrow1.of_block (hgrow2.block g1 hlt1 (by simp))
  have hs2 : w.heap.size ≤ w2.heap.size := hb2.size
  clear hap1 hap2 hgrow1 hgrow2 hrow1 hg1
  obtain ⟨w3, hw3⟩ : ∃ w3, w3 = w2.alloc (.cells #[.slice (some ⟨g1, 0, none⟩) n cap1, .slice (some ⟨g2, 0, none⟩) n cap2, .map none, .bool pend, .int .i64 0, .int .i64 0] 29) := ⟨_, rfl⟩
  have hr3 : w3.rowIs w2.heap.size 29 6 (mp (.slice (some ⟨g1, 0, none⟩) n cap1) (.slice (some ⟨g2, 0, none⟩) n cap2) (.map none) pend 0 0) := by rw [hw3]; exact mp_new _ _ _ _ _ _ _
  have hk3 : rowPre w3 g1 9 n (sval K) := by rw [hw3]; exact hrow1'.alloc _
  have hv3 : rowPre w3 g2 20 n (ival V) := by rw [hw3]; exact hrow2.alloc _
  have hb3 : Below w.heap.size w w3 := by rw [hw3]; exact hb2.alloc hs2 _
  have hs3 : w3.heap.size = w2.heap.size + 1 := by rw [hw3]; simp
  rw [← hw3]
  have HS3 : Hid _ := hs3
  clear hw3 hs3 hrow1' hrow2
  obtain ⟨c, hc⟩ : ∃ c, c = w2.heap.size := ⟨_, rfl⟩
  rw [← hc] at hr3 ⊢
  have HC : Hid _ := hc
  clear hc
  go_wp2_with fail
  by_cases h16 : n < 16
  · refine (index_few c n cap1 _ _ pend 0 0 w3 _ hr3 h16).mono ?_
    rintro e w4 ⟨rfl, hw4⟩
    rw [hw4]
    go_wp2
    go_ret
    exact ⟨g1, cap1, g2, cap2, c, _, rfl, hg1', by omega, by have := HC.out; omega, hk3, hv3, hr3, hb3, fun _ => rfl, fun h => absurd h (by omega)⟩
  · have h3 := HS3.out
    have hcc := HC.out
    refine (index_many c g1 n cap1 _ pend 0 0 w3 K hr3 (by omega) hn (fun j hj => hk3.cell hj) (by omega) (by omega) HKL.out).mono ?_
    rintro e w4 ⟨rfl, hr4, hm4, hbut⟩
    clear h3 hcc
    go_wp2
    go_ret
    refine ⟨g1, cap1, g2, cap2, c, _, rfl, hg1', by omega, by have := HC.out; omega, hk3.of_block (hbut.block _ ?_ ?_), hv3.of_block (hbut.block _ ?_ ?_), hr4, hb3.trans (hbut.below ?_ ?_), fun h => absurd h h16, fun _ => ⟨_, rfl, ?_, hm4⟩⟩
    all_goals (have := HC.out; have := HS3.out; omega)

set_option maxRecDepth 20000 in
set_option maxHeartbeats 1000000 in
theorem clone_zero (b gk ck gv cv : Nat) (pend : Bool) (sz mg : Int) (w : World)
    (hr : w.rowIs b 29 6 (mp (.slice (some ⟨gk, 0, none⟩) 0 ck) (.slice (some ⟨gv, 0, none⟩) 0 cv) (.map none) pend sz mg)) :
    Calls Yba.prog 4 #[.pointer (some ⟨b, 0, none⟩)] w fun e w' => ∃ (c : Nat), e = .returned (.pointer (some ⟨c, 0, none⟩)) ∧ w.heap.size ≤ c ∧
      w'.rowIs c 29 6 (mp (.slice none 0 0) (.slice none 0 0) (.map none) pend 0 0) ∧ Below w.heap.size w w' := by
  have c0 : w.cell? ⟨b, 0, none⟩ = some (.slice (some ⟨gk, 0, none⟩) 0 ck) := hr.cell (i := 0) (by omega)
  have c1 : w.cell? ⟨b, 1, none⟩ = some (.slice (some ⟨gv, 0, none⟩) 0 cv) := hr.cell (i := 1) (by omega)
  have c3 : w.cell? ⟨b, 3, none⟩ = some (.bool pend) := hr.cell (i := 3) (by omega)
  have hbw : b < w.heap.size := hr.lt
  obtain ⟨i9, hi9, hz9, hs9, hb9⟩ := info_parts info9
  obtain ⟨i20, hi20, hz20, hs20, hb20⟩ := info_parts info20
  have start : w.drew.cell? ⟨b, 0, none⟩ = some (.slice (some ⟨gk, 0, none⟩) 0 ck) ∧ w.drew.cell? ⟨b, 1, none⟩ = some (.slice (some ⟨gv, 0, none⟩) 0 cv) ∧ w.drew.cell? ⟨b, 3, none⟩ = some (.bool pend) ∧ Below w.heap.size w w.drew :=
    ⟨c0, c1, c3, (Below.refl _ _).drew⟩
  have HA : Hid (∀ W : World, ∃ (w' : World), (Builtin.append_ #[22, 22] 22 #[.slice none 0 0, .slice (some ⟨gk, 0, none⟩) 0 ck]).run Yba.prog W = .ok (.slice none 0 0) w' ∧ W.grownBy w' none) :=
    fun W => append_none W 22 9 i9 _ Yba.underlying22 hi9 hz9 hs9 hb9 rfl gk ck 22
  have HB : Hid (∀ W : World, ∃ (w' : World), (Builtin.append_ #[25, 25] 25 #[.slice none 0 0, .slice (some ⟨gv, 0, none⟩) 0 cv]).run Yba.prog W = .ok (.slice none 0 0) w' ∧ W.grownBy w' none) :=
    fun W => append_none W 25 20 i20 _ Yba.underlying25 hi20 hz20 hs20 hb20 rfl gv cv 25
  clear hr
  go_enter Yba.func4, Yba.ntmps4
  go_wp2_with fail
  go_region_held3 (fun w' => w'.cell? ⟨b, 0, none⟩ = some (.slice (some ⟨gk, 0, none⟩) 0 ck) ∧ w'.cell? ⟨b, 1, none⟩ = some (.slice (some ⟨gv, 0, none⟩) 0 cv) ∧ w'.cell? ⟨b, 3, none⟩ = some (.bool pend) ∧ Below w.heap.size w w')
    (first | exact start | exact held_keep hbw (by assumption) (by assumption) | exact held_keep hbw (by assumption) (World.grownBy_alloc _ _ _))
    (first
      | (obtain ⟨w1, hap1, hgrow1⟩ := HA.out w.drew; refine step_append_run (by rfl) _ _ 22 (by rfl) (by rfl) (by rfl) hap1 ?_)
      | (obtain ⟨w2, hap2, hgrow2⟩ := HB.out w1; refine step_append_run (by rfl) _ _ 25 (by rfl) (by rfl) (by rfl) hap2 ?_))
  clear HA HB start
  have hb2 : Below w.heap.size w w2 := (((Below.refl _ _).drew).grown hgrow1 (Nat.le_refl _) (by simp)).grown hgrow2 (hgrow1.size) (by simp)
  have hs2 : w.heap.size ≤ w2.heap.size := hb2.size
  clear hap1 hap2 hgrow1 hgrow2
  obtain ⟨w3, hw3⟩ : ∃ w3, w3 = w2.alloc (.cells #[.slice none 0 0, .slice none 0 0, .map none, .bool pend, .int .i64 0, .int .i64 0] 29) := ⟨_, rfl⟩
  have hr3 : w3.rowIs w2.heap.size 29 6 (mp (.slice none 0 0) (.slice none 0 0) (.map none) pend 0 0) := by rw [hw3]; exact mp_new _ _ _ _ _ _ _
  have hb3 : Below w.heap.size w w3 := by rw [hw3]; exact hb2.alloc hs2 _
  rw [← hw3]
  clear hw3
  go_wp2_with fail
  refine (index_few w2.heap.size 0 0 _ _ pend 0 0 w3 _ hr3 (by omega)).mono ?_
  rintro e w4 ⟨rfl, hw4⟩
  rw [hw4]
  go_wp2
  go_ret
  exact ⟨_, rfl, hs2, hr3, hb3⟩
end Go.Proofs.Ybulkcvka
