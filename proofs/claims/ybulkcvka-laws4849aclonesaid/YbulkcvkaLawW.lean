import Derived.Test.YbulkcvkaLawB
namespace Go.Proofs.Ybulkcvka
open Go.RowKit Go.Maps

/-- The keys as the law has built them: n of them at the head of block g. -/
def Kst (w wr : World) (g cap n : Nat) (K : Nat → ByteArray) : Prop := w.heap.size ≤ g ∧ wr.rowIs g 9 cap (krow K n) ∧ (∀ j, j < n → (K j).size ≤ 140737488351232) ∧ Below w.heap.size w wr ∧ g < wr.heap.size

theorem kst_step {w wr w' : World} {g cap n : Nat} {K : Nat → ByteArray} (s : ByteArray) (hs : s.size ≤ 140737488351232) (h : Kst w wr g cap n K) (o1 o2 : Obj)
    (hr : w'.rowIs g 9 cap (fun j => if n ≤ j ∧ j < n + 1 then .string s else krow K n j)) (ho : Only g ((wr.alloc o1).alloc o2) w') : Kst w w' g cap (n + 1) (fun i => if i = n then s else K i) := by
  obtain ⟨h1, h2, h3, h4, h5⟩ := h
  refine ⟨h1, hr.congr fun j _ => krow_step K n s j, fun j hj => ?_, ?_, ?_⟩
  · show (if j = n then s else K j).size ≤ 140737488351232
    by_cases e : j = n
    · rw [if_pos e]; exact hs
    · rw [if_neg e]; exact h3 j (by omega)
  · exact ((h4.alloc h4.size _).alloc (by have := h4.size; simp; omega) _).trans (ho.below h1)
  · rw [ho.size]; simp; omega

/-- The values and what is wanted of them, while they are filled: rows of the call's own, at the end of the heap as it stood (wr). -/
def Vst (w wr wq : World) (n j : Nat) (V : Nat → Int) : Prop :=
  wq.rowIs wr.heap.size 20 n (fun i => if i < j then ival V i else .nilIface) ∧ wq.rowIs (wr.heap.size + 1) 2 n (fun i => if i < j then .int .i64 (V i) else .int .i64 0) ∧ Below wr.heap.size wr wq ∧ Below w.heap.size w wq ∧ w.heap.size ≤ wr.heap.size
theorem vst_start {w wr : World} (hb : Below w.heap.size w wr) (n : Nat) : Vst w wr ((wr.alloc (.cells (madeCells #[.nilIface] n) 20)).alloc (.cells (madeCells #[.int .i64 0] n) 2)) n 0 (fun _ => 0) := by
  refine ⟨(World.rowIs_made _ _ _ _).alloc _, ?_, ((Below.refl _ _).alloc (Nat.le_refl _) _).alloc (by simp) _, (hb.alloc hb.size _).alloc (by have := hb.size; simp; omega) _, hb.size⟩
  have := World.rowIs_made (wr.alloc (.cells (madeCells #[.nilIface] n) 20)) (.int .i64 0) n 2
  rw [World.size_alloc] at this
  exact this
theorem vst_step {w wr wq : World} {n j : Nat} {V : Nat → Int} (h : Vst w wr wq n j V) (x : Int) :
    Vst w wr ((wq.setCell ⟨wr.heap.size + 1, j, none⟩ (.int .i64 x)).setCell ⟨wr.heap.size, j, none⟩ (.iface 2 (.int .i64 x))) n (j + 1) (fun i => if i = j then x else V i) := by
  obtain ⟨h1, h2, h3, h4, hsz⟩ := h
  refine ⟨?_, ?_, (h3.setCell (by show wr.heap.size ≤ wr.heap.size + 1; omega) _).setCell (Nat.le_refl _) _, (h4.setCell (by show w.heap.size ≤ wr.heap.size + 1; omega) _).setCell hsz _, hsz⟩
  · refine ((h1.setOther (by show wr.heap.size ≠ wr.heap.size + 1; omega) _).set j _).congr fun i _ => ?_
    show (if i = j then _ else if i < j then _ else _) = (if i < j + 1 then Value.iface 2 (.int .i64 (if i = j then x else V i)) else _)
    by_cases e : i = j
    · subst e; simp
    · by_cases e2 : i < j
      · simp [e, e2, show i < j + 1 by omega, ival]
      · simp [e, e2, show ¬ i < j + 1 by omega]
  · refine ((h2.set j _).setOther (by show wr.heap.size + 1 ≠ wr.heap.size; omega) _).congr fun i _ => ?_
    show (if i = j then _ else if i < j then _ else _) = (if i < j + 1 then Value.int .i64 (if i = j then x else V i) else _)
    by_cases e : i = j
    · subst e; simp
    · by_cases e2 : i < j
      · simp [e, e2, show i < j + 1 by omega]
      · simp [e, e2, show ¬ i < j + 1 by omega]

def nval (V : Nat → Int) (j : Nat) : Value := .int .i64 (V j)
theorem pre_of_row {w : World} {g : Nat} {e : TypeId} {m n : Nat} {f h : Nat → Value} (hr : w.rowIs g e m f) (hn : n ≤ m) (hf : ∀ i, i < n → f i = h i) : rowPre w g e n h := by
  obtain ⟨c, h1, h2, h3⟩ := hr
  exact ⟨c, h1, by omega, fun i hi => by rw [h3 i (by omega), hf i hi]⟩
theorem kst_pre {w wk wr : World} {cap n : Nat} {K : Nat → ByteArray} (h : Kst w wk w.heap.size cap n K) (hb : Below wk.heap.size wk wr) (hn : n ≤ cap) : rowPre wr w.heap.size 9 n (sval K) :=
  pre_of_row (h.2.1.of_block (hb.block _ h.2.2.2.2)) hn fun i hi => by unfold krow sval; rw [if_pos hi]
theorem vst_pre {w wk wr : World} {n : Nat} {V : Nat → Int} (h : Vst w wk wr n n V) : rowPre wr wk.heap.size 20 n (ival V) :=
  pre_of_row h.1 (Nat.le_refl _) fun i hi => by rw [if_pos hi]
theorem wst_pre {w wk wr : World} {n : Nat} {V : Nat → Int} (h : Vst w wk wr n n V) : rowPre wr (wk.heap.size + 1) 2 n (nval V) :=
  pre_of_row h.2.1 (Nat.le_refl _) fun i hi => by rw [if_pos hi]; rfl

theorem eql26_other {w : World} {c b : Nat} {f h : Nat → Value} (hc : w.rowIs c 29 6 f) (hb : w.rowIs b 29 6 h) (hne : c ≠ b) :
    (binOp .eql 26 (.pointer (some ⟨c, 0, none⟩)) (.pointer (some ⟨b, 0, none⟩))).run Yba.prog w = .ok (.bool false) w := by
  obtain ⟨x, hx, _⟩ := hc
  obtain ⟨y, hy, _⟩ := hb
  have h29 : (Yba.prog.info? 29).isSome = true := by kernel_rfl
  obtain ⟨j, hj⟩ := Option.isSome_iff_exists.1 h29
  have hsz : (Yba.prog.info? 29).map (·.size) = some 6 := by kernel_rfl
  have : j.size ≠ 0 := by rw [hj] at hsz; simp at hsz; omega
  exact run_eql_ptr_other w Yba.underlying26 hj this (fun h => hne (by injection h)) hx hy

theorem ta2 (W : World) (v : Int) : (Instr.typeAssert (.iface 2 (.int .i64 v)) 20 2 true).run Yba.prog W = .ok (.tuple #[.int .i64 v, .bool true]) W := by kernel_rfl
theorem end_below {w wc : World} {q g1 g2 : Nat} (h : Below w.heap.size w wc) (h1 : w.heap.size ≤ g1) (h2 : w.heap.size ≤ g2) (a b : Value) : Below w.heap.size w (((wc.drewN q).setCell ⟨g1, 0, none⟩ a).setCell ⟨g2, 0, none⟩ b) :=
  Below.setCell (Below.setCell (a := w) (w := wc.drewN q) ⟨h.os, h.tape, h.output, h.size, h.block⟩ h1 a) h2 b
theorem drewN_below {w wc : World} {q : Nat} (h : Below w.heap.size w wc) : Below w.heap.size w (wc.drewN q) := ⟨h.os, h.tape, h.output, h.size, h.block⟩

theorem look_run {w : World} {bm n i : Nat} {K : Nat → ByteArray} (h : w.ownsMap Yba.prog 9 (plainElem (H := Unit) Yba.prog 3) bm n (idxD K n)) (hi : i < n) (hs : (K i).size ≤ maxLen) :
    (Instr.lookup 27 (.map (some bm)) (.string (K i)) true).run Yba.prog w = .ok (.tuple #[.int .i64 (lastTo K i (n - 1 - i) : Nat), .bool true]) w := by
  obtain ⟨v, ps, hrun, hv⟩ := h.look_ok law9 Yba.underlying27 (zero3 w) (plainElem_int Yba.underlying3 (a := 0) (by decide)) (Go.WideMaps.keyOf_string_mk Yba.underlying9 hs)
  obtain ⟨c, rfl, hc, _⟩ := plainElem_int_inv Yba.underlying3 hv
  obtain ⟨h1, h2⟩ := idxD_look K (.lit (.int .i64 0)) n i hi
  simp only [Prod.mk.injEq] at hc
  rw [h1] at hc
  rw [hrun, h2]
  have : ((lastTo K i (n - 1 - i) : Nat) : Int) = c := by
    have := hc.1
    simpa using this
  rw [this]

/-- The builtin append, by a run that is known but for its world. -/
theorem wpList_append_ex {P : Program} {w : World} {Φ : World → Prop} {ops : Array Oper} {rest : List Oper} {o : Oper} {a : Act} {Q : Exit → Act → World → Prop} (hgd : o.guard = none) (s x : Operand) (t : TypeId)
    (ho : o.op = .call { callee := .builtin .append, args := #[s, x], argTypes := #[t, t] }) {v u v' : Value} (hs : a.eval s = v) (hx : a.eval x = u)
    (hrun : ∃ w', (Builtin.append_ #[t, t] o.type #[v, u]).run P w = .ok v' w' ∧ Φ w') (h : ∀ w', Φ w' → wpList P ops Q rest (a.put o.dst v') w') : wpList P ops Q (o :: rest) a w := by
  obtain ⟨w', hr, hf⟩ := hrun
  exact wpList_append_run hgd s x t ho hs hx hr (h w' hf)

theorem kst_append {w wr : World} {g cap n : Nat} {K : Nat → ByteArray} (h : Kst w wr g cap n K) (hfit : n + 1 ≤ cap) (x y : Int) :
    ∃ w', (Builtin.append_ #[22, 22] 22 #[.slice (some ⟨g, 0, none⟩) n cap, .slice (some ⟨wr.heap.size + 1, 0, none⟩) 1 1]).run Yba.prog ((wr.alloc (.cells #[.int .u8 120, .int .u8 x, .int .u8 y] 5)).alloc (.cells #[.string (ex3 x y)] 9)) =
      .ok (.slice (some ⟨g, 0, none⟩) (n + 1) cap) w' ∧ ∃ K', Kst w w' g cap (n + 1) K' := by
  obtain ⟨w', hrun, hr, ho⟩ := append_fit ((wr.alloc (.cells #[.int .u8 120, .int .u8 x, .int .u8 y] 5)).alloc (.cells #[.string (ex3 x y)] 9)) g cap n _ ((h.2.1.alloc _).alloc _) (some ⟨wr.heap.size + 1, 0, none⟩) 1 1 (fun _ => .string (ex3 x y))
    (fun _ => ⟨_, _, rfl, fun j hj => by
      obtain rfl : j = 0 := by omega
      simp [go_sem]⟩) (by simp) (fun _ _ => rfl) hfit
  exact ⟨w', hrun, _, kst_step (ex3 x y) (by rw [ex3_size]; omega) h _ _ hr ho⟩

set_option maxRecDepth 20000 in
set_option maxHeartbeats 4000000 in
theorem law_main (a0 : Option Addr) (L cap0 : Nat) (K0 : Nat → ByteArray) (a1 : Option Addr) (M cap1 : Nat) (Z : Nat → Int) (x : Int) (pend : Bool) (sz mg : Int) (w : World) (hL : L ≤ 1024) (hM : M ≤ 1024) (hx : 0 ≤ x ∧ x ≤ 255)
    (hk0 : 0 < L → ∃ b off, a0 = some ⟨b, off, none⟩ ∧ ∀ j, j < L → w.cell? ⟨b, off + j, none⟩ = some (.string (K0 j))) (hkn : a0 = none → L = 0 ∧ cap0 = 0) (hks : ∀ j, j < L → (K0 j).size ≤ 140737488351232)
    (hv0 : 0 < M → ∃ b off, a1 = some ⟨b, off, none⟩ ∧ ∀ j, j < M → w.cell? ⟨b, off + j, none⟩ = some (.int .i64 (Z j))) :
    Calls Yba.prog 3 #[.slice a0 L cap0, .slice a1 M cap1, .int .u8 x, .bool pend, .int .i64 sz, .int .i64 mg] w fun e w' => e = .returned (.bool true) ∧ Below w.heap.size w w' := by
  obtain ⟨hx0, hx1⟩ := hx
  have hmk := make_keys (L + 48) (by omega)
  have ec : ((L + 48 : Nat) : Int) = (L : Int) + 48 := by omega
  rw [ec] at hmk
  clear ec
  have hKrow0 : (w.alloc (.cells (madeCells #[.string ByteArray.empty] (L + 48)) 9)).rowIs w.heap.size 9 (L + 48) (krow K0 0) := World.rowIs_made _ _ _ _
  obtain ⟨w1, hap1, hr1, ho1⟩ := append_fit (w.alloc (.cells (madeCells #[.string ByteArray.empty] (L + 48)) 9)) w.heap.size (L + 48) 0 _ hKrow0 a0 L cap0 (fun j => .string (K0 j))
    (fun h => by
      obtain ⟨b, off, ha, hc⟩ := hk0 h
      exact ⟨b, off, ha, fun j hj => cell_later ((Below.refl _ _).alloc (Nat.le_refl _) _) (hc j hj)⟩) hkn (fun _ _ => rfl) (by omega)
  rw [Nat.zero_add] at hap1
  have hst1 : Kst w w1 w.heap.size (L + 48) L K0 := ⟨Nat.le_refl _, hr1.congr (fun j hj => by
      unfold krow
      by_cases h : j < L
      · rw [if_pos (by omega), if_pos h]; rfl
      · rw [if_neg (by omega), if_neg h, if_neg (by omega)]), hks, ((Below.refl _ _).alloc (Nat.le_refl _) _).trans (ho1.below (Nat.le_refl _)), by rw [ho1.size]; simp⟩
  have HST : Hid _ := hst1
  have hb1 := hst1.2.2.2.1
  have HV : Hid _ := hv0
  obtain ⟨ne, hne⟩ : ∃ ne : Nat, x % 48 = (ne : Int) := ⟨(x % 48).toNat, by omega⟩
  have hne48 : ne < 48 := by omega
  have HNE : Hid _ := hne
  clear hne
  clear hk0 hkn hks hKrow0 hr1 ho1 hst1 hv0 hb1
  have hcv := conv3
  go_enter Yba.func3, Yba.ntmps3
  go_wp2_with (at_builtin; refine wpList_append_run rfl (.tmp 46) (.tmp 47) 22 rfl rfl rfl hap1 ?_)
  go_loopw [13, 15] (fun v i wr => ∃ (k : Nat) (K : Nat → ByteArray), k ≤ ne ∧ i = .int .i64 (k : Int) ∧ v = .slice (some ⟨w.heap.size, 0, none⟩) (L + k) (L + 48) ∧ Kst w wr w.heap.size (L + 48) (L + k) K) (fun _ i _ => ne - (intOf i).toNat)
  case atStart => exact ⟨0, K0, by omega, rfl, rfl, HST.out⟩
  case round =>
    obtain ⟨k, K, hk, rfl, rfl, hst⟩ := hrel
    have HK : Hid _ := hst
    have hgw := hst.2.2.2.2
    clear hst
    by_cases hlt : k < ne
    · have hlt' : (k : Int) < x % 48 := by rw [HNE.out]; omega
      go_wp2_with (at_builtin; refine wpList_append_ex rfl (.tmp 57) (.tmp 68) 22 rfl rfl rfl (kst_append HK.out (by omega) _ _) ?_; rintro w2 ⟨K2, hk2⟩)
      go_roundw
      case rel => exact ⟨k + 1, K2, by omega, by go_num, rfl, hk2⟩
      case measure => simp [intOf]; omega
    · obtain rfl : k = ne := by omega
      have hlt' : ¬ (k : Int) < x % 48 := by rw [HNE.out]; omega
      obtain ⟨wk, hwk⟩ : ∃ wk : World, wk = wr := ⟨_, rfl⟩
      subst hwk
      obtain ⟨n, hn⟩ : ∃ n, n = L + k := ⟨_, rfl⟩
      rw [← hn] at HK ⊢
      have hn2 : n ≤ 1100 := by omega
      have HN : Hid _ := hn
      clear hn
      have hmv := run_make_row' (P := Yba.prog) 25 20 .nilIface 16 Yba.underlying25 info20 rfl .i64 .i64 n (by omega) (by omega)
      have hmw := run_make_row' (P := Yba.prog) 23 2 (.int .i64 0) 8 Yba.underlying23 info2 rfl .i64 .i64 n (by omega) (by omega)
      go_wp2
      go_loopw [19] (fun i wq => ∃ (j : Nat) (V : Nat → Int), j ≤ n ∧ i = .int .i64 (j : Int) ∧ Vst w wk wq n j V) (fun i _ => n - (intOf i).toNat)
      case atStart => exact ⟨0, fun _ => 0, by omega, rfl, vst_start HK.out.2.2.2.1 n⟩
      case round =>
        obtain ⟨j, V, hj, rfl, hv⟩ := hrel
        have HVS : Hid _ := hv
        have f1 := hv.1.frozen j
        have f2 := hv.2.1.frozen j
        have hbq : Below w.heap.size w wr := hv.2.2.2.1
        clear hv
        by_cases hlt2 : j < n
        · have q1 := HVS.out.1.cell hlt2
          have q2 := HVS.out.2.1.cell hlt2
          by_cases hM0 : M = 0
          · subst hM0
            go_wp2
            go_roundw
            case rel => exact ⟨j + 1, _, by omega, by go_num, vst_step HVS.out _⟩
            case measure => simp [intOf]; omega
          · obtain ⟨b, off, rfl, hcell⟩ := HV.out (by omega)
            obtain ⟨r, hr⟩ : ∃ r : Nat, (j : Int) % (M : Int) = (r : Int) := ⟨((j : Int) % (M : Int)).toNat, by have := Int.emod_nonneg (j : Int) (show (M : Int) ≠ 0 by omega); omega⟩
            have hrM : r < M := by have := Int.emod_lt_of_pos (j : Int) (show (0 : Int) < M by omega); omega
            have q3 : wr.cell? ⟨b, off + r, none⟩ = some (.int .i64 (Z r)) := cell_later hbq (hcell r hrM)
            clear hcell
            go_wp2
            go_roundw
            case rel => exact ⟨j + 1, _, by omega, by go_num, vst_step HVS.out _⟩
            case measure => simp [intOf]; omega
        · obtain rfl : n = j := by omega
          go_wp2_with fail
          have hkst : rowPre (wr.alloc (.cells #[.slice (some ⟨w.heap.size, 0, none⟩) n (L + 48), .slice (some ⟨wk.heap.size, 0, none⟩) n n, .map none, .bool pend, .int .i64 sz, .int .i64 mg] 29)) w.heap.size 9 n (sval K) :=
            (kst_pre HK.out HVS.out.2.2.1 (by have := HN.out; omega)).alloc _
          have hvst : rowPre (wr.alloc (.cells #[.slice (some ⟨w.heap.size, 0, none⟩) n (L + 48), .slice (some ⟨wk.heap.size, 0, none⟩) n n, .map none, .bool pend, .int .i64 sz, .int .i64 mg] 29)) wk.heap.size 20 n (ival V) :=
            (vst_pre HVS.out).alloc _
          have hwst : rowPre (wr.alloc (.cells #[.slice (some ⟨w.heap.size, 0, none⟩) n (L + 48), .slice (some ⟨wk.heap.size, 0, none⟩) n n, .map none, .bool pend, .int .i64 sz, .int .i64 mg] 29)) (wk.heap.size + 1) 2 n (nval V) :=
            (wst_pre HVS.out).alloc _
          have hmrow := mp_new wr (.slice (some ⟨w.heap.size, 0, none⟩) n (L + 48)) (.slice (some ⟨wk.heap.size, 0, none⟩) n n) (.map none) pend sz mg
          obtain ⟨wm, hwm⟩ : ∃ wm, wm = wr.alloc (.cells #[.slice (some ⟨w.heap.size, 0, none⟩) n (L + 48), .slice (some ⟨wk.heap.size, 0, none⟩) n n, .map none, .bool pend, .int .i64 sz, .int .i64 mg] 29) := ⟨_, rfl⟩
          obtain ⟨b, hb⟩ : ∃ b, b = wr.heap.size := ⟨_, rfl⟩
          have hbm : Below w.heap.size w wm := by rw [hwm]; exact hbq.alloc hbq.size _
          have hsm : wm.heap.size = b + 1 := by rw [hwm, hb]; simp
          obtain ⟨gv, hgv⟩ : ∃ gv, gv = wk.heap.size := ⟨_, rfl⟩
          have hgvb : gv + 1 < b := by rw [hgv, hb]; exact (wst_pre HVS.out).lt
          rw [← hwm] at hkst hvst hwst hmrow
          rw [← hgv] at hvst hwst hmrow
          rw [← hb] at hmrow
          have HKS : Hid _ := HK.out.2.2.1
          rw [← hwm, ← hb, ← hgv]
          have HSM : Hid _ := hsm
          have hgkm : w.heap.size < gv := by rw [hgv]; exact hgw
          clear hsm hwm HVS hmv hmw HK hb hgv hbq hgw HV HST hap1 hmk hcv
          have n27 : ∀ (w : World) (r : Option Nat), (binOp .neq 27 (.map r) (.map none)).run Yba.prog w = .ok (.bool (!r.isNone)) w := fun w r => run_neq_map_nil w _ _ _ r Yba.underlying27
          have e27 : ∀ (w : World) (r : Option Nat), (binOp .eql 27 (.map r) (.map none)).run Yba.prog w = .ok (.bool r.isNone) w := fun w r => run_eql_map_nil w _ _ _ r Yba.underlying27
          have hta := ta2
          by_cases hn0 : n = 0
          · subst hn0
            refine (clone_zero b w.heap.size (L + 48) gv 0 pend sz mg wm hmrow).mono ?_
            rintro e wc ⟨c, rfl, hc, hc1, hbc⟩
            have hsz := HSM.out
            have hmrow := hmrow.of_block (hbc.block _ (by omega))
            have hbw : Below w.heap.size w wc := hbm.trans (hbc.mono (by omega))
            have ecm : (binOp .eql 26 (.pointer (some ⟨c, 0, none⟩)) (.pointer (some ⟨b, 0, none⟩))).run Yba.prog wc = .ok (.bool false) wc := eql26_other hc1 hmrow (by omega)
            have d0 : wc.cell? ⟨c, 0, none⟩ = some (.slice none 0 0) := hc1.cell (i := 0) (by omega)
            have d1 : wc.cell? ⟨c, 1, none⟩ = some (.slice none 0 0) := hc1.cell (i := 1) (by omega)
            have d2 : wc.cell? ⟨c, 2, none⟩ = some (.map none) := hc1.cell (i := 2) (by omega)
            have d3 : wc.cell? ⟨c, 3, none⟩ = some (.bool pend) := hc1.cell (i := 3) (by omega)
            have d4 : wc.cell? ⟨c, 4, none⟩ = some (.int .i64 0) := hc1.cell (i := 4) (by omega)
            have d5 : wc.cell? ⟨c, 5, none⟩ = some (.int .i64 0) := hc1.cell (i := 5) (by omega)
            have m0 : wc.cell? ⟨b, 0, none⟩ = some (.slice (some ⟨w.heap.size, 0, none⟩) 0 (L + 48)) := hmrow.cell (i := 0) (by omega)
            have m1 : wc.cell? ⟨b, 1, none⟩ = some (.slice (some ⟨gv, 0, none⟩) 0 0) := hmrow.cell (i := 1) (by omega)
            have m2 : wc.cell? ⟨b, 2, none⟩ = some (.map none) := hmrow.cell (i := 2) (by omega)
            have m3 : wc.cell? ⟨b, 3, none⟩ = some (.bool pend) := hmrow.cell (i := 3) (by omega)
            have m4 : wc.cell? ⟨b, 4, none⟩ = some (.int .i64 sz) := hmrow.cell (i := 4) (by omega)
            have m5 : wc.cell? ⟨b, 5, none⟩ = some (.int .i64 mg) := hmrow.cell (i := 5) (by omega)
            clear hsz HSM hbm hc1 hmrow hvst hkst hwst
            go_wp2
            refine wp_loop_rounds 1 ?_
            rw [rounds_succ]
            go_wp2
            go_ret
            exact ⟨rfl, hbw⟩
          · refine (clone_pos b w.heap.size (L + 48) gv n n K V pend sz mg wm (by omega) (by omega) hmrow hkst hvst (fun j hj => by have := HKS.out j hj; unfold maxLen; omega)).mono ?_
            rintro e wc ⟨g1, cp1, g2, cp2, c, ixv, rfl, hg1, hg12, hg2c, hk1, hv1, hc1, hbc, hfew, hmany⟩
            have hsz := HSM.out
            have hkst := hkst.of_block (hbc.block _ (by omega))
            have hvst := hvst.of_block (hbc.block _ (by omega))
            have hwst := hwst.of_block (hbc.block _ (by omega))
            have hmrow := hmrow.of_block (hbc.block _ (by omega))
            have hbw : Below w.heap.size w wc := hbm.trans (hbc.mono (by omega))
            have hbc' : b < g1 := by omega
            have ecm : (binOp .eql 26 (.pointer (some ⟨c, 0, none⟩)) (.pointer (some ⟨b, 0, none⟩))).run Yba.prog wc = .ok (.bool false) wc := eql26_other hc1 hmrow (by omega)
            have d0 : wc.cell? ⟨c, 0, none⟩ = some (.slice (some ⟨g1, 0, none⟩) n cp1) := hc1.cell (i := 0) (by omega)
            have d1 : wc.cell? ⟨c, 1, none⟩ = some (.slice (some ⟨g2, 0, none⟩) n cp2) := hc1.cell (i := 1) (by omega)
            have d2 : wc.cell? ⟨c, 2, none⟩ = some ixv := hc1.cell (i := 2) (by omega)
            have d3 : wc.cell? ⟨c, 3, none⟩ = some (.bool pend) := hc1.cell (i := 3) (by omega)
            have d4 : wc.cell? ⟨c, 4, none⟩ = some (.int .i64 0) := hc1.cell (i := 4) (by omega)
            have d5 : wc.cell? ⟨c, 5, none⟩ = some (.int .i64 0) := hc1.cell (i := 5) (by omega)
            have m0 : wc.cell? ⟨b, 0, none⟩ = some (.slice (some ⟨w.heap.size, 0, none⟩) n (L + 48)) := hmrow.cell (i := 0) (by omega)
            have m1 : wc.cell? ⟨b, 1, none⟩ = some (.slice (some ⟨gv, 0, none⟩) n n) := hmrow.cell (i := 1) (by omega)
            have m2 : wc.cell? ⟨b, 2, none⟩ = some (.map none) := hmrow.cell (i := 2) (by omega)
            have m3 : wc.cell? ⟨b, 3, none⟩ = some (.bool pend) := hmrow.cell (i := 3) (by omega)
            have m4 : wc.cell? ⟨b, 4, none⟩ = some (.int .i64 sz) := hmrow.cell (i := 4) (by omega)
            have m5 : wc.cell? ⟨b, 5, none⟩ = some (.int .i64 mg) := hmrow.cell (i := 5) (by omega)
            have y1 : wc.cell? ⟨w.heap.size, 0, none⟩ = some (.string (K 0)) := hkst.cell (by omega)
            have y2 : wc.cell? ⟨g1, 0, none⟩ = some (.string (K 0)) := hk1.cell (by omega)
            have y3 : wc.cell? ⟨g2, 0, none⟩ = some (.iface 2 (.int .i64 (V 0))) := hv1.cell (by omega)
            have y4 : wc.cell? ⟨gv, 0, none⟩ = some (.iface 2 (.int .i64 (V 0))) := hvst.cell (by omega)
            have y5 : wc.cell? ⟨gv + 1, 0, none⟩ = some (.int .i64 (V 0)) := hwst.cell (by omega)
            have z1 := hk1.frozen 0
            have z2 := hv1.frozen 0
            have hK0 := HKS.out 0 (by omega)
            have t1 : b ≠ g1 := by omega
            have t2 : b ≠ g2 := by omega
            have t3 : c ≠ g1 := by omega
            have t4 : w.heap.size ≠ g1 := by omega
            have t5 : w.heap.size ≠ g2 := by omega
            have t6 : gv ≠ g1 := by omega
            have t7 : gv ≠ g2 := by omega
            have t8 : gv + 1 ≠ g1 := by omega
            have t9 : gv + 1 ≠ g2 := by omega
            have t10 : g2 ≠ g1 := by omega
            have hw1 : w.heap.size ≤ g1 := by omega
            have hw2 : w.heap.size ≤ g2 := by omega
            have HH : Hid _ := hsz
            have HF : Hid _ := hfew
            have HM : Hid _ := hmany
            clear hsz hfew hmany hbc hbm hc1 hmrow hvst hbc'
            go_wp2
            go_loopw [23] (fun i wq => ∃ j q : Nat, j ≤ n ∧ i = .int .i64 (j : Int) ∧ wq = wc.drewN q) (fun i _ => n - (intOf i).toNat)
            case atStart => exact ⟨0, 0, by omega, rfl, rfl⟩
            case round =>
              obtain ⟨j, q, hj3, rfl, rfl⟩ := hrel
              by_cases hlt3 : j < n
              · have x1 : wc.cell? ⟨g1, j, none⟩ = some (.string (K j)) := hk1.cell hlt3
                have x2 : wc.cell? ⟨w.heap.size, j, none⟩ = some (.string (K j)) := hkst.cell hlt3
                have x3 : wc.cell? ⟨g2, j, none⟩ = some (.iface 2 (.int .i64 (V j))) := hv1.cell hlt3
                have x4 : wc.cell? ⟨gv + 1, j, none⟩ = some (.int .i64 (V j)) := hwst.cell hlt3
                go_wp2_with fail
                go_quiet (fail)
                go_wp2
                go_roundw
                case rel => exact ⟨j + 1, _, by omega, by go_num, rfl⟩
                case measure => simp [intOf]; omega
              · by_cases h16 : n < 16
                · have hix := HF.out h16
                  subst hix
                  go_wp2
                  go_ret
                  exact ⟨rfl, end_below hbw hw1 hw2 _ _⟩
                · obtain ⟨bm, hix, hcbm, hown⟩ := HM.out (by omega)
                  subst hix
                  have hstr : Hid (Strs wc w.heap.size n K) := fun i hi => hkst.cell hi
                  have hlook : Hid (∀ i q, i < n → (Instr.lookup 27 (.map (some bm)) (.string (K i)) true).run Yba.prog (wc.drewN q) = .ok (.tuple #[.int .i64 (lastTo K i (n - 1 - i) : Nat), .bool true]) (wc.drewN q)) :=
                    fun i q hi => look_run (w := wc.drewN q) hown hi (by have := HKS.out i hi; unfold maxLen; omega)
                  have hlen : Hid (∀ q, (Builtin.len_ #[27] 3 #[.map (some bm)]).run Yba.prog (wc.drewN q) = .ok (.int .i64 (cnt K n n : Nat)) (wc.drewN q)) := fun q => by
                    have h : World.ownsMap (wc.drewN q) Yba.prog 9 (plainElem (H := Unit) Yba.prog 3) bm n (idxD K n) := hown
                    have h' := h.len Yba.underlying27 3
                    rw [size_idxD] at h'
                    exact h'
                  clear hown
                  go_wp2
                  go_loopw [26, 27] (fun d i wq => ∃ i' q : Nat, i' ≤ n ∧ i = .int .i64 (i' : Int) ∧ d = .int .i64 (cnt K n i' : Nat) ∧ wq = wc.drewN q) (fun _ i _ => n - (intOf i).toNat)
                  case atStart => exact ⟨0, q, by omega, rfl, rfl, rfl⟩
                  case round =>
                    obtain ⟨i, q', hi4, rfl, rfl, rfl⟩ := hrel
                    have hcl := cnt_le K n i
                    by_cases hlt4 : i < n
                    · have hlb := lastTo_bd K i (n - 1 - i)
                      have hli := last_isLast K n i hlt4
                      have x2 : wc.cell? ⟨w.heap.size, i, none⟩ = some (.string (K i)) := hkst.cell hlt4
                      go_wp2_with fail
                      refine (last_any w.heap.size n (L + 48) i K (wc.drewN q') (fun j hj => hkst.cell hj) hlt4 (by omega)).mono ?_
                      rintro e w9 ⟨rfl, q9, hw9⟩
                      rw [hw9]
                      clear hw9
                      obtain ⟨l, hl⟩ : ∃ l, l = lastTo K i (n - 1 - i) := ⟨_, rfl⟩
                      rw [← hl] at hlb hli ⊢
                      have hlk : ∀ q, (Instr.lookup 27 (.map (some bm)) (.string (K i)) true).run Yba.prog (wc.drewN q) = .ok (.tuple #[.int .i64 (l : Int), .bool true]) (wc.drewN q) := fun q => by rw [hl]; exact hlook.out i q hlt4
                      clear hl
                      obtain ⟨ct, hct⟩ : ∃ ct, ct = cnt K n i := ⟨_, rfl⟩
                      have hstep : cnt K n (i + 1) = ct + if isLast K n i then 1 else 0 := by rw [hct]; rfl
                      rw [← hct] at hcl ⊢
                      have HSTEP : Hid _ := hstep
                      have HLI : Hid _ := hli
                      clear hct hstep hli
                      by_cases hli' : l = i
                      · have hlast := HLI.out.1 hli'
                        have HST : Hid (cnt K n (i + 1) = ct + 1) := by have := HSTEP.out; rw [hlast] at this; exact this
                        clear hlast HLI HSTEP
                        subst hli'
                        go_wp2_with fail
                        go_quiet (fail)
                        go_wp2
                        go_roundw
                        case rel => exact ⟨l + 1, _, by omega, by go_num, by rw [HST.out]; go_num, rfl⟩
                        case measure => simp [intOf]; omega
                      · have hlast : isLast K n i = false := by
                          cases h : isLast K n i with
                          | false => rfl
                          | true => exact absurd (HLI.out.2 h) hli'
                        have HST : Hid (cnt K n (i + 1) = ct) := by have := HSTEP.out; rw [hlast] at this; exact this
                        clear hlast HLI HSTEP
                        have hne' : ((l : Int) == (i : Int)) = false := by simp; omega
                        go_wp2_with fail
                        go_quiet (fail)
                        go_wp2
                        go_roundw
                        case rel => exact ⟨i + 1, _, by omega, by go_num, by rw [HST.out], rfl⟩
                        case measure => simp [intOf]; omega
                    · obtain rfl : n = i := by omega
                      have hl1 := fun q => hlen.out q
                      obtain ⟨ct, hct⟩ : ∃ ct, ct = cnt K n n := ⟨_, rfl⟩
                      rw [← hct]
                      simp only [← hct] at hl1 hcl
                      clear hct hlook hlen
                      go_wp2
                      go_ret
                      exact ⟨rfl, end_below hbw hw1 hw2 _ _⟩

set_option maxRecDepth 20000 in
theorem law_clone (a0 : Option Addr) (L cap0 : Nat) (K0 : Nat → ByteArray) (a1 : Option Addr) (M cap1 : Nat) (Z : Nat → Int) (x : Int) (pend : Bool) (sz mg : Int) (w : World) (hx : 0 ≤ x ∧ x ≤ 255) (hLm : L ≤ 9223372036854775807) (hMm : M ≤ 9223372036854775807)
    (hk0 : 0 < L → ∃ b off, a0 = some ⟨b, off, none⟩ ∧ ∀ j, j < L → w.cell? ⟨b, off + j, none⟩ = some (.string (K0 j))) (hkn : a0 = none → L = 0 ∧ cap0 = 0) (hks : ∀ j, j < L → (K0 j).size ≤ 140737488351232)
    (hv0 : 0 < M → ∃ b off, a1 = some ⟨b, off, none⟩ ∧ ∀ j, j < M → w.cell? ⟨b, off + j, none⟩ = some (.int .i64 (Z j))) :
    Calls Yba.prog 3 #[.slice a0 L cap0, .slice a1 M cap1, .int .u8 x, .bool pend, .int .i64 sz, .int .i64 mg] w fun e w' => e = .returned (.bool true) ∧ Below w.heap.size w w' := by
  by_cases hL : L ≤ 1024
  · by_cases hM : M ≤ 1024
    · exact law_main a0 L cap0 K0 a1 M cap1 Z x pend sz mg w hL hM hx hk0 hkn hks hv0
    · have h1 : ¬ (1024 : Int) < (L : Int) := by omega
      have h2 : (1024 : Int) < (M : Int) := by omega
      clear hk0 hkn hks hv0
      go_enter Yba.func3, Yba.ntmps3
      go_wp2
      go_ret
      exact ⟨rfl, Below.refl _ _⟩
  · have h1 : (1024 : Int) < (L : Int) := by omega
    clear hk0 hkn hks hv0
    go_enter Yba.func3, Yba.ntmps3
    go_wp2
    go_ret
    exact ⟨rfl, Below.refl _ _⟩
end Go.Proofs.Ybulkcvka
