/- The told and tied card of 'LawS4827CReleasable': the arguments and the four sentinels opened, the walk by law_main (YbulkcuyeFmtLawW), the card by the builder for a told and tied row. -/
import Derived.Test.YbulkcuyeFmtLawW
import Derived.Test.YbulkcuyeFmtTie
import Derived.Test.YbulkcuyeFmtCards
import Derived.ProofKit
import Derived.OpenShut
import Derived.ChangeOld
import Derived.Below
import Derived.Stop.JoinedAt
import Derived.Stop.JoinedTold
import Derived.Stop.LaidErr
import Derived.Deep.Slices
import Derived.SevenTiedAt
namespace Go.Proofs.YbulkcuyeFmt.lawS4827CReleasable
open Go.ChangeShapes Go.WideShapes Go.ChangeAt Go.RowKit Go.Kit Go.Deep
open Go.Extern.Stop Go.Stop Go.Extern

theorem own : ownKnob Ybaf.prog.godebug = none := by kernel_rfl
theorem laidOut : laidOutB Ybaf.prog = true := by kernel_rfl
theorem star : "*" ++ "errors.errorString" = "*errors.errorString" := by decide
theorem row121 (u : TypeId) (h : Ybaf.prog.typeName? 3 u = some "*errors.errorString") : u = 121 :=
  typeName_ptr_named (nm := "errors.errorString") (by rw [star]; kernel_rfl) (by kernel_rfl) (by decide) u (by rw [star]; exact h)

theorem gt0 : (Ybaf.prog.globals[0]?).map (·.type) = some 98 := by kernel_rfl
theorem gt1 : (Ybaf.prog.globals[1]?).map (·.type) = some 98 := by kernel_rfl
theorem gt2 : (Ybaf.prog.globals[2]?).map (·.type) = some 98 := by kernel_rfl
theorem gt3 : (Ybaf.prog.globals[3]?).map (·.type) = some 98 := by kernel_rfl

set_option maxRecDepth 20000 in
/-- The list of entries, opened: every entry's three cells and its path's bytes. -/
theorem open_ents {H : Type} {enc : TypeId × Value → H} {w : World} {fuel : Nat} {a : Option Addr} {L cap : Nat} {x : DataW H × List MemPlace} (h : DataW.trod enc Ybaf.prog w 0 (fun _ => true) true fuel 22 [.slice a L cap] = some x) :
    ∃ (pa : Nat → Option Addr) (pn pc : Nat → Nat) (mo : Nat → Int) (ot : Nat → Bool) (z : Nat → Nat → Int), Ents w a L pa pn pc mo ot z := by
  rcases open_slice Ybaf.underlying22 h with ⟨hcs, _⟩ | ⟨a', len, cap', m, n, D, Pl, hcs, _, hl, _, hm, _, hx⟩
  · simp only [List.cons.injEq, Value.slice.injEq, and_true] at hcs
    obtain ⟨_, rfl, _⟩ := hcs
    exact ⟨fun _ => none, fun _ => 0, fun _ => 0, fun _ => 0, fun _ => false, fun _ _ => 0, fun h => absurd h (by omega), fun j hj => absurd hj (by omega), fun j hj => absurd hj (by omega), fun j hj => absurd hj (by omega)⟩
  · simp only [List.cons.injEq, Value.slice.injEq, and_true] at hcs
    obtain ⟨rfl, rfl, rfl⟩ := hcs
    simp only [if_true] at hm
    have c25 : Ybaf.prog.cellsOf 25 = 3 := by kernel_rfl
    have c23 : Ybaf.prog.cellsOf 23 = 1 := by kernel_rfl
    have c5 : Ybaf.prog.cellsOf 5 = 1 := by kernel_rfl
    have c4 : Ybaf.prog.cellsOf 4 = 1 := by kernel_rfl
    rw [c25] at hx
    have each : ∀ i, i < L → ∃ q : Option Addr × Nat × Nat × Int × Bool × (Nat → Int), w.cell? (a'.add (i * 3)) = some (.slice q.1 q.2.1 q.2.2.1) ∧ w.cell? (a'.add (i * 3 + 1)) = some (.int .u8 q.2.2.2.1) ∧ w.cell? (a'.add (i * 3 + 2)) = some (.bool q.2.2.2.2.1) ∧
        (0 < q.2.1 → ∃ b off, q.1 = some ⟨b, off, none⟩ ∧ ∀ k, k < q.2.1 → w.cell? ⟨b, off + k, none⟩ = some (.int .u8 (q.2.2.2.2.2 k))) ∧ (∀ k, k < q.2.1 → 0 ≤ q.2.2.2.2.2 k ∧ q.2.2.2.2.2 k ≤ 255) ∧ 0 ≤ q.2.2.2.1 ∧ q.2.2.2.1 ≤ 255 := by
      intro i hi
      obtain ⟨cs', h1, h2⟩ := hx i (by omega)
      obtain ⟨_, hlen, hcell⟩ := World.cells?_some h1
      obtain ⟨xs, k, _, _, _, hxl, hf⟩ := DataW.trod_struct Ybaf.underlying25 h2
      match xs, hxl, cs', hlen with
      | [y0, y1, y2], _, [v0, v1, v2], _ =>
        have g0 := hf 0 _ rfl
        have g1 := hf 1 _ rfl
        have g2 := hf 2 _ rfl
        simp [c23, c5, c4] at g0 g1 g2
        have e0 := hcell 0 (by omega)
        have e1 := hcell 1 (by omega)
        have e2 := hcell 2 (by omega)
        rw [add_add] at e0 e1 e2
        simp at e0 e1 e2
        obtain ⟨mo, hmo, _, wmo⟩ := DataW.trod_int Ybaf.underlying5 g1
        obtain ⟨ot, hot, _⟩ := DataW.trod_bool Ybaf.underlying4 g2
        simp only [List.cons.injEq, and_true] at hmo hot
        subst hmo hot
        have bmo := bounds_u8 wmo
        rcases open_ints Ybaf.underlying23 Ybaf.underlying5 c5 g0 with ⟨hcs, _⟩ | ⟨x, l, c, zs, hcs, _, hl', _, hz, _, hc', hwz⟩
        · simp only [List.cons.injEq, and_true] at hcs
          subst hcs
          exact ⟨(none, 0, 0, mo, ot, fun _ => 0), e0, e1, e2, fun h => absurd h (by simp), fun k hk => absurd hk (by simp), by omega⟩
        · simp only [List.cons.injEq, and_true] at hcs
          subst hcs
          simp only [if_true] at hz
          refine ⟨(some x, l, c, mo, ot, fun k => zs.getD k 0), e0, e1, e2, fun hpos => ?_, fun k hk => ?_, by omega⟩
          · obtain ⟨b, off, rfl, hc⟩ := ints_at hc' (by have : 0 < l := hpos; omega)
            exact ⟨b, off, rfl, fun j hj => hc j (by have : j < l := hj; omega)⟩
          · have hk' : k < zs.length := by have : k < l := hk; omega
            have hmem : zs.getD k 0 ∈ zs := by
              rw [List.getD_eq_getElem?_getD, List.getElem?_eq_getElem hk']
              exact List.getElem_mem hk'
            have := bounds_u8 (hwz _ hmem)
            omega
    obtain ⟨q, hq⟩ := choose_lt each
    refine ⟨fun j => (q j).1, fun j => (q j).2.1, fun j => (q j).2.2.1, fun j => (q j).2.2.2.1, fun j => (q j).2.2.2.2.1, fun j => (q j).2.2.2.2.2, fun hpos => ?_, fun j hj => (hq j hj).2.2.2.1, fun j hj => (hq j hj).2.2.2.2.1, fun j hj => (hq j hj).2.2.2.2.2⟩
    obtain ⟨b, off, spot⟩ := a'
    have hspot : spot = none := by simpa [Addr.add] using World.cell?_spot (hq 0 hpos).1
    subst hspot
    exact ⟨b, off, rfl, fun j hj => by
      have := hq j hj
      simp only [add_plain] at this
      exact ⟨this.1, by rw [Nat.add_assoc]; exact this.2.1, by rw [Nat.add_assoc]; exact this.2.2.1⟩⟩

/-- A start that fits: four blocks more, the sentinels' structs. -/
theorem vars_read4 {H : Type} (enc : TypeId × Value → H) {P : Program} {W : World} {n0 n1 n2 n3 : String} {g0 g1 g2 g3 : Nat} {t : TypeId} {ms : Array (String × TypeId)} {x0 x1 x2 x3 : Value} (hi : P.underlying t = some (.interface ms))
    (hg0 : P.globalNamed n0 = some g0) (ht0 : (P.globals[g0]?).map (·.type) = some t) (h0 : W.var? P n0 = some #[x0]) (i0 : IsIface x0)
    (hg1 : P.globalNamed n1 = some g1) (ht1 : (P.globals[g1]?).map (·.type) = some t) (h1 : W.var? P n1 = some #[x1]) (i1 : IsIface x1)
    (hg2 : P.globalNamed n2 = some g2) (ht2 : (P.globals[g2]?).map (·.type) = some t) (h2 : W.var? P n2 = some #[x2]) (i2 : IsIface x2)
    (hg3 : P.globalNamed n3 = some g3) (ht3 : (P.globals[g3]?).map (·.type) = some t) (h3 : W.var? P n3 = some #[x3]) (i3 : IsIface x3) (sp : Nat → Bool) :
    DataW.TrodVars enc P W sp [n0, n1, n2, n3] [tok enc x0, tok enc x1, tok enc x2, tok enc x3] [.cell g0 0, .cell g1 0, .cell g2 0, .cell g3 0] :=
  ⟨g0, t, #[x0], 1, [], [.cell g1 0, .cell g2 0, .cell g3 0], hg0, ht0, h0, trod_held hi i0 0, ⟨g1, t, #[x1], 1, [], [.cell g2 0, .cell g3 0], hg1, ht1, h1, trod_held hi i1 0,
    ⟨g2, t, #[x2], 1, [], [.cell g3 0], hg2, ht2, h2, trod_held hi i2 0, ⟨g3, t, #[x3], 1, [], [], hg3, ht3, h3, trod_held hi i3 0, rfl, rfl⟩, rfl⟩, rfl⟩, rfl⟩

/-- A package-level variable holds behind the call what it held. -/
theorem var_below {P : Program} {W W' : World} {n : String} {cs : Array Value} (b : Below W.heap.size W W') (h : W.var? P n = some cs) : W'.var? P n = some cs := by
  unfold World.var? at h ⊢
  cases hg : P.globalNamed n with
  | none => simp [hg] at h
  | some g =>
    simp only [hg, Option.bind_some] at h ⊢
    have hlt : g < W.heap.size := by
      rcases Nat.lt_or_ge g W.heap.size with h' | h'
      · exact h'
      · simp [Array.getElem?_eq_none h'] at h
    rw [b.block g hlt]
    exact h

def layAt (h : Array Obj) (g : Nat) (v : Value) : Array Obj := h.modify g fun
  | .cells _ t frozen => .cells #[v] t frozen
  | o => o

/-- A world with the four variables laid: pointers to the blocks N, N + 1, N + 2, N + 3. -/
def layIn (w0 : World) (N : Nat) : World :=
  { w0 with heap := layAt (layAt (layAt (layAt w0.heap 3 (.iface 121 (.pointer (some ⟨N, 0, none⟩)))) 1 (.iface 121 (.pointer (some ⟨N + 1, 0, none⟩)))) 0 (.iface 121 (.pointer (some ⟨N + 2, 0, none⟩)))) 2 (.iface 121 (.pointer (some ⟨N + 3, 0, none⟩))) }

def textOfLaid (d : DataW Unit) : ByteArray :=
  match d with
  | .iface _ (.ptr (.agg [.lit (.string s)])) => ⟨s.toArray⟩
  | _ => ByteArray.empty

def laidBlocks : Array Obj :=
  #[.cells #[.string (textOfLaid Rows.laid_example_com_tidelock_tidelock_errRigorous)] 123, .cells #[.string (textOfLaid Rows.laid_example_com_tidelock_tidelock_ErrAborted)] 123,
    .cells #[.string (textOfLaid Rows.laid_example_com_tidelock_tidelock_errCommitted)] 123, .cells #[.string (textOfLaid Rows.laid_example_com_tidelock_tidelock_errWaiting)] 123]

theorem laid_met (os : Os) (args : Array Value) :
    laidMet Ybaf.prog Rows.lawS4827CReleasableRow.laid ((layIn (World.holding Ybaf.prog os ⟨laidBlocks, #[], []⟩) (World.settled Ybaf.prog default).heap.size).forCall (fun _ _ => 0) ⟨#[], args, []⟩).memory :=
  laidMet_of_run (ps := [.cell 3 0, .cell (World.settled Ybaf.prog default).heap.size 0, .cell 1 0, .cell ((World.settled Ybaf.prog default).heap.size + 1) 0, .cell 0 0, .cell ((World.settled Ybaf.prog default).heap.size + 2) 0, .cell 2 0, .cell ((World.settled Ybaf.prog default).heap.size + 3) 0]) 8 (by kernel_rfl) (by kernel_rfl) (by kernel_rfl)

set_option maxRecDepth 100000 in
theorem lifted (os : Os) (started : os.Started) (H : Type) (enc : TypeId × Value → H) :
    ReturnsInTold none {} Ybaf.checked os 3 .any Input.okWide ((OpenSpec.ofChange Rows.lawS4827CReleasableSpec).preRow enc Ybaf.prog Ybaf.f3 Rows.lawS4827CReleasableRow.domain false Rows.lawS4827CReleasableRow.laid)
      (fun F => ((OpenSpec.ofChange Rows.lawS4827CReleasableSpec).at F).post enc Ybaf.prog Ybaf.f3 false true false false) (aloneAtReturn Ybaf.prog) nothingAlways := by
  refine returnsInTold_of_row (C := Ybaf.checked) (s := OpenSpec.ofChange Rows.lawS4827CReleasableSpec) (by kernel_rfl) own started (by kernel_rfl) Ybaf.func3
    (OpenSpec.witness_stopped_at (enc := enc) (C := Ybaf.checked) false (layIn (World.holding Ybaf.prog os ⟨laidBlocks, #[], []⟩) (World.settled Ybaf.prog default).heap.size) #[.int .u8 0, .int .u8 0, .bool false, .slice none 0 0, .slice none 0 0] rfl (by kernel_rfl) (by kernel_rfl) (by kernel_rfl)
      (OpenSpec.preRow_of_B rfl 8 (by kernel_rfl) (by kernel_rfl) (laid_met os _))) ?_
  intro F W base args ds gs before _ hF hval0 hW _ _ _ hL _
  have hval : ∀ (j : Nat) t v, Ybaf.f3.params[j]? = some t → args[j]? = some v → Value.okWide Ybaf.prog W .any base t v := hval0
  have hW' := hW
  obtain ⟨p, q, hA0, hV0, rfl, hfz, hnd⟩ := hW
  have hA : DataW.TrodAll enc Ybaf.prog W 0 (fun _ => true) true Ybaf.f3.params.toList args.toList ds p := hA0
  have hV : DataW.TrodVars enc Ybaf.prog W (fun _ => true) Rows.lawS4827CReleasableSpec.vars gs q := hV0
  have hL' : laidMet Ybaf.prog Rows.lawS4827CReleasableRow.laid W := hL
  rw [Ybaf.params3] at hA hval
  obtain ⟨v0, vs0, d0, ds0, p0, q0, hargs, rfl, rfl, h0, r0⟩ := trodAll_cons hA
  obtain ⟨v1, vs1, d1, ds1, p1, q1, rfl, rfl, rfl, h1, r1⟩ := trodAll_cons r0
  obtain ⟨v2, vs2, d2, ds2, p2, q2, rfl, rfl, rfl, h2, r2⟩ := trodAll_cons r1
  obtain ⟨v3, vs3, d3, ds3, p3, q3, rfl, rfl, rfl, h3, r3⟩ := trodAll_cons r2
  obtain ⟨v4, vs4, d4, ds4, p4, q4, rfl, rfl, rfl, h4, r4⟩ := trodAll_cons r3
  obtain ⟨rfl, rfl, rfl⟩ := trodAll_nil r4
  obtain rfl : args = #[v0, v1, v2, v3, v4] := by cases args; simp_all
  obtain ⟨a0, rfl, rfl, rfl, w0⟩ := open_int Ybaf.underlying5 (hval 0 5 v0 rfl rfl) h0
  obtain ⟨a1, rfl, rfl, rfl, w1⟩ := open_int Ybaf.underlying5 (hval 1 5 v1 rfl rfl) h1
  obtain ⟨a2, rfl, rfl, rfl⟩ := open_bool Ybaf.underlying4 (hval 2 4 v2 rfl rfl) h2
  obtain ⟨a3, L, cap3, rfl⟩ := okWide_slice Ybaf.underlying22 (hval 3 22 v3 rfl rfl)
  obtain ⟨a4, M, cap4, rfl⟩ := okWide_slice Ybaf.underlying23 (hval 4 23 v4 rfl rfl)
  have lt3 : ∀ x ∈ p3, x.block < W.heap.size := by obtain ⟨m, hm⟩ := h3; exact DataW.trod_lt m _ _ _ hm
  have lt4 : ∀ x ∈ p4, x.block < W.heap.size := by obtain ⟨m, hm⟩ := h4; exact DataW.trod_lt m _ _ _ hm
  obtain ⟨pa, pn, pc, mo, ot, z, hE⟩ : ∃ (pa : Nat → Option Addr) (pn pc : Nat → Nat) (mo : Nat → Int) (ot : Nat → Bool) (z : Nat → Nat → Int), Ents W a3 L pa pn pc mo ot z := by
    obtain ⟨fuel, hf⟩ := h3
    exact open_ents hf
  obtain ⟨zq, hq, hzq⟩ : ∃ zq : Nat → Int, (0 < M → ∃ b off, a4 = some ⟨b, off, none⟩ ∧ ∀ i, i < M → W.cell? ⟨b, off + i, none⟩ = some (.int .u8 (zq i))) ∧ ∀ i, i < M → 0 ≤ zq i ∧ zq i ≤ 255 := by
    obtain ⟨fuel, hf⟩ := h4
    rcases open_ints Ybaf.underlying23 Ybaf.underlying5 (by kernel_rfl) hf with ⟨hcs, _⟩ | ⟨x, l, c, zs, hcs, _, hl, _, hz, _, hcell, hwz⟩
    · simp [Value.cells] at hcs
      obtain ⟨rfl, rfl, rfl⟩ := hcs
      exact ⟨fun _ => 0, fun h => absurd h (by omega), fun i hi => absurd hi (by omega)⟩
    · simp [Value.cells] at hcs
      obtain ⟨rfl, rfl, rfl⟩ := hcs
      simp only [if_true] at hz
      refine ⟨fun j => zs.getD j 0, fun hpos => ?_, fun i hi => ?_⟩
      · obtain ⟨b, off, rfl, hc⟩ := ints_at hcell (by omega)
        exact ⟨b, off, rfl, fun j hj => hc j (by omega)⟩
      · have hmem : zs.getD i 0 ∈ zs := by
          rw [List.getD_eq_getElem?_getD, List.getElem?_eq_getElem (by omega)]
          exact List.getElem_mem (by omega)
        have := bounds_u8 (hwz _ hmem)
        omega
  obtain ⟨y3, s3, hv3, _⟩ := laid_sentinel (g := 3) hL' (by kernel_rfl) gt3 Ybaf.underlying98 row121 Ybaf.underlying121 Ybaf.underlying123 rfl rfl Ybaf.underlying9 (by kernel_rfl) (by kernel_rfl)
  obtain ⟨y1, s1, hv1, _⟩ := laid_sentinel (g := 1) hL'.tail (by kernel_rfl) gt1 Ybaf.underlying98 row121 Ybaf.underlying121 Ybaf.underlying123 rfl rfl Ybaf.underlying9 (by kernel_rfl) (by kernel_rfl)
  obtain ⟨y0, s0, hv0, _⟩ := laid_sentinel (g := 0) hL'.tail.tail (by kernel_rfl) gt0 Ybaf.underlying98 row121 Ybaf.underlying121 Ybaf.underlying123 rfl rfl Ybaf.underlying9 (by kernel_rfl) (by kernel_rfl)
  obtain ⟨y2, s2, hv2, _⟩ := laid_sentinel (g := 2) hL'.tail.tail.tail (by kernel_rfl) gt2 Ybaf.underlying98 row121 Ybaf.underlying121 Ybaf.underlying123 rfl rfl Ybaf.underlying9 (by kernel_rfl) (by kernel_rfl)
  have vr : ∀ (X : World), Below W.heap.size W X → ∀ sp, DataW.TrodVars enc Ybaf.prog X sp Rows.lawS4827CReleasableSpec.vars
      [tok enc (.iface 121 (.pointer (some y0))), tok enc (.iface 121 (.pointer (some y1))), tok enc (.iface 121 (.pointer (some y2))), tok enc (.iface 121 (.pointer (some y3)))] [.cell 0 0, .cell 1 0, .cell 2 0, .cell 3 0] := fun X bX sp =>
    vars_read4 enc Ybaf.underlying98 (by kernel_rfl) gt0 (var_below bX hv0) trivial (by kernel_rfl) gt1 (var_below bX hv1) trivial (by kernel_rfl) gt2 (var_below bX hv2) trivial (by kernel_rfl) gt3 (var_below bX hv3) trivial sp
  obtain ⟨rfl, rfl⟩ := hV.unique (vr W (Below.refl _ _) _)
  clear hA0 hV0 hval0
  have g0 : W.cell? ⟨0, 0, none⟩ = some (.iface 121 (.pointer (some y0))) := by simpa using World.var?_cell (g := 0) (by kernel_rfl) hv0 0
  have g1 : W.cell? ⟨1, 0, none⟩ = some (.iface 121 (.pointer (some y1))) := by simpa using World.var?_cell (g := 1) (by kernel_rfl) hv1 0
  have g2 : W.cell? ⟨2, 0, none⟩ = some (.iface 121 (.pointer (some y2))) := by simpa using World.var?_cell (g := 2) (by kernel_rfl) hv2 0
  have g3 : W.cell? ⟨3, 0, none⟩ = some (.iface 121 (.pointer (some y3))) := by simpa using World.var?_cell (g := 3) (by kernel_rfl) hv3 0
  have hsz : 4 ≤ W.heap.size := by
    rcases Nat.lt_or_ge 3 W.heap.size with h | h
    · exact h
    · simp [World.cell?, Array.getElem?_eq_none h] at g3
  have b0 := bounds_u8 w0
  have b1 := bounds_u8 w1
  refine (law_main F.told a0 a1 a2 a3 L cap3 a4 M cap4 pa pn pc mo ot z zq y0 y1 y2 y3 W hF (by omega) (by omega) (by omega) (by omega) hE hq hzq ⟨g0, g1, g2, g3⟩ hsz).mono fun e W' ⟨he, bel⟩ => ?_
  subst he
  exact ⟨_, rfl, _, _, _, [], _, _, hW', trodAll_mk1 (shut_bool Ybaf.underlying4 _), (trodAll_cons_mk (shut_int Ybaf.underlying5 w0) (trodAll_cons_mk (shut_int Ybaf.underlying5 w1) (trodAll_cons_mk (shut_bool Ybaf.underlying4 _)
    (trodAll_cons_mk (Below.trod laidOut (by kernel_rfl) (of_decide_eq_true (by kernel_rfl)) h3 bel lt3) (trodAll_cons_mk (Below.trod laidOut (by kernel_rfl) (of_decide_eq_true (by kernel_rfl)) h4 bel lt4) trodAll_mk0))))), vr W' bel _, bel.frame _, fun h => by cases h⟩

theorem stops : Ybaf.pinned.checked.prog.stops = ["fmt.errorf"] := by kernel_rfl
theorem stopKnobs : Ybaf.pinned.checked.prog.stopKnobs = [] := by kernel_rfl
theorem quiet (os : Os) : Stop.quiet Ybaf.pinned.checked.prog os := by
  intro k hk
  rw [stopKnobs] at hk
  cases hk

theorem proved : Rows.LawS4827CReleasableToldSaid :=
  Claim7.holds_of_told_tied_any_at .later 3 Ybaf.f3 "fmt.errorf" [] [] _ _ _ _ _ (by kernel_rfl) rfl rfl rfl laidOut (by kernel_rfl) rfl ⟨rfl, rfl, rfl, rfl, rfl, rfl, rfl⟩ rfl rfl (by kernel_rfl) (by kernel_rfl) Ybaf.func3 (by kernel_rfl)
    (of_decide_eq_true (by kernel_rfl)) (of_decide_eq_true (by kernel_rfl)) stops.symm rfl stopKnobs.symm (by kernel_rfl)
    (by kernel_rfl) (by kernel_rfl) (by kernel_rfl) (by kernel_rfl) (by kernel_rfl) (by kernel_rfl) (by kernel_rfl) (by kernel_rfl) (by kernel_rfl) rfl (by kernel_rfl) rfl rfl
    rfl rfl
    rfl (by kernel_rfl) (by kernel_rfl) (by kernel_rfl) (by decide) (by kernel_rfl) lawS4827CReleasable_row_tie
    (OpenClaim.moreEntering_of (by kernel_rfl) (by kernel_rfl) (by kernel_rfl) (by kernel_rfl) (by kernel_rfl) (by kernel_rfl) (by kernel_rfl) (by kernel_rfl) (by kernel_rfl) (by kernel_rfl))
    ⟨_, WideRow.started_initial, quiet _⟩
    (fun os started _ H enc _ => lifted os started H enc)
end Go.Proofs.YbulkcuyeFmt.lawS4827CReleasable
