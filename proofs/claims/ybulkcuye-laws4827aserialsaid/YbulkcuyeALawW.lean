/- The law 'LawS4827ACycle' (func 3), walked. -/
import Derived.Test.YbulkcuyeABuildW
import Derived.Test.YbulkcuyeACycW
namespace Go.Proofs.Ybulkcuye.A
open Go.RowKit

theorem equal25 (w : World) (d : Nat) : (Op.equalIn (d + 1) 25 (.slice none 0 0) (.slice none 0 0)).run Yba.prog w = .ok true w := by
  simp [Op.equalIn, run_underlying Yba.underlying25]
theorem equal25' (w : World) (d : Nat) (a : Addr) (n c : Nat) : (Op.equalIn (d + 1) 25 (.slice (some a) n c) (.slice none 0 0)).run Yba.prog w = .ok false w := by
  simp [Op.equalIn, run_underlying Yba.underlying25]
theorem eql25_nil (w : World) : (binOp .eql 25 (.slice none 0 0) (.slice none 0 0)).run Yba.prog w = .ok (.bool true) w := by
  simp only [binOp]
  simp [Op.equal, Op.maxDepth, equal25 w 9999]
theorem eql25_some (w : World) (a : Addr) (n c : Nat) : (binOp .eql 25 (.slice (some a) n c) (.slice none 0 0)).run Yba.prog w = .ok (.bool false) w := by
  simp only [binOp]
  simp [Op.equal, Op.maxDepth, equal25' w 9999 a n c]

theorem tf_lt {n r i : Nat} (hn : 0 < n) : tf n r i < n := Nat.mod_lt _ hn

/-- Which were met among the first k. -/
def seenf (c : Nat → Nat) (k v : Nat) : Bool := (List.range k).any fun j => c j == v

theorem seenf_step (c : Nat → Nat) (k v : Nat) : seenf c (k + 1) v = (seenf c k v || c k == v) := by
  unfold seenf
  rw [List.range_succ, List.any_append]
  simp

theorem seenf_new {c : Nat → Nat} {k : Nat} (h : ∀ j, j < k → c j ≠ c k) : seenf c k (c k) = false := by
  unfold seenf
  rw [List.any_eq_false]
  intro j hj
  have := h j (List.mem_range.1 hj)
  simp [this]

set_option maxRecDepth 20000 in
set_option maxHeartbeats 4000000 in
theorem law_cycle (nn rot : Int) (a : Option Addr) (L cap : Nat) (ef et : Nat → Int) (w : World) (hn0 : 0 ≤ nn) (hn1 : nn ≤ 255) (hr0 : 0 ≤ rot) (hr1 : rot ≤ 255)
    (hE : 0 < L → ∃ b off, a = some ⟨b, off, none⟩ ∧ ∀ j, j < L → w.cell? ⟨b, off + j * 2, none⟩ = some (.int .u8 (ef j)) ∧ w.cell? ⟨b, off + j * 2 + 1, none⟩ = some (.int .u8 (et j))) (hby : ∀ j, j < L → 0 ≤ ef j ∧ ef j ≤ 255 ∧ 0 ≤ et j ∧ et j ≤ 255) :
    Calls Yba.prog 3 #[.int .u8 nn, .int .u8 rot, .slice a L cap] w fun e w' => e = .returned (.bool true) ∧ Below w.heap.size w w' := by
  by_cases hL : L ≤ 1024
  case neg =>
    go_enter Yba.func3, Yba.ntmps3
    go_wp2
    go_ret
    exact ⟨rfl, Below.refl _ _⟩
  obtain ⟨n, hn⟩ : ∃ n : Nat, (n : Int) = nn % 10 + 1 := ⟨(nn % 10 + 1).toNat, by omega⟩
  have hnpos : 0 < n := by omega
  have hn10 : n ≤ 10 := by omega
  have HB0 : Hid _ := build_any n rot a L cap ef et w hnpos (by omega) hr0 hr1 (by omega) hE hby
  have HN : Hid _ := hn
  clear hE hby hn
  go_enter Yba.func3, Yba.ntmps3
  go_wp2_with fail
  rw [← HN.out]
  refine Calls.mono HB0.out ?_
  rintro e w1 ⟨G, NB, IB, A, TX, r, AB, vo, nx, na, nc, rfl, hb⟩
  clear HB0
  obtain ⟨ob, rfl, hod⟩ := hb.od
  have g := hb.gr
  have HC0 : Hid _ := cycle_any G NB TX n nx na nc (tf n r) w1 hb.grep hb.gr hb.gtx hb.tx (fun i _ => tf_lt hnpos) hnpos (by omega)
  have HA : Hid _ := hb.adj
  have HBL : Hid _ := hb.bel
  have HOD : Hid _ := hod
  clear hb hod
  go_wp2_with fail
  refine Calls.mono HC0.out ?_
  rintro e w2 ⟨hres, hbel2⟩
  clear HC0
  rcases hres with ⟨rfl, hno⟩ | ⟨i0, cb, L0, cap0, c, rfl, hC⟩
  · have HNO : Hid _ := hno
    have HB2 : Hid _ := hbel2
    clear hno hbel2
    go_wp2
    go_loopw [12, 13, 40] (fun x12 x13 x40 wz => ∃ k : Nat, k ≤ n ∧ x12 = .int .i64 (-1) ∧ x13 = .int .i64 0 ∧ x40 = .int .i64 (k : Int) ∧ Below w1.heap.size w1 wz) (fun _ _ x40 _ => n - (intOf x40).toNat)
    case atStart => exact ⟨0, by omega, rfl, rfl, rfl, HB2.out⟩
    case round =>
      obtain ⟨k, hk, rfl, rfl, rfl, hbz⟩ := hrel
      by_cases hlt : k < n
      · have ck := later hbz (HOD.out k hlt)
        have HS : Hid _ := shortest_any A n (tf n r k) AB nx wr (AR.below HA.out hbz) g (tf_lt hnpos) (by omega)
        have HBZ : Hid _ := hbz
        have hnk := HNO.out k hlt
        obtain ⟨t, ht⟩ : ∃ t, t = tf n r k := ⟨_, rfl⟩
        rw [← ht] at ck HS hnk
        have HNK : Hid _ := hnk
        clear hbz ht hnk
        go_wp2_with fail
        refine Calls.mono HS.out ?_
        rintro e w3 ⟨⟨l, rfl, hl⟩, hb3⟩
        have hl0 : l = 0 := by
          rcases hl with ⟨h, _⟩ | h
          · exact h
          · exact absurd h.2.1 (HNK.out l h.1)
        subst hl0
        have HB3 : Hid (Below w1.heap.size w1 w3) := HBZ.out.trans (hb3.mono HBZ.out.size)
        clear HS hl hb3
        go_wp2
        go_roundw
        case rel => exact ⟨k + 1, by omega, rfl, rfl, by go_num, HB3.out⟩
        case measure => simp [intOf]; omega
      · have hkn : n = k := by omega
        subst hkn
        have HBZ : Hid (Below w.heap.size w wr) := HBL.out.trans (hbz.mono HBL.out.size)
        clear hbz
        have hq := eql25_nil
        go_wp2
        go_ret
        exact ⟨rfl, HBZ.out⟩
  · have HC : Hid _ := hC
    have HB2 : Hid _ := hbel2
    have hi0 := hC.lt
    clear hC hbel2
    go_wp2
    go_loopw [12, 13, 40] (fun x12 x13 x40 wz => ∃ k : Nat, k ≤ i0 ∧ x12 = .int .i64 (-1) ∧ x13 = .int .i64 0 ∧ x40 = .int .i64 (k : Int) ∧ Below w2.heap.size w2 wz) (fun _ _ x40 _ => n - (intOf x40).toNat)
    case atStart => exact ⟨0, by omega, rfl, rfl, rfl, Below.refl _ _⟩
    case round =>
      obtain ⟨k, hk, rfl, rfl, rfl, hbz⟩ := hrel
      have hlt : k < n := by omega
      have hbz1 : Below w1.heap.size w1 wr := HB2.out.trans (hbz.mono HB2.out.size)
      have ck := later hbz1 (HOD.out k hlt)
      have HS : Hid _ := shortest_any A n (tf n r k) AB nx wr (AR.below HA.out hbz1) g (tf_lt hnpos) (by omega)
      have HBZ : Hid _ := hbz
      have HBZ1 : Hid _ := hbz1
      obtain ⟨t, ht⟩ : ∃ t, t = tf n r k := ⟨_, rfl⟩
      rw [← ht] at ck HS
      have HT : Hid _ := ht
      have htn : t < n := by rw [ht]; exact tf_lt hnpos
      clear hbz hbz1 ht
      go_wp2_with fail
      refine Calls.mono HS.out ?_
      rintro e w3 ⟨⟨l, rfl, hl⟩, hb3⟩
      have HB3 : Hid (Below w2.heap.size w2 w3) := HBZ.out.trans (hb3.mono HBZ.out.size)
      by_cases hki : k = i0
      · have hll : Least nx t L0 := by
          have := HC.out.least
          rw [← hki, ← HT.out] at this
          exact this
        have hl0 : l = L0 := by
          rcases hl with ⟨_, h⟩ | h
          · exact absurd hll.2.1 (h L0 hll.1)
          · exact h.unique hll
        have hLpos : 0 < L0 := hll.1
        have hL200 := HC.out.small
        have hsl3 : Slc w3 w1.heap.size 3 1 (.slice (some ⟨cb, 0, none⟩) L0 cap0) L0 (nv c) := HC.out.sl.of fun b hb => HB3.out.block b (HC.out.sl.lt b hb).2
        have hc0 : c 0 = t := by rw [HC.out.head, ← hki]; exact HT.out.symm
        have cc0 : w3.cell? ⟨cb, 0, none⟩ = some (.int .i64 (t : Int)) := by rw [hsl3.cell (i := 0) (by omega), ← hc0]; rfl
        have hmk := run_make_row' (P := Yba.prog) 30 4 (.bool false) 1 Yba.underlying30 info4 rfl .i64 .i64 n (by omega) (by omega)
        have HSL : Hid _ := hsl3
        subst hl0
        have hle3 : w1.heap.size ≤ w3.heap.size := by have := HB2.out.size; have := HB3.out.size; omega
        have HBW : Hid (Below w.heap.size w w3) := HBL.out.trans ((HB2.out.trans (HB3.out.mono HB2.out.size)).mono HBL.out.size)
        have HA3 : Hid _ := AR.below HA.out (HB2.out.trans (HB3.out.mono HB2.out.size))
        clear HS hl hb3 hll hsl3 hki
        go_wp2
        obtain ⟨sb, hsb⟩ : ∃ sb, sb = w3.heap.size := ⟨_, rfl⟩
        obtain ⟨w4, hw4⟩ : ∃ w4, w4 = w3.alloc (.cells (madeCells #[.bool false] n) 4) := ⟨_, rfl⟩
        have HR4 : Hid (w4.rowIs sb 4 n (fun v => .bool (seenf c 0 v))) := by
          have := World.rowIs_made w3 (.bool false) n 4
          rw [← hw4, ← hsb] at this
          exact this
        have HB4 : Hid (Below sb w3 w4) := by rw [hw4, hsb]; exact (Below.refl _ _).alloc (Nat.le_refl _) _
        rw [← hw4, ← hsb]
        have HSB : Hid _ := hsb
        clear hw4 hsb hmk cc0
        go_loopw [72] (fun x wz => ∃ m : Nat, m ≤ l ∧ x = .int .i64 (m : Int) ∧ wz.rowIs sb 4 n (fun v => .bool (seenf c m v)) ∧ Below sb w3 wz) (fun x _ => l - (intOf x).toNat)
        case atStart => exact ⟨0, by omega, rfl, HR4.out, HB4.out⟩
        case round =>
          obtain ⟨m, hm, rfl, hrow, hbm⟩ := hrel
          have hbm3 : Below w3.heap.size w3 wr := HSB.out ▸ hbm
          by_cases hml : m < l
          · have hcn := HC.out.clt m hml
            have c1 : wr.cell? ⟨cb, m, none⟩ = some (.int .i64 (c m : Int)) := later hbm3 (Slc.cell HSL.out (by omega))
            have cs : wr.cell? ⟨sb, c m, none⟩ = some (.bool false) := by
              rw [hrow.cell hcn, seenf_new (fun j hj => HC.out.inj j m hj hml)]
            have fs := hrow.frozen (c m)
            obtain ⟨x, hx⟩ : ∃ x, x = c m := ⟨_, rfl⟩
            obtain ⟨y, hy⟩ : ∃ y, y = (m + 1) % l := ⟨_, rfl⟩
            have hyl : y < l := by rw [hy]; exact Nat.mod_lt _ hLpos
            have hmod : ((m : Int) + 1) % (l : Int) = (y : Int) := by rw [hy]; simp [Int.natCast_emod]
            have c2 : wr.cell? ⟨cb, y, none⟩ = some (.int .i64 (c y : Int)) := later hbm3 (Slc.cell HSL.out (by omega))
            have hcy := HC.out.clt y hyl
            have hedge : c y ∈ nx (c m) := by
              by_cases e : m + 1 < l
              · rw [hy, Nat.mod_eq_of_lt e]; exact HC.out.edge m e
              · have e1 : m = l - 1 := by omega
                have e2 : y = 0 := by rw [hy, show m + 1 = l by omega]; exact Nat.mod_self l
                rw [e2, HC.out.head, e1]
                exact HC.out.last
            have hAR := AR.below HA3.out hbm3
            have c3 := hAR.rows (c m) hcn
            have c4 := hAR.bits (c m) hcn (c y) hcy
            rw [decide_eq_true hedge] at c4
            have HN : Hid ((wr.setCell ⟨sb, c m, none⟩ (.bool true)).rowIs sb 4 n (fun v => .bool (seenf c (m + 1) v))) := (hrow.set (c m) _).congr fun v _ => by
              rw [seenf_step]
              by_cases e : v = c m
              · subst e; simp
              · simp [e, show ¬ c m = v from fun h => e h.symm]
            have HBN : Hid _ := hbm.setCell (p := ⟨sb, c m, none⟩) (Nat.le_refl _) (.bool true)
            have hAsb : A < w3.heap.size ∧ AB (c m) < w3.heap.size ∧ cb < w3.heap.size := ⟨cell_lt (AR.rows HA3.out (c m) hcn), cell_lt (AR.bits HA3.out (c m) hcn (c y) hcy), cell_lt (Slc.cell HSL.out (i := y) (by omega))⟩
            have hA1 : ¬ A = sb := by have := HSB.out; omega
            have hA2 : ¬ AB (c m) = sb := by have := HSB.out; omega
            have hA3 : ¬ cb = sb := by have := HSB.out; omega
            rw [← hx] at c1 cs fs c3 c4 hcn HN HBN hA2
            obtain ⟨z, hz⟩ : ∃ z, z = c y := ⟨_, rfl⟩
            rw [← hz] at c2 c4 hcy
            clear hrow hbm hbm3 hAR hedge hx hz hy hAsb
            go_wp2
            go_roundw
            case rel => exact ⟨m + 1, by omega, by go_num, HN.out, HBN.out⟩
            case measure => simp [intOf]; omega
          · have hml' : l = m := by omega
            have HBF : Hid (Below w.heap.size w wr) := HBW.out.trans (hbm3.mono HBW.out.size)
            clear hrow hbm hbm3
            go_wp2
            go_ret
            exact ⟨rfl, HBF.out⟩
      · have hl0 : l = 0 := by
          rcases hl with ⟨h, _⟩ | h
          · exact h
          · exact absurd (HT.out ▸ h.2.1) (HC.out.first k (by omega) l h.1)
        subst hl0
        clear HS hl hb3
        go_wp2
        go_roundw
        case rel => exact ⟨k + 1, by omega, rfl, rfl, by go_num, HB3.out⟩
        case measure => simp [intOf]; omega
end Go.Proofs.Ybulkcuye.A
