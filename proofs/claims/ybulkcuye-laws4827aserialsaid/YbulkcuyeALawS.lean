/- The law 'LawS4827ASerial' (func 4), walked. -/
import Derived.Test.YbulkcuyeASerW
import Derived.Test.YbulkcuyeALawW
namespace Go.Proofs.Ybulkcuye.A
open Go.RowKit

set_option maxRecDepth 20000 in
set_option maxHeartbeats 4000000 in
theorem law_serial (nn rot : Int) (a : Option Addr) (L cap : Nat) (ef et : Nat → Int) (w : World) (hn0 : 0 ≤ nn) (hn1 : nn ≤ 255) (hr0 : 0 ≤ rot) (hr1 : rot ≤ 255)
    (hE : 0 < L → ∃ b off, a = some ⟨b, off, none⟩ ∧ ∀ j, j < L → w.cell? ⟨b, off + j * 2, none⟩ = some (.int .u8 (ef j)) ∧ w.cell? ⟨b, off + j * 2 + 1, none⟩ = some (.int .u8 (et j))) (hby : ∀ j, j < L → 0 ≤ ef j ∧ ef j ≤ 255 ∧ 0 ≤ et j ∧ et j ≤ 255) :
    Calls Yba.prog 4 #[.int .u8 nn, .int .u8 rot, .slice a L cap] w fun e w' => e = .returned (.bool true) ∧ Below w.heap.size w w' := by
  by_cases hL : L ≤ 1024
  case neg =>
    go_enter Yba.func4, Yba.ntmps4
    go_wp2
    go_ret
    exact ⟨rfl, Below.refl _ _⟩
  obtain ⟨n, hn⟩ : ∃ n : Nat, (n : Int) = nn % 10 + 1 := ⟨(nn % 10 + 1).toNat, by omega⟩
  have hnpos : 0 < n := by omega
  have hn10 : n ≤ 10 := by omega
  have HB0 : Hid _ := build_any n rot a L cap ef et w hnpos (by omega) hr0 hr1 (by omega) hE hby
  have HN : Hid _ := hn
  clear hE hby hn
  go_enter Yba.func4, Yba.ntmps4
  go_wp2_with fail
  rw [← HN.out]
  refine Calls.mono HB0.out ?_
  rintro e w1 ⟨G, NB, IB, A, TX, r, AB, vo, nx, na, nc, rfl, hb⟩
  clear HB0
  have g := hb.gr
  have HC0 : Hid _ := cycle_any G NB TX n nx na nc (tf n r) w1 hb.grep hb.gr hb.gtx hb.tx (fun i _ => tf_lt hnpos) hnpos (by omega)
  have HBU : Hid _ := hb
  clear hb
  go_wp2_with fail
  refine Calls.mono HC0.out ?_
  rintro e w2 ⟨hres, hbel2⟩
  clear HC0
  have hbu := HBU.out
  have HS0 : Hid _ := serial_any G NB IB TX n r nx na nc w2 (hbu.grep.below hbel2) g (later hbel2 hbu.gin) (hbu.inn.of_block (hbel2.block IB hbu.inn.lt)) (later hbel2 hbu.gtx) (fun i hi => later hbel2 (hbu.tx i hi)) hbu.rlt (by omega)
  have HB2 : Hid (Below w.heap.size w w2) := hbu.bel.trans (hbel2.mono hbu.bel.size)
  have hrlt := hbu.rlt
  clear hbu hbel2 HBU
  rcases hres with ⟨rfl, hno⟩ | ⟨i0, cb, L0, cap0, c, rfl, hC⟩
  · have HNO : Hid _ := hno
    clear hno
    go_wp2_with fail
    refine Calls.mono HS0.out ?_
    rintro e w3 ⟨⟨ob, ol, rfl, hol⟩, hb3⟩
    have hon : ol = n := hol.2 fun s k hs hk hw => by
      obtain ⟨i, hi, e⟩ := tf_surj hrlt s hs
      exact HNO.out i hi k hk (by rw [e]; exact hw)
    subst hon
    have HB3 : Hid (Below w.heap.size w w3) := HB2.out.trans (hb3.mono HB2.out.size)
    have hq := eql25_nil
    clear HS0 hol hb3 HNO
    go_wp2
    go_ret
    exact ⟨rfl, HB3.out⟩
  · have HC : Hid _ := hC
    clear hC
    go_wp2_with fail
    refine Calls.mono HS0.out ?_
    rintro e w3 ⟨⟨ob, ol, rfl, hol⟩, hb3⟩
    have hon : ¬ ol = n := fun e => hol.1 e (tf n r i0) L0 (tf_lt hnpos) HC.out.least.1 HC.out.least.2.1
    have HB3 : Hid (Below w.heap.size w w3) := HB2.out.trans (hb3.mono HB2.out.size)
    have hq := fun w => eql25_some w ⟨cb, 0, none⟩ L0 cap0
    clear HS0 hol hb3 HC
    go_wp2
    go_ret
    have hne : ((ol : Int) == (n : Int)) = false := by simp; omega
    refine ⟨?_, HB3.out⟩
    show Ending.returned (.bool (!((ol : Int) == (n : Int)))) = Ending.returned (.bool true)
    rw [hne]
    rfl
end Go.Proofs.Ybulkcuye.A
