import Derived.Lib.BitFns
namespace Go.Proofs.Ybulkcvfe

/-- The counts that 'descend' opens, from the root down (with fuel): c, then (c + 1) mod 2^64 halved, while more than one. -/
def chain : Nat → Nat → List Nat
  | 0, _ => []
  | f + 1, c => if c ≤ 1 then [] else c :: chain f ((c + 1) % 18446744073709551616 / 2)

theorem chain_small (f c : Nat) (h : c ≤ 1) : chain f c = [] := by
  cases f with
  | zero => rfl
  | succ f => simp [chain, h]

theorem chain_big (f c : Nat) (h : ¬ c ≤ 1) : chain (f + 1) c = c :: chain f ((c + 1) % 18446744073709551616 / 2) := by
  simp [chain, h]

theorem chain_len_le : ∀ (f c : Nat), (chain f c).length ≤ f
  | 0, _ => by simp [chain]
  | f + 1, c => by
    unfold chain
    split
    · simp
    · simp; exact chain_len_le f _

/-- Below the greatest uint64: as many as the bits of c - 1. -/
theorem chain_len : ∀ (f c : Nat), c < 18446744073709551615 → (chain f c).length = Lib.bitLenAux f (c - 1)
  | 0, _, _ => rfl
  | f + 1, c, h => by
    unfold chain Lib.bitLenAux
    by_cases h1 : c ≤ 1
    · rw [if_pos h1, if_pos (by omega)]; rfl
    · rw [if_neg h1, if_neg (by omega), List.length_cons, chain_len f _ (by omega)]
      rw [show (c + 1) % 18446744073709551616 / 2 - 1 = (c - 1) / 2 by omega]
      omega

/-- .. and the last is 2. -/
theorem chain_last : ∀ (f c : Nat), c < 18446744073709551615 → 1 < c → c ≤ 2 ^ f → (chain f c).getLast? = some 2
  | 0, c, _, h1, h2 => by simp at h2; omega
  | f + 1, c, h, h1, h2 => by
    rw [chain_big f c (by omega)]
    by_cases h3 : c = 2
    · subst h3
      rw [chain_small f _ (by omega)]; rfl
    · have hp : 2 ^ (f + 1) = 2 * 2 ^ f := by rw [Nat.pow_succ]; omega
      have ih := chain_last f ((c + 1) % 18446744073709551616 / 2) (by omega) (by omega) (by omega)
      rw [List.getLast?_cons, ih]; rfl

theorem chain_max (f : Nat) : chain (f + 1) 18446744073709551615 = [18446744073709551615] := by
  rw [chain_big f _ (by omega), chain_small f _ (by omega)]
end Go.Proofs.Ybulkcvfe
