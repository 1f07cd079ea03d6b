/-
  THE PLAIN PART of 'Rows.LawS1935AModelCardSaid': no Go in sight but for integers and 'bits': which bits are set; the text in mpsz letters as a list of numbers.
-/
import Derived.Laws.BitsAllLaws
namespace Go.Proofs.YbulkanayDoor

/-- Bit t of x. -/
def bitB (x t : Nat) : Bool := x / 2 ^ t % 2 == 1

theorem pow_lt34 (t : Nat) (ht : t < 34) : 2 ^ t < 18446744073709551616 := Nat.lt_of_lt_of_le (Nat.pow_lt_pow_right (by decide) ht) (by decide)

theorem has_bit (x t : Nat) (hx : x < 18446744073709551616) (ht : t < 34) : (bits .and .u64 (x : Int) (IntKind.u64.wrap (2 ^ t)) != 0) = bitB x t := by
  have h2 := pow_lt34 t ht
  have e : IntKind.u64.wrap (2 ^ t) = ((2 ^ t : Nat) : Int) := by
    have e2 : (2 : Int) ^ t = ((2 ^ t : Nat) : Int) := by rw [Int.natCast_pow]; rfl
    rw [IntKind.wrap_u64, e2]
    generalize 2 ^ t = p at h2
    omega
  rw [e, u64_and_nat x (2 ^ t) hx h2, nat_bit]
  have hp : 0 < 2 ^ t := Nat.pow_pos (by decide)
  unfold bitB
  have h01 : x / 2 ^ t % 2 = 0 ∨ x / 2 ^ t % 2 = 1 := by omega
  rcases h01 with h | h
  · simp [h]
  · rw [h, Nat.one_mul, bne_iff_ne.2 (by omega)]
    rfl

/-- The kinds a .. a+k-1 that are held, each by its number's digit: '1' for a, '2' for a+1 .. -/
def dg (f : Nat → Bool) (a : Nat) : Nat → List Int
  | 0 => []
  | k + 1 => dg f a k ++ (if f (a + k) then [(49 : Int) + (k : Int)] else [])

theorem dg_hit (f : Nat → Bool) (a k : Nat) (h : f (a + k) = true) : dg f a (k + 1) = dg f a k ++ [(49 : Int) + (k : Int)] := by simp [dg, h]
theorem dg_miss (f : Nat → Bool) (a k : Nat) (h : f (a + k) = false) : dg f a (k + 1) = dg f a k := by simp [dg, h]
theorem dg_len (f : Nat → Bool) (a k : Nat) : (dg f a k).length ≤ k := by
  induction k with
  | zero => simp [dg]
  | succ k ih => simp only [dg, List.length_append]; split <;> simp <;> omega

/-- How many kinds suit s has. -/
def wid (s : Nat) : Nat := if s = 3 then 7 else 9
theorem wid_low (s : Nat) (h : s < 3) : wid s = 9 := by unfold wid; rw [if_neg (by omega)]
theorem wid_z : wid 3 = 7 := rfl
/-- Suit s's letter. -/
def letter (s : Nat) : Int := if s = 0 then 109 else if s = 1 then 112 else if s = 2 then 115 else 122

/-- The text of the first s suits. -/
def txt (f : Nat → Bool) : Nat → List Int
  | 0 => []
  | s + 1 => txt f s ++ (dg f (9 * s) (wid s) ++ (if (dg f (9 * s) (wid s)).length = 0 then [] else [letter s]))

theorem txt_some (f : Nat → Bool) (s : Nat) (h : 0 < (dg f (9 * s) (wid s)).length) : txt f (s + 1) = txt f s ++ dg f (9 * s) (wid s) ++ [letter s] := by
  simp only [txt]; rw [if_neg (by omega), List.append_assoc]
theorem txt_none (f : Nat → Bool) (s : Nat) (h : ¬ 0 < (dg f (9 * s) (wid s)).length) : txt f (s + 1) = txt f s := by
  have h0 : (dg f (9 * s) (wid s)).length = 0 := by omega
  have e := List.eq_nil_of_length_eq_zero h0
  simp [txt, e]
theorem txt_len (f : Nat → Bool) (s : Nat) : (txt f s).length ≤ 10 * s := by
  induction s with
  | zero => simp [txt]
  | succ s ih =>
    have hd := dg_len f (9 * s) (wid s)
    have hw : wid s ≤ 9 := by unfold wid; split <;> omega
    simp only [txt, List.length_append]
    split <;> simp <;> omega

end Go.Proofs.YbulkanayDoor
