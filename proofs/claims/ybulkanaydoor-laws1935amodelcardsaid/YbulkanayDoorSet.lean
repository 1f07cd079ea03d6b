/-
  THE WALKS of 'TileSet.String' and 'zzs1935abuild'.
-/
import Derived.Test.YbulkanayDoorHand
import Derived.OpenShut
import Derived.Laws.Closers25b
namespace Go.Proofs.YbulkanayDoor
open Go.RowKit

/-- Of f the kinds below k. -/
def upTo (f : Nat → Bool) (k : Nat) : Nat → Bool := fun i => decide (i < k) && f i

theorem hc_ext (f g : Nat → Bool) (h : ∀ i, i < 34 → f i = g i) : hc f = hc g := by
  unfold hc
  congr 1
  exact List.map_congr_left (fun i hi => by rw [h i (List.mem_range.1 hi)])
theorem hc_start (f : Nat → Bool) : hc (upTo f 0) = #[.int .u8 0, .int .u8 0, .int .u8 0, .int .u8 0, .int .u8 0, .int .u8 0, .int .u8 0, .int .u8 0, .int .u8 0, .int .u8 0, .int .u8 0, .int .u8 0, .int .u8 0, .int .u8 0, .int .u8 0, .int .u8 0, .int .u8 0, .int .u8 0, .int .u8 0, .int .u8 0, .int .u8 0, .int .u8 0, .int .u8 0, .int .u8 0, .int .u8 0, .int .u8 0, .int .u8 0, .int .u8 0, .int .u8 0, .int .u8 0, .int .u8 0, .int .u8 0, .int .u8 0, .int .u8 0] := by
  rw [hc_ext (upTo f 0) (fun _ => false) (fun i _ => by simp [upTo])]
  rfl
theorem hc_end (f : Nat → Bool) : hc (upTo f 34) = hc f := hc_ext _ _ (fun i hi => by simp [upTo, hi])
theorem upTo_other (f : Nat → Bool) (k i : Nat) (e : ¬ k = i) : upTo f (k + 1) i = upTo f k i := by
  unfold upTo
  rw [decide_eq_decide.2 (show i < k + 1 ↔ i < k by omega)]
theorem hc_miss (f : Nat → Bool) (k : Nat) (h : f k = false) : hc (upTo f (k + 1)) = hc (upTo f k) := hc_ext _ _ (fun i _ => by
  by_cases e : i = k
  · subst e; simp [upTo, h]
  · exact upTo_other f k i (fun h => e h.symm))
theorem hc_hit (f : Nat → Bool) (k : Nat) (hk : k < 34) (h : f k = true) : (hc (upTo f k)).setIfInBounds k (.int .u8 1) = hc (upTo f (k + 1)) := by
  apply Array.ext_getElem?
  intro i
  rw [Array.getElem?_setIfInBounds]
  by_cases e : k = i
  · subst e
    rw [if_pos rfl, if_pos (by rw [hc_size]; exact hk), hc_get _ k hk]
    simp [upTo, h]
  · rw [if_neg e]
    by_cases hi : i < 34
    · rw [hc_get _ i hi, hc_get _ i hi]
      rw [upTo_other f k i e]
    · rw [Array.getElem?_eq_none (by rw [hc_size]; omega), Array.getElem?_eq_none (by rw [hc_size]; omega)]

set_option maxHeartbeats 800000 in
theorem setString_any (x : Nat) (w : World) (hx : x < 18446744073709551616) (hg : Starts w) :
    Calls Ybad.prog 6 #[.int .u64 x] w fun e w' => e = .returned (.string (strOfNums (txt (bitB x) 4))) ∧ Below w.heap.size w w' := by
  have HG : Hid (Starts w) := hg
  clear hg
  go_enter Ybad.func6, Ybad.ntmps6
  go_wp2
  rw [← hc_start (bitB x)]
  go_loopw [5] (fun i wr => ∃ k : Nat, k ≤ 34 ∧ i = .int .u8 k ∧ wr = w.alloc (.cells (hc (upTo (bitB x) k)) 31)) (fun i _ => 34 - (intOf i).toNat)
  case atStart => exact ⟨0, by omega, rfl, rfl⟩
  case round =>
    obtain ⟨k, hk, rfl, rfl⟩ := hrel
    by_cases hlt : k < 34
    · have hsz : k < (hc (upTo (bitB x) k)).size := by rw [hc_size]; exact hlt
      cases hb : bitB x k
      · have HB : Hid (_ = _) := hb
        go_wp2_with (go_at_call 8; refine (has_any x k _ hx hlt).mono ?_; rintro e w' ⟨rfl, rfl⟩)
        go_roundw
        case rel => exact ⟨k + 1, by omega, by go_num, by rw [hc_miss _ k HB]⟩
        case measure => simp [intOf]; omega
      · have HB : Hid (_ = _) := hb
        go_wp2_with (go_at_call 8; refine (has_any x k _ hx hlt).mono ?_; rintro e w' ⟨rfl, rfl⟩)
        go_roundw
        case rel => exact ⟨k + 1, by omega, by go_num, by rw [← hc_hit _ k hlt HB]⟩
        case measure => simp [intOf]; omega
    · obtain rfl : k = 34 := by omega
      rw [hc_end]
      have HS : Hid ((Ybad.prog.info? 31).map (·.size) = some (hc (bitB x)).size) := by show _ = _; rw [hc_size]; kernel_rfl
      have hst : Starts (w.alloc (.cells (hc (bitB x)) 31)) := starts_grown HG.out (World.grownBy_alloc _ _ none) (by simp)
      go_wp2_with (first
        | (go_at_call 9; refine (handString_any (bitB x) _ hst (by simp)).mono ?_; rintro e w' ⟨rfl, hb⟩)
        | (refine wpList_load_row rfl 31 _ rfl _ rfl 31 (hc (bitB x)) (0, 0) _ (heap_alloc_new w _) Ybad.under31 rfl HS.out ?_))
      go_ret
      exact ⟨rfl, ((Below.refl _ _).alloc (Nat.le_refl _) _).trans (hb.mono (by simp))⟩

/-- WHAT THE WALK IS TOLD OF A SLICE OF INTEGERS THAT CAME IN (the shell's own word). -/
def IsRow (k : IntKind) (w : World) (a : Option Addr) (len cap : Nat) (zs : List Int) : Prop :=
  (a = none ∧ len = 0 ∧ cap = 0 ∧ zs = []) ∨
  ∃ x, a = some x ∧ len ≤ cap ∧ cap ≤ maxLen ∧ zs.length = cap ∧ (∀ i, i < zs.length → w.cell? (x.add i) = some (.int k (zs.getD i 0))) ∧ ∀ n ∈ zs, (Lit.int k n).wf = true


set_option maxHeartbeats 800000 in
theorem build_any (x : Int) (a : Option Addr) (len cap : Nat) (zs : List Int) (w : World) (hx : 0 ≤ x ∧ x < 18446744073709551616) (hr : IsRow .u8 w a len cap zs) (hl : len ≤ 1024) :
    Calls Ybad.prog 5 #[.int .u64 x, .slice a len cap] w fun e w' => (∃ y : Nat, e = .returned (.int .u64 (y : Int)) ∧ y < 18446744073709551616) ∧ w' = w := by
  go_enter Ybad.func5, Ybad.ntmps5
  go_wp2
  go_loop [5, 11] (fun y i => ∃ (k : Nat) (z : Int), k ≤ len ∧ i = .int .i64 k ∧ y = .int .u64 z ∧ 0 ≤ z ∧ z < 18446744073709551616) (fun _ i => len - (intOf i).toNat)
  case atStart => exact ⟨0, x, by omega, rfl, rfl, hx.1, hx.2⟩
  case round =>
    obtain ⟨k, z, hk, rfl, rfl, hz0, hz1⟩ := hrel
    by_cases hlt : k < len
    · rcases hr with ⟨rfl, rfl, rfl, rfl⟩ | ⟨p, rfl, hlc, hcm, hzl, hcell, hwf⟩
      · omega
      · obtain ⟨b, off, rfl, hcl⟩ := ints_at hcell (by omega)
        have hc := hcl k (by omega)
        have hw := range_u8 hwf k
        rw [List.getD_eq_getElem?_getD] at hc
        obtain ⟨e, he⟩ : ∃ e, e = zs[k]?.getD 0 := ⟨_, rfl⟩
        rw [← he] at hc hw
        clear hcell hwf hcl he hzl
        go_wp2
        have h1 := bits_lo_u64 BinOp.or z (IntKind.u64.wrap (2 ^ (e % 34).toNat))
        have h2 := bits_hi_u64 BinOp.or z (IntKind.u64.wrap (2 ^ (e % 34).toNat))
        go_round
        case rel => exact ⟨k + 1, _, by omega, by go_num, rfl, h1, by omega⟩
        case measure => simp [intOf]; omega
    · go_wp2
      go_ret
      exact ⟨⟨z.toNat, by rw [Int.toNat_of_nonneg hz0]; rfl, by omega⟩, rfl⟩
end Go.Proofs.YbulkanayDoor
