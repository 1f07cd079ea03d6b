/-
  THE WALKS of 'Tile.suit', 'Tile.number', 'Hand.Len', 'Hand.String'.
-/
import Derived.Test.YbulkanayDoorExpect
namespace Go.Proofs.YbulkanayDoor
open Go.RowKit

/-- The variable 'suitStart' as the program's text lays it. -/
def Starts (w : World) : Prop := (∀ s : Nat, s < 4 → w.cell? ⟨0, s, none⟩ = some (.int .u8 (9 * s : Nat))) ∧ w.cell? ⟨0, 4, none⟩ = some (.int .u8 34)

set_option maxHeartbeats 400000 in
theorem suit_any (t : Nat) (w : World) (ht : t < 34) :
    Calls Ybad.prog 12 #[.int .u8 t] w fun e w' => e = .returned (.int .i64 ((t / 9 : Nat) : Int)) ∧ w' = w := by
  go_enter Ybad.func12, Ybad.ntmps12
  go_wp2
  go_ret
  exact ⟨rfl, rfl⟩

set_option maxHeartbeats 400000 in
theorem number_any (t : Nat) (w : World) (ht : t < 34) (hg : Starts w) :
    Calls Ybad.prog 11 #[.int .u8 t] w fun e w' => e = .returned (.int .i64 ((t % 9 + 1 : Nat) : Int)) ∧ w' = w := by
  by_cases h3 : t / 9 < 4
  · have hc := hg.1 (t / 9) h3
    have h9 : 9 * (t / 9) ≤ t := by omega
    clear hg
    go_enter Ybad.func11, Ybad.ntmps11
    go_wp2_with (go_at_call 12; refine (suit_any _ _ ht).mono ?_; rintro e w' ⟨rfl, rfl⟩)
    go_ret
    have e : ((t : Int) - 9 * ((t : Int) / 9) + 1) = ((t % 9 + 1 : Nat) : Int) := by omega
    exact ⟨congrArg (fun z => Ending.returned (.int .i64 z)) e, rfl⟩
  · omega

/-- A hand that holds one tile of each kind that f names. -/
def hc (f : Nat → Bool) : Array Value := ((List.range 34).map fun i => Value.int .u8 (if f i then 1 else 0)).toArray

/-- How many of the first k kinds f names. -/
def pop (f : Nat → Bool) : Nat → Nat
  | 0 => 0
  | k + 1 => pop f k + (if f k then 1 else 0)
theorem pop_le (f : Nat → Bool) (k : Nat) : pop f k ≤ k := by
  induction k with
  | zero => exact Nat.le_refl _
  | succ k ih => simp only [pop]; split <;> omega

theorem hc_size (f : Nat → Bool) : (hc f).size = 34 := by simp [hc]
theorem hc_get (f : Nat → Bool) (k : Nat) (hk : k < 34) : (hc f)[k]? = some (.int .u8 (if f k then 1 else 0)) := by simp [hc, hk]
theorem Ybad.under31 : Ybad.prog.underlying 31 = some (.array 34 5) := Ybad.underlying31
theorem hc_at (f : Nat → Bool) (k : Nat) (hk : k < 34) (w : World) : (Instr.index 31 (.agg (hc f)) (.int .i64 (k : Int))).run Ybad.prog w = .ok (.int .u8 (if f k then 1 else 0)) w := by
  obtain ⟨i0, hi, hz0, hz1, hz2⟩ := info_parts Ybad.info5
  simp [Instr.index, run_underlying Ybad.under31, asIntOf, sizeOf, typeInfo, hi, hz1, part, isAgg, run_underlying Ybad.underlying5, hc_get f k hk]
  intro h
  omega

set_option maxHeartbeats 400000 in
theorem len_any (f : Nat → Bool) (w : World) :
    Calls Ybad.prog 10 #[.agg (hc f)] w fun e w' => e = .returned (.int .i64 (pop f 34)) ∧ w' = w.alloc (.cells (hc f) 31) := by
  have hsz : (Ybad.prog.info? 31).map (·.size) = some (hc f).size := by rw [hc_size]; kernel_rfl
  have HS : Hid (_ = _) := hsz
  clear hsz
  go_enter Ybad.func10, Ybad.ntmps10
  go_wp2_with (refine wpList_load_row rfl 31 _ rfl _ rfl 31 (hc f) (0, 0) _ (heap_alloc_new w _) Ybad.under31 rfl HS.out ?_)
  go_loopw [3, 7] (fun n i wr => ∃ k : Nat, k ≤ 34 ∧ i = .int .i64 k ∧ n = .int .i64 (pop f k) ∧ wr = w.alloc (.cells (hc f) 31)) (fun _ i _ => 34 - (intOf i).toNat)
  case atStart => exact ⟨0, by omega, rfl, rfl, rfl⟩
  case round =>
    obtain ⟨k, hk, rfl, rfl, rfl⟩ := hrel
    have hp := pop_le f k
    by_cases hlt : k < 34
    · have hat := hc_at f k hlt
      cases hf : f k
      all_goals
        simp only [hf] at hat
        go_wp2
        go_roundw
        case rel => exact ⟨k + 1, by omega, by go_num, by simp [pop, hf], by first | rfl | trivial⟩
        case measure => simp [intOf]; omega
    · obtain rfl : k = 34 := by omega
      go_wp2
      go_ret
      exact ⟨rfl, rfl⟩

set_option maxHeartbeats 400000 in
theorem number_at (s k : Nat) (w : World) (hs : s < 4) (hk : k < wid s) (hg : Starts w) :
    Calls Ybad.prog 11 #[.int .u8 (9 * (s : Int) + (k : Int))] w fun e w' => e = .returned (.int .i64 ((k : Int) + 1)) ∧ w' = w := by
  have hw : wid s ≤ 9 ∧ 9 * s + wid s ≤ 34 := by unfold wid; split <;> omega
  have h := number_any (9 * s + k) w (by omega) hg
  have e1 : (((9 * s + k : Nat) : Int)) = 9 * (s : Int) + (k : Int) := by omega
  have e2 : (((9 * s + k) % 9 + 1 : Nat) : Int) = (k : Int) + 1 := by omega
  rw [e1, e2] at h
  exact h

/-- The hand lies boxed in block b. -/
def Boxed (f : Nat → Bool) (b : Nat) (w : World) : Prop := ∀ j, j < 34 → w.cell? ⟨b, j, none⟩ = some (.int .u8 (if f j then 1 else 0))

/-- What stays true while the text is gathered: the row, the boxed hand, the suits' starts, the elder memory. -/
structure Inv (f : Nat → Bool) (w wr : World) (v : Value) (xs : List Int) : Prop where
  shape : ∃ a c, v = .slice a xs.length c
  owns : wr.ownsRow (w.heap.size + 1) 5 1 v xs.length (xs.map (Value.int .u8))
  boxed : Boxed f w.heap.size wr
  starts : Starts wr
  below : Below w.heap.size w wr
  size : w.heap.size + 1 ≤ wr.heap.size

theorem starts_grown {w w' : World} {row : Option Nat} (h : Starts w) (hg : w.grownBy w' row) (hr : row ≠ some 0) : Starts w' :=
  ⟨fun s hs => hg.cell (h.1 s hs) (fun e => hr e.symm), hg.cell h.2 (fun e => hr e.symm)⟩
theorem boxed_grown {f : Nat → Bool} {b : Nat} {w w' : World} {row : Option Nat} (h : Boxed f b w) (hg : w.grownBy w' row) (hr : row ≠ some b) : Boxed f b w' :=
  fun j hj => hg.cell (h j hj) (fun e => hr e.symm)

theorem Inv.grow {f : Nat → Bool} {w wr w1 : World} {v v' : Value} {o : Obj} {xs ys : List Int} {z : Int} (I : Inv f w wr v xs) (hys : ys = xs ++ [z]) (h0 : 0 < w.heap.size)
    (hown' : w1.ownsRow (w.heap.size + 1) 5 1 v' (xs.length + 1) (xs.map (Value.int .u8) ++ [.int .u8 z])) (hgrow : (wr.alloc o).grownBy w1 v.ownBlock) : Inv f w w1 v' ys := by
  subst hys
  have h' : w1.ownsRow (w.heap.size + 1) 5 1 v' (xs ++ [z]).length ((xs ++ [z]).map (Value.int .u8)) := by simpa using hown'
  have hne : ∀ j, j < w.heap.size + 1 → v.ownBlock ≠ some j := fun j hj e => by have := (I.owns.lt j e).1; omega
  refine ⟨owns_shape h', h', ?_, ?_, ?_, ?_⟩
  · exact boxed_grown (boxed_grown I.boxed (World.grownBy_alloc wr o none) (by simp)) hgrow (hne _ (by omega))
  · exact starts_grown (starts_grown I.starts (World.grownBy_alloc wr o none) (by simp)) hgrow (hne _ (by omega))
  · have hs := I.size
    exact (I.below.alloc (by omega) o).grown hgrow (by simp; omega) (fun j hj => by have := (I.owns.lt j hj).1; omega)
  · have hs := I.size
    have := hgrow.size
    simp at this
    omega

set_option maxHeartbeats 1600000 in
theorem handString_any (f : Nat → Bool) (w : World) (hg : Starts w) (h0 : 0 < w.heap.size) :
    Calls Ybad.prog 9 #[.agg (hc f)] w fun e w' => e = .returned (.string (strOfNums (txt f 4))) ∧ Below w.heap.size w w' := by
  obtain ⟨i0, hi, hz0, hz1, hz2⟩ := info_parts Ybad.info5
  have HS : Hid ((Ybad.prog.info? 31).map (·.size) = some (hc f).size) := by show _ = _; rw [hc_size]; kernel_rfl
  have hpop := pop_le f 34
  have HG : Hid (Starts w) := hg
  clear hg
  go_enter Ybad.func9, Ybad.ntmps9
  go_wp2_with (first
    | (go_at_call 10; refine (len_any f _).mono ?_; rintro e w' ⟨rfl, rfl⟩)
    | (at_make; refine wpList_make_own _ rfl _ _ 23 rfl (w.heap.size + 1) 5 i0 (.int .u8 0) 1 Ybad.underlying23 hi hz0 hz1 _ _ _ (pop f 34 + 4) rfl rfl (by omega) (by rw [hz2]; omega) (by unfold maxLen; omega) (by simp) ?_)
    | (refine wpList_load_row rfl 31 _ rfl _ rfl 31 (hc f) (0, 0) _ (heap_alloc_new w _) Ybad.under31 rfl HS.out ?_))
  intro w1 hown hgrow
  have hI : Inv f w w1 (.slice (some ⟨w.heap.size + 1 + 1, 0, none⟩) 0 (pop f 34 + 4)) (txt f 0) := by
    refine ⟨⟨_, _, rfl⟩, by simpa [txt] using hown, ?_, ?_, ?_, ?_⟩
    · intro j hj
      refine hgrow.cell (a := ⟨w.heap.size, j, none⟩) ?_ (by simp)
      rw [World.cell?_alloc_past _ _ _ (by simp), cell_of_row _ _ _ (hc f) 31 (0, 0) (heap_alloc_new w _), hc_get f j hj]
    · exact starts_grown (starts_grown (starts_grown HG.out (World.grownBy_alloc _ _ none) (by simp)) (World.grownBy_alloc _ _ none) (by simp)) hgrow (by simp)
    · exact (((Below.refl _ _).alloc (Nat.le_refl _) _).alloc (by simp) _).grown hgrow (by simp; omega) (fun j hj => by simp at hj)
    · have := hgrow.size
      simp at this
      omega
  clear hown hgrow HS HG
  go_wp2
  go_loopw [3, 11] (fun v i wr => ∃ (s : Nat) (a : Option Addr) (c : Nat), s ≤ 4 ∧ i = .int .i64 s ∧ v = .slice a (txt f s).length c ∧ Inv f w wr v (txt f s))
    (fun _ i _ => 4 - (intOf i).toNat)
  case atStart => exact ⟨0, _, _, by omega, rfl, rfl, hI⟩
  case round =>
    clear hI
    obtain ⟨s, a, c, hs, rfl, rfl, I⟩ := hrel
    by_cases hlt : s < 4
    · have hl := letter_at s hlt
      have hd4 : decide ((s : Int) < 4) = true := by simp; omega
      have hst := I.starts.1 s hlt
      have hend : wr.cell? ⟨0, s + 1, none⟩ = some (.int .u8 (9 * s + wid s : Nat)) := by
        by_cases h3 : s < 3
        · rw [I.starts.1 (s + 1) (by omega), wid_low s h3]
          congr 2
        · obtain rfl : s = 3 := by omega
          exact I.starts.2
      have hw : wid s ≤ 9 := by unfold wid; split <;> omega
      have hwe : 9 * s + wid s ≤ 34 := by unfold wid; split <;> omega
      go_wp2
      go_loopw [3, 6] (fun v t wr => ∃ (k : Nat) (a : Option Addr) (c : Nat), k ≤ wid s ∧ t = .int .u8 (9 * s + k) ∧ v = .slice a (cur f s k).length c ∧ Inv f w wr v (cur f s k))
        (fun _ t _ => 9 * s + 9 - (intOf t).toNat)
      case atStart => exact ⟨0, a, c, by omega, by go_num, by rw [cur_zero], by rw [cur_zero]; exact I⟩
      case round =>
        clear I hst hend
        obtain ⟨k, a1, c1, hk, rfl, rfl, I⟩ := hrel
        have hend : wr.cell? ⟨0, s + 1, none⟩ = some (.int .u8 (9 * s + wid s : Nat)) := by
          by_cases h3 : s < 3
          · rw [I.starts.1 (s + 1) (by omega), wid_low s h3]
            congr 2
          · obtain rfl : s = 3 := by omega
            exact I.starts.2
        by_cases hkl : k < wid s
        · have hbx := I.boxed (9 * s + k) (by omega)
          cases hf : f (9 * s + k)
          · simp only [hf] at hbx
            have HF : Hid (_ = _) := hf
            clear hf
            go_wp2
            go_loopw [3, 30] (fun v i w2 => i = .int .u8 0 ∧ v = .slice a1 (cur f s k).length c1 ∧ Inv f w w2 v (cur f s k)) (fun _ _ _ => 0)
            case atStart => exact ⟨rfl, rfl, I⟩
            case round =>
              clear I hbx hend
              obtain ⟨rfl, rfl, I⟩ := hrel
              go_wp2
              have hm := cur_miss f s k HF
              go_roundw
              case rel => exact ⟨k + 1, a1, c1, by omega, by go_num, by rw [hm], by rw [hm]; exact I⟩
              case measure => simp [intOf]; omega
          · simp only [hf] at hbx
            have HF : Hid (_ = _) := hf
            clear hf
            go_wp2
            go_loopw [3, 30] (fun v i w2 => ∃ (j : Nat) (a : Option Addr) (c : Nat), j ≤ 1 ∧ i = .int .u8 j ∧ v = .slice a (cur f s (k + j)).length c ∧ Inv f w w2 v (cur f s (k + j))) (fun _ i _ => 1 - (intOf i).toNat)
            case atStart => exact ⟨0, a1, c1, by omega, rfl, rfl, I⟩
            case round =>
              clear I hbx hend
              obtain ⟨j, a2, c2, hj, rfl, rfl, I⟩ := hrel
              by_cases hj0 : j < 1
              · obtain rfl : j = 0 := by omega
                have hle := cur_len f s (k + 0) hs (by omega)
                have hsz := I.size
                go_wp2_with (first
                  | (go_at_call 11; refine (number_at s k _ hlt hkl I.starts).mono ?_; rintro e w' ⟨rfl, rfl⟩)
                  | (at_builtin; refine wpList_append_own _ rfl (.tmp 32) (.tmp 37) 23 rfl (w.heap.size + 1) 5 i0 (.int .u8 0) 1 1 Ybad.underlying23 hi hz0 hz1 hz2 rfl (by decide) _ _ _ rfl (I.owns.alloc _) ⟨_, 0, none⟩ 1 1 [.int .u8 (48 + ((k : Int) + 1))] rfl rfl (cell_one_new _ _ _) (ints_oneCell .u8 [(48 + ((k : Int) + 1))]) (by unfold maxLen; omega) (by omega) (by simp; omega) ?_))
                intro v' w1 hown2 hgrow _
                clear hle
                go_wp2
                have I2 := I.grow (ys := cur f s (k + 1)) (by rw [cur_hit f s k HF]; show _ = cur f s k ++ _; congr 2; omega) h0 hown2 hgrow
                obtain ⟨a3, c3, hv⟩ := I2.shape
                go_roundw
                case rel => exact ⟨1, a3, c3, by omega, by go_num, hv, I2⟩
                case measure => simp [intOf]
              · obtain rfl : j = 1 := by omega
                go_wp2
                go_roundw
                case rel => exact ⟨k + 1, a2, c2, by omega, by go_num, rfl, I⟩
                case measure => simp [intOf]; omega
        · obtain rfl : k = wid s := by omega
          have hle := cur_len f s (wid s) hs hw
          have hsz := I.size
          by_cases hgt : (txt f s).length < (cur f s (wid s)).length
          · go_wp2_with (first | (at_builtin; refine wpList_append_own _ rfl (.tmp 44) (.tmp 47) 23 rfl (w.heap.size + 1) 5 i0 (.int .u8 0) 1 1 Ybad.underlying23 hi hz0 hz1 hz2 rfl (by decide) _ _ _ rfl (I.owns.alloc _) ⟨_, 0, none⟩ 1 1 [.int .u8 (letter s)] rfl rfl (cell_one_new _ _ _) (ints_oneCell .u8 [letter s]) (by unfold maxLen; omega) (by omega) (by simp; omega) ?_))
            intro v' w1 hown2 hgrow _
            clear hle
            go_wp2
            have I2 := I.grow (ys := txt f (s + 1)) (cur_some f s hgt) h0 hown2 hgrow
            obtain ⟨a3, c3, hv⟩ := I2.shape
            go_roundw
            case rel => exact ⟨s + 1, a3, c3, by omega, by go_num, hv, I2⟩
            case measure => simp [intOf]; omega
          · go_wp2
            have hm := cur_none f s hgt
            go_roundw
            case rel => exact ⟨s + 1, a1, c1, by omega, by go_num, by rw [hm], by rw [hm]; exact I⟩
            case measure => simp [intOf]; omega
    · obtain rfl : s = 4 := by omega
      have hcv := conv_owned I.owns
      go_wp2
      go_ret
      exact ⟨rfl, I.below⟩
end Go.Proofs.YbulkanayDoor
