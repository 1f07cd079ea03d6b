/-
  THE WALKS of 'zzs1935aexpect' and 'TileSet.Has', and what an append of one byte leaves.
-/
import Derived.Test.YbulkanayDoorRows
import Derived.Test.YbulkanayDoorPlain
import Derived.WalkKit
import Derived.WalkSpells
import Derived.WalkLawsBesides
namespace Go.Proofs.YbulkanayDoor
open Go.RowKit

theorem Ybad.info5 : (Ybad.prog.info? 5).map (fun i => (i.zero, i.size, i.bytes)) = some (some (.int .u8 0), 1, 1) := by kernel_rfl

/-- What 'string(b)' gives of a row that the call owns. -/
theorem conv_owned {w : World} {B : Nat} {v : Value} {n : Nat} {xs : List Int} (h : w.ownsRow B 5 1 v n (xs.map (Value.int .u8))) :
    (convert 23 9 v).run Ybad.prog w = .ok (.string (strOfNums xs)) w := by
  have hn : xs.length = n := by have := h.1; simpa using this
  rcases h.2 with ⟨rfl, h0⟩ | ⟨g, cap, cur, rfl, hb, hg, hc, hm, hs, ht⟩
  · have : xs = [] := List.eq_nil_of_length_eq_zero (by omega)
    subst this
    exact run_convert_bytes_nil w 23 5 Ybad.underlying23 Ybad.underlying5 0 0 9 Ybad.underlying9
  · refine run_convert_bytes_arg w 23 5 Ybad.underlying23 Ybad.underlying5 g 0 n cap xs hn (fun i hi => ?_) 9 Ybad.underlying9
    rw [cell_of_row w g (0 + i) cur 5 (0, 0) hg, Nat.zero_add]
    have e : (xs.map (Value.int .u8))[i]? = some (.int .u8 (xs.getD i 0)) := by simp [List.getD, show i < xs.length by omega]
    rw [← ht, List.getElem?_take] at e
    rw [if_pos (by omega)] at e
    simpa using e

theorem letter_at0 (w : World) : (Instr.index 9 (.string ⟨#[109, 112, 115, 122]⟩) (.int .i64 ((0 : Nat) : Int))).run Ybad.prog w = .ok (.int .u8 (letter 0)) w := by kernel_rfl
theorem letter_at1 (w : World) : (Instr.index 9 (.string ⟨#[109, 112, 115, 122]⟩) (.int .i64 ((1 : Nat) : Int))).run Ybad.prog w = .ok (.int .u8 (letter 1)) w := by kernel_rfl
theorem letter_at2 (w : World) : (Instr.index 9 (.string ⟨#[109, 112, 115, 122]⟩) (.int .i64 ((2 : Nat) : Int))).run Ybad.prog w = .ok (.int .u8 (letter 2)) w := by kernel_rfl
theorem letter_at3 (w : World) : (Instr.index 9 (.string ⟨#[109, 112, 115, 122]⟩) (.int .i64 ((3 : Nat) : Int))).run Ybad.prog w = .ok (.int .u8 (letter 3)) w := by kernel_rfl
theorem letter_at (s : Nat) (hs : s < 4) (w : World) : (Instr.index 9 (.string ⟨#[109, 112, 115, 122]⟩) (.int .i64 (s : Int))).run Ybad.prog w = .ok (.int .u8 (letter s)) w := by
  match s, hs with
  | 0, _ => exact letter_at0 w
  | 1, _ => exact letter_at1 w
  | 2, _ => exact letter_at2 w
  | 3, _ => exact letter_at3 w

set_option maxHeartbeats 400000 in
theorem has_any (x t : Nat) (w : World) (hx : x < 18446744073709551616) (ht : t < 34) :
    Calls Ybad.prog 8 #[.int .u64 x, .int .u8 t] w fun e w' => e = .returned (.bool (bitB x t)) ∧ w' = w := by
  have H : Hid ((bits .and .u64 (x : Int) (IntKind.u64.wrap (2 ^ t)) != 0) = bitB x t) := has_bit x t hx ht
  clear hx
  go_enter Ybad.func8, Ybad.ntmps8
  go_wp2
  go_ret
  exact ⟨by rw [H.out]; rfl, rfl⟩


/-- What has been gathered in suit s after k kinds. -/
def cur (f : Nat → Bool) (s k : Nat) : List Int := txt f s ++ dg f (9 * s) k
theorem cur_zero (f : Nat → Bool) (s : Nat) : cur f s 0 = txt f s := by simp [cur, dg]
theorem cur_hit (f : Nat → Bool) (s k : Nat) (h : f (9 * s + k) = true) : cur f s (k + 1) = cur f s k ++ [(49 : Int) + (k : Int)] := by simp [cur, dg_hit f (9 * s) k h]
theorem cur_miss (f : Nat → Bool) (s k : Nat) (h : f (9 * s + k) = false) : cur f s (k + 1) = cur f s k := by simp [cur, dg_miss f (9 * s) k h]
theorem cur_len (f : Nat → Bool) (s k : Nat) (hs : s ≤ 4) (hk : k ≤ 9) : (txt f s).length ≤ (cur f s k).length ∧ (cur f s k).length ≤ 60 := by
  have h1 := txt_len f s
  have h2 := dg_len f (9 * s) k
  simp only [cur, List.length_append]
  omega

theorem owns_shape {w : World} {B e z : Nat} {v : Value} {n : Nat} {xs : List Value} (h : w.ownsRow B e z v n xs) : ∃ a c, v = .slice a n c := by
  rcases h.2 with ⟨rfl, rfl⟩ | ⟨g, cap, cur, rfl, _⟩
  · exact ⟨_, _, rfl⟩
  · exact ⟨_, _, rfl⟩

theorem shr_bit (x t : Nat) (hx : x < 18446744073709551616) : (bits .and .u64 ((x : Int) / 2 ^ t) 1 != 0) = bitB x t := by
  have e2 : (2 : Int) ^ t = ((2 ^ t : Nat) : Int) := by rw [Int.natCast_pow]; rfl
  have h := u64_and_nat (x / 2 ^ t) 1 (Nat.lt_of_le_of_lt (Nat.div_le_self _ _) hx) (by omega)
  rw [e2, ← Int.natCast_ediv]
  rw [show ((1 : Nat) : Int) = 1 from rfl] at h
  rw [h, nat_mask1]
  unfold bitB
  have h01 : x / 2 ^ t % 2 = 0 ∨ x / 2 ^ t % 2 = 1 := by omega
  rcases h01 with h | h <;> simp [h]

/-- What an append of one byte leaves, in general: the row owned is longer by that byte. -/
theorem grow_one {B : Nat} {w wr w1 : World} {v v' : Value} {o : Obj} {xs ys : List Int} {z : Int} (hys : ys = xs ++ [z]) (hB : B ≤ wr.heap.size)
    (hown : wr.ownsRow B 5 1 v xs.length (xs.map (Value.int .u8))) (hnx : Below B w wr)
    (hown' : w1.ownsRow B 5 1 v' (xs.length + 1) (xs.map (Value.int .u8) ++ [.int .u8 z])) (hgrow : (wr.alloc o).grownBy w1 v.ownBlock) :
    ∃ a c, v' = .slice a ys.length c ∧ w1.ownsRow B 5 1 v' ys.length (ys.map (Value.int .u8)) ∧ Below B w w1 := by
  subst hys
  have h' : w1.ownsRow B 5 1 v' (xs ++ [z]).length ((xs ++ [z]).map (Value.int .u8)) := by simpa using hown'
  obtain ⟨a, c, hv⟩ := owns_shape h'
  exact ⟨a, c, hv, h', (hnx.alloc hB o).grown hgrow (by simp; omega) (fun j hj => (hown.lt j hj).1)⟩

theorem cur_some (f : Nat → Bool) (s : Nat) (h : (txt f s).length < (cur f s (wid s)).length) : txt f (s + 1) = cur f s (wid s) ++ [letter s] := by
  unfold cur at h ⊢
  rw [List.length_append] at h
  rw [txt_some f s (by omega)]
theorem cur_none (f : Nat → Bool) (s : Nat) (h : ¬ (txt f s).length < (cur f s (wid s)).length) : txt f (s + 1) = cur f s (wid s) := by
  unfold cur at h ⊢
  rw [List.length_append] at h
  have h0 : (dg f (9 * s) (wid s)).length = 0 := by omega
  rw [txt_none f s (by omega), List.eq_nil_of_length_eq_zero h0, List.append_nil]

set_option maxHeartbeats 1600000 in
theorem expect_any (x : Nat) (w : World) (hx : x < 18446744073709551616) :
    Calls Ybad.prog 7 #[.int .u64 x] w fun e w' => e = .returned (.string (strOfNums (txt (bitB x) 4))) ∧ Below w.heap.size w w' := by
  obtain ⟨i0, hi, hz0, hz1, hz2⟩ := info_parts Ybad.info5
  go_enter Ybad.func7, Ybad.ntmps7
  go_wp2
  go_loopw [3, 4] (fun v i wr => ∃ (s : Nat) (a : Option Addr) (c : Nat), s ≤ 4 ∧ i = .int .i64 s ∧ v = .slice a (txt (bitB x) s).length c ∧ wr.ownsRow w.heap.size 5 1 v (txt (bitB x) s).length ((txt (bitB x) s).map (Value.int .u8)) ∧ Below w.heap.size w wr)
    (fun _ i _ => 4 - (intOf i).toNat)
  case atStart => exact ⟨0, none, 0, by omega, rfl, rfl, World.ownsRow_nil _ _ _ _, Below.refl _ _⟩
  case round =>
    obtain ⟨s, a, c, hs, rfl, rfl, hown, hnx⟩ := hrel
    by_cases hlt : s < 4
    · have hl := letter_at s hlt
      have hd4 : decide ((s : Int) < 4) = true := by simp; omega
      have HW : Hid (wid s = if s < 3 then 9 else 7) := by show wid s = _; unfold wid; split <;> split <;> omega
      by_cases h3 : s < 3
      · have HW9 : Hid (wid s = 9) := by rw [if_pos h3] at HW; exact HW
        clear HW
        have hd9 : decide ((34 : Int) < 9 * (s : Int) + 9) = false := by simp; omega
        go_wp2
        go_loopw [3, 8] (fun v t wr => ∃ (k : Nat) (a : Option Addr) (c : Nat), k ≤ 9 ∧ t = .int .i64 (9 * s + k) ∧ v = .slice a (cur (bitB x) s k).length c ∧ wr.ownsRow w.heap.size 5 1 v (cur (bitB x) s k).length ((cur (bitB x) s k).map (Value.int .u8)) ∧ Below w.heap.size w wr)
           (fun _ t _ => 9 * s + 9 - (intOf t).toNat)
        case atStart => exact ⟨0, a, c, by omega, by go_num, by rw [cur_zero], by rw [cur_zero]; exact hown, hnx⟩
        case round =>
          obtain ⟨k, a1, c1, hk, rfl, rfl, hown1, hnx1⟩ := hrel
          have hle := cur_len (bitB x) s k hs hk
          have hsz := hnx1.size
          by_cases hkl : k < 9
          · cases hb : bitB x (9 * s + k)
            · have hbb : (bits BinOp.and IntKind.u64 ((x : Int) / 2 ^ (9 * s + k)) 1 != 0) = false := by rw [shr_bit x (9 * s + k) hx, hb]
              have HB : Hid (_ = _) := hb
              clear hb
              go_wp2
              have hm := cur_miss (bitB x) s k HB
              go_roundw
              case rel => exact ⟨k + 1, a1, c1, by omega, by go_num, by rw [hm], by rw [hm]; exact hown1, hnx1⟩
              case measure => simp [intOf]; omega
            · have hbb : (bits BinOp.and IntKind.u64 ((x : Int) / 2 ^ (9 * s + k)) 1 != 0) = true := by rw [shr_bit x (9 * s + k) hx, hb]
              have HB : Hid (_ = _) := hb
              clear hb
              go_wp2_with (first | (at_builtin; refine wpList_append_own _ rfl (.tmp 33) (.tmp 39) 23 rfl w.heap.size 5 i0 (.int .u8 0) 1 1 Ybad.underlying23 hi hz0 hz1 hz2 rfl (by decide) _ _ _ rfl (hown1.alloc _) ⟨wr.heap.size, 0, none⟩ 1 1 [.int .u8 (49 + (9 * (s : Int) + (k : Int)) - 9 * (s : Int))] rfl rfl (cell_one_new _ _ _) (ints_oneCell .u8 [(49 + (9 * (s : Int) + (k : Int)) - 9 * (s : Int))]) (by unfold maxLen; omega) (by omega) (by simp; omega) ?_) | go_in)
              intro v' w1 hown2 hgrow _
              clear hle
              go_wp2
              obtain ⟨a2, c2, hv, hown3, hnx3⟩ := grow_one (ys := cur (bitB x) s (k + 1)) (by rw [cur_hit (bitB x) s k HB]; congr 2; omega) hsz hown1 hnx1 hown2 hgrow
              go_roundw
              case rel => exact ⟨k + 1, a2, c2, by omega, by go_num, hv, hown3, hnx3⟩
              case measure => simp [intOf]; omega
          · obtain rfl : k = 9 := by omega
            have HE : Hid ((9 : Nat) = wid s) := HW9.symm
            by_cases hg : (txt (bitB x) s).length < (cur (bitB x) s 9).length
            · go_wp2_with (first | (at_builtin; refine wpList_append_own _ rfl (.tmp 45) (.tmp 48) 23 rfl w.heap.size 5 i0 (.int .u8 0) 1 1 Ybad.underlying23 hi hz0 hz1 hz2 rfl (by decide) _ _ _ rfl (hown1.alloc _) ⟨wr.heap.size, 0, none⟩ 1 1 [.int .u8 (letter s)] rfl rfl (cell_one_new _ _ _) (ints_oneCell .u8 [letter s]) (by unfold maxLen; omega) (by omega) (by simp; omega) ?_) | go_in)
              intro v' w1 hown2 hgrow _
              clear hle
              go_wp2
              obtain ⟨a2, c2, hv, hown3, hnx3⟩ := grow_one (ys := txt (bitB x) (s + 1)) (by rw [cur_some (bitB x) s (by rw [← HE.out]; exact hg), ← HE.out]) hsz hown1 hnx1 hown2 hgrow
              go_roundw
              case rel => exact ⟨s + 1, a2, c2, by omega, by go_num, hv, hown3, hnx3⟩
              case measure => simp [intOf]; omega
            · go_wp2
              have hm : txt (bitB x) (s + 1) = cur (bitB x) s 9 := by rw [cur_none (bitB x) s (by rw [← HE.out]; exact hg), ← HE.out]
              go_roundw
              case rel => exact ⟨s + 1, a1, c1, by omega, by go_num, by rw [hm], by rw [hm]; exact hown1, hnx1⟩
              case measure => simp [intOf]; omega
      · obtain rfl : s = 3 := by omega
        have HW9 : Hid (wid 3 = 7) := wid_z
        clear HW
        go_wp2
        go_loopw [3, 8] (fun v t wr => ∃ (k : Nat) (a : Option Addr) (c : Nat), k ≤ 7 ∧ t = .int .i64 (27 + k) ∧ v = .slice a (cur (bitB x) 3 k).length c ∧ wr.ownsRow w.heap.size 5 1 v (cur (bitB x) 3 k).length ((cur (bitB x) 3 k).map (Value.int .u8)) ∧ Below w.heap.size w wr)
           (fun _ t _ => 34 - (intOf t).toNat)
        case atStart => exact ⟨0, a, c, by omega, by go_num, by rw [cur_zero], by rw [cur_zero]; exact hown, hnx⟩
        case round =>
          obtain ⟨k, a1, c1, hk, rfl, rfl, hown1, hnx1⟩ := hrel
          have hle := cur_len (bitB x) 3 k hs (by omega)
          have hsz := hnx1.size
          by_cases hkl : k < 7
          · cases hb : bitB x (27 + k)
            · have hbb : (bits BinOp.and IntKind.u64 ((x : Int) / 2 ^ (27 + k)) 1 != 0) = false := by rw [shr_bit x (27 + k) hx, hb]
              have HB : Hid (_ = _) := hb
              clear hb
              go_wp2
              have hm := cur_miss (bitB x) 3 k HB
              go_roundw
              case rel => exact ⟨k + 1, a1, c1, by omega, by go_num, by rw [hm], by rw [hm]; exact hown1, hnx1⟩
              case measure => simp [intOf]; omega
            · have hbb : (bits BinOp.and IntKind.u64 ((x : Int) / 2 ^ (27 + k)) 1 != 0) = true := by rw [shr_bit x (27 + k) hx, hb]
              have HB : Hid (_ = _) := hb
              clear hb
              go_wp2_with (first | (at_builtin; refine wpList_append_own _ rfl (.tmp 33) (.tmp 39) 23 rfl w.heap.size 5 i0 (.int .u8 0) 1 1 Ybad.underlying23 hi hz0 hz1 hz2 rfl (by decide) _ _ _ rfl (hown1.alloc _) ⟨wr.heap.size, 0, none⟩ 1 1 [.int .u8 (49 + (27 + (k : Int)) - 27)] rfl rfl (cell_one_new _ _ _) (ints_oneCell .u8 [(49 + (27 + (k : Int)) - 27)]) (by unfold maxLen; omega) (by omega) (by simp; omega) ?_) | go_in)
              intro v' w1 hown2 hgrow _
              clear hle
              go_wp2
              obtain ⟨a2, c2, hv, hown3, hnx3⟩ := grow_one (ys := cur (bitB x) 3 (k + 1)) (by rw [cur_hit (bitB x) 3 k HB]; congr 2; omega) hsz hown1 hnx1 hown2 hgrow
              go_roundw
              case rel => (repeat apply Exists.intro); exact ⟨⟨k + 1, a2, c2, by omega, by go_num, hv, hown3, hnx3⟩, rfl⟩
              case measure => simp [intOf]; omega
          · obtain rfl : k = 7 := by omega
            have HE : Hid ((7 : Nat) = wid 3) := HW9.symm
            by_cases hg : (txt (bitB x) 3).length < (cur (bitB x) 3 7).length
            · go_wp2_with (first | (at_builtin; refine wpList_append_own _ rfl (.tmp 45) (.tmp 48) 23 rfl w.heap.size 5 i0 (.int .u8 0) 1 1 Ybad.underlying23 hi hz0 hz1 hz2 rfl (by decide) _ _ _ rfl (hown1.alloc _) ⟨wr.heap.size, 0, none⟩ 1 1 [.int .u8 (letter 3)] rfl rfl (cell_one_new _ _ _) (ints_oneCell .u8 [letter 3]) (by unfold maxLen; omega) (by omega) (by simp; omega) ?_) | go_in)
              intro v' w1 hown2 hgrow _
              clear hle
              go_wp2
              obtain ⟨a2, c2, hv, hown3, hnx3⟩ := grow_one (ys := txt (bitB x) 4) (by rw [cur_some (bitB x) 3 (by rw [← HE.out]; exact hg), ← HE.out]) hsz hown1 hnx1 hown2 hgrow
              go_roundw
              case rel => exact ⟨3 + 1, a2, c2, by omega, by go_num, hv, hown3, hnx3⟩
              case measure => simp [intOf]
            · go_wp2
              have hm : txt (bitB x) 4 = cur (bitB x) 3 7 := by rw [cur_none (bitB x) 3 (by rw [← HE.out]; exact hg), ← HE.out]
              go_roundw
              case rel => exact ⟨3 + 1, a1, c1, by omega, by go_num, by rw [hm], by rw [hm]; exact hown1, hnx1⟩
              case measure => simp [intOf]
    · obtain rfl : s = 4 := by omega
      have hcv := conv_owned hown
      go_wp2
      go_ret
      exact ⟨rfl, hnx⟩
end Go.Proofs.YbulkanayDoor
