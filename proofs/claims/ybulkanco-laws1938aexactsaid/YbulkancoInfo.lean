/-
  THE WALKS of 'bigEndian.AppendUint32' at a nil slice, of 'zzs1938abytes' at two slices that hold the same bytes, and of 'writeUPSAInfo'.
-/
import Derived.Test.YbulkancoRows
import Derived.WalkKit
import Derived.WalkSpells
import Derived.WalkLawsBesides
import Derived.OpenShut
import Derived.Deep.RegionWith
import Derived.Deep.RegionHeld3
import Derived.Deep.QuietTactic
import Derived.BigQuiet
namespace Go.Proofs.Ybulkanco.lawS1938AExact
open Go.RowKit

theorem Yba.info5 : (Yba.prog.info? 5).map (fun i => (i.zero, i.size, i.bytes)) = some (some (.int .u8 0), 1, 1) := by kernel_rfl

/-- The four octets, the most significant first. -/
def be4 (x : Int) : List Int := [x / 16777216, x / 65536 % 256, x / 256 % 256, x % 256]

set_option maxHeartbeats 400000 in
theorem append_any (x : Int) (w : World) (hx : 0 ≤ x ∧ x ≤ 4294967295) :
    Calls Yba.prog 9 #[.agg #[], .slice none 0 0, .int .u32 x] w fun e w' => ∃ g c, e = .returned (.slice (some ⟨g, 0, none⟩) 4 c) ∧ (∀ i, i < 4 → w'.cell? ⟨g, 0 + i, none⟩ = some (.int .u8 ((be4 x).getD i 0))) ∧ w.heap.size ≤ g ∧ w.grownBy w' none := by
  obtain ⟨i0, hi, hz0, hz1, hz2⟩ := info_parts Yba.info5
  go_enter Yba.func9, Yba.ntmps9
  go_wp2_with (first | (at_builtin; refine wpList_append_own _ rfl (.tmp 7) (.tmp 19) 23 rfl w.heap.size 5 i0 (.int .u8 0) 1 1 Yba.underlying23 hi hz0 hz1 hz2 rfl (by decide) _ _ _ rfl (World.ownsRow_nil _ _ _ _) ⟨w.heap.size + 1, 0, none⟩ 4 4 ((be4 x).map (Value.int .u8)) rfl rfl ?c1 (ints_oneCell .u8 (be4 x)) (by unfold maxLen; omega) (by omega) (by simp; omega) ?_))
  case c1 =>
    intro j u hj
    rw [Addr.add_lit, World.cell?_alloc_at _ _ _ _ (by simp)]
    simpa [be4] using hj
  intro v' w1 hown hgrow hnil
  obtain ⟨g, c, hv, hcl, hgb⟩ : ∃ g c, v' = .slice (some ⟨g, 0, none⟩) 4 c ∧ (∀ i, i < 4 → w1.cell? ⟨g, 0 + i, none⟩ = some (.int .u8 ((be4 x).getD i 0))) ∧ w.heap.size ≤ g := by
    rcases hown.2 with ⟨_, h0⟩ | ⟨g, cap, cur, rfl, hb, hg, hc, hm, hs, ht⟩
    · omega
    · refine ⟨g, cap, rfl, fun i hi => ?_, hb⟩
      rw [cell_of_row w1 g (0 + i) cur 5 (0, 0) hg, Nat.zero_add]
      have e : ((be4 x).map (Value.int .u8))[i]? = some (.int .u8 ((be4 x).getD i 0)) := by simp [List.getD, show i < (be4 x).length from hi]
      rw [← ht, List.getElem?_take, if_pos (by omega)] at e
      simpa using e
  clear hown hnil
  rw [hv]
  go_wp2
  go_ret
  exact ⟨g, c, rfl, hcl, hgb, ((World.grownBy_alloc _ _ none).trans (World.grownBy_alloc _ _ none)).trans hgrow⟩

/-- Two slices of n bytes, cell by cell alike. -/
def Alike2 (w : World) (a a' : Option Addr) (n : Nat) (zs : List Int) : Prop :=
  n = 0 ∨ ∃ b o b' o', a = some ⟨b, o, none⟩ ∧ a' = some ⟨b', o', none⟩ ∧ (∀ i, i < n → w.cell? ⟨b, o + i, none⟩ = some (.int .u8 (zs.getD i 0))) ∧ (∀ i, i < n → w.cell? ⟨b', o' + i, none⟩ = some (.int .u8 (zs.getD i 0)))

set_option maxHeartbeats 400000 in
theorem bytes_same (a a' : Option Addr) (n c c' : Nat) (zs : List Int) (w : World) (hn : n ≤ 1024) (h : Alike2 w a a' n zs) :
    Calls Yba.prog 7 #[.slice a n c, .slice a' n c'] w fun e w' => e = .returned (.bool true) ∧ ∃ q, w' = w.drewN q := by
  go_enter Yba.func7, Yba.ntmps7
  go_wp2
  go_loopw [5] (fun i wr => ∃ k q : Nat, k ≤ n ∧ i = .int .i64 k ∧ wr = w.drewN q) (fun i _ => n - (intOf i).toNat)
  case atStart => exact ⟨0, 0, Nat.zero_le _, rfl, rfl⟩
  case round =>
    obtain ⟨k, q, hk, rfl, rfl⟩ := hrel
    by_cases hlt : k < n
    · rcases h with h | ⟨b, o, b', o', rfl, rfl, h1, h2⟩
      · omega
      have c1 := h1 k hlt
      have c2 := h2 k hlt
      clear h1 h2
      obtain ⟨z, hz⟩ : ∃ z, z = zs.getD k 0 := ⟨_, rfl⟩
      rw [← hz] at c1 c2
      clear hz
      go_wp2
      go_quiet (fail)
      go_wp2
      go_roundw
      case rel => exact ⟨k + 1, _, by omega, by go_num, rfl⟩
      case measure => simp [intOf]; omega
    · go_wp2
      go_ret
      exact ⟨rfl, q, rfl⟩

set_option maxHeartbeats 400000 in
theorem info_nil (P : Nat) (w : World) (hp : w.cell? ⟨P, 10, none⟩ = some (.pointer none)) :
    Calls Yba.prog 6 #[.pointer (some ⟨P, 0, none⟩)] w fun e w' => e = .returned (.tuple #[.slice none 0 0, .slice none 0 0, .bool false, .nilIface]) ∧ w' = w := by
  go_enter Yba.func6, Yba.ntmps6
  go_wp2
  exact bodyPost_ret (v := .tuple #[.slice none 0 0, .slice none 0 0, .bool false, .nilIface]) (by simp [results, Yba.results6, go_sem]) rfl ⟨rfl, rfl⟩

set_option maxHeartbeats 1600000 in
theorem info_some (P U : Nat) (x : Int) (a : Option Addr) (len cap : Nat) (w : World) (hx : 0 ≤ x ∧ x ≤ 4294967295) (hp : w.cell? ⟨P, 10, none⟩ = some (.pointer (some ⟨U, 0, none⟩)))
    (hu0 : w.cell? ⟨U, 0, none⟩ = some (.int .u32 x)) (hu1 : w.cell? ⟨U, 1, none⟩ = some (.slice a len cap)) :
    Calls Yba.prog 6 #[.pointer (some ⟨P, 0, none⟩)] w fun e w' => ∃ g c, e = .returned (.tuple #[.slice (some ⟨g, 0, none⟩) 4 c, .slice a len cap, .bool true, .nilIface]) ∧
      (∀ i, i < 4 → w'.cell? ⟨g, 0 + i, none⟩ = some (.int .u8 ((be4 x).getD i 0))) ∧ w.heap.size ≤ g ∧ w.grownBy w' none := by
  go_enter Yba.func6, Yba.ntmps6
  go_wp2
  go_region_held3 (fun w' => w'.cell? ⟨P, 10, none⟩ = some (.pointer (some ⟨U, 0, none⟩)) ∧ w'.cell? ⟨U, 0, none⟩ = some (.int .u32 x) ∧ w'.cell? ⟨U, 1, none⟩ = some (.slice a len cap)) (go_keep)
    ((go_at_call 9; refine (append_any x _ hx).mono ?_; rintro e w' ⟨g, c, rfl, hcl, hgb, hg⟩; have hp' := hg.cell hp (by simp); have hu0' := hg.cell hu0 (by simp); have hu1' := hg.cell hu1 (by simp)))
  go_wp2
  exact bodyPost_ret (v := .tuple #[.slice (some ⟨g, 0, none⟩) 4 c, .slice a len cap, .bool true, .nilIface]) (by simp [results, Yba.results6, go_sem]) rfl ⟨g, c, rfl, hcl, hgb, ⟨hg.os, hg.tape, hg.output, hg.size, hg.block⟩⟩
end Go.Proofs.Ybulkanco.lawS1938AExact
