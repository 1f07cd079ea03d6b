/-
  THE WALK of 'LawS1938AExact', with no UPSAInfo and with one.
-/
import Derived.Test.YbulkancoInfo
import Derived.Lib.SliceRun
import Derived.Lib.Builder
namespace Go.Proofs.Ybulkanco.lawS1938AExact
open Go.RowKit

set_option maxHeartbeats 1600000 in
theorem walk_no (x : Int) (a : Option Addr) (len cap : Nat) (pr : Int) (w : World) :
    Calls Yba.prog 3 #[.bool false, .int .u32 x, .slice a len cap, .int .u8 pr] w fun e w' => e = .returned (.bool true) ∧ Below w.heap.size w w' := by
  have hnil := fun (w : World) => Lib.run_eql_slice_nil (P := Yba.prog) w 23 5 none 0 0 0 0 Yba.underlying23
  go_enter Yba.func3, Yba.ntmps3
  go_wp2_with fail
  refine (info_nil w.heap.size _ (by simp)).mono ?_
  rintro e w' ⟨rfl, rfl⟩
  go_wp2
  go_ret
  exact ⟨rfl, (Below.refl _ _).alloc (Nat.le_refl _) _⟩

theorem be4_cells (x : Int) (w1 : World) : ∀ i, i < 4 → (w1.alloc (.cells #[.int .u8 (x / 16777216), .int .u8 (x / 65536 % 256), .int .u8 (x / 256 % 256), .int .u8 (x % 256)] 5)).cell? ⟨w1.heap.size, 0 + i, none⟩ = some (.int .u8 ((be4 x).getD i 0)) := by
  intro i hi
  rw [World.cell?_alloc_at _ _ _ _ rfl, Nat.zero_add]
  match i, hi with
  | 0, _ => rfl
  | 1, _ => rfl
  | 2, _ => rfl
  | 3, _ => rfl

set_option maxHeartbeats 1600000 in
theorem walk_yes (x : Int) (a : Option Addr) (len cap : Nat) (pr : Int) (w : World) (hx : 0 ≤ x ∧ x ≤ 4294967295) (_hp : 0 ≤ pr ∧ pr ≤ 255) (hl : len ≤ 9223372036854775807) (_hc : cap ≤ 9223372036854775807) (ha : a = none → len = 0) :
    Calls Yba.prog 3 #[.bool true, .int .u32 x, .slice a len cap, .int .u8 pr] w fun e w' => e = .returned (.bool true) ∧ Below w.heap.size w w' := by
  have hnil := fun (w : World) (a : Option Addr) (n c : Nat) => Lib.run_eql_slice_nil (P := Yba.prog) w 23 5 a n c 0 0 Yba.underlying23
  obtain ⟨i0, hi, hz0, hz1, hz2⟩ := info_parts Yba.info5
  have hptr := fun (w : World) (q : Addr) => Lib.run_neq_ptr_same (P := Yba.prog) (w := w) q Yba.underlying42 hi
  clear hz0 hz1 hz2 hi
  have HA : Hid (a = none → len = 0) := ha
  clear ha
  go_enter Yba.func3, Yba.ntmps3
  go_wp2_with fail
  refine (info_some w.heap.size (w.heap.size + 1) x a len cap _ hx (by simp) (by simp) (by simp)).mono ?_
  rintro e w1 ⟨g, c, rfl, hcl, hgb, hg⟩
  have f0 : w1.cell? ⟨w.heap.size, 0, none⟩ = some (.int .u8 pr) := hg.cell (by simp) (by simp)
  have f10 : w1.cell? ⟨w.heap.size, 10, none⟩ = some (.pointer (some ⟨w.heap.size + 1, 0, none⟩)) := hg.cell (by simp) (by simp)
  have fu : w1.cell? ⟨w.heap.size + 1, 0, none⟩ = some (.int .u32 x) := hg.cell (by simp) (by simp)
  have hs1 : w.heap.size + 1 + 1 ≤ w1.heap.size := by have := hg.size; simpa using this
  have hlt0 : w.heap.size < w1.heap.size := by omega
  have hlt1 : w.heap.size + 1 < w1.heap.size := by omega
  have hgl : g < w1.heap.size := World.block_lt_of_cell? w1 ⟨g, 0 + 0, none⟩ (hcl 0 (by omega))
  have HB : Hid (Below w.heap.size w w1) := (((Below.refl _ _).alloc (Nat.le_refl _) _).alloc (by simp) _).grown hg (by simp; omega) (fun j hj => by cases hj)
  have HC : Hid (∀ i, i < 4 → w1.cell? ⟨g, 0 + i, none⟩ = some (.int .u8 ((be4 x).getD i 0))) := hcl
  clear hcl hg
  go_wp2_with fail
  refine (bytes_same (some ⟨g, 0, none⟩) (some ⟨w1.heap.size, 0, none⟩) 4 c 4 (be4 x) _ (by omega) (Or.inr ⟨g, 0, w1.heap.size, 0, rfl, rfl, fun i hi => (World.cell?_alloc_past _ _ _ hgl).trans (HC.out i hi), be4_cells x w1⟩)).mono ?_
  rintro e w2 ⟨rfl, q, rfl⟩
  go_wp2
  by_cases hpos : 0 < len
  · cases a with
    | none => exact absurd (HA.out rfl) (by omega)
    | some p =>
      have hd : decide ((0 : Int) < (len : Int)) = true := by simp; omega
      go_quiet (fail)
      go_wp2
      go_ret
      exact ⟨rfl, below_drewN (HB.out.alloc (by omega) _) _⟩
  · have hd : decide ((0 : Int) < (len : Int)) = false := by simp; omega
    go_quiet (fail)
    go_wp2
    go_ret
    exact ⟨rfl, below_drewN (HB.out.alloc (by omega) _) _⟩
end Go.Proofs.Ybulkanco.lawS1938AExact
