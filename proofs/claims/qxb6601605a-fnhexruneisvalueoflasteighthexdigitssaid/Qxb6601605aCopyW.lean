/-
  zzB1copy and the three guards on lengths, walked.
-/
import Derived.Test.Qxb6601605aHexW
import Derived.Deep.OwnRows
import Derived.WalkSpells
namespace Go.Proofs.Qxb6601605a
open Go.RowKit
theorem Try.info5' : (Try.prog.info? 5).map (fun i => (i.zero, i.size, i.bytes)) = some (some (.int .u8 0), 1, 1) := by kernel_rfl

theorem lt_of_cell {w : World} {b o : Nat} {v : Value} (h : w.cell? ⟨b, o, none⟩ = some v) : b < w.heap.size := by
  rcases Nat.lt_or_ge b w.heap.size with h' | h'
  · exact h'
  · rw [World.cell?, Array.getElem?_eq_none h'] at h; simp at h

/-- The copy behind k rounds. -/
def CopyRel (w : World) (n : Nat) (zs : List Int) (k : Nat) (wr : World) : Prop :=
  wr.rowIs w.heap.size 5 n (fun j => .int .u8 (if j < k then zs.getD j 0 else 0)) ∧ Below w.heap.size w wr

theorem CopyRel.start (w : World) (n : Nat) (zs : List Int) : CopyRel w n zs 0 (w.alloc (.cells (madeCells #[.int .u8 0] n) 5)) :=
  ⟨(World.rowIs_made _ _ _ _).congr (fun i _ => by simp), (Below.refl _ _).alloc (Nat.le_refl _) _⟩

theorem CopyRel.step {w wr : World} {n k : Nat} {zs : List Int} (h : CopyRel w n zs k wr) : CopyRel w n zs (k + 1) (wr.setCell ⟨w.heap.size, k, none⟩ (.int .u8 (zs.getD k 0))) := by
  refine ⟨(h.1.set k _).congr fun i hi => ?_, h.2.setCell (Nat.le_refl _) _⟩
  by_cases e : i = k
  · subst e; simp
  · have : (i < k + 1) = (i < k) := by apply propext; omega
    simp only [if_neg e, this]

set_option maxHeartbeats 400000 in
theorem copy_any (b off n cap : Nat) (zs : List Int) (w : World) (hn : n ≤ 1048576)
    (hc : ∀ k, k < n → w.cell? ⟨b, off + k, none⟩ = some (.int .u8 (zs.getD k 0))) :
    Calls Try.prog 8 #[.slice (some ⟨b, off, none⟩) n cap] w fun e w' => e = .returned (.slice (some ⟨w.heap.size, 0, none⟩) n n) ∧ w'.rowIs w.heap.size 5 n (fun j => .int .u8 (zs.getD j 0)) ∧ Below w.heap.size w w' := by
  have HC : Hid (∀ k, k < n → w.cell? ⟨b, off + k, none⟩ = some (.int .u8 (zs.getD k 0))) := hc
  clear hc
  have hmk := run_make_row' (P := Try.prog) 22 5 (.int .u8 0) 1 Try.underlying22 Try.info5' rfl .i64 .i64 n (by omega) (by omega)
  have hnil := fun w a n c => Lib.run_eql_slice_nil (P := Try.prog) w 22 5 a n c 0 0 Try.underlying22
  go_enter Try.func8, Try.ntmps8
  go_wp2
  go_loopw [4] (fun i wr => ∃ (k : Nat), k ≤ n ∧ i = .int .i64 k ∧ CopyRel w n zs k wr) (fun i _ => n - (intOf i).toNat)
  case atStart => exact ⟨0, by omega, rfl, CopyRel.start w n zs⟩
  case round =>
    clear hmk hnil
    obtain ⟨k, hk, rfl, hR⟩ := hrel
    by_cases hlt : k < n
    · have hs : wr.cell? ⟨b, off + k, none⟩ = some (.int .u8 (zs.getD k 0)) := (hR.2.cell (lt_of_cell (HC.out k hlt))).trans (HC.out k hlt)
      have hd := hR.1.cell hlt
      have hf := hR.1.frozen k
      have HR' := hR.step
      generalize zs.getD k 0 = c at hs HR'
      go_wp2
      go_round
      case rel => exact ⟨k + 1, by omega, by go_num, HR'⟩
      case measure => simp [intOf]; omega
    · obtain rfl : k = n := by omega
      go_wp2
      go_ret
      exact ⟨rfl, hR.1.congr (fun i hi => by simp [hi]), hR.2⟩

set_option maxHeartbeats 400000 in
/-- A slice without elements: its copy has none. -/
theorem copy_empty (a : Option Addr) (cap : Nat) (w : World) :
    Calls Try.prog 8 #[.slice a 0 cap] w fun e w' => (∃ a', e = .returned (.slice a' 0 0)) ∧ Below w.heap.size w w' := by
  have hmk := run_make_row' (P := Try.prog) 22 5 (.int .u8 0) 1 Try.underlying22 Try.info5' rfl .i64 .i64 0 (by omega) (by omega)
  have hmk' : ∀ w, (Instr.makeSlice 22 (.int .i64 0) (.int .i64 0)).run Try.prog w = .ok (.slice (some ⟨w.heap.size, 0, none⟩) 0 0) (w.alloc (.cells (madeCells #[.int .u8 0] 0) 5)) := hmk
  clear hmk
  have hnil := fun w a n c => Lib.run_eql_slice_nil (P := Try.prog) w 22 5 a n c 0 0 Try.underlying22
  cases a with
  | none =>
    go_enter Try.func8, Try.ntmps8
    go_wp2
    go_ret
    exact ⟨⟨_, rfl⟩, Below.refl _ _⟩
  | some a =>
    go_enter Try.func8, Try.ntmps8
    go_wp2
    refine wp_loop_rounds 1 ?_
    rw [rounds_succ]
    go_wp2
    go_ret
    exact ⟨⟨_, rfl⟩, (Below.refl _ _).alloc (Nat.le_refl _) _⟩

theorem guard7 (a : Option Addr) (n cap : Nat) (i : Int) (hn : n ≤ 1048576) (w : World) :
    Calls Try.prog 7 #[.slice a n cap, .int .i64 i] w fun e w' => e = .returned (.bool true) ∧ w' = w := by
  go_enter Try.func7, Try.ntmps7
  go_wp2
  go_ret
  exact ⟨rfl, rfl⟩
theorem guard7_no (a : Option Addr) (n cap : Nat) (i : Int) (hn : ¬ n ≤ 1048576) (w : World) :
    Calls Try.prog 7 #[.slice a n cap, .int .i64 i] w fun e w' => e = .returned (.bool false) ∧ w' = w := by
  go_enter Try.func7, Try.ntmps7
  go_wp2
  go_ret
  exact ⟨rfl, rfl⟩
theorem guard11 (a : Option Addr) (n cap : Nat) (i : Int) (hn : n ≤ 1048576) (w : World) :
    Calls Try.prog 11 #[.slice a n cap, .int .i64 i] w fun e w' => e = .returned (.bool true) ∧ w' = w := by
  go_enter Try.func11, Try.ntmps11
  go_wp2
  go_ret
  exact ⟨rfl, rfl⟩
theorem guard11_no (a : Option Addr) (n cap : Nat) (i : Int) (hn : ¬ n ≤ 1048576) (w : World) :
    Calls Try.prog 11 #[.slice a n cap, .int .i64 i] w fun e w' => e = .returned (.bool false) ∧ w' = w := by
  go_enter Try.func11, Try.ntmps11
  go_wp2
  go_ret
  exact ⟨rfl, rfl⟩
theorem guard12 (a : Option Addr) (n cap : Nat) (hn : n ≤ 1048576) (w : World) :
    Calls Try.prog 12 #[.slice a n cap] w fun e w' => e = .returned (.bool true) ∧ w' = w := by
  go_enter Try.func12, Try.ntmps12
  go_wp2
  go_ret
  exact ⟨rfl, rfl⟩
theorem guard12_no (a : Option Addr) (n cap : Nat) (hn : ¬ n ≤ 1048576) (w : World) :
    Calls Try.prog 12 #[.slice a n cap] w fun e w' => e = .returned (.bool false) ∧ w' = w := by
  go_enter Try.func12, Try.ntmps12
  go_wp2
  go_ret
  exact ⟨rfl, rfl⟩
end Go.Proofs.Qxb6601605a
