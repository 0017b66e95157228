/-
  ZZArrange, walked.
-/
import Derived.Test.Qxb6601741aArrW
import Derived.Test.Qxb6601741aGuardW
namespace Go.Proofs.Qxb6601741a
open Go.RowKit

/-- A metagroup's zero value, cell by cell. -/
def zc : Nat → Value
  | 0 => .slice none 0 0
  | 1 => .slice none 0 0
  | 2 => .int .i64 0
  | 3 => .slice none 0 0
  | 4 => .int .i64 0
  | 5 => .map none
  | _ => .int .i64 0

def zcells : Array Value := #[.slice none 0 0, .slice none 0 0, .int .i64 0, .slice none 0 0, .int .i64 0, .map none, .int .i64 0]

theorem Try.info42 : (Try.prog.info? 42).map (fun i => (i.zero, i.size, i.bytes)) = some (some (.agg zcells), 7, 104) := by kernel_rfl

theorem zc_at : ∀ i : Fin 7, zcells[i.val]! = zc i.val := by
  intro i
  match i with
  | ⟨0, _⟩ => rfl
  | ⟨1, _⟩ => rfl
  | ⟨2, _⟩ => rfl
  | ⟨3, _⟩ => rfl
  | ⟨4, _⟩ => rfl
  | ⟨5, _⟩ => rfl
  | ⟨6, _⟩ => rfl

theorem make40 (n : Nat) (hn : n ≤ 4096) (w : World) :
    (Instr.makeSlice 40 (.int .i64 (n : Int)) (.int .i64 (n : Int))).run Try.prog w = .ok (.slice (some ⟨w.heap.size, 0, none⟩) n n) (w.alloc (.cells (madeCells zcells (n * 7)) 42)) := by
  obtain ⟨i, hi, hzz⟩ := Option.map_eq_some_iff.1 Try.info42
  simp only [Prod.mk.injEq] at hzz
  obtain ⟨hz, hs, hb⟩ := hzz
  have h := run_make (P := Try.prog) w 40 42 i _ Try.underlying40 hi hz .i64 .i64 n n (by omega) (Int.le_refl _) (by rw [hb]; omega) (by omega)
  rw [hs] at h
  simpa [Value.cells] using h

/-- The metagroups while their groups are laid in: k are laid. -/
def mcell (A : Nat → Option Addr) (L C : Nat → Nat) (k i : Nat) : Value := if i % 7 = 0 ∧ i / 7 < k then .slice (A (i / 7)) (L (i / 7)) (C (i / 7)) else zc (i % 7)

theorem mrow_made (w : World) (n : Nat) (A : Nat → Option Addr) (L C : Nat → Nat) : (w.alloc (.cells (madeCells zcells (n * 7)) 42)).rowIs w.heap.size 42 (n * 7) (mcell A L C 0) :=
  ⟨_, Go.Deep.blk_alloc_new _ _, size_madeCells _ _, fun i hi => by
    have h7 : i % 7 < 7 := Nat.mod_lt _ (by omega)
    have e : zcells[i % 7]! = zc (i % 7) := zc_at ⟨i % 7, h7⟩
    have hs : zcells.size = 7 := rfl
    simp only [madeCells, hs, mcell, Nat.not_lt_zero, and_false, if_false]
    rw [Array.getElem?_map, Array.getElem?_range, if_pos hi]
    simp only [Option.map_some, e]⟩

theorem mrow_step {w : World} {M n k : Nat} {A : Nat → Option Addr} {L C : Nat → Nat} (h : w.rowIs M 42 (n * 7) (mcell A L C k)) :
    (w.setCell ⟨M, k * 7, none⟩ (.slice (A k) (L k) (C k))).rowIs M 42 (n * 7) (mcell A L C (k + 1)) := by
  refine (h.set (k * 7) _).congr fun i hi => ?_
  by_cases e : i = k * 7
  · subst e
    have e1 : k * 7 % 7 = 0 := by omega
    have e2 : k * 7 / 7 = k := by omega
    simp [mcell, e1, e2]
  · simp only [if_neg e]
    unfold mcell
    have : (i % 7 = 0 ∧ i / 7 < k) = (i % 7 = 0 ∧ i / 7 < k + 1) := by apply propext; omega
    simp only [this]

def abOf (A : Nat → Option Addr) (k : Nat) : Nat := match A k with | some a => a.block | none => 0
def aoOf (A : Nat → Option Addr) (k : Nat) : Nat := match A k with | some a => a.off | none => 0

theorem metas_of {w w' : World} {M gb go n : Nat} {A : Nat → Option Addr} {L C : Nat → Nat} {S : Nat → Nat → ByteArray} (hg : Grps w gb go n A L C S) (hb : Below w.heap.size w w')
    (hr : w'.rowIs M 42 (n * 7) (mcell A L C n)) (hl : ∀ k, k < n → 1 ≤ L k ∧ L k ≤ 4096) : Metas w' M n (abOf A) (aoOf A) L C S := by
  have hA : ∀ k, k < n → A k = some ⟨abOf A k, aoOf A k, none⟩ := fun k hk => by
    obtain ⟨b, o, h, _, _⟩ := hg.name k hk 0 (by have := hl k hk; omega)
    simp only [abOf, aoOf, h]
  have hc : ∀ k, k < n → ∀ i, 1 ≤ i → i < 7 → w'.cell? ⟨M, k * 7 + i, none⟩ = some (zc i) := fun k hk i h1 h2 => by
    rw [hr.cell (by omega)]
    have e1 : (k * 7 + i) % 7 = i := by omega
    have e2 : ¬ i = 0 := by omega
    simp [mcell, e1, e2]
  refine ⟨fun k hk => ?_, fun k hk => hc k hk 1 (by omega) (by omega), fun k hk => hc k hk 2 (by omega) (by omega), fun k hk => hc k hk 3 (by omega) (by omega), fun k hk => hc k hk 4 (by omega) (by omega),
    fun k hk => hc k hk 5 (by omega) (by omega), fun k hk => hc k hk 6 (by omega) (by omega), fun k hk j hj => ?_, fun k hk => ⟨(hl k hk).1, (hl k hk).2, (hg.len k hk).1⟩⟩
  · rw [hr.cell (by omega)]
    have e1 : k * 7 % 7 = 0 := by omega
    have e2 : k * 7 / 7 = k := by omega
    simp only [mcell, e1, e2, hk, and_self, if_true]
    rw [hA k hk]
  · obtain ⟨b, o, h, h2, h3⟩ := hg.name k hk j hj
    rw [hA k hk] at h
    simp only [Option.some.injEq, Addr.mk.injEq, and_true] at h
    obtain ⟨rfl, rfl⟩ := h
    exact ⟨(hb.cell (lt_of_cell h2)).trans h2, h3⟩

set_option maxRecDepth 100000 in
set_option maxHeartbeats 1000000 in
theorem zzArrange_any (gb go n cap : Nat) (A : Nat → Option Addr) (L C : Nat → Nat) (S : Nat → Nat → ByteArray) (w : World) (hn : n ≤ 4096) (HGr : Hid (Grps w gb go n A L C S)) (HL : Hid (∀ k, k < n → 1 ≤ L k ∧ L k ≤ 4096)) :
    Calls Try.prog 19 #[.slice (some ⟨gb, go, none⟩) n cap] w fun e w' => e = .returned (.slice (some ⟨w.heap.size + 1, 0, none⟩) n n) ∧
      Hid (∃ sp, Ar.Good (grOf L S) n sp ∧ (∀ k, k < n → k ∈ sp ∨ Ar.cnt (grOf L S) sp k = 0) ∧ w'.rowIs (w.heap.size + 1) 3 n (fun k => .int .i64 (Ar.parFin (grOf L S) sp k)) ∧ Below w.heap.size w w') := by
  have hmk := make40 n hn
  go_enter Try.func19, Try.ntmps19
  go_wp2
  go_loopw [4] (fun i wr => ∃ k : Nat, k ≤ n ∧ i = .int .i64 k ∧ wr.rowIs w.heap.size 42 (n * 7) (mcell A L C k) ∧ Below w.heap.size w wr ∧ wr.heap.size = w.heap.size + 1) (fun i _ => n - (intOf i).toNat)
  case atStart => exact ⟨0, by omega, rfl, mrow_made w n A L C, (Below.refl _ _).alloc (Nat.le_refl _) _, by simp⟩
  case round =>
    clear hmk
    obtain ⟨k, hk, rfl, hrow, hbel, hsz⟩ := hrel
    have HSZ : Hid (wr.heap.size = w.heap.size + 1) := hsz
    clear hsz
    by_cases hlt : k < n
    · have h1 := HGr.out.cell k hlt
      have h1' : wr.cell? ⟨gb, go + k, none⟩ = some (.slice (A k) (L k) (C k)) := (hbel.cell (lt_of_cell h1)).trans h1
      have h2 := hrow.cell (show k * 7 < n * 7 from by omega)
      have h3 := hrow.frozen (k * 7)
      have hst := mrow_step hrow
      clear h1 hrow
      go_wp2
      go_round
      case rel => exact ⟨k + 1, by omega, by go_num, hst, hbel.setCell (Nat.le_refl _) _, by simp [HSZ.out]⟩
      case measure => simp [intOf]; omega
    · obtain rfl : k = n := by omega
      have HM := metas_of HGr.out hbel hrow HL.out
      have hcall := arrange_any w.heap.size k (abOf A) (aoOf A) L C S wr hn HM
      rw [HSZ.out] at hcall
      have HCL : Hid (Calls _ _ _ _ _) := hcall
      clear hcall HM hrow
      go_wp2_with fail
      refine HCL.out.mono ?_
      rintro e w1 ⟨rfl, hsp⟩
      have HSP : Hid _ := hsp
      clear hsp HCL
      go_wp2
      go_ret
      obtain ⟨sp, g1, g2, g3, g4⟩ := HSP.out
      exact ⟨rfl, sp, g1, g2, g3, hbel.trans (g4.mono (by omega))⟩

set_option maxHeartbeats 1000000 in
theorem zzArrange_empty (a : Option Addr) (cap : Nat) (w : World) :
    Calls Try.prog 19 #[.slice a 0 cap] w fun e w' => e = .returned (.slice (some ⟨w.heap.size + 1, 0, none⟩) 0 0) ∧ Below w.heap.size w w' := by
  have hmk : ∀ w, (Instr.makeSlice 40 (.int .i64 0) (.int .i64 0)).run Try.prog w = .ok (.slice (some ⟨w.heap.size, 0, none⟩) 0 0) (w.alloc (.cells (madeCells zcells (0 * 7)) 42)) := make40 0 (by omega)
  have hcall : Calls Try.prog 25 #[.slice (some ⟨w.heap.size, 0, none⟩) 0 0] (w.alloc (.cells (madeCells zcells (0 * 7)) 42)) _ :=
    arrange_any w.heap.size 0 (fun _ => 0) (fun _ => 0) (fun _ => 0) (fun _ => 0) (fun _ _ => ByteArray.empty) (w.alloc (.cells (madeCells zcells (0 * 7)) 42)) (by omega)
      ⟨fun k hk => by omega, fun k hk => by omega, fun k hk => by omega, fun k hk => by omega, fun k hk => by omega, fun k hk => by omega, fun k hk => by omega, fun k hk => by omega, fun k hk => by omega⟩
  have HCL : Hid (Calls _ _ _ _ _) := hcall
  clear hcall
  go_enter Try.func19, Try.ntmps19
  go_wp2
  refine wp_loop_rounds 1 ?_
  rw [rounds_succ]
  go_wp2_with fail
  refine HCL.out.mono ?_
  rintro e w1 ⟨rfl, hsp⟩
  have HSP : Hid _ := hsp
  clear hsp HCL
  go_wp2
  go_ret
  obtain ⟨sp, g1, g2, g3, g4⟩ := HSP.out
  exact ⟨by simp, ((Below.refl _ _).alloc (Nat.le_refl _) _).trans (g4.mono (by simp))⟩
end Go.Proofs.Qxb6601741a
