/-
  sortedInts, strictlyUp, slices.Index, slices.Contains, walked.
-/
import Derived.Test.Qxb6601741aRows
import Derived.Test.Qxb6601741aViewPlain
import Derived.WalkKit
import Derived.WalkLawsBesides
import Derived.Deep.OwnRows
import Derived.BigQuiet
import Derived.Deep.QuietTactic
namespace Go.Proofs.Qxb6601741a
open Go.RowKit

theorem Try.info3v : (Try.prog.info? 3).map (fun i => (i.zero, i.size, i.bytes)) = some (some (.int .i64 0), 1, 8) := by kernel_rfl

/-- A slice of ints that holds zs. -/
def RI (w : World) (a : Option Addr) (zs : List Int) : Prop :=
  zs = [] ∨ ∃ b o, a = some ⟨b, o, none⟩ ∧ ∀ i, i < zs.length → w.cell? ⟨b, o + i, none⟩ = some (.int .i64 (zs.getD i 0))

theorem lt_of_cellv {w : World} {b o : Nat} {v : Value} (h : w.cell? ⟨b, o, none⟩ = some v) : b < w.heap.size := by
  rcases Nat.lt_or_ge b w.heap.size with h' | h'
  · exact h'
  · rw [World.cell?, Array.getElem?_eq_none h'] at h; simp at h

theorem RI.below {w w' : World} {a : Option Addr} {zs : List Int} (h : RI w a zs) (hb : Below w.heap.size w w') : RI w' a zs := by
  rcases h with h | ⟨b, o, h1, h2⟩
  · exact .inl h
  · exact .inr ⟨b, o, h1, fun i hi => (hb.cell (lt_of_cellv (h2 i hi))).trans (h2 i hi)⟩

theorem RI.of_row {w : World} {B n : Nat} {zs : List Int} (h : w.rowIs B 3 n (fun i => .int .i64 (zs.getD i 0))) (hl : zs.length = n) : RI w (some ⟨B, 0, none⟩) zs :=
  .inr ⟨B, 0, rfl, fun i hi => by rw [Nat.zero_add]; exact h.cell (by omega)⟩

/-! ### slices.Index, slices.Contains -/
def IdxOK (zs : List Int) (v : Int) (e : Ending) : Prop := ∃ r : Int, e = .returned (.int .i64 r) ∧ (0 ≤ r ↔ v ∈ zs) ∧ -1 ≤ r ∧ r ≤ 4096

set_option maxHeartbeats 1000000 in
theorem index27 (a : Option Addr) (n c : Nat) (zs : List Int) (v : Int) (w : World) (hn : n ≤ 4096) (HZ : Hid (zs.length = n)) (HR : Hid (RI w a zs)) :
    Calls Try.prog 27 #[.slice a n c, .int .i64 v] w fun e w' => IdxOK zs v e ∧ w' = w := by
  rcases HR.out with hz | ⟨b, o, rfl, hc⟩
  · have h0 : n = 0 := by have := HZ.out; rw [hz] at this; simpa using this.symm
    have HI : Hid (IdxOK zs v (.returned (.int .i64 (-1)))) := ⟨-1, rfl, by rw [hz]; simp, by omega, by omega⟩
    subst h0
    clear hz HR HZ
    go_enter Try.func27, Try.ntmps27
    go_wp2
    refine wp_loop_rounds 1 ?_
    rw [rounds_succ]
    go_wp2
    go_ret
    exact ⟨HI.out, rfl⟩
  · have HC : Hid (∀ i, i < zs.length → w.cell? ⟨b, o + i, none⟩ = some (.int .i64 (zs.getD i 0))) := hc
    clear hc HR
    go_enter Try.func27, Try.ntmps27
    go_wp2
    go_loop [8] (fun i => ∃ k : Nat, k ≤ n ∧ i = .int .i64 k ∧ Hid (∀ t, t < k → zs.getD t 0 ≠ v)) (fun i => n - (intOf i).toNat)
    case atStart => exact ⟨0, by omega, rfl, fun t ht => by omega⟩
    case round =>
      obtain ⟨k, hk, rfl, HK⟩ := hrel
      by_cases hlt : k < n
      · have hcell := HC.out k (by rw [HZ.out]; exact hlt)
        by_cases he : zs.getD k 0 = v
        · have HI : Hid (IdxOK zs v (.returned (.int .i64 (k : Int)))) := ⟨k, rfl, ⟨fun _ => by rw [← he]; exact Vw.getD_mem (by rw [HZ.out]; exact hlt), fun _ => by omega⟩, by omega, by omega⟩
          have hb : (v == zs.getD k 0) = true := by rw [beq_iff_eq]; exact he.symm
          clear he HK
          generalize zs.getD k 0 = x at hcell hb
          go_wp2
          go_ret
          exact ⟨HI.out, rfl⟩
        · have hb : (v == zs.getD k 0) = false := by rw [beq_eq_false_iff_ne]; exact fun e => he e.symm
          have HK' : Hid (∀ t, t < k + 1 → zs.getD t 0 ≠ v) := fun t ht => by
            rcases Nat.lt_or_ge t k with h | h
            · exact HK.out t h
            · obtain rfl : t = k := by omega
              exact he
          clear he HK
          generalize zs.getD k 0 = x at hcell hb
          go_wp2
          go_round
          case rel => exact ⟨k + 1, by omega, by go_num, HK'⟩
          case measure => simp [intOf]; omega
      · have HI : Hid (IdxOK zs v (.returned (.int .i64 (-1)))) := ⟨-1, rfl, ⟨fun h => by omega, fun hm => by
          obtain ⟨i, hi, e⟩ := Vw.mem_getD hm
          exact absurd e (HK.out i (by have := HZ.out; omega))⟩, by omega, by omega⟩
        clear HK
        go_wp2
        go_ret
        exact ⟨HI.out, rfl⟩

set_option maxHeartbeats 400000 in
theorem contains26 (a : Option Addr) (n c : Nat) (zs : List Int) (v : Int) (w : World) (hn : n ≤ 4096) (HZ : Hid (zs.length = n)) (HR : Hid (RI w a zs)) :
    Calls Try.prog 26 #[.slice a n c, .int .i64 v] w fun e w' => e = .returned (.bool (decide (v ∈ zs))) ∧ w' = w := by
  have H : Hid (Calls Try.prog 27 #[.slice a n c, .int .i64 v] w fun e w' => IdxOK zs v e ∧ w' = w) := index27 a n c zs v w hn HZ HR
  go_enter Try.func26, Try.ntmps26
  go_wp2_with fail
  refine H.out.mono ?_
  rintro e w' ⟨⟨r, rfl, h1, h2, h3⟩, rfl⟩
  have HD : Hid (decide (0 ≤ r) = decide (v ∈ zs)) := by
    show _ = _
    exact decide_eq_decide.2 h1
  clear h1
  go_wp2
  go_ret
  exact ⟨by rw [← HD.out]; rfl, rfl⟩

/-! ### sortedInts -/
/-- What sortedInts leaves. -/
def Sorted (w w' : World) (n : Nat) (zs : List Int) : Prop :=
  ∃ rs : List Int, rs.length = n ∧ rs.Perm zs ∧ rs.Pairwise (· ≤ ·) ∧ w'.rowIs w.heap.size 3 n (fun i => .int .i64 (rs.getD i 0)) ∧ Below w.heap.size w w'

structure SR (w : World) (n : Nat) (f : Nat → Int) (wr : World) : Prop where
  row : wr.rowIs w.heap.size 3 n (fun i => .int .i64 (f i))
  bel : Below w.heap.size w wr

theorem SR.set {w wr : World} {n : Nat} {f g : Nat → Int} (h : SR w n f wr) (j : Nat) (x : Int) (e : ∀ t, t < n → g t = if t = j then x else f t) : SR w n g (wr.setCell ⟨w.heap.size, j, none⟩ (.int .i64 x)) :=
  ⟨(h.row.set j _).congr (fun t ht => by rw [e t ht]; split <;> rfl), h.bel.setCell (Nat.le_refl _) _⟩
theorem SR.congr {w wr : World} {n : Nat} {f g : Nat → Int} (h : SR w n f wr) (e : ∀ t, t < n → f t = g t) : SR w n g wr := ⟨h.row.congr (fun t ht => by rw [e t ht]), h.bel⟩

theorem ins_ok {l zs : List Int} {k j : Nat} {x : Int} (q1 : l.length = k) (q2 : l.Perm (zs.take k)) (q3 : l.Pairwise (· ≤ ·)) (hj : j ≤ k) (hk : k < zs.length) (hx : x = zs.getD k 0)
    (h1 : ∀ t, t < j → l.getD t 0 ≤ x) (h2 : ∀ t, j ≤ t → t < k → x ≤ l.getD t 0) :
    (Vw.ins l j x).length = k + 1 ∧ (Vw.ins l j x).Perm (zs.take (k + 1)) ∧ (Vw.ins l j x).Pairwise (· ≤ ·) := by
  refine ⟨by rw [Vw.ins_length l j x (by omega), q1], ?_, Vw.ins_sorted l j x q3 (fun t ht _ => h1 t ht) (fun t ht hl => h2 t ht (by omega))⟩
  have e : zs.take (k + 1) = zs.take k ++ [x] := by
    rw [List.take_succ_eq_append_getElem hk, hx]; simp [hk]
  rw [e]
  exact (Vw.ins_perm l j x).trans (q2.append_right [x])

set_option maxRecDepth 100000 in
set_option maxHeartbeats 2000000 in
theorem sorted10 (b o n c : Nat) (zs : List Int) (w : World) (hn : n ≤ 4096) (HZ : Hid (zs.length = n)) (HC : Hid (∀ i, i < zs.length → w.cell? ⟨b, o + i, none⟩ = some (.int .i64 (zs.getD i 0)))) :
    Calls Try.prog 10 #[.slice (some ⟨b, o, none⟩) n c] w fun e w' => e = .returned (.slice (some ⟨w.heap.size, 0, none⟩) n n) ∧ Sorted w w' n zs := by
  have hmk := run_make_row' (P := Try.prog) 22 3 (.int .i64 0) 8 Try.underlying22 Try.info3v rfl .i64 .i64 n (by omega) (by omega)
  go_enter Try.func10, Try.ntmps10
  go_wp2
  go_loopw [4] (fun i wr => ∃ k : Nat, k ≤ n ∧ i = .int .i64 k ∧ SR w n (fun t => if t < k then zs.getD t 0 else 0) wr) (fun i _ => n - (intOf i).toNat)
  case atStart => exact ⟨0, by omega, rfl, (World.rowIs_made w (.int .i64 0) n 3).congr (fun i _ => by simp), (Below.refl _ _).alloc (Nat.le_refl _) _⟩
  case round =>
    clear hmk
    obtain ⟨k, hk, rfl, hS⟩ := hrel
    by_cases hlt : k < n
    · have h1 := HC.out k (by rw [HZ.out]; exact hlt)
      have h2 : wr.cell? ⟨b, o + k, none⟩ = some (.int .i64 (zs.getD k 0)) := (hS.bel.cell (lt_of_cellv h1)).trans h1
      have h3 := hS.row.cell hlt
      have h4 := hS.row.frozen k
      have HS : Hid (SR w n (fun t => if t < k + 1 then zs.getD t 0 else 0) (wr.setCell ⟨w.heap.size, k, none⟩ (.int .i64 (zs.getD k 0)))) := hS.set k _ (fun t _ => by
        by_cases e : t = k
        · subst e; simp
        · have : (t < k + 1) = (t < k) := by apply propext; omega
          simp [e, this])
      clear h1 hS
      generalize zs.getD k 0 = x at h2 HS
      go_wp2
      go_round
      case rel => exact ⟨k + 1, by omega, by go_num, HS⟩
      case measure => simp [intOf]; omega
    · have hS1 : SR w n (Vw.outr (zs.take 1) zs 1) wr := hS.congr (fun t ht => by
        have h1 : t < k := by omega
        unfold Vw.outr
        by_cases h : t < 1
        · simp [h, h1]
        · simp [h, h1])
      clear hS
      go_wp2
      obtain ⟨w2, rfl⟩ : ∃ w2 : World, w2 = wr := ⟨_, rfl⟩
      by_cases hn0 : n = 0
      · have HF : Hid (Sorted w w2 n zs) := ⟨[], by rw [hn0]; rfl, by
          have h0 : zs = [] := List.eq_nil_of_length_eq_zero (by rw [HZ.out, hn0])
          rw [h0], List.Pairwise.nil, hS1.row.congr (fun i hi => by omega), hS1.bel⟩
        have hlt1 : ¬ (1 : Int) < (n : Int) := by omega
        clear hS1 HC HZ hn0
        refine wp_loop_rounds 1 ?_
        rw [rounds_succ]
        go_wp2
        go_ret
        exact ⟨rfl, HF.out⟩
      · go_loopw [5] (fun i wr => ∃ (k : Nat) (l : List Int), 1 ≤ k ∧ k ≤ n ∧ i = .int .i64 k ∧ Hid (l.length = k ∧ l.Perm (zs.take k) ∧ l.Pairwise (· ≤ ·)) ∧ SR w n (Vw.outr l zs k) wr) (fun i _ => n - (intOf i).toNat)
        case atStart => exact ⟨1, zs.take 1, by omega, by omega, rfl, ⟨by have := HZ.out; simp; omega, List.Perm.refl _, by
          cases zs with
          | nil => simp
          | cons x t => simp⟩, hS1⟩
        case round =>
          clear hS1
          obtain ⟨k, l, hk1, hk, rfl, HL, hS⟩ := hrel
          by_cases hlt : k < n
          · have h1 := hS.row.cell hlt
            have e1 : Vw.outr l zs k k = zs.getD k 0 := by simp [Vw.outr]
            rw [e1] at h1
            clear e1
            obtain ⟨x, hx⟩ : ∃ x, x = zs.getD k 0 := ⟨_, rfl⟩
            rw [← hx] at h1
            have HX : Hid (x = zs.getD k 0) := hx
            have hS2 : SR w n (Vw.inn l zs k k x) wr := hS.congr (fun t _ => by rw [hx, Vw.inn_start])
            clear hx hS
            go_wp2
            obtain ⟨w3, rfl⟩ : ∃ w3 : World, w3 = wr := ⟨_, rfl⟩
            go_loopw [7] (fun i wr => ∃ (j : Nat) (y : Int), j ≤ k ∧ i = .int .i64 j ∧ Hid (∀ t, j ≤ t → t < k → x ≤ l.getD t 0) ∧ SR w n (Vw.inn l zs k j y) wr) (fun i _ => (intOf i).toNat)
            case atStart => exact ⟨k, x, by omega, rfl, fun t h1 h2 => by omega, hS2⟩
            case round =>
              clear hS2 h1
              obtain ⟨j, y, hj, rfl, HJ, hS⟩ := hrel
              have c1 := hS.row.cell (show j < n from by omega)
              have c2 := hS.row.frozen j
              by_cases hj0 : 0 < j
              · have c3 := hS.row.cell (show j - 1 < n from by omega)
                have e3 : Vw.inn l zs k j y (j - 1) = l.getD (j - 1) 0 := by
                  have : j - 1 < j := by omega
                  simp [Vw.inn, this]
                rw [e3] at c3
                have ei : ((j : Int) - 1).toNat = j - 1 := by omega
                by_cases hgt : x < l.getD (j - 1) 0
                · have HS3 : Hid (SR w n (Vw.inn l zs k (j - 1) (l.getD (j - 1) 0)) (wr.setCell ⟨w.heap.size, j, none⟩ (.int .i64 (l.getD (j - 1) 0)))) := hS.set j _ (fun t _ => (Vw.inn_step l zs k j y (by omega) hj t).symm)
                  have HJ' : Hid (∀ t, j - 1 ≤ t → t < k → x ≤ l.getD t 0) := fun t h1 h2 => by
                    rcases Nat.lt_or_ge t j with h | h
                    · obtain rfl : t = j - 1 := by omega
                      omega
                    · exact HJ.out t h h2
                  clear hS HJ e3
                  generalize l.getD (j - 1) 0 = z at c3 hgt HS3
                  go_wp2
                  go_round
                  case rel => exact ⟨j - 1, _, by omega, by go_num, HJ', HS3⟩
                  case measure => simp [intOf]; omega
                · have HF : Hid ((Vw.ins l j x).length = k + 1 ∧ (Vw.ins l j x).Perm (zs.take (k + 1)) ∧ (Vw.ins l j x).Pairwise (· ≤ ·)) := by
                    obtain ⟨q1, q2, q3⟩ := HL.out
                    exact ins_ok q1 q2 q3 hj (by rw [HZ.out]; exact hlt) HX.out (fun t ht => Int.le_trans (Vw.sorted_le q3 (show t ≤ j - 1 from by omega) (by omega)) (by omega)) HJ.out
                  have HS3 : Hid (SR w n (Vw.outr (Vw.ins l j x) zs (k + 1)) (wr.setCell ⟨w.heap.size, j, none⟩ (.int .i64 x))) := hS.set j _ (fun t _ => (Vw.inn_end l zs k j x y HL.out.1 hj t).symm)
                  clear hS HJ e3 HL
                  generalize l.getD (j - 1) 0 = z at c3 hgt
                  go_wp2
                  go_round
                  case rel => exact ⟨k + 1, _, by omega, by omega, by go_num, HF, HS3⟩
                  case measure => simp [intOf]; omega
              · have HF : Hid ((Vw.ins l j x).length = k + 1 ∧ (Vw.ins l j x).Perm (zs.take (k + 1)) ∧ (Vw.ins l j x).Pairwise (· ≤ ·)) := by
                  obtain ⟨q1, q2, q3⟩ := HL.out
                  exact ins_ok q1 q2 q3 hj (by rw [HZ.out]; exact hlt) HX.out (fun t ht => by omega) HJ.out
                have HS3 : Hid (SR w n (Vw.outr (Vw.ins l j x) zs (k + 1)) (wr.setCell ⟨w.heap.size, j, none⟩ (.int .i64 x))) := hS.set j _ (fun t _ => (Vw.inn_end l zs k j x y HL.out.1 hj t).symm)
                clear hS HJ HL
                go_wp2
                go_round
                case rel => exact ⟨k + 1, _, by omega, by omega, by go_num, HF, HS3⟩
                case measure => simp [intOf]; omega
          · have HF : Hid (Sorted w wr n zs) := by
              obtain ⟨q1, q2, q3⟩ := HL.out
              refine ⟨l, by omega, ?_, q3, hS.row.congr (fun i hi => ?_), hS.bel⟩
              · rwa [List.take_of_length_le (by rw [HZ.out]; omega)] at q2
              · have : i < k := by omega
                simp [Vw.outr, this]
            clear hS HL
            go_wp2
            go_ret
            exact ⟨rfl, HF.out⟩

set_option maxHeartbeats 1000000 in
theorem sorted10_empty (a : Option Addr) (c : Nat) (w : World) :
    Calls Try.prog 10 #[.slice a 0 c] w fun e w' => e = .returned (.slice (some ⟨w.heap.size, 0, none⟩) 0 0) ∧ Sorted w w' 0 [] := by
  have hmk : ∀ w, (Instr.makeSlice 22 (.int .i64 0) (.int .i64 0)).run Try.prog w = .ok (.slice (some ⟨w.heap.size, 0, none⟩) 0 0) (w.alloc (.cells (madeCells #[.int .i64 0] 0) 3)) :=
    run_make_row' (P := Try.prog) 22 3 (.int .i64 0) 8 Try.underlying22 Try.info3v rfl .i64 .i64 0 (by omega) (by omega)
  have HF : Hid (Sorted w (w.alloc (.cells (madeCells #[.int .i64 0] 0) 3)) 0 []) := ⟨[], rfl, List.Perm.refl _, List.Pairwise.nil, (World.rowIs_made w (.int .i64 0) 0 3).congr (fun i hi => by omega), (Below.refl _ _).alloc (Nat.le_refl _) _⟩
  go_enter Try.func10, Try.ntmps10
  go_wp2
  refine wp_loop_rounds 1 ?_
  rw [rounds_succ]
  go_wp2
  refine wp_loop_rounds 1 ?_
  rw [rounds_succ]
  go_wp2
  go_ret
  exact ⟨rfl, HF.out⟩

theorem sorted10_any (a : Option Addr) (n c : Nat) (zs : List Int) (w : World) (hn : n ≤ 4096) (HZ : Hid (zs.length = n)) (HR : Hid (RI w a zs)) :
    Calls Try.prog 10 #[.slice a n c] w fun e w' => e = .returned (.slice (some ⟨w.heap.size, 0, none⟩) n n) ∧ Sorted w w' n zs := by
  rcases HR.out with hz | ⟨b, o, rfl, hc⟩
  · subst hz
    obtain rfl : 0 = n := HZ.out
    exact sorted10_empty a c w
  · exact sorted10 b o n c zs w hn HZ hc

/-! ### strictlyUp -/
def UpOK (zs : List Int) (b : Bool) : Prop := b = true → Vw.Up zs
def RetV (P : Bool → Prop) (e : Ending) : Prop := ∃ b, e = .returned (.bool b) ∧ P b

set_option maxRecDepth 100000 in
set_option maxHeartbeats 1000000 in
theorem up11 (B n c : Nat) (zs : List Int) (w : World) (hn : n ≤ 4096) (HZ : Hid (zs.length = n)) (HC : Hid (∀ i, i < n → w.cell? ⟨B, i, none⟩ = some (.int .i64 (zs.getD i 0)))) :
    Calls Try.prog 11 #[.slice (some ⟨B, 0, none⟩) n c] w fun e w' => RetV (UpOK zs) e ∧ Below w.heap.size w w' := by
  have hdr : ∀ d, Below w.heap.size w (w.drewN d) := fun d => ⟨rfl, rfl, rfl, Nat.le_refl _, fun _ _ => rfl⟩
  have HDR : Hid (∀ d, Below w.heap.size w (w.drewN d)) := hdr
  clear hdr
  go_enter Try.func11, Try.ntmps11
  go_wp2
  go_loopw [3] (fun i wr => ∃ (k d : Nat), i = .int .i64 ((k + 1 : Nat) : Int) ∧ k ≤ n ∧ w.drewN d = wr ∧ Hid (∀ t, t < k → t + 1 < n → zs.getD t 0 < zs.getD (t + 1) 0)) (fun i _ => n + 1 - (intOf i).toNat)
  case atStart => exact ⟨0, 0, rfl, by omega, rfl, fun t ht => by omega⟩
  case round =>
    obtain ⟨k, d, rfl, hk, rfl, HK⟩ := hrel
    by_cases hlt : k + 1 < n
    · have c1 := HC.out k (by omega)
      have c2 := HC.out (k + 1) hlt
      have ei : ((k : Int) + 1 - 1).toNat = k := by omega
      have b1 : (k : Int) + 1 < (n : Int) := by omega
      have b2 : (k : Int) + 1 - 1 < (n : Int) := by omega
      by_cases hu : zs.getD k 0 < zs.getD (k + 1) 0
      · have HK' : Hid (∀ t, t < k + 1 → t + 1 < n → zs.getD t 0 < zs.getD (t + 1) 0) := fun t ht htn => by
          rcases Nat.lt_or_ge t k with h | h
          · exact HK.out t h htn
          · obtain rfl : t = k := by omega
            exact hu
        clear HK
        generalize zs.getD k 0 = x at c1 hu
        generalize zs.getD (k + 1) 0 = y at c2 hu
        go_wp2
        go_quiet (fail)
        go_wp2
        go_round
        case rel => exact ⟨k + 1, _, by go_num, by omega, rfl, HK'⟩
        case measure => simp [intOf]; omega
      · clear HK
        generalize zs.getD k 0 = x at c1 hu
        generalize zs.getD (k + 1) 0 = y at c2 hu
        have hd : decide (x < y) = false := by simpa using hu
        go_wp2
        go_quiet (fail)
        go_wp2
        go_ret
        exact ⟨⟨_, rfl, fun h => by simp at h⟩, (Below.refl _ _).trans ⟨rfl, rfl, rfl, Nat.le_refl _, fun _ _ => rfl⟩⟩
    · have HU : Hid (UpOK zs true) := fun _ i hi => by rw [HZ.out] at hi; exact HK.out i (by omega) hi
      clear HK
      go_wp2
      go_ret
      exact ⟨⟨_, rfl, HU.out⟩, HDR.out _⟩
end Go.Proofs.Qxb6601741a
