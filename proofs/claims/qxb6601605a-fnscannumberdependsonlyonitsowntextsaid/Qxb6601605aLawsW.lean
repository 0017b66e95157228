/-
  The two laws on scanNumber, walked.
-/
import Derived.Test.Qxb6601605aScanW
import Derived.Test.Qxb6601605aModelW
import Derived.WideShapes
namespace Go.Proofs.Qxb6601605a
open Go.RowKit

set_option maxHeartbeats 1000000 in
theorem zzScan_any (b off n cap : Nat) (zs : List Int) (i : Nat) (hi : i < n) (w : World) (hn : n ≤ 1048576) (hz : zs.length = n)
    (HC : Hid (∀ k, k < n → w.cell? ⟨b, off + k, none⟩ = some (.int .u8 (zs.getD k 0)))) (x : Int) (y : Bool) (hxy : scanVal i (Pl.scan (zs.drop i)) = .tuple #[.int .i64 x, .bool y]) :
    Calls Try.prog 9 #[.slice (some ⟨b, off, none⟩) n cap, .int .i64 i] w fun e w' => e = .returned (.tuple #[.int .i64 x, .bool y]) ∧ w' = w := by
  have h := scan_any b off n cap zs i hi w hn hz HC
  rw [hxy] at h
  have H : Hid (Calls Try.prog 15 #[.slice (some ⟨b, off, none⟩) n cap, .int .i64 i] w fun e w' => e = .returned (.tuple #[.int .i64 x, .bool y]) ∧ w' = w) := h
  clear h hxy HC
  go_enter Try.func9, Try.ntmps9
  go_wp2_with (go_at_call 15; refine H.out.mono ?_; rintro e w' ⟨rfl, rfl⟩)
  go_ret2
  exact ⟨rfl, rfl⟩

theorem scanVal_form (i : Nat) (o : Option (Nat × Bool)) : ∃ x y, scanVal i o = .tuple #[.int .i64 x, .bool y] ∧ modelVal i o = .tuple #[.int .i64 x, .bool y] := by
  match o with
  | none => exact ⟨_, _, rfl, rfl⟩
  | some (e, c) => exact ⟨_, _, rfl, rfl⟩

theorem getD_take (zs : List Int) (n k : Nat) (h : k < n) : (zs.take n).getD k 0 = zs.getD k 0 := by
  simp [h]

set_option maxHeartbeats 1000000 in
/-- The law on the automaton, where the place lies inside the text. -/
theorem matches_in (b off n cap : Nat) (zs : List Int) (i : Nat) (hi : i < n) (w : World) (hn : n ≤ 1048576) (hz : n ≤ zs.length)
    (hc : ∀ k, k < n → w.cell? ⟨b, off + k, none⟩ = some (.int .u8 (zs.getD k 0))) :
    Calls Try.prog 3 #[.slice (some ⟨b, off, none⟩) n cap, .int .i64 i] w fun e w' => e = .returned (.bool true) ∧ Below w.heap.size w w' := by
  have hcp := copy_any b off n cap (zs.take n) w hn (fun k hk => by rw [getD_take zs n k hk]; exact hc k hk)
  have HCP : Hid (Calls Try.prog 8 #[.slice (some ⟨b, off, none⟩) n cap] w fun e w' => e = .returned (.slice (some ⟨w.heap.size, 0, none⟩) n n) ∧ w'.rowIs w.heap.size 5 n (fun j => .int .u8 ((zs.take n).getD j 0)) ∧ Below w.heap.size w w') := hcp
  have hl : (zs.take n).length = n := by simp; omega
  clear hcp hc
  generalize zs.take n = l at HCP hl
  have HL : Hid (l.length = n) := hl
  clear hl hz
  obtain ⟨x, y, h1, h2⟩ := scanVal_form i (Pl.scan (l.drop i))
  have H1 : Hid (scanVal i (Pl.scan (l.drop i)) = .tuple #[.int .i64 x, .bool y]) := h1
  have H2 : Hid (modelVal i (Pl.scan (l.drop i)) = .tuple #[.int .i64 x, .bool y]) := h2
  clear h1 h2
  have hg : ∀ w, Calls Try.prog 7 #[.slice (some ⟨b, off, none⟩) n cap, .int .i64 i] w fun e w' => e = .returned (.bool true) ∧ w' = w := fun w => guard7 _ _ _ _ hn w
  have HG : Hid (∀ w, Calls Try.prog 7 #[.slice (some ⟨b, off, none⟩) n cap, .int .i64 i] w fun e w' => e = .returned (.bool true) ∧ w' = w) := hg
  clear hg
  go_enter Try.func3, Try.ntmps3
  go_wp2_with (go_at_call 7; refine (HG.out _).mono ?_; rintro e w' ⟨rfl, rfl⟩)
  refine HCP.out.mono ?_
  rintro e w1 ⟨rfl, hrow, hb⟩
  have HC1 : Hid (∀ k, k < n → w1.cell? ⟨w'.heap.size, 0 + k, none⟩ = some (.int .u8 (l.getD k 0))) := fun k hk => by simpa using hrow.cell hk
  have HS : Hid (Calls Try.prog 9 #[.slice (some ⟨w'.heap.size, 0, none⟩) n n, .int .i64 i] w1 fun e w' => e = .returned (.tuple #[.int .i64 x, .bool y]) ∧ w' = w1) := zzScan_any _ _ _ _ l i hi w1 hn HL.out HC1 x y H1.out
  have HM : Hid (Calls Try.prog 10 #[.slice (some ⟨w'.heap.size, 0, none⟩) n n, .int .i64 i] w1 fun e w' => e = .returned (.tuple #[.int .i64 x, .bool y]) ∧ w' = w1) := by
    have h := model_any w'.heap.size 0 n n l i hi w1 hn HL.out HC1
    rw [Pl.verdict_run0, H2.out] at h
    exact h
  clear HCP HC1 hrow H1 H2
  go_wp2_with (first | (go_at_call 9; refine HS.out.mono ?_; rintro e w' ⟨rfl, rfl⟩) | (go_at_call 10; refine HM.out.mono ?_; rintro e w' ⟨rfl, rfl⟩))
  go_ret
  exact ⟨ret_bool (by simp), hb⟩


set_option maxHeartbeats 1000000 in
/-- The law on the number's own text, where the place lies inside the text: no number there. -/
theorem depends_none (b off n cap : Nat) (l : List Int) (i : Nat) (hi : i < n) (w : World) (hn : n ≤ 1048576)
    (HCP : Hid (Calls Try.prog 8 #[.slice (some ⟨b, off, none⟩) n cap] w fun e w' => e = .returned (.slice (some ⟨w.heap.size, 0, none⟩) n n) ∧ w'.rowIs w.heap.size 5 n (fun j => .int .u8 (l.getD j 0)) ∧ Below w.heap.size w w'))
    (HL : Hid (l.length = n)) (HN : Hid (Pl.scan (l.drop i) = none)) :
    Calls Try.prog 4 #[.slice (some ⟨b, off, none⟩) n cap, .int .i64 i] w fun e w' => e = .returned (.bool true) ∧ Below w.heap.size w w' := by
  have hg : ∀ w, Calls Try.prog 11 #[.slice (some ⟨b, off, none⟩) n cap, .int .i64 i] w fun e w' => e = .returned (.bool true) ∧ w' = w := fun w => guard11 _ _ _ _ hn w
  have HG : Hid (∀ w, Calls Try.prog 11 #[.slice (some ⟨b, off, none⟩) n cap, .int .i64 i] w fun e w' => e = .returned (.bool true) ∧ w' = w) := hg
  clear hg
  go_enter Try.func4, Try.ntmps4
  go_wp2_with (go_at_call 11; refine (HG.out _).mono ?_; rintro e w' ⟨rfl, rfl⟩)
  refine HCP.out.mono ?_
  rintro e w1 ⟨rfl, hrow, hb⟩
  have HC1 : Hid (∀ k, k < n → w1.cell? ⟨w'.heap.size, 0 + k, none⟩ = some (.int .u8 (l.getD k 0))) := fun k hk => by simpa using hrow.cell hk
  have HS : Hid (Calls Try.prog 9 #[.slice (some ⟨w'.heap.size, 0, none⟩) n n, .int .i64 i] w1 fun e w' => e = .returned (.tuple #[.int .i64 (-1), .bool false]) ∧ w' = w1) := zzScan_any _ _ _ _ l i hi w1 hn HL.out HC1 (-1) false (by rw [HN.out]; rfl)
  have HS2 : Hid (Calls Try.prog 9 #[.slice (some ⟨w'.heap.size, i, none⟩) (n - i) (n - i), .int .i64 ((0 : Nat) : Int)] w1 fun e w' => e = .returned (.tuple #[.int .i64 (-1), .bool false]) ∧ w' = w1) :=
    zzScan_any _ _ _ _ (l.drop i) 0 (by omega) w1 (by omega) (by have := HL.out; simp; omega) (fun k hk => by
      have := hrow.cell (show i + k < n from by omega)
      simpa using this) (-1) false (by rw [List.drop_zero, HN.out]; rfl)
  clear HCP HC1 hrow
  go_wp2_with fail
  refine HS.out.mono ?_
  rintro e w2 ⟨rfl, rfl⟩
  go_wp2_with fail
  refine HS2.out.mono ?_
  rintro e w2 ⟨rfl, rfl⟩
  go_wp2
  go_ret
  exact ⟨ret_bool (by simp), hb⟩

set_option maxRecDepth 100000 in
set_option maxHeartbeats 2000000 in
/-- .. a number of E bytes there. -/
theorem depends_some (b off n cap : Nat) (l : List Int) (i : Nat) (hi : i < n) (w : World) (hn : n ≤ 1048576) (E : Nat) (c : Bool)
    (HCP : Hid (Calls Try.prog 8 #[.slice (some ⟨b, off, none⟩) n cap] w fun e w' => e = .returned (.slice (some ⟨w.heap.size, 0, none⟩) n n) ∧ w'.rowIs w.heap.size 5 n (fun j => .int .u8 (l.getD j 0)) ∧ Below w.heap.size w w'))
    (HL : Hid (l.length = n)) (HN : Hid (Pl.scan (l.drop i) = some (E, c))) :
    Calls Try.prog 4 #[.slice (some ⟨b, off, none⟩) n cap, .int .i64 i] w fun e w' => e = .returned (.bool true) ∧ Below w.heap.size w w' := by
  have hg : ∀ w, Calls Try.prog 11 #[.slice (some ⟨b, off, none⟩) n cap, .int .i64 i] w fun e w' => e = .returned (.bool true) ∧ w' = w := fun w => guard11 _ _ _ _ hn w
  have HG : Hid (∀ w, Calls Try.prog 11 #[.slice (some ⟨b, off, none⟩) n cap, .int .i64 i] w fun e w' => e = .returned (.bool true) ∧ w' = w) := hg
  clear hg
  obtain ⟨hE1, hE2, hE3⟩ := Pl.scan_bounds _ _ _ HN.out
  rw [List.length_drop, HL.out] at hE2
  have hE4 : i + E ≤ n := by omega
  clear hE2
  go_enter Try.func4, Try.ntmps4
  go_wp2_with (go_at_call 11; refine (HG.out _).mono ?_; rintro e w' ⟨rfl, rfl⟩)
  refine HCP.out.mono ?_
  rintro e w1 ⟨rfl, hrow, hb⟩
  have HC1 : Hid (∀ k, k < n → w1.cell? ⟨w'.heap.size, 0 + k, none⟩ = some (.int .u8 (l.getD k 0))) := fun k hk => by simpa using hrow.cell hk
  have HS : Hid (Calls Try.prog 9 #[.slice (some ⟨w'.heap.size, 0, none⟩) n n, .int .i64 i] w1 fun e w' => e = .returned (.tuple #[.int .i64 ((i : Int) + (E : Int)), .bool c]) ∧ w' = w1) := zzScan_any _ _ _ _ l i hi w1 hn HL.out HC1 _ _ (by rw [HN.out]; simp [scanVal])
  have HS2 : Hid (Calls Try.prog 9 #[.slice (some ⟨w'.heap.size, i, none⟩) (n - i) (n - i), .int .i64 ((0 : Nat) : Int)] w1 fun e w' => e = .returned (.tuple #[.int .i64 (E : Int), .bool c]) ∧ w' = w1) :=
    zzScan_any _ _ _ _ (l.drop i) 0 (by omega) w1 (by omega) (by have := HL.out; simp; omega) (fun k hk => by
      have := hrow.cell (show i + k < n from by omega)
      simpa using this) _ _ (by rw [List.drop_zero, HN.out]; simp [scanVal])
  have HS3 : Hid (Calls Try.prog 9 #[.slice (some ⟨w'.heap.size, i, none⟩) E (n - i), .int .i64 ((0 : Nat) : Int)] w1 fun e w' => e = .returned (.tuple #[.int .i64 (E : Int), .bool c]) ∧ w' = w1) :=
    zzScan_any _ _ _ _ ((l.drop i).take E) 0 (by omega) w1 (by omega) (by have := HL.out; simp; omega) (fun k hk => by
      have := hrow.cell (show i + k < n from by omega)
      simpa [List.getElem?_take, hk] using this) _ _ (by rw [List.drop_zero, Pl.scan_take _ _ _ HN.out]; simp [scanVal])
  clear HCP HC1 hrow
  go_wp2_with fail
  refine HS.out.mono ?_
  rintro e w2 ⟨rfl, rfl⟩
  go_wp2_with fail
  refine HS2.out.mono ?_
  rintro e w2 ⟨rfl, rfl⟩
  have hee : ((E : Int) != (i : Int) + (E : Int) - (i : Int)) = false := by rw [bne_eq_false_iff_eq]; omega
  have hcc : (c != c) = false := by simp
  have hee2 : ((E : Int) == (i : Int) + (E : Int) - (i : Int)) = true := by rw [beq_iff_eq]; omega
  have hsb : (i : Int) + (E : Int) - (i : Int) ≤ 1048576 := by omega
  cases c with
  | true =>
    have h16 := hE3 rfl
    clear hE3
    go_wp2_with fail
    refine HS3.out.mono ?_
    rintro e w2 ⟨rfl, rfl⟩
    go_wp2
    go_ret
    exact ⟨ret_bool (by simp; try omega), hb⟩
  | false =>
    clear hE3
    go_wp2_with fail
    refine HS3.out.mono ?_
    rintro e w2 ⟨rfl, rfl⟩
    go_wp2
    go_ret
    exact ⟨ret_bool (by simp; try omega), hb⟩

set_option maxHeartbeats 400000 in
theorem matches_long (a : Option Addr) (n cap : Nat) (i : Int) (hn : ¬ n ≤ 1048576) (w : World) :
    Calls Try.prog 3 #[.slice a n cap, .int .i64 i] w fun e w' => e = .returned (.bool true) ∧ Below w.heap.size w w' := by
  have HG : Hid (∀ w, Calls Try.prog 7 #[.slice a n cap, .int .i64 i] w fun e w' => e = .returned (.bool false) ∧ w' = w) := fun w => guard7_no _ _ _ _ hn w
  go_enter Try.func3, Try.ntmps3
  go_wp2_with (go_at_call 7; refine (HG.out _).mono ?_; rintro e w' ⟨rfl, rfl⟩)
  go_ret
  exact ⟨rfl, Below.refl _ _⟩
set_option maxHeartbeats 400000 in
theorem matches_out (a : Option Addr) (n cap : Nat) (i : Int) (hn : n ≤ 1048576) (hi : i < 0 ∨ (n : Int) ≤ i) (w : World) :
    Calls Try.prog 3 #[.slice a n cap, .int .i64 i] w fun e w' => e = .returned (.bool true) ∧ Below w.heap.size w w' := by
  have HG : Hid (∀ w, Calls Try.prog 7 #[.slice a n cap, .int .i64 i] w fun e w' => e = .returned (.bool true) ∧ w' = w) := fun w => guard7 _ _ _ _ hn w
  rcases hi with hi | hi
  · go_enter Try.func3, Try.ntmps3
    go_wp2_with (go_at_call 7; refine (HG.out _).mono ?_; rintro e w' ⟨rfl, rfl⟩)
    go_ret
    exact ⟨rfl, Below.refl _ _⟩
  · by_cases h0 : i < 0
    · omega
    · go_enter Try.func3, Try.ntmps3
      go_wp2_with (go_at_call 7; refine (HG.out _).mono ?_; rintro e w' ⟨rfl, rfl⟩)
      go_ret
      exact ⟨rfl, Below.refl _ _⟩

set_option maxHeartbeats 400000 in
theorem depends_long (a : Option Addr) (n cap : Nat) (i : Int) (hn : ¬ n ≤ 1048576) (w : World) :
    Calls Try.prog 4 #[.slice a n cap, .int .i64 i] w fun e w' => e = .returned (.bool true) ∧ Below w.heap.size w w' := by
  have HG : Hid (∀ w, Calls Try.prog 11 #[.slice a n cap, .int .i64 i] w fun e w' => e = .returned (.bool false) ∧ w' = w) := fun w => guard11_no _ _ _ _ hn w
  go_enter Try.func4, Try.ntmps4
  go_wp2_with (go_at_call 11; refine (HG.out _).mono ?_; rintro e w' ⟨rfl, rfl⟩)
  go_ret
  exact ⟨rfl, Below.refl _ _⟩
set_option maxHeartbeats 400000 in
theorem depends_out (a : Option Addr) (n cap : Nat) (i : Int) (hn : n ≤ 1048576) (hi : i < 0 ∨ (n : Int) ≤ i) (w : World) :
    Calls Try.prog 4 #[.slice a n cap, .int .i64 i] w fun e w' => e = .returned (.bool true) ∧ Below w.heap.size w w' := by
  have HG : Hid (∀ w, Calls Try.prog 11 #[.slice a n cap, .int .i64 i] w fun e w' => e = .returned (.bool true) ∧ w' = w) := fun w => guard11 _ _ _ _ hn w
  rcases hi with hi | hi
  · go_enter Try.func4, Try.ntmps4
    go_wp2_with (go_at_call 11; refine (HG.out _).mono ?_; rintro e w' ⟨rfl, rfl⟩)
    go_ret
    exact ⟨rfl, Below.refl _ _⟩
  · by_cases h0 : i < 0
    · omega
    · go_enter Try.func4, Try.ntmps4
      go_wp2_with (go_at_call 11; refine (HG.out _).mono ?_; rintro e w' ⟨rfl, rfl⟩)
      go_ret
      exact ⟨rfl, Below.refl _ _⟩

theorem depends_in (b off n cap : Nat) (zs : List Int) (i : Nat) (hi : i < n) (w : World) (hn : n ≤ 1048576) (hz : n ≤ zs.length)
    (hc : ∀ k, k < n → w.cell? ⟨b, off + k, none⟩ = some (.int .u8 (zs.getD k 0))) :
    Calls Try.prog 4 #[.slice (some ⟨b, off, none⟩) n cap, .int .i64 i] w fun e w' => e = .returned (.bool true) ∧ Below w.heap.size w w' := by
  have hcp := copy_any b off n cap (zs.take n) w hn (fun k hk => by rw [getD_take zs n k hk]; exact hc k hk)
  have hl : (zs.take n).length = n := by simp; omega
  cases h : Pl.scan ((zs.take n).drop i) with
  | none => exact depends_none b off n cap (zs.take n) i hi w hn hcp hl h
  | some p => exact depends_some b off n cap (zs.take n) i hi w hn p.1 p.2 hcp hl h

/-- A slice with elements begins at a plain address. -/
theorem plain_at {w : World} {x : Addr} {zs : List Int} {k : IntKind} (hp : 0 < zs.length) (h : ∀ i, i < zs.length → w.cell? (x.add i) = some (.int k (zs.getD i 0))) :
    ∃ b off, x = ⟨b, off, none⟩ ∧ ∀ i, i < zs.length → w.cell? ⟨b, off + i, none⟩ = some (.int k (zs.getD i 0)) := by
  obtain ⟨b, off, spot⟩ := x
  have hs : spot = none := by simpa [Addr.add] using World.cell?_spot (h 0 hp)
  subst hs
  exact ⟨b, off, rfl, fun i hi => by rw [← Go.WideShapes.add_plain]; exact h i hi⟩
end Go.Proofs.Qxb6601605a
