/-
  properSubsetSorted, view.follows, ZZViewFollows, walked.
-/
import Derived.Test.Qxb6601741aSortW
import Derived.Laws.CopyRow
import Derived.Laws.CopyOwn
namespace Go.Proofs.Qxb6601741a
open Go.RowKit

theorem hidden {p : Prop} (h : p) : Hid p := h

/-- The bool says whether za lies within zb and zb is longer. -/
def SubOK (za zb : List Int) (b : Bool) : Prop := b = true ↔ ((∀ x ∈ za, x ∈ zb) ∧ za.length < zb.length)

set_option maxRecDepth 100000 in
set_option maxHeartbeats 2000000 in
theorem sub13 (B1 B2 la lb c1 c2 : Nat) (za zb : List Int) (w : World) (ha : la ≤ 4096) (hb : lb ≤ 4096) (HZA : Hid (za.length = la)) (HZB : Hid (zb.length = lb))
    (HA : Hid (∀ i, i < la → w.cell? ⟨B1, i, none⟩ = some (.int .i64 (za.getD i 0)))) (HB : Hid (∀ i, i < lb → w.cell? ⟨B2, i, none⟩ = some (.int .i64 (zb.getD i 0))))
    (HUA : Hid (Vw.Up za)) (HUB : Hid (Vw.Up zb)) :
    Calls Try.prog 13 #[.slice (some ⟨B1, 0, none⟩) la c1, .slice (some ⟨B2, 0, none⟩) lb c2] w fun e w' => RetV (SubOK za zb) e ∧ Below w.heap.size w w' := by
  go_enter Try.func13, Try.ntmps13
  go_wp2
  go_loopw [5, 6] (fun x y wr => ∃ (i j d : Nat), i ≤ la ∧ j ≤ lb ∧ x = .int .i64 i ∧ y = .int .i64 j ∧ w.drewN d = wr ∧ Hid (∀ t, t < i → za.getD t 0 ∈ zb) ∧ Hid (i < la → ∀ t, t < j → zb.getD t 0 < za.getD i 0)) (fun x _ _ => la - (intOf x).toNat)
  case atStart => exact ⟨0, 0, 0, by omega, by omega, rfl, rfl, rfl, fun t ht => by omega, fun _ t ht => by omega⟩
  case round =>
    obtain ⟨i, j, d, hi, hj, rfl, rfl, rfl, HI, HJ⟩ := hrel
    by_cases hil : i < la
    · have ca := HA.out i hil
      have HJ0 := HJ.out hil
      clear HJ
      obtain ⟨x, hx⟩ : ∃ x, x = za.getD i 0 := ⟨_, rfl⟩
      rw [← hx] at ca HJ0
      have HX : Hid (x = za.getD i 0) := hx
      clear hx
      have HJ1 : Hid (∀ t, t < j → zb.getD t 0 < x) := HJ0
      clear HJ0
      have ib : (i : Int) < (la : Int) := by omega
      go_wp2
      go_loopw [6] (fun y wr => ∃ (j d : Nat), j ≤ lb ∧ y = .int .i64 j ∧ w.drewN d = wr ∧ Hid (∀ t, t < j → zb.getD t 0 < x)) (fun y _ => lb - (intOf y).toNat)
      case atStart => exact ⟨j, d, hj, rfl, rfl, HJ1⟩
      case round =>
        clear HJ1 hj
        obtain ⟨j, d, hj, rfl, rfl, HJ⟩ := hrel
        by_cases hjl : j < lb
        · have cb := HB.out j hjl
          have jb : (j : Int) < (lb : Int) := by omega
          by_cases hlt : zb.getD j 0 < x
          · have HJ' : Hid (∀ t, t < j + 1 → zb.getD t 0 < x) := fun t ht => by
              rcases Nat.lt_or_ge t j with h | h
              · exact HJ.out t h
              · obtain rfl : t = j := by omega
                exact hlt
            clear HJ
            generalize zb.getD j 0 = y at cb hlt
            go_wp2
            go_quiet (fail)
            go_wp2
            go_round
            case rel => exact ⟨j + 1, _, by omega, by go_num, rfl, HJ'⟩
            case measure => simp [intOf]; omega
          · by_cases heq : zb.getD j 0 = x
            · have HI' : Hid (∀ t, t < i + 1 → za.getD t 0 ∈ zb) := fun t ht => by
                rcases Nat.lt_or_ge t i with h | h
                · exact HI.out t h
                · obtain rfl : t = i := by omega
                  rw [← HX.out, ← heq]
                  exact Vw.getD_mem (by rw [HZB.out]; exact hjl)
              have HJ' : Hid (i + 1 < la → ∀ t, t < j + 1 → zb.getD t 0 < za.getD (i + 1) 0) := fun h1 t ht => by
                have h2 := HUA.out i (by rw [HZA.out]; exact h1)
                rw [← HX.out] at h2
                rcases Nat.lt_or_ge t j with h | h
                · have := HJ.out t h; omega
                · obtain rfl : t = j := by omega
                  omega
              have hnl : ((j : Int) == (lb : Int)) = false := by rw [beq_eq_false_iff_ne]; omega
              clear HJ HI
              have hd1 : decide (x < x) = false := by simp
              have hd2 : (x != x) = false := by simp
              rw [heq] at cb
              clear hlt heq
              go_wp2
              go_quiet (fail)
              go_wp2
              go_quiet (fail)
              go_wp2
              go_round
              case rel => exact ⟨i + 1, j + 1, _, by omega, by omega, by go_num, by go_num, rfl, HI', HJ'⟩
              case measure => simp [intOf]; omega
            · have HN : Hid (SubOK za zb false) := by
                refine ⟨fun h => by simp at h, fun h => ?_⟩
                have hm := h.1 (za.getD i 0) (Vw.getD_mem (by rw [HZA.out]; exact hil))
                rw [← HX.out] at hm
                exact absurd hm (Vw.not_mem_gap HUB.out HJ.out (fun _ => by omega))
              have hnl : ((j : Int) == (lb : Int)) = false := by rw [beq_eq_false_iff_ne]; omega
              clear HJ HI
              generalize zb.getD j 0 = y at cb hlt heq
              have hd1 : decide (y < x) = false := by simpa using hlt
              have hd2 : (y != x) = true := by simpa using heq
              go_wp2
              go_quiet (fail)
              go_wp2
              go_quiet (fail)
              go_wp2
              go_ret
              exact ⟨⟨_, rfl, HN.out⟩, (Below.refl _ _).trans ⟨rfl, rfl, rfl, Nat.le_refl _, fun _ _ => rfl⟩⟩
        · have HN : Hid (SubOK za zb false) := by
            refine ⟨fun h => by simp at h, fun h => ?_⟩
            have hm := h.1 (za.getD i 0) (Vw.getD_mem (by rw [HZA.out]; exact hil))
            rw [← HX.out] at hm
            exact absurd hm (Vw.not_mem_gap HUB.out HJ.out (fun h2 => by rw [HZB.out] at h2; omega))
          have hnl : ((j : Int) == (lb : Int)) = true := by rw [beq_iff_eq]; omega
          have hd1 : decide ((j : Int) < (lb : Int)) = false := by simp; omega
          clear HJ HI
          go_wp2
          go_quiet (fail)
          go_wp2
          go_quiet (fail)
          go_wp2
          go_ret
          exact ⟨⟨_, rfl, HN.out⟩, (Below.refl _ _).trans ⟨rfl, rfl, rfl, Nat.le_refl _, fun _ _ => rfl⟩⟩
    · have HN : Hid (SubOK za zb (decide (la < lb))) := by
        refine ⟨fun h => ⟨fun x hx => ?_, by have := of_decide_eq_true h; rw [HZA.out, HZB.out]; omega⟩, fun h => decide_eq_true (by have := h.2; rw [HZA.out, HZB.out] at this; omega)⟩
        obtain ⟨t, ht, e⟩ := Vw.mem_getD hx
        rw [← e]
        exact HI.out t (by rw [HZA.out] at ht; omega)
      clear HI HJ
      go_wp2
      go_ret
      exact ⟨⟨_, rfl, HN.out⟩, (Below.refl _ _).trans ⟨rfl, rfl, rfl, Nat.le_refl _, fun _ _ => rfl⟩⟩

/-! ### follows -/
/-- What follows answers. -/
def folB (zv zk : List Int) (gv gk : Int) : Bool := if gv = gk then decide (zv.length < zk.length) && zv.all (fun x => decide (x ∈ zk)) else decide (gk < gv)

set_option maxRecDepth 100000 in
set_option maxHeartbeats 2000000 in
theorem follows24 (a1 a2 : Option Addr) (n1 c1 n2 c2 : Nat) (m1 m2 gv gk : Int) (zv zk : List Int) (w : World) (h1 : n1 ≤ 4096) (h2 : n2 ≤ 4096) (HZ1 : Hid (zv.length = n1)) (HZ2 : Hid (zk.length = n2)) (HR1 : Hid (RI w a1 zv)) (HR2 : Hid (RI w a2 zk)) :
    Calls Try.prog 24 #[.agg #[.slice a1 n1 c1, .int .i64 m1, .int .u64 gv], .agg #[.slice a2 n2 c2, .int .i64 m2, .int .u64 gk]] w fun e w' => e = .returned (.bool (folB zv zk gv gk)) ∧ Below w.heap.size w w' := by
  by_cases hg : gv = gk
  · subst hg
    have hbb : (gv != gv) = false := by simp
    by_cases hl : n1 < n2
    · obtain ⟨W2, hW2⟩ : ∃ W2 : World, W2 = (w.alloc (.cells #[.slice a1 n1 c1, .int .i64 m1, .int .u64 gv] 38)).alloc (.cells #[.slice a2 n2 c2, .int .i64 m2, .int .u64 gv] 38) := ⟨_, rfl⟩
      have hbel : Below w.heap.size w W2 := by rw [hW2]; exact ((Below.refl _ _).alloc (Nat.le_refl _) _).alloc (by simp) _
      have hcon : ∀ v, Calls Try.prog 26 #[.slice a2 n2 c2, .int .i64 v] W2 fun e w' => e = .returned (.bool (decide (v ∈ zk))) ∧ w' = W2 := fun v => contains26 a2 n2 c2 zk v W2 h2 HZ2 (HR2.out.below hbel)
      rcases HR1.out with hz | ⟨b, o, rfl, hc⟩
      · have h0 : n1 = 0 := by have := HZ1.out; rw [hz] at this; simpa using this.symm
        subst h0
        have HF : Hid (folB zv zk gv gv = true) := by
          show _ = _
          simp [folB, hz, HZ2.out, hl]
        have HBL : Hid (Below w.heap.size w ((w.alloc (.cells #[.slice a1 0 c1, .int .i64 m1, .int .u64 gv] 38)).alloc (.cells #[.slice a2 n2 c2, .int .i64 m2, .int .u64 gv] 38))) := by
          show Below _ _ _
          rw [← hW2]; exact hbel
        clear hcon hbel hW2 hz
        go_enter Try.func24, Try.ntmps24
        go_wp2
        refine wp_loop_rounds 1 ?_
        rw [rounds_succ]
        go_wp2
        go_ret
        exact ⟨by rw [HF.out]; rfl, HBL.out⟩
      · subst hW2
        have HCN := hidden hcon
        have HBL := hidden hbel
        have HC : Hid (∀ i, i < n1 → ((w.alloc (.cells #[.slice (some ⟨b, o, none⟩) n1 c1, .int .i64 m1, .int .u64 gv] 38)).alloc (.cells #[.slice a2 n2 c2, .int .i64 m2, .int .u64 gv] 38)).cell? ⟨b, o + i, none⟩ = some (.int .i64 (zv.getD i 0))) := fun i hi => by
          have h := hc i (by rw [HZ1.out]; exact hi)
          exact (hbel.cell (lt_of_cellv h)).trans h
        clear hcon hbel hc
        have hd1 : decide (n2 ≤ n1) = false := by simp; omega
        have hd2 : decide ((n2 : Int) ≤ (n1 : Int)) = false := by simp; omega
        go_enter Try.func24, Try.ntmps24
        go_wp2
        go_loop [27] (fun i => ∃ k : Nat, k ≤ n1 ∧ i = .int .i64 k ∧ Hid (∀ t, t < k → zv.getD t 0 ∈ zk)) (fun i => n1 - (intOf i).toNat)
        case atStart => exact ⟨0, by omega, rfl, fun t ht => by omega⟩
        case round =>
          obtain ⟨k, hk, rfl, HK⟩ := hrel
          by_cases hlt : k < n1
          · have hcell := HC.out k hlt
            have hcn := HCN.out (zv.getD k 0)
            by_cases hm : zv.getD k 0 ∈ zk
            · have HK' : Hid (∀ t, t < k + 1 → zv.getD t 0 ∈ zk) := fun t ht => by
                rcases Nat.lt_or_ge t k with h | h
                · exact HK.out t h
                · obtain rfl : t = k := by omega
                  exact hm
              rw [decide_eq_true hm] at hcn
              have HCN1 := hidden hcn
              clear HK hm hcn
              generalize zv.getD k 0 = x at hcell HCN1
              go_wp2_with fail
              refine HCN1.out.mono ?_
              rintro e w' ⟨rfl, rfl⟩
              go_wp2
              go_round
              case rel => exact ⟨k + 1, by omega, by go_num, HK'⟩
              case measure => simp [intOf]; omega
            · have HF : Hid (folB zv zk gv gv = false) := by
                show _ = _
                have h3 : zv.all (fun x => decide (x ∈ zk)) = false := by
                  rw [List.all_eq_false]
                  exact ⟨zv.getD k 0, Vw.getD_mem (by rw [HZ1.out]; exact hlt), by rw [decide_eq_false hm]; simp⟩
                simp [folB, h3]
              rw [decide_eq_false hm] at hcn
              have HCN1 := hidden hcn
              clear HK hm hcn
              generalize zv.getD k 0 = x at hcell HCN1
              go_wp2_with fail
              refine HCN1.out.mono ?_
              rintro e w' ⟨rfl, rfl⟩
              go_wp2
              go_ret
              exact ⟨by rw [HF.out]; rfl, HBL.out⟩
          · have HF : Hid (folB zv zk gv gv = true) := by
              show _ = _
              have h3 : zv.all (fun x => decide (x ∈ zk)) = true := by
                rw [List.all_eq_true]
                intro x hx
                obtain ⟨t, ht, e⟩ := Vw.mem_getD hx
                rw [HZ1.out] at ht
                rw [← e]
                exact decide_eq_true (HK.out t (by omega))
              have h4 : zv.length < zk.length := by rw [HZ1.out, HZ2.out]; exact hl
              simp only [folB, if_true, h3, h4, decide_true, Bool.and_self]
            clear HK
            go_wp2
            go_ret
            exact ⟨by rw [HF.out]; rfl, HBL.out⟩
    · have HF : Hid (folB zv zk gv gv = false) := by
        show _ = _
        have : ¬ zv.length < zk.length := by rw [HZ1.out, HZ2.out]; exact hl
        simp [folB, this]
      go_enter Try.func24, Try.ntmps24
      go_wp2
      go_ret
      exact ⟨by rw [HF.out]; rfl, ((Below.refl _ _).alloc (Nat.le_refl _) _).alloc (by simp) _⟩
  · have hbb : (gv != gk) = true := by simpa using hg
    have HF : Hid (folB zv zk gv gk = decide (gk < gv)) := by show _ = _; simp [folB, hg]
    go_enter Try.func24, Try.ntmps24
    go_wp2
    go_ret
    exact ⟨by rw [HF.out]; rfl, ((Below.refl _ _).alloc (Nat.le_refl _) _).alloc (by simp) _⟩

set_option maxHeartbeats 400000 in
theorem zzView12 (a1 a2 : Option Addr) (n1 c1 n2 c2 : Nat) (m1 m2 gv gk : Int) (zv zk : List Int) (w : World) (h1 : n1 ≤ 4096) (h2 : n2 ≤ 4096) (HZ1 : Hid (zv.length = n1)) (HZ2 : Hid (zk.length = n2)) (HR1 : Hid (RI w a1 zv)) (HR2 : Hid (RI w a2 zk)) :
    Calls Try.prog 12 #[.slice a1 n1 c1, .int .i64 m1, .int .u64 gv, .slice a2 n2 c2, .int .i64 m2, .int .u64 gk] w fun e w' => e = .returned (.bool (folB zv zk gv gk)) ∧ Below w.heap.size w w' := by
  have h := follows24 a1 a2 n1 c1 n2 c2 m1 m2 gv gk zv zk w h1 h2 HZ1 HZ2 HR1 HR2
  have H := hidden h
  clear h
  go_enter Try.func12, Try.ntmps12
  go_wp2_with fail
  refine H.out.mono ?_
  rintro e w' ⟨rfl, hb⟩
  go_wp2
  go_ret
  exact ⟨rfl, hb⟩

set_option maxHeartbeats 400000 in
theorem zz9 (a1 a2 : Option Addr) (n1 c1 n2 c2 : Nat) (m1 m2 gv gk : Int) (w : World) (h1 : n1 ≤ maxLen) (h2 : n2 ≤ maxLen) :
    Calls Try.prog 9 #[.slice a1 n1 c1, .int .i64 m1, .int .u64 gv, .slice a2 n2 c2, .int .i64 m2, .int .u64 gk] w fun e w' => RetV (fun _ => True) e ∧ w' = w := by
  unfold maxLen at h1 h2
  by_cases k1 : n1 ≤ 1048576
  · by_cases k2 : n2 ≤ 1048576
    · by_cases k3 : n1 + n2 ≤ 1048576
      all_goals
        go_enter Try.func9, Try.ntmps9
        go_wp2
        go_ret
        exact ⟨⟨_, rfl, trivial⟩, rfl⟩
    · go_enter Try.func9, Try.ntmps9
      go_wp2
      go_ret
      exact ⟨⟨_, rfl, trivial⟩, rfl⟩
  · go_enter Try.func9, Try.ntmps9
    go_wp2
    go_ret
    exact ⟨⟨_, rfl, trivial⟩, rfl⟩

/-! ### The copies -/
theorem lt_of_cell_any {w : World} {p : Addr} {v : Value} (h : w.cell? p = some v) : p.block < w.heap.size := by
  rcases Nat.lt_or_ge p.block w.heap.size with h' | h'
  · exact h'
  · rw [World.cell?, Array.getElem?_eq_none h'] at h; simp at h

theorem Try.size3 : (Try.prog.info? 3).map (·.size) = some 1 := by kernel_rfl

theorem copied (w : World) (n c : Nat) (x : Addr) (zs : List Int) (hl : zs.length = n) (hc : ∀ i, i < n → w.cell? (x.add i) = some (.int .i64 (zs.getD i 0))) :
    ∃ W2, (∀ ty, (Builtin.copy_ #[22, 22] ty #[.slice (some ⟨w.heap.size, 0, none⟩) n n, .slice (some x) n c]).run Try.prog (w.alloc (.cells (madeCells #[.int .i64 0] n) 3)) = .ok (goInt n) W2) ∧
      RI W2 (some ⟨w.heap.size, 0, none⟩) zs ∧ Below w.heap.size w W2 := by
  have hb1 : Below w.heap.size w (w.alloc (.cells (madeCells #[.int .i64 0] n) 3)) := (Below.refl _ _).alloc (Nat.le_refl _) _
  have hg : (w.alloc (.cells (madeCells #[.int .i64 0] n) 3)).heap[w.heap.size]? = some (.cells (madeCells #[.int .i64 0] n) 3 (0, 0)) := Go.Deep.blk_alloc_new _ _
  have hcs : (zs.map (Value.int .i64)).length = n := by simp [hl]
  have hrun := fun ty => run_copy_row (P := Try.prog) (w.alloc (.cells (madeCells #[.int .i64 0] n) 3)) 22 22 ty 3 w.heap.size 0 n n x n c (madeCells #[.int .i64 0] n) 3 (zs.map (Value.int .i64)) Try.underlying22 Try.size3 hg
    (by rw [hcs]; exact (Nat.min_self n).symm) (fun j v hv => by
      rw [List.getElem?_map] at hv
      obtain ⟨z, hz, rfl⟩ := Option.map_eq_some_iff.1 hv
      have hj : j < n := by
        obtain ⟨h, _⟩ := List.getElem?_eq_some_iff.1 hz
        omega
      have h1 := hc j hj
      have e : zs.getD j 0 = z := by simp [hz]
      rw [e] at h1
      exact (hb1.cell (lt_of_cell_any h1)).trans h1) (by rw [hcs, size_madeCells]; omega) (fun v hv => by
      obtain ⟨z, _, rfl⟩ := List.mem_map.1 hv
      rfl)
  refine ⟨(w.alloc (.cells (madeCells #[.int .i64 0] n) 3)).setRow w.heap.size (zs.map (Value.int .i64)).toArray, fun ty => ?_, ?_, ?_⟩
  · have h := hrun ty
    have hd : (madeCells #[.int .i64 0] n).toList.drop (0 + (zs.map (Value.int .i64)).length) = [] := List.drop_eq_nil_of_le (by simp [size_madeCells, hl])
    rw [hd, hcs, List.take_zero, List.nil_append, List.append_nil] at h
    exact h
  · refine .inr ⟨w.heap.size, 0, rfl, fun i hi => ?_⟩
    rw [Nat.zero_add, cell_setRow_same _ _ _ _ _ _ _ hg]
    simp [hi]
  · exact below_setRow hb1 (Nat.le_refl _) _

end Go.Proofs.Qxb6601741a
