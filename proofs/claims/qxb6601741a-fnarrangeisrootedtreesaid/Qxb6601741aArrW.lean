/-
  arrange, walked.
-/
import Derived.Test.Qxb6601741aArrPlain
import Derived.Test.Qxb6601741aMapW
import Derived.BigQuiet
import Derived.Deep.QuietTactic
import Derived.Deep.LoopGhost
import Derived.Deep.DeepCutAuto
namespace Go.Proofs.Qxb6601741a
open Go.RowKit

theorem Try.info3 : (Try.prog.info? 3).map (fun i => (i.zero, i.size, i.bytes)) = some (some (.int .i64 0), 1, 8) := by kernel_rfl

/-- The groups of metagroup k. -/
def grOf (L : Nat → Nat) (S : Nat → Nat → ByteArray) (k : Nat) : List (List UInt8) := (List.range (L k)).map fun j => (S k j).data.toList

theorem grOf_length (L : Nat → Nat) (S : Nat → Nat → ByteArray) (k : Nat) : (grOf L S k).length = L k := by simp [grOf]
theorem grOf_take (L : Nat → Nat) (S : Nat → Nat → ByteArray) (k j : Nat) (h : j < L k) : (grOf L S k).take (j + 1) = (grOf L S k).take j ++ [(S k j).data.toList] := by
  have hl : j < (grOf L S k).length := by rw [grOf_length]; exact h
  rw [List.take_succ_eq_append_getElem hl]
  simp [grOf]
theorem grOf_take_all (L : Nat → Nat) (S : Nat → Nat → ByteArray) (k j : Nat) (h : L k ≤ j) : (grOf L S k).take j = grOf L S k := List.take_of_length_le (by rw [grOf_length]; exact h)

theorem grOf_head (L : Nat → Nat) (S : Nat → Nat → ByteArray) (k : Nat) (h : 0 < L k) : grOf L S k = (S k 0).data.toList :: (grOf L S k).tail := by
  obtain ⟨l, hl⟩ : ∃ l, L k = l + 1 := ⟨L k - 1, by omega⟩
  simp only [grOf, hl, List.range_succ_eq_map, List.map_cons, List.tail_cons]
theorem grOf_tail_nil (L : Nat → Nat) (S : Nat → Nat → ByteArray) (k : Nat) (h : L k = 1) : (grOf L S k).tail = [] := by
  have := grOf_length L S k
  apply List.eq_nil_of_length_eq_zero
  rw [List.length_tail]; omega
theorem grOf_tail_take (L : Nat → Nat) (S : Nat → Nat → ByteArray) (k t : Nat) (h : t < L k - 1) : (grOf L S k).tail.take (t + 1) = (grOf L S k).tail.take t ++ [(S k (t + 1)).data.toList] := by
  have hl : t < (grOf L S k).tail.length := by rw [List.length_tail, grOf_length]; exact h
  rw [List.take_succ_eq_append_getElem hl]
  simp [grOf]

/-- The look-up in 'ordered'. -/
theorem look_ord {gr : Nat → List (List UInt8)} {sp : List Nat} {wr : World} {b m : Nat} (h : IMap wr b m (fun g => (Ar.ordOf gr sp g).map Int.ofNat)) (s : ByteArray) (hs : s.size ≤ maxLen) :
    ∃ x, (Instr.lookup 35 (.map (some b)) (.string s) true).run Try.prog wr = .ok (.tuple #[.int .i64 x, .bool (Ar.cov gr sp s.data.toList)]) wr := by
  refine ⟨((Ar.ordOf gr sp s.data.toList).map Int.ofNat).getD 0, ?_⟩
  rw [h.look_ok s hs, Option.isSome_map, Ar.ordOf_isSome]

/-- The metagroups as arrange gets them. -/
structure Metas (w : World) (M n : Nat) (ab ao L C : Nat → Nat) (S : Nat → Nat → ByteArray) : Prop where
  c0 : ∀ k, k < n → w.cell? ⟨M, k * 7, none⟩ = some (.slice (some ⟨ab k, ao k, none⟩) (L k) (C k))
  c1 : ∀ k, k < n → w.cell? ⟨M, k * 7 + 1, none⟩ = some (.slice none 0 0)
  c2 : ∀ k, k < n → w.cell? ⟨M, k * 7 + 2, none⟩ = some (.int .i64 0)
  c3 : ∀ k, k < n → w.cell? ⟨M, k * 7 + 3, none⟩ = some (.slice none 0 0)
  c4 : ∀ k, k < n → w.cell? ⟨M, k * 7 + 4, none⟩ = some (.int .i64 0)
  c5 : ∀ k, k < n → w.cell? ⟨M, k * 7 + 5, none⟩ = some (.map none)
  c6 : ∀ k, k < n → w.cell? ⟨M, k * 7 + 6, none⟩ = some (.int .i64 0)
  name : ∀ k, k < n → ∀ j, j < L k → w.cell? ⟨ab k, ao k + j, none⟩ = some (.string (S k j)) ∧ (S k j).size ≤ maxLen
  len : ∀ k, k < n → 1 ≤ L k ∧ L k ≤ 4096 ∧ L k ≤ C k

theorem lt_of_cell {w : World} {b o : Nat} {v : Value} (h : w.cell? ⟨b, o, none⟩ = some v) : b < w.heap.size := by
  rcases Nat.lt_or_ge b w.heap.size with h' | h'
  · exact h'
  · rw [World.cell?, Array.getElem?_eq_none h'] at h; simp at h

theorem Metas.below {w w' : World} {M n : Nat} {ab ao L C : Nat → Nat} {S : Nat → Nat → ByteArray} (h : Metas w M n ab ao L C S) (hb : Below w.heap.size w w') : Metas w' M n ab ao L C S := by
  have cc : ∀ {b o : Nat} {v : Value}, w.cell? ⟨b, o, none⟩ = some v → w'.cell? ⟨b, o, none⟩ = some v := fun hv => (hb.cell (lt_of_cell hv)).trans hv
  exact ⟨fun k hk => cc (h.c0 k hk), fun k hk => cc (h.c1 k hk), fun k hk => cc (h.c2 k hk), fun k hk => cc (h.c3 k hk), fun k hk => cc (h.c4 k hk), fun k hk => cc (h.c5 k hk), fun k hk => cc (h.c6 k hk),
    fun k hk j hj => ⟨cc (h.name k hk j hj).1, (h.name k hk j hj).2⟩, h.len⟩

/-- The state of arrange: what was there is as it was; parents, spine and ordered lie in the call's first three blocks. -/
structure AS (w : World) (n : Nat) (pf sf : Nat → Int) (m : Nat) (of : List UInt8 → Option Int) (wr : World) : Prop where
  bel : Below w.heap.size w wr
  par : wr.rowIs w.heap.size 3 n (fun k => .int .i64 (pf k))
  spi : wr.rowIs (w.heap.size + 1) 3 n (fun k => .int .i64 (sf k))
  ord : IMap wr (w.heap.size + 1 + 1) m of

theorem AS.alloc {w wr : World} {n m : Nat} {pf sf : Nat → Int} {of : List UInt8 → Option Int} (h : AS w n pf sf m of wr) (o : Obj) : AS w n pf sf m of (wr.alloc o) :=
  ⟨h.bel.alloc (by have := h.bel.size; omega) o, h.par.alloc o, h.spi.alloc o, h.ord.alloc o⟩
theorem AS.drew {w wr : World} {n m : Nat} {pf sf : Nat → Int} {of : List UInt8 → Option Int} (h : AS w n pf sf m of wr) : AS w n pf sf m of wr.drew :=
  ⟨h.bel.drew, h.par.drew, h.spi.drew, h.ord.drew⟩
theorem AS.drewN {w wr : World} {n m : Nat} {pf sf : Nat → Int} {of : List UInt8 → Option Int} (h : AS w n pf sf m of wr) (d : Nat) : AS w n pf sf m of (wr.drewN d) :=
  ⟨h.bel.trans ⟨rfl, rfl, rfl, Nat.le_refl _, fun _ _ => rfl⟩, h.par.of_block rfl, h.spi.of_block rfl, h.ord.of_block rfl⟩
theorem AS.congr {w wr : World} {n m : Nat} {pf sf pf' : Nat → Int} {of : List UInt8 → Option Int} (h : AS w n pf sf m of wr) (e : ∀ k, k < n → pf k = pf' k) : AS w n pf' sf m of wr :=
  ⟨h.bel, h.par.congr (fun i hi => by rw [e i hi]), h.spi, h.ord⟩
theorem AS.setPar {w wr : World} {n m : Nat} {pf sf : Nat → Int} {of : List UInt8 → Option Int} (h : AS w n pf sf m of wr) (k : Nat) (v : Int) (pf' : Nat → Int) (e : ∀ j, j < n → pf' j = if j = k then v else pf j) :
    AS w n pf' sf m of (wr.setCell ⟨w.heap.size, k, none⟩ (.int .i64 v)) :=
  ⟨h.bel.setCell (Nat.le_refl _) _, (h.par.set k _).congr (fun j hj => by rw [e j hj]; split <;> rfl), h.spi.setOther (by simp) _, h.ord.setCell (by simp; try omega) _⟩
theorem AS.setSpi {w wr : World} {n m : Nat} {pf sf : Nat → Int} {of : List UInt8 → Option Int} (h : AS w n pf sf m of wr) (k : Nat) (v : Int) (sf' : Nat → Int) (e : ∀ j, j < n → sf' j = if j = k then v else sf j) :
    AS w n pf sf' m of (wr.setCell ⟨w.heap.size + 1, k, none⟩ (.int .i64 v)) :=
  ⟨h.bel.setCell (by simp) _, h.par.setOther (by simp) _, (h.spi.set k _).congr (fun j hj => by rw [e j hj]; split <;> rfl), h.ord.setCell (by simp) _⟩
theorem AS.putOrd {w wr w' : World} {n m : Nat} {pf sf : Nat → Int} {of of' : List UInt8 → Option Int} (h : AS w n pf sf m of wr) (ho : IMap w' (w.heap.size + 1 + 1) (m + 1) of') (hg : wr.grownBy w' (some (w.heap.size + 1 + 1))) :
    AS w n pf sf (m + 1) of' w' :=
  ⟨h.bel.grown hg h.bel.size (fun k hk => by cases hk; omega), h.par.of_block (hg.block _ h.par.lt (by simp; try omega)), h.spi.of_block (hg.block _ h.spi.lt (by simp)), ho⟩
theorem AS.start (w : World) (n : Nat) : AS w n (fun _ => 0) (fun _ => 0) 0 (fun _ => none) (((w.alloc (.cells (madeCells #[.int .i64 0] n) 3)).alloc (.cells (madeCells #[.int .i64 0] n) 3)).alloc (.map #[] 0)) := by
  have h1 := World.rowIs_made w (.int .i64 0) n 3
  have h2 := World.rowIs_made (w.alloc (.cells (madeCells #[.int .i64 0] n) 3)) (.int .i64 0) n 3
  have h3 := IMap.made ((w.alloc (.cells (madeCells #[.int .i64 0] n) 3)).alloc (.cells (madeCells #[.int .i64 0] n) 3))
  simp only [World.size_alloc] at h2 h3
  exact ⟨(((Below.refl _ _).alloc (Nat.le_refl _) _).alloc (by simp) _).alloc (by simp; try omega) _, (h1.alloc _).alloc _, h2.alloc _, h3⟩

set_option maxRecDepth 100000 in
set_option maxHeartbeats 4000000 in
theorem arrange_any (M n : Nat) (ab ao L C : Nat → Nat) (S : Nat → Nat → ByteArray) (w : World) (hn : n ≤ 4096) (HM : Metas w M n ab ao L C S) :
    Calls Try.prog 25 #[.slice (some ⟨M, 0, none⟩) n n] w fun e w' => e = .returned (.slice (some ⟨w.heap.size, 0, none⟩) n n) ∧
      ∃ sp, Ar.Good (grOf L S) n sp ∧ (∀ k, k < n → k ∈ sp ∨ Ar.cnt (grOf L S) sp k = 0) ∧ w'.rowIs w.heap.size 3 n (fun k => .int .i64 (Ar.parFin (grOf L S) sp k)) ∧ Below w.heap.size w w' := by
  have hmk := run_make_row' (P := Try.prog) 22 3 (.int .i64 0) 8 Try.underlying22 Try.info3 rfl .i64 .i64 n (by omega) (by omega)
  have hmm := @run_makeMap Try.prog
  go_enter Try.func25, Try.ntmps25
  go_wp2
  go_loopw [6, 36] (fun _ i wr => ∃ k : Nat, k ≤ n ∧ i = .int .i64 k ∧ AS w n (fun _ => 0) (fun j => if j < k then -1 else 0) 0 (fun _ => none) wr) (fun _ i _ => n - (intOf i).toNat)
  case atStart => 
    exact ⟨0, by omega, rfl, AS.start w n⟩
  case round =>
    clear hmk hmm
    obtain ⟨k, hk, rfl, hA⟩ := hrel
    by_cases hlt : k < n
    · have h1 := hA.spi.cell hlt
      have h2 := hA.spi.frozen k
      go_wp2
      go_round
      case rel => exact ⟨k + 1, by omega, by go_num, hA.setSpi k _ _ (fun j hj => by
        by_cases e : j = k
        · simp [e]
        · have : (j < k + 1) = (j < k) := by apply propext; omega
          simp [e, this])⟩
      case measure => simp [intOf]; omega
    · go_wp2
      obtain ⟨w0, rfl⟩ : ∃ w0 : World, w0 = wr := ⟨_, rfl⟩
      go_loopw [7, 8] (fun la pl wr => ∃ (sp : List Nat) (m : Nat), Ar.Good (grOf L S) n sp ∧ m ≤ sp.length * 4096 ∧ la = .int .i64 (Ar.lastOf sp) ∧ pl = .int .i64 sp.length ∧
          AS w n (Ar.parentOf sp) (Ar.spineOf sp) m (fun g => (Ar.ordOf (grOf L S) sp g).map Int.ofNat) wr) (fun _ pl _ => n - (intOf pl).toNat)
      case atStart => exact ⟨[], 0, Ar.Good.nil _ _, by omega, rfl, rfl, ⟨hA.bel, hA.par.congr (fun i _ => rfl), hA.spi.congr (fun i hi => by
          have : i < k := by omega
          simp [Ar.spineOf, this]), hA.ord⟩⟩
      case round =>
        clear hA
        obtain ⟨sp, m, hG, hm, rfl, rfl, hA⟩ := hrel
        have HG : Hid (Ar.Good (grOf L S) n sp) := hG
        clear hG
        go_wp2
        obtain ⟨w1, rfl⟩ : ∃ w1 : World, w1 = wr := ⟨_, rfl⟩
        go_loopw [9, 10, 47] (fun nx mo i wr => ∃ K : Nat, K ≤ n ∧ i = .int .i64 K ∧ nx = .int .i64 (Ar.best (grOf L S) sp K).1 ∧ mo = .int .i64 ((Ar.best (grOf L S) sp K).2 : Nat) ∧
            AS w n (Ar.parentOf sp) (Ar.spineOf sp) m (fun g => (Ar.ordOf (grOf L S) sp g).map Int.ofNat) wr) (fun _ _ i _ => n - (intOf i).toNat)
        case atStart => exact ⟨0, by omega, rfl, rfl, rfl, hA⟩
        case round =>
          clear hA
          obtain ⟨K, hK, rfl, rfl, rfl, hA⟩ := hrel
          by_cases hlt : K < n
          · have HMr := HM.below hA.bel
            have c0 := HMr.c0 K hlt
            have c1 := HMr.c1 K hlt
            have c2 := HMr.c2 K hlt
            have c3 := HMr.c3 K hlt
            have c4 := HMr.c4 K hlt
            have c5 := HMr.c5 K hlt
            have c6 := HMr.c6 K hlt
            have hsp : ∀ o, (wr.alloc o).cell? ⟨w.heap.size + 1, K, none⟩ = some (.int .i64 (Ar.spineOf sp K)) := fun o => (hA.alloc o).spi.cell hlt
            by_cases hmem : K ∈ sp
            · have hv : 0 ≤ Ar.spineOf sp K := by rw [Ar.spineOf_mem hmem]; omega
              have HB : Hid (Ar.best (grOf L S) sp (K + 1) = Ar.best (grOf L S) sp K) := by
                show _ = _
                simp [Ar.best, hmem]
              generalize Ar.spineOf sp K = v at hsp hv
              go_wp2
              go_round
              case rel => exact ⟨K + 1, by omega, by go_num, by rw [HB.out], by rw [HB.out], hA.alloc _⟩
              case measure => simp [intOf]; omega
            · have hv : Ar.spineOf sp K = -1 := by simp [Ar.spineOf, hmem]
              simp only [hv] at hsp
              clear hv
              go_wp2
              have hA1 := hA.alloc (.cells #[.slice (some ⟨ab K, ao K, none⟩) (L K) (C K), .slice none 0 0, .int .i64 0, .slice none 0 0, .int .i64 0, .map none, .int .i64 0] 42)
              clear hA hsp c0 c1 c2 c3 c4 c5 c6 HMr
              obtain ⟨w2, rfl⟩ : ∃ w2 : World, w2 = wr := ⟨_, rfl⟩
              have hlen := HM.len K hlt
              go_loopw [13, 60] (fun un i wr => ∃ j : Nat, j ≤ L K ∧ i = .int .i64 j ∧ un = .int .i64 (Ar.cntL (grOf L S) sp ((grOf L S K).take j) : Nat) ∧
                  AS w n (Ar.parentOf sp) (Ar.spineOf sp) m (fun g => (Ar.ordOf (grOf L S) sp g).map Int.ofNat) wr) (fun _ i _ => L K - (intOf i).toNat)
              case atStart => exact ⟨0, by omega, rfl, rfl, hA1⟩
              case round =>
                clear hA1
                obtain ⟨j, hj, rfl, rfl, hA⟩ := hrel
                by_cases hjl : j < L K
                · obtain ⟨hnm, hsz⟩ := (HM.below hA.bel).name K hlt j hjl
                  obtain ⟨x, hlk⟩ := look_ord hA.ord (S K j) hsz
                  have hcs := Ar.cntL_snoc (grOf L S) sp ((grOf L S K).take j) (S K j).data.toList
                  rw [← grOf_take L S K j hjl] at hcs
                  have HCS : Hid (Ar.cntL (grOf L S) sp ((grOf L S K).take (j + 1)) = _) := hcs
                  have hcb := Ar.cntL_le (grOf L S) sp ((grOf L S K).take j)
                  have hcb2 : Ar.cntL (grOf L S) sp ((grOf L S K).take j) ≤ 4096 := by
                    refine Nat.le_trans hcb ?_
                    rw [List.length_take, grOf_length]; omega
                  clear hcs hcb hsz
                  generalize Ar.cntL (grOf L S) sp ((grOf L S K).take j) = un at HCS hcb2
                  generalize Ar.cov (grOf L S) sp (S K j).data.toList = cv at HCS hlk
                  generalize S K j = str at hnm hlk
                  cases cv with
                  | true =>
                    go_wp2
                    go_round
                    case rel => exact ⟨j + 1, by omega, by go_num, by rw [HCS.out]; rfl, hA⟩
                    case measure => simp [intOf]; omega
                  | false =>
                    go_wp2
                    go_round
                    case rel => exact ⟨j + 1, by omega, by go_num, by rw [HCS.out]; go_num, hA⟩
                    case measure => simp [intOf]; omega
                · rw [grOf_take_all L S K j (by omega)]
                  have HB : Hid (Ar.best (grOf L S) sp (K + 1) = if (Ar.best (grOf L S) sp K).2 < Ar.cnt (grOf L S) sp K then ((K : Int), Ar.cnt (grOf L S) sp K) else Ar.best (grOf L S) sp K) := by
                    show _ = _
                    simp [Ar.best, hmem]
                  have hc : Ar.cntL (grOf L S) sp (grOf L S K) = Ar.cnt (grOf L S) sp K := rfl
                  rw [hc]
                  clear hc
                  by_cases hbt : (Ar.best (grOf L S) sp K).2 < Ar.cnt (grOf L S) sp K
                  · have HB' : Hid (Ar.best (grOf L S) sp (K + 1) = ((K : Int), Ar.cnt (grOf L S) sp K)) := by
                      show _ = _
                      rw [HB.out, if_pos hbt]
                    clear HB
                    generalize Ar.cnt (grOf L S) sp K = cn at hbt HB'
                    generalize Ar.best (grOf L S) sp K = bs at hbt
                    go_wp2
                    go_round
                    case rel => exact ⟨K + 1, by omega, by go_num, by rw [HB'.out], by rw [HB'.out], hA⟩
                    case measure => simp [intOf]; omega
                  · have HB' : Hid (Ar.best (grOf L S) sp (K + 1) = Ar.best (grOf L S) sp K) := by
                      show _ = _
                      rw [HB.out, if_neg hbt]
                    clear HB
                    generalize Ar.cnt (grOf L S) sp K = cn at hbt
                    generalize Ar.best (grOf L S) sp K = bs at hbt HB'
                    go_wp2
                    go_round
                    case rel => exact ⟨K + 1, by omega, by go_num, by rw [HB'.out], by rw [HB'.out], hA⟩
                    case measure => simp [intOf]; omega
          · have hKn : K = n := by omega
            subst hKn
            rcases Ar.best_spec (grOf L S) sp K with ⟨hb1, hb2⟩ | ⟨k0, hk0, hb1, hb2, _, _, _⟩
            · -- nobody follows a group that is not ordered: the spine is whole
              rw [hb1]
              have HE : Hid (∀ k, k < K → k ∈ sp ∨ Ar.cnt (grOf L S) sp k = 0) := hb2
              clear hb1 hb2
              go_wp2
              obtain ⟨w2, rfl⟩ : ∃ w2 : World, w2 = wr := ⟨_, rfl⟩
              go_loopw [116] (fun i wr => ∃ q : Nat, q ≤ K ∧ i = .int .i64 q ∧
                  AS w K (fun k => if k < q then Ar.parFin (grOf L S) sp k else Ar.parentOf sp k) (Ar.spineOf sp) m (fun g => (Ar.ordOf (grOf L S) sp g).map Int.ofNat) wr) (fun i _ => K - (intOf i).toNat)
              case atStart => exact ⟨0, by omega, rfl, hA.bel, hA.par.congr (fun t _ => by simp), hA.spi, hA.ord⟩
              case round =>
                clear hA
                obtain ⟨q, hq, rfl, hA⟩ := hrel
                by_cases hlt : q < K
                · have HMr := HM.below hA.bel
                  have c0 := HMr.c0 q hlt
                  have c1 := HMr.c1 q hlt
                  have c2 := HMr.c2 q hlt
                  have c3 := HMr.c3 q hlt
                  have c4 := HMr.c4 q hlt
                  have c5 := HMr.c5 q hlt
                  have c6 := HMr.c6 q hlt
                  have hsp : ∀ o, (wr.alloc o).cell? ⟨w.heap.size + 1, q, none⟩ = some (.int .i64 (Ar.spineOf sp q)) := fun o => (hA.alloc o).spi.cell hlt
                  by_cases hmem : q ∈ sp
                  · have hv : 0 ≤ Ar.spineOf sp q := by rw [Ar.spineOf_mem hmem]; omega
                    have HP : Hid (Ar.parFin (grOf L S) sp q = Ar.parentOf sp q) := by
                      show _ = _
                      rw [Ar.parFin, if_pos hmem]
                    generalize Ar.spineOf sp q = v at hsp hv
                    go_wp2
                    go_round
                    case rel => exact ⟨q + 1, by omega, by go_num, (hA.alloc _).bel, (hA.alloc _).par.congr (fun t _ => by
                      rw [Ar.upto_skip HP.out]), (hA.alloc _).spi, (hA.alloc _).ord⟩
                    case measure => simp [intOf]; omega
                  · have hv : Ar.spineOf sp q = -1 := by simp [Ar.spineOf, hmem]
                    simp only [hv] at hsp
                    clear hv
                    have hlen := HM.len q hlt
                    obtain ⟨l1, l2, l3⟩ := hlen
                    have hcov : ∀ t, t < L q → Ar.cov (grOf L S) sp (S q t).data.toList = true := fun t ht => by
                      rcases HE.out q hlt with h' | h'
                      · exact absurd h' hmem
                      · have h1 : (grOf L S q).filter (fun g => !Ar.cov (grOf L S) sp g) = [] := List.eq_nil_of_length_eq_zero h'
                        have := List.filter_eq_nil_iff.1 h1 (S q t).data.toList (by simp only [grOf, List.mem_map, List.mem_range]; exact ⟨t, ht, rfl⟩)
                        simpa using this
                    have HCV : Hid _ := hcov
                    clear hcov
                    have nm0 : ∀ o, (wr.alloc o).cell? ⟨ab q, ao q, none⟩ = some (.string (S q 0)) := fun o => by
                      have := ((HM.below (hA.alloc o).bel).name q hlt 0 (by omega)).1
                      simpa using this
                    have lk0 : ∀ o, (Instr.lookup 35 (.map (some (w.heap.size + 1 + 1))) (.string (S q 0)) false).run Try.prog (wr.alloc o) = .ok (.int .i64 (Ar.ordN (grOf L S) sp (S q 0).data.toList : Nat)) (wr.alloc o) := fun o => by
                      rw [(hA.alloc o).ord.look (S q 0) (((HM.below hA.bel).name q hlt 0 (by omega)).2)]
                      unfold Ar.ordN
                      cases Ar.ordOf (grOf L S) sp (S q 0).data.toList <;> rfl
                    have p1 : ∀ o, (wr.alloc o).cell? ⟨w.heap.size, q, none⟩ = _ := fun o => (hA.alloc o).par.cell hlt
                    have p2 : ∀ o, (wr.alloc o).frozen? ⟨w.heap.size, q, none⟩ = false := fun o => (hA.alloc o).par.frozen q
                    have hne : ∀ o, (wr.alloc o).heap.size = wr.heap.size + 1 := fun o => by simp
                    have hww : w.heap.size < wr.heap.size := hA.par.lt
                    have HPK : Hid (Ar.parFin (grOf L S) sp q = (Ar.pickL (grOf L S) sp (Ar.ordN (grOf L S) sp (S q 0).data.toList) (grOf L S q).tail : Nat)) := by
                      show _ = _
                      rw [Ar.parFin, if_neg hmem, grOf_head L S q (by omega)]
                      rfl
                    have hx0 := (Ar.ordN_mem (HCV.out 0 (by omega))).1
                    have HX0 : Hid (Ar.ordN (grOf L S) sp (S q 0).data.toList ∈ sp) := hx0
                    clear hx0 hne
                    generalize Ar.ordN (grOf L S) sp (S q 0).data.toList = x0 at lk0 HPK HX0
                    generalize S q 0 = s0 at nm0 lk0
                    have HA7 : Hid (AS w K (Ar.pf7 (grOf L S) sp q (x0 : Int)) (Ar.spineOf sp) m (fun g => (Ar.ordOf (grOf L S) sp g).map Int.ofNat) (wr.setCell ⟨w.heap.size, q, none⟩ (.int .i64 (x0 : Int)))) :=
                      hA.setPar q (x0 : Int) _ (fun t _ => rfl)
                    clear hA HMr
                    go_wp2
                    · -- the slice has room for one group alone
                      have hL1 : L q = 1 := by omega
                      refine wp_loop_rounds 1 ?_
                      rw [rounds_succ]
                      clear c0 c1 c2 c3 c4 c5 c6 hsp nm0 lk0 p1 p2
                      go_wp2
                      go_round
                      case rel =>
                        repeat apply Exists.intro
                        exact ⟨⟨q + 1, by omega, by go_num, (HA7.out.alloc _).congr (fun t _ => Ar.pf7_upto.2 (fun _ => by rw [HPK.out, grOf_tail_nil L S q hL1]; rfl))⟩, rfl⟩
                      case measure => simp [intOf]; omega
                    · clear c0 c1 c2 c3 c4 c5 c6 hsp nm0 lk0 p1 p2
                      obtain ⟨w3, rfl⟩ : ∃ w3 : World, w3 = wr := ⟨_, rfl⟩
                      have HA8 := HA7.out.alloc (.cells #[.slice (some ⟨ab q, ao q, none⟩) (L q) (C q), .slice none 0 0, .int .i64 0, .slice none 0 0, .int .i64 0, .map none, .int .i64 0] 42)
                      go_loopw [139] (fun i wr => ∃ t : Nat, t ≤ L q - 1 ∧ i = .int .i64 t ∧
                          AS w K (Ar.pf7 (grOf L S) sp q (Ar.pickL (grOf L S) sp x0 ((grOf L S q).tail.take t) : Nat)) (Ar.spineOf sp) m (fun g => (Ar.ordOf (grOf L S) sp g).map Int.ofNat) wr) (fun i _ => L q - 1 - (intOf i).toNat)
                      case atStart => exact ⟨0, by omega, rfl, HA8⟩
                      case round =>
                        clear HA8 HA7
                        obtain ⟨t, ht, rfl, hA⟩ := hrel
                        by_cases htl : t < L q - 1
                        · obtain ⟨hnm0, hsz⟩ := (HM.below hA.bel).name q hlt (t + 1) (by omega)
                          have hnm : wr.cell? ⟨ab q, ao q + 1 + t, none⟩ = some (.string (S q (t + 1))) := by rw [show ao q + 1 + t = ao q + (t + 1) from by omega]; exact hnm0
                          have hlk : (Instr.lookup 35 (.map (some (w.heap.size + 1 + 1))) (.string (S q (t + 1))) false).run Try.prog wr = .ok (.int .i64 (Ar.ordN (grOf L S) sp (S q (t + 1)).data.toList : Nat)) wr := by
                            rw [hA.ord.look (S q (t + 1)) hsz]
                            unfold Ar.ordN
                            cases Ar.ordOf (grOf L S) sp (S q (t + 1)).data.toList <;> rfl
                          have hym := (Ar.ordN_mem (HCV.out (t + 1) (by omega))).1
                          have hcur : Ar.pickL (grOf L S) sp x0 ((grOf L S q).tail.take t) ∈ sp := (Ar.pickL_spec _ _ HX0.out (fun g hg => by
                            have hg1 := List.mem_of_mem_tail (List.mem_of_mem_take hg)
                            simp only [grOf, List.mem_map, List.mem_range] at hg1
                            obtain ⟨j, hj, rfl⟩ := hg1
                            exact HCV.out j hj)).1
                          have hst := Ar.pickL_snoc (grOf L S) sp x0 ((grOf L S q).tail.take t) (S q (t + 1)).data.toList
                          rw [← grOf_tail_take L S q t htl] at hst
                          have HST : Hid (Ar.pickL (grOf L S) sp x0 ((grOf L S q).tail.take (t + 1)) = _) := hst
                          clear hst hsz hnm0
                          generalize Ar.ordN (grOf L S) sp (S q (t + 1)).data.toList = y at hlk hym HST
                          generalize S q (t + 1) = str at hnm hlk
                          generalize Ar.pickL (grOf L S) sp x0 ((grOf L S q).tail.take t) = cur at hcur HST hA
                          have hyK := HG.out.lt y hym
                          have hcK := HG.out.lt cur hcur
                          have y1 := hA.spi.cell hyK
                          have p1 : wr.cell? ⟨w.heap.size, q, none⟩ = some (.int .i64 (cur : Int)) := by
                            have := hA.par.cell hlt
                            simpa [Ar.pf7] using this
                          have p2 := hA.par.frozen q
                          have x1 := hA.spi.cell hcK
                          have HA : Hid _ := hA
                          clear hA hym hcur
                          have by1 : ((y : Nat) : Int) < (K : Int) := by omega
                          have by2 : ((cur : Nat) : Int) < (K : Int) := by omega
                          have by3 : ((q : Nat) : Int) < (K : Int) := by omega
                          generalize Ar.spineOf sp y = a at y1 HST
                          generalize Ar.spineOf sp cur = c at x1 HST
                          by_cases hac : c < a
                          · go_wp2
                            go_quiet (fail)
                            go_wp2
                            go_round
                            case rel =>
                              refine ⟨t + 1, by omega, by go_num, ?_⟩
                              rw [HST.out, if_pos hac]
                              exact (HA.out.setPar q (y : Int) _ (fun k _ => Ar.pf7_set)).drewN _
                            case measure => simp [intOf]; omega
                          · go_wp2
                            go_quiet (fail)
                            go_wp2
                            go_round
                            case rel =>
                              refine ⟨t + 1, by omega, by go_num, ?_⟩
                              rw [HST.out, if_neg (by omega)]
                              exact HA.out.drewN _
                            case measure => simp [intOf]; omega
                        · rw [List.take_of_length_le (by rw [List.length_tail, grOf_length]; omega)] at hA
                          go_wp2
                          go_round
                          case rel =>
                            repeat apply Exists.intro
                            exact ⟨⟨q + 1, by omega, by go_num, hA.congr (fun t _ => Ar.pf7_upto.2 (fun _ => by rw [HPK.out]))⟩, rfl⟩
                          case measure => simp [intOf]; omega
                · go_wp2
                  go_ret
                  exact ⟨rfl, sp, HG.out, HE.out, hA.par.congr (fun t ht => by
                    have : t < q := by omega
                    simp [this]), hA.bel⟩
            · rw [hb1]
              have HG2 : Hid (Ar.Good (grOf L S) K (sp ++ [k0])) := HG.out.snoc hb1 hk0
              have HNM : Hid (k0 ∉ sp) := hb2
              clear hb1 hb2
              have p1 := hA.par.cell hk0
              have p2 := hA.par.frozen k0
              have q1 := hA.spi.cell hk0
              have q2 := hA.spi.frozen k0
              have hA2 := (hA.setPar k0 (Ar.lastOf sp) (Ar.parentOf (sp ++ [k0])) (fun t _ => Ar.parentOf_snoc HNM.out t)).setSpi k0 (sp.length : Int) (Ar.spineOf (sp ++ [k0])) (fun t _ => Ar.spineOf_snoc HNM.out t)
              have c0 := (HM.below hA2.bel).c0 k0 hk0
              clear hA
              go_wp2
              obtain ⟨w2, rfl⟩ : ∃ w2 : World, w2 = wr := ⟨_, rfl⟩
              have hlen := HM.len k0 hk0
              have hspn := HG2.out.len
              simp only [List.length_append, List.length_cons, List.length_nil] at hspn
              go_loopw [98] (fun i wr => ∃ (j m' : Nat), j ≤ L k0 ∧ m' ≤ sp.length * 4096 + j ∧ i = .int .i64 j ∧
                  AS w K (Ar.parentOf (sp ++ [k0])) (Ar.spineOf (sp ++ [k0])) m' (fun g => (Ar.ordTo (grOf L S) sp k0 ((grOf L S k0).take j) g).map Int.ofNat) wr) (fun i _ => L k0 - (intOf i).toNat)
              case atStart => exact ⟨0, m, by omega, by omega, rfl, hA2.bel, hA2.par, hA2.spi, hA2.ord.congr (fun g => by simp only [List.take_zero, Ar.ordTo_nil])⟩
              case round =>
                clear hA2 c0 p1 p2 q1 q2
                obtain ⟨j, m', hj, hm', rfl, hA⟩ := hrel
                by_cases hjl : j < L k0
                · obtain ⟨hnm, hsz⟩ := (HM.below hA.bel).name k0 hk0 j hjl
                  have hlk := hA.ord.look_ok (S k0 j) hsz
                  have htk := grOf_take L S k0 j hjl
                  cases hcv : Ar.ordTo (grOf L S) sp k0 ((grOf L S k0).take j) (S k0 j).data.toList with
                  | some x0 =>
                    rw [hcv] at hlk
                    simp only [Option.map_some, Option.getD_some, Option.isSome_some] at hlk
                    have HN : Hid (∀ t, Ar.ordTo (grOf L S) sp k0 ((grOf L S k0).take (j + 1)) t = Ar.ordTo (grOf L S) sp k0 ((grOf L S k0).take j) t) := fun t => by
                      rw [htk]; exact Ar.ordTo_hit (by rw [hcv]; rfl) t
                    clear hcv htk
                    generalize Int.ofNat x0 = x at hlk
                    generalize S k0 j = str at hnm hlk
                    go_wp2
                    go_round
                    case rel => exact ⟨j + 1, m', by omega, by omega, by go_num, hA.bel, hA.par, hA.spi, hA.ord.congr (fun g => by rw [HN.out g])⟩
                    case measure => simp [intOf]; omega
                  | none =>
                    rw [hcv] at hlk
                    simp only [Option.map_none, Option.getD_none, Option.isSome_none] at hlk
                    have HN : Hid (∀ t, Ar.ordTo (grOf L S) sp k0 ((grOf L S k0).take (j + 1)) t = if t = (S k0 j).data.toList then some k0 else Ar.ordTo (grOf L S) sp k0 ((grOf L S k0).take j) t) := fun t => by
                      rw [htk]; exact Ar.ordTo_miss hcv t
                    obtain ⟨w3, hup, hI, hgr⟩ := hA.ord.update (by unfold maxLen; omega) (S k0 j) hsz (k0 : Int) (WalkArith.wf_i64 (by omega))
                    have hA3 := hA.putOrd hI hgr
                    clear hcv htk hI hgr
                    have HA3 : Hid _ := hA3
                    clear hA3
                    generalize S k0 j = str at hnm hlk hup HN HA3
                    go_wp2
                    go_round
                    case rel => exact ⟨j + 1, m' + 1, by omega, by omega, by go_num, HA3.out.bel, HA3.out.par, HA3.out.spi, HA3.out.ord.congr (fun g => by
                      rw [HN.out g]; unfold iput; split <;> rfl)⟩
                    case measure => simp [intOf]; omega
                · rw [grOf_take_all L S k0 j (by omega)] at hA
                  go_wp2
                  go_round
                  case rel => exact ⟨sp ++ [k0], m', HG2.out, by simp; omega, by rw [Ar.lastOf_snoc], by simp, hA.bel, hA.par, hA.spi, hA.ord.congr (fun g => by rw [Ar.ordTo_all])⟩
                  case measure => simp [intOf]; omega
end Go.Proofs.Qxb6601741a
