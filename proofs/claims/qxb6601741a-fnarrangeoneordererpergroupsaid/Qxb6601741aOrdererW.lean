/-
  FnArrangeOneOrdererPerGroup, walked.
-/
import Derived.Test.Qxb6601741aHeightW
import Derived.Test.Qxb6601741aOrdPlain
namespace Go.Proofs.Qxb6601741a
open Go.RowKit

theorem Try.info34 : (Try.prog.info? 34).map (fun i => (i.zero, i.size, i.bytes)) = some (some (.map none), 1, 8) := by kernel_rfl

/-- The state while the sets of followed groups are made: k are made. -/
structure FS (w : World) (B F n k : Nat) (par : Nat → Int) (gr : Nat → List (List UInt8)) (mb : Nat → Nat) (wr : World) : Prop where
  bel : Below w.heap.size w wr
  row : wr.rowIs B 3 n (fun i => .int .i64 (par i))
  fro : wr.rowIs F 34 n (fun i => if i < k then .map (some (mb i)) else .map none)
  maps : ∀ i, i < k → F < mb i ∧ ∃ m, BMap wr (mb i) m (fun s => decide (s ∈ gr i))

theorem FS.alloc {w wr : World} {B F n k : Nat} {par : Nat → Int} {gr : Nat → List (List UInt8)} {mb : Nat → Nat} (h : FS w B F n k par gr mb wr) (o : Obj) : FS w B F n k par gr mb (wr.alloc o) :=
  ⟨h.bel.alloc h.bel.size o, h.row.alloc o, h.fro.alloc o, fun i hi => by obtain ⟨h1, m, h2⟩ := h.maps i hi; exact ⟨h1, m, h2.alloc o⟩⟩

/-- .. a block that is none of these is written. -/
theorem FS.grown {w wr w' : World} {B F n k b : Nat} {par : Nat → Int} {gr : Nat → List (List UInt8)} {mb : Nat → Nat} (h : FS w B F n k par gr mb wr) (hg : wr.grownBy w' (some b)) (hb : w.heap.size ≤ b) (hB : B ≠ b) (hF : F ≠ b) (hm : ∀ i, i < k → mb i ≠ b) :
    FS w B F n k par gr mb w' :=
  ⟨h.bel.grown hg h.bel.size (fun j hj => by cases hj; exact hb), h.row.of_block (hg.block _ h.row.lt (by simpa using hB)), h.fro.of_block (hg.block _ h.fro.lt (by simpa using hF)),
    fun i hi => by
      obtain ⟨h1, m, h2⟩ := h.maps i hi
      exact ⟨h1, m, h2.of_block (hg.block _ h2.lt (by simpa using hm i hi))⟩⟩

/-- .. the set of metagroup k is laid in. -/
theorem FS.lay {w wr : World} {B F n k b m : Nat} {par : Nat → Int} {gr : Nat → List (List UInt8)} {mb : Nat → Nat} (h : FS w B F n k par gr mb wr) (hw : w.heap.size ≤ F) (hBF : B ≠ F) (hF : F < b) (hb : BMap wr b m (fun s => decide (s ∈ gr k))) :
    FS w B F n (k + 1) par gr (fun i => if i = k then b else mb i) (wr.setCell ⟨F, k, none⟩ (.map (some b))) := by
  refine ⟨h.bel.setCell hw _, h.row.setOther (by simpa using hBF) _, (h.fro.set k _).congr (fun i hi => ?_), fun i hi => ?_⟩
  · by_cases e : i = k
    · subst e; simp
    · have : (i < k + 1) = (i < k) := by apply propext; omega
      simp [e, this]
  · by_cases e : i = k
    · subst e
      simp only [if_true]
      exact ⟨hF, m, hb.setCell (by simp; omega) _⟩
    · simp only [if_neg e]
      obtain ⟨h1, m', h2⟩ := h.maps i (by omega)
      exact ⟨h1, m', h2.setCell (by simp; omega) _⟩

/-- What 'orderer' holds: each group of l at its primary. -/
def ordL (gr : Nat → List (List UInt8)) (sp : List Nat) (l : List (List UInt8)) (s : List UInt8) : Option Int := if s ∈ l then some (Ar.ordN gr sp s : Nat) else none

theorem ordL_seen {gr : Nat → List (List UInt8)} {sp : List Nat} {l : List (List UInt8)} {s : List UInt8} (h : s ∈ l) (t : List UInt8) : ordL gr sp (l ++ [s]) t = ordL gr sp l t := by
  unfold ordL
  by_cases e : t = s
  · subst e; simp [h]
  · simp [e]
theorem ordL_new {gr : Nat → List (List UInt8)} {sp : List Nat} {l : List (List UInt8)} {s : List UInt8} (t : List UInt8) : ordL gr sp (l ++ [s]) t = iput (ordL gr sp l) s (Ar.ordN gr sp s : Nat) t := by
  unfold ordL iput
  by_cases e : t = s
  · subst e; simp
  · simp [e]

set_option maxRecDepth 100000 in
set_option maxHeartbeats 8000000 in
theorem orderer_in (gb go n cap : Nat) (A : Nat → Option Addr) (L C : Nat → Nat) (S : Nat → Nat → ByteArray) (w : World) (hn : n ≤ maxLen) (HGr : Hid (Grps w gb go n A L C S)) :
    Calls Try.prog 7 #[.slice (some ⟨gb, go, none⟩) n cap] w fun e w' => e = .returned (.bool true) ∧ Below w.heap.size w w' := by
  have H1 : Hid (Calls Try.prog 22 #[.slice (some ⟨gb, go, none⟩) n cap] w fun e w' => RetB (fun _ => True) e ∧ w' = w) := zz22 gb go n cap A L C S w hn HGr
  have H2 : Hid (Calls Try.prog 17 #[.slice (some ⟨gb, go, none⟩) n cap] w fun e w' => RetB (SizeOK n L) e ∧ w' = w) := size17 gb go n cap A L C S w hn HGr
  clear hn
  go_enter Try.func7, Try.ntmps7
  go_wp2_with fail
  refine H1.out.mono ?_
  rintro e w' ⟨⟨b, rfl, _⟩, rfl⟩
  clear H1
  cases b with
  | false =>
    go_wp2
    go_ret
    exact ⟨rfl, Below.refl _ _⟩
  | true =>
    go_wp2_with fail
    refine H2.out.mono ?_
    rintro e w' ⟨⟨b, rfl, hb⟩, rfl⟩
    clear H2
    cases b with
    | false =>
      go_wp2
      go_ret
      exact ⟨rfl, Below.refl _ _⟩
    | true =>
      obtain ⟨hn, hl⟩ := hb rfl
      have HL1 : Hid (∀ k, k < n → L k ≤ 4096) := hl
      clear hl hb
      have H3 : Hid (Calls Try.prog 18 #[.slice (some ⟨gb, go, none⟩) n cap] w' fun e w'' => RetB (FollOK n L) e ∧ w'' = w') := follows18 gb go n cap A L C S w' hn HGr HL1
      go_wp2_with fail
      refine H3.out.mono ?_
      rintro e w' ⟨⟨b, rfl, hb⟩, rfl⟩
      clear H3
      cases b with
      | false =>
        go_wp2
        go_ret
        exact ⟨rfl, Below.refl _ _⟩
      | true =>
        have HL2 : Hid (∀ k, k < n → 1 ≤ L k ∧ L k ≤ 4096) := fun k hk => ⟨hb rfl k hk, HL1.out k hk⟩
        clear hb
        have H4 : Hid (Calls Try.prog 19 #[.slice (some ⟨gb, go, none⟩) n cap] w' fun e w'' => e = .returned (.slice (some ⟨w'.heap.size + 1, 0, none⟩) n n) ∧ Behind w' w'' (w'.heap.size + 1) n L S) :=
          zzArrange_behind gb go n cap A L C S w' hn HGr HL2
        go_wp2_with fail
        refine H4.out.mono ?_
        rintro e w1 ⟨rfl, sp, dp, par, harr, hrow, hbel⟩
        clear H4
        have HA : Hid (Ar.Arr (grOf L S) n sp dp par) := harr
        clear harr
        have hmm := @run_makeMap Try.prog
        have hmk := run_make_row' (P := Try.prog) 33 34 (.map none) 8 Try.underlying33 Try.info34 rfl .i64 .i64 n (by omega) (by omega)
        have hB1 : w'.heap.size + 1 < w1.heap.size := hrow.lt
        have hS : FS w' (w'.heap.size + 1) w1.heap.size n 0 par (grOf L S) (fun _ => 0) (w1.alloc (.cells (madeCells #[.map none] n) 34)) :=
          ⟨hbel.alloc (by omega) _, hrow.alloc _, (World.rowIs_made w1 (.map none) n 34).congr (fun i _ => by simp), fun i hi => by omega⟩
        clear hbel hrow
        go_wp2
        go_loopw [6] (fun i wr => ∃ (k : Nat) (mb : Nat → Nat), k ≤ n ∧ i = .int .i64 k ∧ FS w' (w'.heap.size + 1) w1.heap.size n k par (grOf L S) mb wr) (fun i _ => n - (intOf i).toNat)
        case atStart => exact ⟨0, _, by omega, rfl, hS⟩
        case round =>
          clear hS hmk
          obtain ⟨k, mb, hk, rfl, hS⟩ := hrel
          by_cases hlt : k < n
          · have hFl : w1.heap.size < wr.heap.size := hS.fro.lt
            have hmbl : ∀ i, i < k → mb i ≠ wr.heap.size := fun i hi => by
              obtain ⟨_, m, h2⟩ := hS.maps i hi
              have := h2.lt; omega
            have HMB : Hid (∀ i, i < k → mb i ≠ wr.heap.size) := hmbl
            clear hmbl
            obtain ⟨bk, hbk⟩ : ∃ bk, bk = wr.heap.size := ⟨_, rfl⟩
            go_wp2
            have hI := (BMap.made wr).congr (g := fun s => decide (s ∈ (grOf L S k).take 0)) (fun t => by simp)
            have hS1 := hS.alloc (.map #[] 0)
            clear hS
            rw [← hbk] at hFl HMB hI ⊢
            clear hmm
            obtain ⟨w2, rfl⟩ : ∃ w2 : World, w2 = wr := ⟨_, rfl⟩
            clear hbk
            go_loopw [8] (fun i wr => ∃ (j m : Nat), j ≤ L k ∧ m ≤ j ∧ i = .int .i64 j ∧ FS w' (w'.heap.size + 1) w1.heap.size n k par (grOf L S) mb wr ∧ BMap wr bk m (fun s => decide (s ∈ (grOf L S k).take j))) (fun i _ => L k - (intOf i).toNat)
            case atStart => exact ⟨0, 0, by omega, by omega, rfl, hS1, hI⟩
            case round =>
              clear hS1 hI
              obtain ⟨j, m, hj, hm, rfl, hS, hI⟩ := hrel
              have hLk := HL1.out k hlt
              by_cases hjl : j < L k
              · obtain ⟨b, o, hcell, hnm, hsz⟩ := (HGr.out.below hS.bel).at hlt hjl
                obtain ⟨w3, hup, hI3, hgr⟩ := hI.update (by unfold maxLen; omega) (S k j) hsz
                have HS3 : Hid (FS w' (w'.heap.size + 1) w1.heap.size n k par (grOf L S) mb w3) := hS.grown hgr (by omega) (by omega) (by omega) HMB.out
                have HI3 : Hid (BMap w3 bk (m + 1) (fun s => decide (s ∈ (grOf L S k).take (j + 1)))) := hI3.congr (fun t => by
                  rw [grOf_take L S k j hjl]; unfold bput
                  by_cases e : t = (S k j).data.toList <;> simp [e])
                clear hS hI hI3 hgr
                generalize S k j = str at hnm hup
                go_wp2
                go_round
                case rel => exact ⟨j + 1, m + 1, by omega, by omega, by go_num, HS3, HI3⟩
                case measure => simp [intOf]; omega
              · have hcell := (HGr.out.below hS.bel).cell k hlt
                rw [grOf_take_all L S k j (by omega)] at hI
                have f1 := hS.fro.cell hlt
                have f2 := hS.fro.frozen k
                have HS3 : Hid _ := hS.lay (by omega) (by omega) (by omega) hI
                clear hS hI
                go_wp2
                go_round
                case rel => exact ⟨k + 1, _, by omega, by go_num, HS3⟩
                case measure => simp [intOf]; omega
          · obtain rfl : k = n := by omega
            have hFl : w1.heap.size < wr.heap.size := hS.fro.lt
            have hmbl : ∀ i, i < k → mb i ≠ wr.heap.size := fun i hi => by
              obtain ⟨_, m, h2⟩ := hS.maps i hi
              have := h2.lt; omega
            have HMB : Hid (∀ i, i < k → mb i ≠ wr.heap.size) := hmbl
            clear hmbl
            obtain ⟨bo, hbo⟩ : ∃ bo, bo = wr.heap.size := ⟨_, rfl⟩
            go_wp2
            have hI := (IMap.made wr).congr (g := ordL (grOf L S) sp (Ar.flat (grOf L S) 0)) (fun t => by simp [ordL, Ar.flat])
            have hS1 := hS.alloc (.map #[] 0)
            clear hS
            rw [← hbo] at hFl HMB hI ⊢
            clear hmm
            obtain ⟨w2, rfl⟩ : ∃ w2 : World, w2 = wr := ⟨_, rfl⟩
            clear hbo
            go_loopw [10] (fun i wr => ∃ (q m : Nat), q ≤ k ∧ m ≤ q * 4096 ∧ i = .int .i64 q ∧ FS w' (w'.heap.size + 1) w1.heap.size k k par (grOf L S) mb wr ∧ IMap wr bo m (ordL (grOf L S) sp (Ar.flat (grOf L S) q))) (fun i _ => k - (intOf i).toNat)
            case atStart => exact ⟨0, 0, by omega, by omega, rfl, hS1, hI⟩
            case round =>
              clear hS1 hI
              obtain ⟨q, m, hq, hm, rfl, hS, hI⟩ := hrel
              by_cases hlt : q < k
              · go_wp2
                obtain ⟨w4, rfl⟩ : ∃ w4 : World, w4 = wr := ⟨_, rfl⟩
                go_loopw [11] (fun i wr => ∃ (j m : Nat), j ≤ L q ∧ m ≤ q * 4096 + j ∧ i = .int .i64 j ∧ FS w' (w'.heap.size + 1) w1.heap.size k k par (grOf L S) mb wr ∧ IMap wr bo m (ordL (grOf L S) sp (Ar.flat (grOf L S) q ++ (grOf L S q).take j))) (fun i _ => L q - (intOf i).toNat)
                case atStart => exact ⟨0, m, by omega, by omega, rfl, hS, by simpa using hI⟩
                case round =>
                  clear hS hI hm
                  obtain ⟨j, m, hj, hm, rfl, hS, hI⟩ := hrel
                  have hLk := HL1.out q hlt
                  by_cases hjl : j < L q
                  · obtain ⟨b, o, hcell, hnm, hsz⟩ := (HGr.out.below hS.bel).at hlt hjl
                    have hgm : (S q j).data.toList ∈ grOf L S q := by simp only [grOf, List.mem_map, List.mem_range]; exact ⟨j, hjl, rfl⟩
                    have HT : Hid (Ar.topAt (grOf L S) sp (dp q) q (S q j).data.toList = Ar.ordN (grOf L S) sp (S q j).data.toList) := HA.out.top_start hlt hgm
                    have HDQ : Hid (dp q < k) := HA.out.dp_lt hlt
                    have HTK : Hid (Ar.flat (grOf L S) q ++ (grOf L S q).take (j + 1) = (Ar.flat (grOf L S) q ++ (grOf L S q).take j) ++ [(S q j).data.toList]) := by
                      show _ = _
                      rw [grOf_take L S q j hjl, List.append_assoc]
                    have HSZ : Hid ((S q j).size ≤ maxLen) := hsz
                    clear hgm hsz
                    generalize S q j = str at hnm HT HTK HSZ
                    have HRW : Hid (∀ a, a < k → wr.cell? ⟨w'.heap.size + 1, a, none⟩ = some (.int .i64 (par a))) := fun a ha => hS.row.cell ha
                    have HFR : Hid (∀ a, a < k → wr.cell? ⟨w1.heap.size, a, none⟩ = some (.map (some (mb a)))) := fun a ha => by
                      have := hS.fro.cell ha
                      simpa [ha] using this
                    have HLK : Hid (∀ a, a < k → (Instr.lookup 34 (.map (some (mb a))) (.string str) false).run Try.prog wr = .ok (.bool (decide (str.data.toList ∈ grOf L S a))) wr) := fun a ha => by
                      obtain ⟨_, m', h2⟩ := hS.maps a ha
                      exact h2.look str HSZ.out
                    go_wp2
                    clear hcell hnm
                    have HSS : Hid (FS w' (w'.heap.size + 1) w1.heap.size k k par (grOf L S) mb wr) := hS
                    have HII : Hid (IMap wr bo m (ordL (grOf L S) sp (Ar.flat (grOf L S) q ++ (grOf L S q).take j))) := hI
                    clear hS hI
                    go_loop [13, 14, 15] (fun x y z => ∃ (a t d : Nat), a < k ∧ t < k ∧ x = .int .i64 t ∧ y = .int .i64 a ∧ z = .int .i64 d ∧ d + dp a ≤ dp q ∧ Hid (Ar.topAt (grOf L S) sp (dp a) t str.data.toList = Ar.ordN (grOf L S) sp str.data.toList)) (fun _ y _ => dp (intOf y).toNat)
                    case atStart => exact ⟨q, q, 0, hlt, hlt, rfl, rfl, rfl, by omega, HT⟩
                    case round =>
                      clear HT
                      obtain ⟨a, t, d, ha, htk, rfl, rfl, rfl, hd, HT⟩ := hrel
                      have hc := HRW.out a ha
                      rcases HA.out.up ha with ⟨h0, h1⟩ | ⟨b, hb, h1, h2, hbl, hbs⟩
                      · rw [h1] at hc
                        have HTO : Hid (t = Ar.ordN (grOf L S) sp str.data.toList) := by
                          have := HT.out
                          rw [h0, Ar.topAt_zero] at this
                          exact this
                        have hlk := HII.out.look_ok str HSZ.out
                        clear h1 h0 HT
                        by_cases hmem : str.data.toList ∈ Ar.flat (grOf L S) q ++ (grOf L S q).take j
                        · have e1 : ordL (grOf L S) sp (Ar.flat (grOf L S) q ++ (grOf L S q).take j) str.data.toList = some (t : Int) := by simp only [ordL, hmem, if_true, HTO.out]
                          rw [e1] at hlk
                          simp only [Option.getD_some, Option.isSome_some] at hlk
                          have HI' : Hid (IMap wr bo m (ordL (grOf L S) sp (Ar.flat (grOf L S) q ++ (grOf L S q).take (j + 1)))) := HII.out.congr (fun x => by rw [HTK.out, ordL_seen hmem])
                          have hne : ((t : Int) != (t : Int)) = false := by simp
                          clear hmem e1
                          go_wp2
                          go_round
                          case rel => exact ⟨j + 1, m, by omega, by omega, by go_num, HSS.out, HI'⟩
                          case measure => simp [intOf]; omega
                        · have e1 : ordL (grOf L S) sp (Ar.flat (grOf L S) q ++ (grOf L S q).take j) str.data.toList = none := by simp only [ordL, hmem, if_false]
                          rw [e1] at hlk
                          simp only [Option.getD_none, Option.isSome_none] at hlk
                          obtain ⟨w5, hup, hI5, hgr⟩ := HII.out.update (by unfold maxLen; omega) str HSZ.out (t : Int) (WalkArith.wf_i64 (by omega))
                          have HS5 : Hid (FS w' (w'.heap.size + 1) w1.heap.size k k par (grOf L S) mb w5) := HSS.out.grown hgr (by omega) (by omega) (by omega) HMB.out
                          have HI5 : Hid (IMap w5 bo (m + 1) (ordL (grOf L S) sp (Ar.flat (grOf L S) q ++ (grOf L S q).take (j + 1)))) := hI5.congr (fun x => by rw [HTK.out, ordL_new, ← HTO.out])
                          clear hmem e1 hI5 hgr
                          go_wp2
                          go_round
                          case rel => exact ⟨j + 1, m + 1, by omega, by omega, by go_num, HS5, HI5⟩
                          case measure => simp [intOf]; omega
                      · rw [h1] at hc
                        have hne : ((b : Int) != -1) = true := by rw [bne_iff_ne]; omega
                        have hf := HFR.out b hb
                        have hlk := HLK.out b hb
                        have H2 : Hid (dp a = dp b + 1) := h2
                        have hdq := HDQ.out
                        have hq2 : d + 1 < k := by omega
                        have hq3 : d + 1 + dp b ≤ dp q := by omega
                        clear h1 hd hdq
                        by_cases hmem : str.data.toList ∈ grOf L S b
                        · have HT' : Hid (Ar.topAt (grOf L S) sp (dp b) b str.data.toList = Ar.ordN (grOf L S) sp str.data.toList) := by
                            have := HT.out
                            rw [h2, Ar.topAt_step hbl hbs, if_pos hmem] at this
                            exact this
                          clear h2 HT hbl hbs
                          simp only [hmem, decide_true] at hlk
                          clear hmem
                          go_wp2
                          go_round
                          case rel => exact ⟨b, b, d + 1, hb, hb, rfl, rfl, by go_num, hq3, HT'⟩
                          case measure => simp [intOf, H2.out]
                        · have HT' : Hid (Ar.topAt (grOf L S) sp (dp b) t str.data.toList = Ar.ordN (grOf L S) sp str.data.toList) := by
                            have := HT.out
                            rw [h2, Ar.topAt_step hbl hbs, if_neg hmem] at this
                            exact this
                          clear h2 HT hbl hbs
                          simp only [hmem, decide_false] at hlk
                          clear hmem
                          go_wp2
                          go_round
                          case rel => exact ⟨b, t, d + 1, hb, htk, rfl, rfl, by go_num, hq3, HT'⟩
                          case measure => simp [intOf, H2.out]
                  · have hcell := (HGr.out.below hS.bel).cell q hlt
                    rw [grOf_take_all L S q j (by omega)] at hI
                    go_wp2
                    go_round
                    case rel => exact ⟨q + 1, m, by omega, by omega, by go_num, hS, hI⟩
                    case measure => simp [intOf]; omega
              · go_wp2
                go_ret
                exact ⟨rfl, hS.bel⟩

set_option maxRecDepth 100000 in
set_option maxHeartbeats 2000000 in
theorem orderer_empty (a : Option Addr) (cap : Nat) (w : World) :
    Calls Try.prog 7 #[.slice a 0 cap] w fun e w' => e = .returned (.bool true) ∧ Below w.heap.size w w' := by
  have H1 : Hid (∀ w, Calls Try.prog 22 #[.slice a 0 cap] w fun e w' => RetB (fun _ => True) e ∧ w' = w) := zz22_empty a cap
  have H2 : Hid (∀ w, Calls Try.prog 17 #[.slice a 0 cap] w fun e w' => e = .returned (.bool true) ∧ w' = w) := size17_empty a cap
  have H3 : Hid (∀ w, Calls Try.prog 18 #[.slice a 0 cap] w fun e w' => e = .returned (.bool true) ∧ w' = w) := follows18_empty a cap
  have H4 : Hid (∀ w : World, Calls Try.prog 19 #[.slice a 0 cap] w fun e w' => e = .returned (.slice (some ⟨w.heap.size + 1, 0, none⟩) 0 0) ∧ Below w.heap.size w w') := zzArrange_empty a cap
  have hmm := @run_makeMap Try.prog
  have hmk : ∀ w, (Instr.makeSlice 33 (.int .i64 0) (.int .i64 0)).run Try.prog w = .ok (.slice (some ⟨w.heap.size, 0, none⟩) 0 0) (w.alloc (.cells (madeCells #[.map none] 0) 34)) :=
    run_make_row' (P := Try.prog) 33 34 (.map none) 8 Try.underlying33 Try.info34 rfl .i64 .i64 0 (by omega) (by omega)
  go_enter Try.func7, Try.ntmps7
  go_wp2_with fail
  refine (H1.out _).mono ?_
  rintro e w' ⟨⟨b, rfl, _⟩, rfl⟩
  cases b with
  | false =>
    go_wp2
    go_ret
    exact ⟨rfl, Below.refl _ _⟩
  | true =>
    go_wp2_with fail
    refine (H2.out _).mono ?_
    rintro e w' ⟨rfl, rfl⟩
    go_wp2_with fail
    refine (H3.out _).mono ?_
    rintro e w' ⟨rfl, rfl⟩
    go_wp2_with fail
    refine (H4.out _).mono ?_
    rintro e w1 ⟨rfl, hbel⟩
    go_wp2
    refine wp_loop_rounds 1 ?_
    rw [rounds_succ]
    go_wp2
    refine wp_loop_rounds 1 ?_
    rw [rounds_succ]
    go_wp2
    go_ret
    have h1 := hbel.size
    exact ⟨rfl, (hbel.alloc hbel.size _).alloc (by simp; omega) _⟩
end Go.Proofs.Qxb6601741a
