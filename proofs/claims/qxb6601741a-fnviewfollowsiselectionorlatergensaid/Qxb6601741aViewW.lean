/-
  FnViewFollowsIsElectionOrLaterGen, walked.
-/
import Derived.Test.Qxb6601741aFollW
import Derived.WalkSpells
import Derived.Deep.DeepCutAuto
namespace Go.Proofs.Qxb6601741a
open Go.RowKit

/-- A ring as it came in: nil, or a slice whose elements are zs. -/
def Ring (w : World) (a : Option Addr) (n : Nat) (zs : List Int) : Prop :=
  zs.length = n ∧ ((a = none ∧ n = 0) ∨ ∃ x, a = some x ∧ ∀ i, i < n → w.cell? (x.add i) = some (.int .i64 (zs.getD i 0)))

theorem Ring.below {w w' : World} {a : Option Addr} {n : Nat} {zs : List Int} (h : Ring w a n zs) (hb : Below w.heap.size w w') : Ring w' a n zs :=
  ⟨h.1, h.2.elim (fun h => .inl h) (fun ⟨x, h1, h2⟩ => .inr ⟨x, h1, fun i hi => (hb.cell (lt_of_cell_any (h2 i hi))).trans (h2 i hi)⟩)⟩

/-- The two ways to say it agree. -/
theorem fol_sub {zv zk vs ks : List Int} {b : Bool} {g : Int} (h1 : vs.Perm zv) (h2 : ks.Perm zk) (hs : SubOK vs ks b) : folB zv zk g g = b := by
  have h3 : folB zv zk g g = true ↔ b = true := by
    rw [show (b = true ↔ _) from hs]
    simp only [folB, if_true, Bool.and_eq_true, decide_eq_true_eq, List.all_eq_true]
    rw [h1.length_eq, h2.length_eq]
    constructor
    · rintro ⟨q1, q2⟩
      exact ⟨fun x hx => h2.mem_iff.2 (q2 x (h1.mem_iff.1 hx)), q1⟩
    · rintro ⟨q1, q2⟩
      exact ⟨q2, fun x hx => h2.mem_iff.1 (q1 x (h1.mem_iff.2 hx))⟩
  exact Bool.eq_iff_iff.2 h3

set_option maxRecDepth 100000 in
set_option maxHeartbeats 4000000 in
theorem view_in (a0 a3 : Option Addr) (n0 c0 n3 c3 : Nat) (m0 m3 gv gk : Int) (zv zk : List Int) (w : World) (h0 : n0 ≤ maxLen) (h3 : n3 ≤ maxLen) (HV : Hid (Ring w a0 n0 zv)) (HK : Hid (Ring w a3 n3 zk)) :
    Calls Try.prog 3 #[.slice a0 n0 c0, .int .i64 m0, .int .u64 gv, .slice a3 n3 c3, .int .i64 m3, .int .u64 gk] w fun e w' => e = .returned (.bool true) ∧ Below w.heap.size w w' := by
  have h9 := zz9 a0 a3 n0 c0 n3 c3 m0 m3 gv gk w h0 h3
  have H9 := hidden h9
  clear h9
  unfold maxLen at h0 h3
  by_cases k0 : n0 ≤ 4096
  · by_cases k3 : n3 ≤ 4096
    · clear h0 h3
      have HL0 : Hid (zv.length = n0) := HV.out.1
      have hneq := fun w a n c => run_neq_slice_nil_any (P := Try.prog) w 22 3 a n c 0 0 Try.underlying22
      go_enter Try.func3, Try.ntmps3
      go_wp2_with fail
      refine H9.out.mono ?_
      rintro e w' ⟨⟨b, rfl, _⟩, rfl⟩
      clear H9
      cases b with
      | false =>
        go_wp2
        go_ret
        exact ⟨rfl, Below.refl _ _⟩
      | true =>
        go_upto_if 34 with fail
        go_cut [0, 13] (fun s _ wc => ∃ a c, s = .slice a n0 c ∧ Hid (RI wc a zv ∧ Below w'.heap.size w' wc))
        case first =>
          rcases HV.out with ⟨hl, ⟨rfl, rfl⟩ | ⟨x, rfl, hc⟩⟩
          · have HR : Hid (RI w' none zv ∧ Below w'.heap.size w' w') := ⟨.inl (List.eq_nil_of_length_eq_zero hl), Below.refl _ _⟩
            clear hl
            go_wp2
            go_meet
            case rel => exact ⟨_, _, rfl, HR⟩
          · obtain ⟨W2, hcp, hri, hbl⟩ := copied w' n0 c0 x zv hl hc
            have HR : Hid (RI W2 (some ⟨w'.heap.size, 0, none⟩) zv ∧ Below w'.heap.size w' W2) := ⟨hri, hbl⟩
            have hmk := run_make_row' (P := Try.prog) 22 3 (.int .i64 0) 8 Try.underlying22 Try.info3v rfl .i64 .i64 n0 (by omega) (by omega)
            clear hl hc hri hbl
            go_wp2
            go_meet
            case rel => exact ⟨_, _, rfl, HR⟩
        case rest =>
          obtain ⟨a1, c1, rfl, H1⟩ := hcut
          obtain ⟨w1, rfl⟩ : ∃ w1 : World, w1 = wc := ⟨_, rfl⟩
          have HK1 : Hid (Ring w1 a3 n3 zk) := HK.out.below H1.out.2
          clear HK HV
          go_upto_if 43 with fail
          go_cut [3, 14] (fun s _ wc => ∃ a c, s = .slice a n3 c ∧ Hid (RI wc a zk ∧ Below w1.heap.size w1 wc))
          case first =>
            rcases HK1.out with ⟨hl, ⟨rfl, rfl⟩ | ⟨x, rfl, hc⟩⟩
            · have HR : Hid (RI w1 none zk ∧ Below w1.heap.size w1 w1) := ⟨.inl (List.eq_nil_of_length_eq_zero hl), Below.refl _ _⟩
              clear hl
              go_wp2
              go_meet
              case rel => exact ⟨_, _, rfl, HR⟩
            · obtain ⟨W2, hcp, hri, hbl⟩ := copied w1 n3 c3 x zk hl hc
              have HR : Hid (RI W2 (some ⟨w1.heap.size, 0, none⟩) zk ∧ Below w1.heap.size w1 W2) := ⟨hri, hbl⟩
              have hmk := run_make_row' (P := Try.prog) 22 3 (.int .i64 0) 8 Try.underlying22 Try.info3v rfl .i64 .i64 n3 (by omega) (by omega)
              clear hl hc hri hbl
              go_wp2
              go_meet
              case rel => exact ⟨_, _, rfl, HR⟩
          case rest =>
            obtain ⟨a2, c2, rfl, H2⟩ := hcut
            obtain ⟨w2, rfl⟩ : ∃ w2 : World, w2 = wc := ⟨_, rfl⟩
            have HL3 : Hid (zk.length = n3) := HK1.out.1
            have HRV : Hid (RI w2 a1 zv) := H1.out.1.below H2.out.2
            have HRK : Hid (RI w2 a2 zk) := H2.out.1
            have HB2 : Hid (Below w'.heap.size w' w2) := H1.out.2.trans (H2.out.2.mono H1.out.2.size)
            clear HK1 H1 H2 hneq
            have hs1 := sorted10_any a1 n0 c1 zv w2 k0 HL0 HRV
            have HS1 := hidden hs1
            clear hs1
            go_wp2_with fail
            refine HS1.out.mono ?_
            rintro e w3 ⟨rfl, hso⟩
            obtain ⟨vs, v1, v2, v3, v4, v5⟩ := hso
            have HV1 : Hid (vs.length = n0 ∧ vs.Perm zv) := ⟨v1, v2⟩
            have HRV3 : Hid (RI w3 a1 zv) := HRV.out.below v5
            have HRK3 : Hid (RI w3 a2 zk) := HRK.out.below v5
            have HVR : Hid (w3.rowIs w2.heap.size 3 n0 (fun i => .int .i64 (vs.getD i 0))) := v4
            have HB3 : Hid (Below w'.heap.size w' w3) := HB2.out.trans (v5.mono HB2.out.size)
            clear HS1 HRV HRK HB2 v1 v2 v3 v4 v5
            have hs2 := sorted10_any a2 n3 c2 zk w3 k3 HL3 HRK3
            have HS2 := hidden hs2
            clear hs2
            go_wp2_with fail
            refine HS2.out.mono ?_
            rintro e w4 ⟨rfl, hso⟩
            obtain ⟨ks, v1, v2, v3, v4, v5⟩ := hso
            have HK4 : Hid (ks.length = n3 ∧ ks.Perm zk) := ⟨v1, v2⟩
            have HRV4 : Hid (RI w4 a1 zv) := HRV3.out.below v5
            have HRK4 : Hid (RI w4 a2 zk) := HRK3.out.below v5
            have HVR4 : Hid (w4.rowIs w2.heap.size 3 n0 (fun i => .int .i64 (vs.getD i 0))) := HVR.out.of_block (v5.block _ HVR.out.lt)
            have HKR4 : Hid (w4.rowIs w3.heap.size 3 n3 (fun i => .int .i64 (ks.getD i 0))) := v4
            have HB4 : Hid (Below w'.heap.size w' w4) := HB3.out.trans (v5.mono HB3.out.size)
            clear HS2 HRV3 HRK3 HVR HB3 v1 v2 v3 v4 v5
            have hu1 := up11 w2.heap.size n0 n0 vs w4 k0 HV1.out.1 (fun i hi => HVR4.out.cell hi)
            have HU1 := hidden hu1
            clear hu1
            go_wp2_with fail
            refine HU1.out.mono ?_
            rintro e w5 ⟨⟨b, rfl, hup⟩, hb5⟩
            clear HU1
            have HB5 : Hid (Below w'.heap.size w' w5) := HB4.out.trans (hb5.mono HB4.out.size)
            have HRV5 : Hid (RI w5 a1 zv) := HRV4.out.below hb5
            have HRK5 : Hid (RI w5 a2 zk) := HRK4.out.below hb5
            have HVR5 : Hid (w5.rowIs w2.heap.size 3 n0 (fun i => .int .i64 (vs.getD i 0))) := HVR4.out.of_block (hb5.block _ HVR4.out.lt)
            have HKR5 : Hid (w5.rowIs w3.heap.size 3 n3 (fun i => .int .i64 (ks.getD i 0))) := HKR4.out.of_block (hb5.block _ HKR4.out.lt)
            clear HRV4 HRK4 HVR4 HKR4 HB4 hb5
            cases b with
            | false =>
              go_wp2
              go_ret
              exact ⟨rfl, HB5.out⟩
            | true =>
              have HUV : Hid (Vw.Up vs) := hup rfl
              clear hup
              have hu2 := up11 w3.heap.size n3 n3 ks w5 k3 HK4.out.1 (fun i hi => HKR5.out.cell hi)
              have HU2 := hidden hu2
              clear hu2
              go_wp2_with fail
              refine HU2.out.mono ?_
              rintro e w6 ⟨⟨b, rfl, hup⟩, hb6⟩
              clear HU2
              have HB6 : Hid (Below w'.heap.size w' w6) := HB5.out.trans (hb6.mono HB5.out.size)
              have HRV6 : Hid (RI w6 a1 zv) := HRV5.out.below hb6
              have HRK6 : Hid (RI w6 a2 zk) := HRK5.out.below hb6
              have HVR6 : Hid (w6.rowIs w2.heap.size 3 n0 (fun i => .int .i64 (vs.getD i 0))) := HVR5.out.of_block (hb6.block _ HVR5.out.lt)
              have HKR6 : Hid (w6.rowIs w3.heap.size 3 n3 (fun i => .int .i64 (ks.getD i 0))) := HKR5.out.of_block (hb6.block _ HKR5.out.lt)
              clear HRV5 HRK5 HVR5 HKR5 HB5 hb6
              cases b with
              | false =>
                go_wp2
                go_ret
                exact ⟨rfl, HB6.out⟩
              | true =>
                have HUK : Hid (Vw.Up ks) := hup rfl
                clear hup
                have hf := zzView12 a1 a2 n0 c1 n3 c2 m0 m3 gv gk zv zk w6 k0 k3 HL0 HL3 HRV6 HRK6
                have HF := hidden hf
                clear hf
                go_wp2_with fail
                refine HF.out.mono ?_
                rintro e w7 ⟨rfl, hb7⟩
                clear HF
                have HB7 : Hid (Below w'.heap.size w' w7) := HB6.out.trans (hb7.mono HB6.out.size)
                have HVR7 : Hid (w7.rowIs w2.heap.size 3 n0 (fun i => .int .i64 (vs.getD i 0))) := HVR6.out.of_block (hb7.block _ HVR6.out.lt)
                have HKR7 : Hid (w7.rowIs w3.heap.size 3 n3 (fun i => .int .i64 (ks.getD i 0))) := HKR6.out.of_block (hb7.block _ HKR6.out.lt)
                clear HRV6 HRK6 HVR6 HKR6 HB6 hb7
                by_cases hg : gv = gk
                · subst hg
                  have hs := sub13 w2.heap.size w3.heap.size n0 n3 n0 n3 vs ks w7 k0 k3 HV1.out.1 HK4.out.1 (fun i hi => HVR7.out.cell hi) (fun i hi => HKR7.out.cell hi) HUV HUK
                  have HSB := hidden hs
                  clear hs
                  have e1 : (gv == gv) = true := by simp
                  generalize hfb : folB zv zk gv gv = fb
                  have HFB : Hid (folB zv zk gv gv = fb) := hfb
                  clear hfb
                  go_wp2_with fail
                  refine HSB.out.mono ?_
                  rintro e w8 ⟨⟨b, rfl, hsb⟩, hb8⟩
                  have HEQ : Hid (fb = b) := HFB.out.symm.trans (fol_sub HV1.out.2 HK4.out.2 hsb)
                  have HB8 : Hid (Below w'.heap.size w' w8) := HB7.out.trans (hb8.mono HB7.out.size)
                  clear HSB hsb hb8
                  go_wp2
                  go_ret
                  exact ⟨by rw [HEQ.out]; simp, HB8.out⟩
                · have HFB : Hid (folB zv zk gv gk = decide (gk < gv)) := by show _ = _; simp [folB, hg]
                  rw [HFB.out]
                  have e1 : (gv == gk) = false := by simpa using hg
                  by_cases hgt : gk < gv
                  · have hd : decide (gk < gv) = true := decide_eq_true hgt
                    rw [hd]
                    clear hd
                    go_wp2
                    go_ret
                    exact ⟨rfl, HB7.out⟩
                  · have hd : decide (gk < gv) = false := decide_eq_false hgt
                    rw [hd]
                    clear hd
                    go_wp2
                    go_ret
                    exact ⟨rfl, HB7.out⟩
    · go_enter Try.func3, Try.ntmps3
      go_wp2_with fail
      refine H9.out.mono ?_
      rintro e w' ⟨⟨b, rfl, _⟩, rfl⟩
      cases b with
      | false =>
        go_wp2
        go_ret
        exact ⟨rfl, Below.refl _ _⟩
      | true =>
        go_wp2
        go_ret
        exact ⟨rfl, Below.refl _ _⟩
  · go_enter Try.func3, Try.ntmps3
    go_wp2_with fail
    refine H9.out.mono ?_
    rintro e w' ⟨⟨b, rfl, _⟩, rfl⟩
    cases b with
    | false =>
      go_wp2
      go_ret
      exact ⟨rfl, Below.refl _ _⟩
    | true =>
      go_wp2
      go_ret
      exact ⟨rfl, Below.refl _ _⟩
end Go.Proofs.Qxb6601741a
