/-
  FnArrangeIsRootedTree, walked.
-/
import Derived.Test.Qxb6601741aStrictW
import Derived.Test.Qxb6601741aRootPlain
namespace Go.Proofs.Qxb6601741a
open Go.RowKit

theorem noninc (L : Nat → Nat) (n : Nat) (h : ∀ s, 1 ≤ s → s < n → L s ≤ L (s - 1)) : ∀ s, s < n → L s ≤ L 0 := by
  intro s
  induction s with
  | zero => intro _; exact Nat.le_refl _
  | succ s ih =>
    intro hs
    have h1 := h (s + 1) (by omega) hs
    have h2 := ih (by omega)
    simp only [Nat.add_sub_cancel] at h1
    omega

theorem root_zero {n : Nat} {L : Nat → Nat} {S : Nat → Nat → ByteArray} {sp : List Nat} {dp : Nat → Nat} {par : Nat → Int} {k0 : Nat} (h : Ar.Arr (grOf L S) n sp dp par) (hk0 : k0 < n) (hk : sp.head? = some k0) (hd : dp k0 = 0)
    (hl : ∀ k, k < n → L k ≤ L 0) : k0 = 0 ∧ par 0 = -1 := by
  have e : k0 = 0 := h.first_zero hk hk0 (fun k hk => by rw [grOf_length, grOf_length]; exact hl k hk)
  subst e
  exact ⟨rfl, (h.par0 0 hk0 hd).1⟩

/-- Where the groups rise and the first metagroup follows all, all others hang under it. -/
theorem all_under_zero {n : Nat} {L : Nat → Nat} {S : Nat → Nat → ByteArray} {sp : List Nat} {dp : Nat → Nat} {par : Nat → Int} {k0 : Nat} (h : Ar.Arr (grOf L S) n sp dp par) (hk0 : k0 < n) (hk : sp.head? = some k0) (hd : dp k0 = 0)
    (hs : ∀ k, k < n → ∀ j, j + 1 < L k → Op.bytesLess (S k j).toList (S k (j + 1)).toList = true) (hc : ∀ k, k < n → ∀ g ∈ grOf L S k, g ∈ grOf L S 0) : par 0 = -1 ∧ ∀ t, t < n → t ≠ 0 → par t = 0 := by
  have hl : ∀ k, k < n → L k ≤ L 0 := fun k hk => by
    have hnd : (grOf L S k).Nodup := Ar.nodup_of_less (fun j => (S k j).data.toList) (L k) (fun j hj => by
      have := hs k hk j hj
      rw [ByteArray.toList_eq, ByteArray.toList_eq] at this
      exact this)
    have := Ar.nodup_sub _ _ hnd (hc k hk)
    rwa [grOf_length, grOf_length] at this
  obtain ⟨e, h0⟩ := root_zero h hk0 hk hd hl
  subst e
  exact ⟨h0, h.all_under hk hc⟩

set_option maxRecDepth 100000 in
set_option maxHeartbeats 8000000 in
theorem rooted_in (gb go n cap : Nat) (A : Nat → Option Addr) (L C : Nat → Nat) (S : Nat → Nat → ByteArray) (w : World) (hn0 : 1 ≤ n) (hn : n ≤ maxLen) (HGr : Hid (Grps w gb go n A L C S)) :
    Calls Try.prog 6 #[.slice (some ⟨gb, go, none⟩) n cap] w fun e w' => e = .returned (.bool true) ∧ Below w.heap.size w w' := by
  have H1 : Hid (Calls Try.prog 16 #[.slice (some ⟨gb, go, none⟩) n cap] w fun e w' => RetB (fun _ => True) e ∧ w' = w) := zz16 gb go n cap A L C S w hn HGr
  have H2 : Hid (Calls Try.prog 17 #[.slice (some ⟨gb, go, none⟩) n cap] w fun e w' => RetB (SizeOK n L) e ∧ w' = w) := size17 gb go n cap A L C S w hn HGr
  clear hn
  go_enter Try.func6, Try.ntmps6
  go_wp2_with fail
  refine H1.out.mono ?_
  rintro e w' ⟨⟨b, rfl, _⟩, rfl⟩
  clear H1
  cases b with
  | false =>
    go_wp2
    go_ret
    exact ⟨rfl, Below.refl _ _⟩
  | true =>
    go_wp2_with fail
    refine H2.out.mono ?_
    rintro e w' ⟨⟨b, rfl, hb⟩, rfl⟩
    clear H2
    cases b with
    | false =>
      go_wp2
      go_ret
      exact ⟨rfl, Below.refl _ _⟩
    | true =>
      obtain ⟨hn, hl⟩ := hb rfl
      have HL1 : Hid (∀ k, k < n → L k ≤ 4096) := hl
      clear hl hb
      have H3 : Hid (Calls Try.prog 18 #[.slice (some ⟨gb, go, none⟩) n cap] w' fun e w'' => RetB (FollOK n L) e ∧ w'' = w') := follows18 gb go n cap A L C S w' hn HGr HL1
      go_wp2_with fail
      refine H3.out.mono ?_
      rintro e w' ⟨⟨b, rfl, hb⟩, rfl⟩
      clear H3
      cases b with
      | false =>
        go_wp2
        go_ret
        exact ⟨rfl, Below.refl _ _⟩
      | true =>
        have HL2 : Hid (∀ k, k < n → 1 ≤ L k ∧ L k ≤ 4096) := fun k hk => ⟨hb rfl k hk, HL1.out k hk⟩
        clear hb
        have H4 : Hid (Calls Try.prog 19 #[.slice (some ⟨gb, go, none⟩) n cap] w' fun e w'' => e = .returned (.slice (some ⟨w'.heap.size + 1, 0, none⟩) n n) ∧ Behind w' w'' (w'.heap.size + 1) n L S) :=
          zzArrange_behind gb go n cap A L C S w' hn HGr HL2
        go_wp2_with fail
        refine H4.out.mono ?_
        rintro e w1 ⟨rfl, sp, dp, par, harr, hrow, hbel⟩
        clear H4
        have HA : Hid (Ar.Arr (grOf L S) n sp dp par) := harr
        clear harr
        obtain ⟨k0, hk0, hh0, hd0, hu0⟩ := HA.out.root hn0
        have HK0 : Hid (sp.head? = some k0 ∧ dp k0 = 0 ∧ ∀ t, t < n → dp t = 0 → t = k0) := ⟨hh0, hd0, hu0⟩
        clear hh0 hd0 hu0
        have HB : Hid (Below w'.heap.size w' w1) := hbel
        have HRO : Hid (w1.rowIs (w'.heap.size + 1) 3 n (fun k => .int .i64 (par k))) := hrow
        have HRW : Hid (∀ a, a < n → w1.cell? ⟨w'.heap.size + 1, a, none⟩ = some (.int .i64 (par a))) := fun a ha => hrow.cell ha
        clear hbel hrow
        have hnz : ((n : Int) == 0) = false := by simp; omega
        go_wp2
        go_loop [5, 6] (fun r i => ∃ (t : Nat), t ≤ n ∧ i = .int .i64 t ∧ r = .int .i64 (if k0 < t then 1 else 0)) (fun _ i => n - (intOf i).toNat)
        case atStart => exact ⟨0, by omega, rfl, by simp⟩
        case round =>
          obtain ⟨t, ht, rfl, rfl⟩ := hrel
          by_cases hlt : t < n
          · have hc := HRW.out t hlt
            rcases HA.out.up hlt with ⟨h0, h1⟩ | ⟨b, hb, h1, h2, _⟩
            · rw [h1] at hc
              have e : t = k0 := HK0.out.2.2 t hlt h0
              have HR : Hid ((if k0 < t then (1 : Int) else 0) = 0 ∧ (if k0 < t + 1 then (1 : Int) else 0) = 1) := by
                subst e
                exact ⟨by simp, by simp⟩
              rw [HR.out.1]
              clear h1 h0 e
              go_wp2
              go_round
              case rel => exact ⟨t + 1, by omega, by go_num, by rw [HR.out.2]⟩
              case measure => simp [intOf]; omega
            · rw [h1] at hc
              have e : t ≠ k0 := fun e => by subst e; have := HK0.out.2.1; omega
              have HR : Hid ((if k0 < t + 1 then (1 : Int) else 0) = (if k0 < t then (1 : Int) else 0)) := by
                show _ = _
                have : (k0 < t + 1) = (k0 < t) := by apply propext; omega
                simp only [this]
              have hne : ((b : Int) == -1) = false := by rw [beq_eq_false_iff_ne]; omega
              have hbt : b ≠ t := fun e => by subst e; omega
              have hne2 : ((b : Int) == (t : Int)) = false := by simp; omega
              clear h1 h2 e hbt
              generalize (if k0 < t then (1 : Int) else 0) = r at HR
              go_wp2
              go_round
              case rel => exact ⟨t + 1, by omega, by go_num, by rw [HR.out]⟩
              case measure => simp [intOf]; omega
          · have e : (if k0 < t then (1 : Int) else 0) = 1 := by rw [if_pos (by omega)]
            rw [e]
            clear e
            go_wp2
            go_loop [8] (fun i => ∃ t : Nat, t ≤ n ∧ i = .int .i64 t) (fun i => n - (intOf i).toNat)
            case atStart => exact ⟨0, by omega, rfl⟩
            case round =>
              obtain ⟨t, ht, rfl⟩ := hrel
              by_cases htk : t < n
              · have htd : dp t < n := HA.out.dp_lt htk
                go_wp2
                go_loop [9, 10] (fun x y => ∃ (a q : Nat), a < n ∧ x = .int .i64 a ∧ y = .int .i64 q ∧ q + dp a ≤ dp t) (fun x _ => dp (intOf x).toNat)
                case atStart => exact ⟨t, 0, htk, rfl, rfl, by omega⟩
                case round =>
                  obtain ⟨a, q, ha, rfl, rfl, hq⟩ := hrel
                  have hc := HRW.out a ha
                  rcases HA.out.up ha with ⟨h0, h1⟩ | ⟨b, hb, h1, h2, _⟩
                  · rw [h1] at hc
                    clear h1 h0
                    go_wp2
                    go_round
                    case rel => exact ⟨t + 1, by omega, by go_num⟩
                    case measure => simp [intOf]; omega
                  · rw [h1] at hc
                    have hne : ((b : Int) != -1) = true := by rw [bne_iff_ne]; omega
                    have H2 : Hid (dp a = dp b + 1) := h2
                    have hq2 : q + 1 < n := by omega
                    have hq3 : q + 1 + dp b ≤ dp t := by omega
                    clear h1 h2 hq
                    go_wp2
                    go_round
                    case rel => exact ⟨b, q + 1, hb, rfl, by go_num, hq3⟩
                    case measure => simp [intOf, H2.out]
              · have HG1 : Hid (Grps w1 gb go n A L C S) := HGr.out.below HB.out
                go_wp2
                go_loopw [11, 12] (fun x i wr => ∃ (t d : Nat) (b : Bool), 1 ≤ t ∧ t ≤ n ∧ i = .int .i64 t ∧ x = .bool b ∧ w1.drewN d = wr ∧ Hid (b = true → ∀ s, 1 ≤ s → s < t → L s ≤ L (s - 1))) (fun _ i _ => n - (intOf i).toNat)
                case atStart => exact ⟨1, 0, true, by omega, by omega, rfl, rfl, rfl, fun _ s h1 h2 => by omega⟩
                case round =>
                  obtain ⟨t, d, b, ht1, htn, rfl, rfl, rfl, HD⟩ := hrel
                  by_cases htk : t < n
                  · have c1 := HG1.out.cell t htk
                    have c2 := HG1.out.cell (t - 1) (by omega)
                    have l1 := HL1.out t htk
                    have l2 := HL1.out (t - 1) (by omega)
                    have ei : ((t : Int) - 1).toNat = t - 1 := by omega
                    have b1 : (t : Int) < (n : Int) := by omega
                    have b2 : (t : Int) - 1 < (n : Int) := by omega
                    have b3 : 0 ≤ (t : Int) - 1 := by omega
                    by_cases hlt2 : L (t - 1) < L t
                    · clear HD
                      generalize L (t - 1) = x at c2 l2 hlt2
                      generalize A (t - 1) = xa at c2
                      generalize C (t - 1) = xc at c2
                      go_wp2
                      go_quiet (fail)
                      go_wp2
                      go_round
                      case rel => exact ⟨t + 1, _, false, by omega, by omega, by go_num, rfl, rfl, fun h => by simp at h⟩
                      case measure => simp [intOf]; omega
                    · have HD' : Hid (b = true → ∀ s, 1 ≤ s → s < t + 1 → L s ≤ L (s - 1)) := fun hb s h1 h2 => by
                        rcases Nat.lt_or_ge s t with h | h
                        · exact HD.out hb s h1 h
                        · obtain rfl : s = t := by omega
                          omega
                      clear HD
                      generalize L (t - 1) = x at c2 l2 hlt2
                      generalize A (t - 1) = xa at c2
                      generalize C (t - 1) = xc at c2
                      go_wp2
                      go_quiet (fail)
                      go_wp2
                      go_round
                      case rel => exact ⟨t + 1, _, b, by omega, by omega, by go_num, rfl, rfl, HD'⟩
                      case measure => simp [intOf]; omega
                  · have h00 : b = true → par 0 = -1 := fun hb => (root_zero HA.out hk0 HK0.out.1 HK0.out.2.1 (noninc L n (fun s h1 h2 => HD.out hb s h1 (by omega)))).2
                    have hp0 := HRW.out 0 (by omega)
                    have HG2 : Hid (Grps (w1.drewN d) gb go n A L C S) := HG1.out.below ⟨rfl, rfl, rfl, Nat.le_refl _, fun _ _ => rfl⟩
                    have H20 : Hid (Calls Try.prog 20 #[.slice (some ⟨gb, go, none⟩) n cap] (w1.drewN d) fun e w' => RetB (StrictOK n L S) e ∧ Below (w1.drewN d).heap.size (w1.drewN d) w') := strict20 gb go n cap A L C S (w1.drewN d) hn HG2 HL1
                    have hfin : ∀ (W : World) (d0 : Nat), Below (w1.drewN d0).heap.size (w1.drewN d0) W → Below w'.heap.size w' W := fun W d0 hW =>
                      (HB.out.trans (show Below w'.heap.size w1 (w1.drewN d0) from ⟨rfl, rfl, rfl, Nat.le_refl _, fun _ _ => rfl⟩)).trans (hW.mono HB.out.size)
                    have HF : Hid (∀ (W : World) (d0 : Nat), Below (w1.drewN d0).heap.size (w1.drewN d0) W → Below w'.heap.size w' W) := hfin
                    clear hfin HD
                    have hb2 : (b = true ∧ w1.cell? ⟨w'.heap.size + 1, 0, none⟩ = some (.int .i64 (-1))) ∨ (b = false) := by
                      cases b with
                      | true => exact .inl ⟨rfl, by rw [hp0, h00 rfl]⟩
                      | false => exact .inr rfl
                    clear h00 hp0
                    rcases hb2 with ⟨rfl, hp0⟩ | rfl
                    all_goals
                      go_wp2_with fail
                      refine H20.out.mono ?_
                      rintro e w2 ⟨⟨b20, rfl, hst⟩, hbel2⟩
                      cases b20 with
                      | false =>
                        go_wp2
                        go_ret
                        exact ⟨rfl, HF.out _ _ hbel2⟩
                      | true =>
                        have HST : Hid (∀ k, k < n → ∀ j, j + 1 < L k → Op.bytesLess (S k j).toList (S k (j + 1)).toList = true) := hst rfl
                        have HG3 : Hid (Grps w2 gb go n A L C S) := HG2.out.below hbel2
                        have H21 : Hid (Calls Try.prog 21 #[.slice (some ⟨gb, go, none⟩) n cap] w2 fun e w' => RetB (CoverOK n L S) e ∧ Below w2.heap.size w2 w') := cover21 gb go n cap A L C S w2 hn0 hn HG3 HL1
                        clear hst
                        go_wp2_with fail
                        refine H21.out.mono ?_
                        rintro e w3 ⟨⟨b21, rfl, hcv⟩, hbel3⟩
                        have hbel23 : Below (w1.drewN d).heap.size (w1.drewN d) w3 := hbel2.trans (hbel3.mono hbel2.size)
                        cases b21 with
                        | false =>
                          go_wp2
                          go_ret
                          exact ⟨rfl, HF.out _ _ hbel23⟩
                        | true =>
                          obtain ⟨ha0, ha1⟩ := all_under_zero HA.out hk0 HK0.out.1 HK0.out.2.1 HST.out (hcv rfl)
                          have HRW3 : Hid (∀ a, a < n → w3.cell? ⟨w'.heap.size + 1, a, none⟩ = some (.int .i64 (par a))) := fun a ha => by
                            have h1 := HRW.out a ha
                            have h2 : (w1.drewN d).cell? ⟨w'.heap.size + 1, a, none⟩ = some (.int .i64 (par a)) := h1
                            exact (hbel23.cell (lt_of_cell h2)).trans h2
                          have hq0 := HRW3.out 0 (by omega)
                          rw [ha0] at hq0
                          have HA1 : Hid (∀ t, t < n → t ≠ 0 → par t = 0) := ha1
                          have HFF : Hid (Below w'.heap.size w' w3) := HF.out _ _ hbel23
                          clear ha0 ha1 hcv hbel2 hbel3 hbel23 HF
                          go_wp2
                          go_loop [13] (fun i => ∃ t : Nat, 1 ≤ t ∧ t ≤ n ∧ i = .int .i64 t) (fun i => n - (intOf i).toNat)
                          case atStart => exact ⟨1, by omega, by omega, rfl⟩
                          case round =>
                            obtain ⟨t, ht1, htn, rfl⟩ := hrel
                            by_cases htk : t < n
                            · have hc := HRW3.out t htk
                              rw [HA1.out t htk (by omega)] at hc
                              go_wp2
                              go_round
                              case rel => exact ⟨t + 1, by omega, by omega, by go_num⟩
                              case measure => simp [intOf]; omega
                            · go_wp2
                              go_ret
                              exact ⟨rfl, HFF.out⟩

set_option maxRecDepth 100000 in
set_option maxHeartbeats 2000000 in
theorem rooted_empty (a : Option Addr) (cap : Nat) (w : World) :
    Calls Try.prog 6 #[.slice a 0 cap] w fun e w' => e = .returned (.bool true) ∧ Below w.heap.size w w' := by
  have H1 : Hid (∀ w, Calls Try.prog 16 #[.slice a 0 cap] w fun e w' => RetB (fun _ => True) e ∧ w' = w) := zz16_empty a cap
  have H2 : Hid (∀ w, Calls Try.prog 17 #[.slice a 0 cap] w fun e w' => e = .returned (.bool true) ∧ w' = w) := size17_empty a cap
  have H3 : Hid (∀ w, Calls Try.prog 18 #[.slice a 0 cap] w fun e w' => e = .returned (.bool true) ∧ w' = w) := follows18_empty a cap
  have H4 : Hid (∀ w : World, Calls Try.prog 19 #[.slice a 0 cap] w fun e w' => e = .returned (.slice (some ⟨w.heap.size + 1, 0, none⟩) 0 0) ∧ Below w.heap.size w w') := zzArrange_empty a cap
  go_enter Try.func6, Try.ntmps6
  go_wp2_with fail
  refine (H1.out _).mono ?_
  rintro e w' ⟨⟨b, rfl, _⟩, rfl⟩
  cases b with
  | false =>
    go_wp2
    go_ret
    exact ⟨rfl, Below.refl _ _⟩
  | true =>
    go_wp2_with fail
    refine (H2.out _).mono ?_
    rintro e w' ⟨rfl, rfl⟩
    go_wp2_with fail
    refine (H3.out _).mono ?_
    rintro e w' ⟨rfl, rfl⟩
    go_wp2_with fail
    refine (H4.out _).mono ?_
    rintro e w1 ⟨rfl, hbel⟩
    go_wp2
    go_ret
    exact ⟨rfl, hbel⟩

end Go.Proofs.Qxb6601741a
