/-
  FnArrangeHeightAtMostGroups, walked.
-/
import Derived.Test.Qxb6601741aZZArrW
import Derived.Test.Qxb6601741aArrLaw
namespace Go.Proofs.Qxb6601741a
open Go.RowKit

theorem grOf_ne (L : Nat → Nat) (S : Nat → Nat → ByteArray) (k : Nat) (h : 1 ≤ L k) : grOf L S k ≠ [] := fun e => by
  have := grOf_length L S k; rw [e] at this; simp at this; omega

/-- What stands behind ZZArrange: the parents' row and what they are. -/
def Behind (w w' : World) (B n : Nat) (L : Nat → Nat) (S : Nat → Nat → ByteArray) : Prop :=
  ∃ (sp : List Nat) (dp : Nat → Nat) (par : Nat → Int), Ar.Arr (grOf L S) n sp dp par ∧ w'.rowIs B 3 n (fun k => .int .i64 (par k)) ∧ Below w.heap.size w w'

theorem zzArrange_behind (gb go n cap : Nat) (A : Nat → Option Addr) (L C : Nat → Nat) (S : Nat → Nat → ByteArray) (w : World) (hn : n ≤ 4096) (HGr : Hid (Grps w gb go n A L C S)) (HL : Hid (∀ k, k < n → 1 ≤ L k ∧ L k ≤ 4096)) :
    Calls Try.prog 19 #[.slice (some ⟨gb, go, none⟩) n cap] w fun e w' => e = .returned (.slice (some ⟨w.heap.size + 1, 0, none⟩) n n) ∧ Behind w w' (w.heap.size + 1) n L S :=
  (zzArrange_any gb go n cap A L C S w hn HGr HL).mono fun e w' ⟨h1, h2⟩ => by
    obtain ⟨sp, g1, g2, g3, g4⟩ := h2.out
    exact ⟨h1, sp, _, _, Ar.arr_of_good g1 (fun k hk => grOf_ne L S k (HL.out k hk).1) g2, g3, g4⟩

theorem Grps.below {w w' : World} {gb go n : Nat} {A : Nat → Option Addr} {L C : Nat → Nat} {S : Nat → Nat → ByteArray} (h : Grps w gb go n A L C S) (hb : Below w.heap.size w w') : Grps w' gb go n A L C S :=
  ⟨fun k hk => (hb.cell (lt_of_cell (h.cell k hk))).trans (h.cell k hk), fun k hk j hj => by
    obtain ⟨b, o, h1, h2, h3⟩ := h.name k hk j hj
    exact ⟨b, o, h1, (hb.cell (lt_of_cell h2)).trans h2, h3⟩, h.len⟩

/-- The first part's state: the names seen so far. -/
structure HS (w : World) (B b n m : Nat) (par : Nat → Int) (l : List (List UInt8)) (wr : World) : Prop where
  bel : Below w.heap.size w wr
  row : wr.rowIs B 3 n (fun k => .int .i64 (par k))
  map : BMap wr b m (fun s => decide (s ∈ l))

theorem HS.put {w wr w' : World} {B b n m : Nat} {par : Nat → Int} {l : List (List UInt8)} {s : List UInt8} (h : HS w B b n m par l wr) (hB : B < b) (hw : w.heap.size ≤ b) (hm : BMap w' b (m + 1) (bput (fun s => decide (s ∈ l)) s)) (hg : wr.grownBy w' (some b)) :
    HS w B b n (m + 1) par (l ++ [s]) w' :=
  ⟨h.bel.grown hg h.bel.size (fun k hk => by cases hk; exact hw), h.row.of_block (hg.block _ h.row.lt (by simp; omega)), hm.congr (fun t => by
    unfold bput; by_cases e : t = s <;> simp [e])⟩
theorem HS.seen {w wr : World} {B b n m : Nat} {par : Nat → Int} {l : List (List UInt8)} {s : List UInt8} (h : HS w B b n m par l wr) (hs : s ∈ l) : HS w B b n m par (l ++ [s]) wr :=
  ⟨h.bel, h.row, h.map.congr (fun t => by
    by_cases e : t = s
    · subst e; simp [hs]
    · simp [e])⟩

set_option maxRecDepth 100000 in
set_option maxHeartbeats 4000000 in
theorem height_in (gb go n cap : Nat) (A : Nat → Option Addr) (L C : Nat → Nat) (S : Nat → Nat → ByteArray) (w : World) (hn : n ≤ maxLen) (HGr : Hid (Grps w gb go n A L C S)) :
    Calls Try.prog 8 #[.slice (some ⟨gb, go, none⟩) n cap] w fun e w' => e = .returned (.bool true) ∧ Below w.heap.size w w' := by
  have H1 : Hid (Calls Try.prog 23 #[.slice (some ⟨gb, go, none⟩) n cap] w fun e w' => RetB (fun _ => True) e ∧ w' = w) := zz23 gb go n cap A L C S w hn HGr
  have H2 : Hid (Calls Try.prog 17 #[.slice (some ⟨gb, go, none⟩) n cap] w fun e w' => RetB (SizeOK n L) e ∧ w' = w) := size17 gb go n cap A L C S w hn HGr
  clear hn
  go_enter Try.func8, Try.ntmps8
  go_wp2_with fail
  refine H1.out.mono ?_
  rintro e w' ⟨⟨b, rfl, _⟩, rfl⟩
  clear H1
  cases b with
  | false =>
    go_wp2
    go_ret
    exact ⟨rfl, Below.refl _ _⟩
  | true =>
    go_wp2_with fail
    refine H2.out.mono ?_
    rintro e w' ⟨⟨b, rfl, hb⟩, rfl⟩
    clear H2
    cases b with
    | false =>
      go_wp2
      go_ret
      exact ⟨rfl, Below.refl _ _⟩
    | true =>
      obtain ⟨hn, hl⟩ := hb rfl
      have HL1 : Hid (∀ k, k < n → L k ≤ 4096) := hl
      clear hl hb
      have H3 : Hid (Calls Try.prog 18 #[.slice (some ⟨gb, go, none⟩) n cap] w' fun e w'' => RetB (FollOK n L) e ∧ w'' = w') := follows18 gb go n cap A L C S w' hn HGr HL1
      go_wp2_with fail
      refine H3.out.mono ?_
      rintro e w' ⟨⟨b, rfl, hb⟩, rfl⟩
      clear H3
      cases b with
      | false =>
        go_wp2
        go_ret
        exact ⟨rfl, Below.refl _ _⟩
      | true =>
        have HL2 : Hid (∀ k, k < n → 1 ≤ L k ∧ L k ≤ 4096) := fun k hk => ⟨hb rfl k hk, HL1.out k hk⟩
        clear hb
        have H4 : Hid (Calls Try.prog 19 #[.slice (some ⟨gb, go, none⟩) n cap] w' fun e w'' => e = .returned (.slice (some ⟨w'.heap.size + 1, 0, none⟩) n n) ∧ Behind w' w'' (w'.heap.size + 1) n L S) :=
          zzArrange_behind gb go n cap A L C S w' hn HGr HL2
        go_wp2_with fail
        refine H4.out.mono ?_
        rintro e w1 ⟨rfl, sp, dp, par, harr, hrow, hbel⟩
        clear H4
        have HA : Hid (Ar.Arr (grOf L S) n sp dp par) := harr
        clear harr
        have hmm := @run_makeMap Try.prog
        have hB1 : w'.heap.size + 1 < w1.heap.size := hrow.lt
        have hS : HS w' (w'.heap.size + 1) w1.heap.size n 0 par [] (w1.alloc (.map #[] 0)) := ⟨hbel.alloc (by omega) _, hrow.alloc _, (BMap.made w1).congr (fun t => by simp)⟩
        clear hbel hrow
        go_wp2
        go_loopw [5, 7] (fun di i wr => ∃ (k m : Nat), k ≤ n ∧ m ≤ k * 4096 ∧ i = .int .i64 k ∧ di = .int .i64 ((Ar.dd (Ar.flat (grOf L S) k)).length : Nat) ∧ HS w' (w'.heap.size + 1) w1.heap.size n m par (Ar.flat (grOf L S) k) wr) (fun _ i _ => n - (intOf i).toNat)
        case atStart => exact ⟨0, 0, by omega, by omega, rfl, rfl, hS⟩
        case round =>
          clear hS hmm
          obtain ⟨k, m, hk, hm, rfl, rfl, hS⟩ := hrel
          by_cases hlt : k < n
          · go_wp2
            obtain ⟨w2, rfl⟩ : ∃ w2 : World, w2 = wr := ⟨_, rfl⟩
            go_loopw [5, 8] (fun di i wr => ∃ (j m : Nat), j ≤ L k ∧ m ≤ k * 4096 + j ∧ i = .int .i64 j ∧ di = .int .i64 ((Ar.dd (Ar.flat (grOf L S) k ++ (grOf L S k).take j)).length : Nat) ∧ HS w' (w'.heap.size + 1) w1.heap.size n m par (Ar.flat (grOf L S) k ++ (grOf L S k).take j) wr) (fun _ i _ => L k - (intOf i).toNat)
            case atStart => exact ⟨0, m, by omega, by omega, rfl, by simp, by simpa using hS⟩
            case round =>
              clear hS hm
              obtain ⟨j, m, hj, hm, rfl, rfl, hS⟩ := hrel
              have hLk := HL1.out k hlt
              by_cases hjl : j < L k
              · obtain ⟨b, o, hcell, hnm, hsz⟩ := (HGr.out.below hS.bel).at hlt hjl
                have hlk := hS.map.look (S k j) hsz
                have htk := grOf_take L S k j hjl
                have hdl := Ar.dd_len (Ar.flat (grOf L S) k ++ (grOf L S k).take j)
                have hfl := Ar.flat_len (gr := grOf L S) k (fun t ht => by rw [grOf_length]; exact HL1.out t (by omega))
                have hdb : (Ar.dd (Ar.flat (grOf L S) k ++ (grOf L S k).take j)).length ≤ 16781312 := by
                  simp only [List.length_append, List.length_take, grOf_length] at hdl
                  omega
                clear hdl hfl
                have HTK : Hid (Ar.flat (grOf L S) k ++ (grOf L S k).take (j + 1) = (Ar.flat (grOf L S) k ++ (grOf L S k).take j) ++ [(S k j).data.toList]) := by
                  show _ = _
                  rw [htk, List.append_assoc]
                clear htk
                by_cases hmem : (S k j).data.toList ∈ Ar.flat (grOf L S) k ++ (grOf L S k).take j
                · have HD : Hid ((Ar.dd (Ar.flat (grOf L S) k ++ (grOf L S k).take (j + 1))).length = (Ar.dd (Ar.flat (grOf L S) k ++ (grOf L S k).take j)).length) := by
                    show _ = _
                    rw [HTK.out, Ar.dd_snoc, if_pos ((Ar.mem_dd _ _).2 hmem)]
                  have HS' : Hid (HS w' (w'.heap.size + 1) w1.heap.size n m par (Ar.flat (grOf L S) k ++ (grOf L S k).take (j + 1)) wr) := by
                    show HS _ _ _ _ _ _ _ _
                    rw [HTK.out]
                    exact hS.seen hmem
                  simp only [hmem, decide_true] at hlk
                  clear hmem HTK hS
                  generalize (Ar.dd (Ar.flat (grOf L S) k ++ (grOf L S k).take j)).length = d at HD hdb
                  generalize S k j = str at hnm hlk
                  go_wp2
                  go_round
                  case rel => exact ⟨j + 1, m, by omega, by omega, by go_num, by rw [HD.out], HS'⟩
                  case measure => simp [intOf]; omega
                · have HD : Hid ((Ar.dd (Ar.flat (grOf L S) k ++ (grOf L S k).take (j + 1))).length = (Ar.dd (Ar.flat (grOf L S) k ++ (grOf L S k).take j)).length + 1) := by
                    show _ = _
                    rw [HTK.out, Ar.dd_snoc, if_neg (fun h => hmem ((Ar.mem_dd _ _).1 h))]
                    simp
                  obtain ⟨w3, hup, hI, hgr⟩ := hS.map.update (by unfold maxLen; omega) (S k j) hsz
                  have HS' : Hid (HS w' (w'.heap.size + 1) w1.heap.size n (m + 1) par (Ar.flat (grOf L S) k ++ (grOf L S k).take (j + 1)) w3) := by
                    show HS _ _ _ _ _ _ _ _
                    rw [HTK.out]
                    exact hS.put hB1 (by omega) hI hgr
                  simp only [hmem, decide_false] at hlk
                  clear hmem HTK hS hI hgr
                  generalize (Ar.dd (Ar.flat (grOf L S) k ++ (grOf L S k).take j)).length = d at HD hdb
                  generalize S k j = str at hnm hlk hup
                  go_wp2
                  go_round
                  case rel => exact ⟨j + 1, m + 1, by omega, by omega, by go_num, by rw [HD.out]; go_num, HS'⟩
                  case measure => simp [intOf]; omega
              · have hcell := (HGr.out.below hS.bel).cell k hlt
                rw [grOf_take_all L S k j (by omega)] at hS ⊢
                go_wp2
                go_round
                case rel => exact ⟨k + 1, m, by omega, by omega, by go_num, rfl, hS⟩
                case measure => simp [intOf]; omega
          · obtain rfl : k = n := by omega
            have hlen := HA.out.len_le
            have HD : Hid (sp.length ≤ (Ar.dd (Ar.flat (grOf L S) k)).length) := hlen
            have hdl := Ar.dd_len (Ar.flat (grOf L S) k)
            have hfl := Ar.flat_len (gr := grOf L S) k (fun t ht => by rw [grOf_length]; exact HL1.out t (by omega))
            have hdb : (Ar.dd (Ar.flat (grOf L S) k)).length ≤ 16777216 := by omega
            clear hlen hdl hfl
            generalize (Ar.dd (Ar.flat (grOf L S) k)).length = d at HD hdb
            have HB : Hid (Below w'.heap.size w' wr) := hS.bel
            have HRW : Hid (∀ a, a < k → wr.cell? ⟨w'.heap.size + 1, a, none⟩ = some (.int .i64 (par a))) := fun a ha => hS.row.cell ha
            clear hS
            go_wp2
            go_loop [9] (fun i => ∃ t : Nat, t ≤ k ∧ i = .int .i64 t) (fun i => k - (intOf i).toNat)
            case atStart => exact ⟨0, by omega, rfl⟩
            case round =>
              obtain ⟨t, ht, rfl⟩ := hrel
              by_cases htk : t < k
              · have htd : dp t ≤ d := Nat.le_trans (HA.out.dple t htk) HD.out
                go_wp2
                go_loop [10, 11] (fun x y => ∃ (a q : Nat), a < k ∧ x = .int .i64 a ∧ y = .int .i64 q ∧ q + dp a ≤ dp t) (fun x _ => dp (intOf x).toNat)
                case atStart => exact ⟨t, 0, htk, rfl, rfl, by omega⟩
                case round =>
                  obtain ⟨a, q, ha, rfl, rfl, hq⟩ := hrel
                  have hc := HRW.out a ha
                  rcases HA.out.up ha with ⟨h0, h1⟩ | ⟨b, hb, h1, h2, _⟩
                  · rw [h1] at hc
                    clear h1 h0
                    go_wp2
                    go_round
                    case rel => exact ⟨t + 1, by omega, by go_num⟩
                    case measure => simp [intOf]; omega
                  · rw [h1] at hc
                    have hne : ((b : Int) != -1) = true := by rw [bne_iff_ne]; omega
                    have H2 : Hid (dp a = dp b + 1) := h2
                    have hq2 : q + 1 ≤ d := by omega
                    have hq3 : q + 1 + dp b ≤ dp t := by omega
                    clear h1 h2 hq
                    go_wp2
                    go_round
                    case rel => exact ⟨b, q + 1, hb, rfl, by go_num, hq3⟩
                    case measure => simp [intOf, H2.out]
              · go_wp2
                go_ret
                exact ⟨rfl, HB.out⟩

set_option maxRecDepth 100000 in
set_option maxHeartbeats 2000000 in
theorem height_empty (a : Option Addr) (cap : Nat) (w : World) :
    Calls Try.prog 8 #[.slice a 0 cap] w fun e w' => e = .returned (.bool true) ∧ Below w.heap.size w w' := by
  have H1 : Hid (∀ w, Calls Try.prog 23 #[.slice a 0 cap] w fun e w' => RetB (fun _ => True) e ∧ w' = w) := zz23_empty a cap
  have H2 : Hid (∀ w, Calls Try.prog 17 #[.slice a 0 cap] w fun e w' => e = .returned (.bool true) ∧ w' = w) := size17_empty a cap
  have H3 : Hid (∀ w, Calls Try.prog 18 #[.slice a 0 cap] w fun e w' => e = .returned (.bool true) ∧ w' = w) := follows18_empty a cap
  have H4 : Hid (∀ w : World, Calls Try.prog 19 #[.slice a 0 cap] w fun e w' => e = .returned (.slice (some ⟨w.heap.size + 1, 0, none⟩) 0 0) ∧ Below w.heap.size w w') := zzArrange_empty a cap
  have hmm := @run_makeMap Try.prog
  go_enter Try.func8, Try.ntmps8
  go_wp2_with fail
  refine (H1.out _).mono ?_
  rintro e w' ⟨⟨b, rfl, _⟩, rfl⟩
  cases b with
  | false =>
    go_wp2
    go_ret
    exact ⟨rfl, Below.refl _ _⟩
  | true =>
    go_wp2_with fail
    refine (H2.out _).mono ?_
    rintro e w' ⟨rfl, rfl⟩
    go_wp2_with fail
    refine (H3.out _).mono ?_
    rintro e w' ⟨rfl, rfl⟩
    go_wp2_with fail
    refine (H4.out _).mono ?_
    rintro e w1 ⟨rfl, hbel⟩
    go_wp2
    refine wp_loop_rounds 1 ?_
    rw [rounds_succ]
    go_wp2
    refine wp_loop_rounds 1 ?_
    rw [rounds_succ]
    go_wp2
    go_ret
    exact ⟨rfl, hbel.alloc hbel.size _⟩
end Go.Proofs.Qxb6601741a
