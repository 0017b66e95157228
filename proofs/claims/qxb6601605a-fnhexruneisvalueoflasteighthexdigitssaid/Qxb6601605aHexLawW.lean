/-
  zzB1hexDigit and FnHexRuneIsValueOfLastEightHexDigits, walked.
-/
import Derived.Test.Qxb6601605aHexW
import Derived.Test.Qxb6601605aCopyW
import Derived.WideShapes
namespace Go.Proofs.Qxb6601605a
open Go.RowKit

theorem low_fin : ∀ k : Fin 16, (({ data := #[48, 49, 50, 51, 52, 53, 54, 55, 56, 57, 97, 98, 99, 100, 101, 102] } : ByteArray)[k.val]'k.isLt).toNat = if k.val < 10 then 48 + k.val else 87 + k.val := by decide
theorem up_fin : ∀ k : Fin 16, (({ data := #[48, 49, 50, 51, 52, 53, 54, 55, 56, 57, 65, 66, 67, 68, 69, 70] } : ByteArray)[k.val]'k.isLt).toNat = if k.val < 10 then 48 + k.val else 55 + k.val := by decide

theorem hv_ge {c : Int} {k : Nat} (h : isHex c) (hr : (k : Int) ≤ hv c) (h1 : k < 10 → ¬ (48 + (k : Int) = c)) (h2 : ¬ k < 10 → ¬ (87 + (k : Int) = c) ∧ ¬ (55 + (k : Int) = c)) : (k : Int) + 1 ≤ hv c := by
  unfold isHex at h; unfold hv at hr ⊢
  split at hr
  · omega
  · split at hr <;> omega

set_option maxRecDepth 100000 in
set_option maxHeartbeats 4000000 in
theorem hexDigit_walk (c : Int) (w : World) (h0 : 0 ≤ c) (h1 : c ≤ 255) :
    Calls Try.prog 13 #[.int .u8 c] w fun e w' => ((isHex c ∧ e = .returned (.int .i64 (hv c))) ∨ (¬ isHex c ∧ e = .returned (.int .i64 (-1)))) ∧ w' = w := by
  go_enter Try.func13, Try.ntmps13
  go_wp2
  go_loop [3] (fun i => ∃ k : Nat, k ≤ 16 ∧ i = .int .i64 k ∧ (isHex c → (k : Int) ≤ hv c)) (fun i => 16 - (intOf i).toNat)
  case atStart => exact ⟨0, by omega, rfl, fun h => by have := hv_bd h; omega⟩
  case round =>
    obtain ⟨k, hk, rfl, hr⟩ := hrel
    have HR : Hid (isHex c → (k : Int) ≤ hv c) := hr
    clear hr
    by_cases hlt : k < 16
    · have hL := low_fin ⟨k, hlt⟩
      have hU := up_fin ⟨k, hlt⟩
      simp only at hL hU
      by_cases hk10 : k < 10
      · rw [if_pos hk10] at hL hU
        by_cases hc : 48 + (k : Int) = c
        · subst hc
          have hb : ((48 : Int) + (k : Int) == 48 + (k : Int)) = true := by simp
          go_wp2
          go_ret
          exact ⟨.inl ⟨by unfold isHex; omega, ret_int (by unfold hv; rw [if_neg (by omega), if_neg (by omega)]; omega)⟩, rfl⟩
        · have hb : ((48 : Int) + (k : Int) == c) = false := by simpa using hc
          go_wp2
          go_round
          case rel => exact ⟨k + 1, by omega, by go_num, fun h => by have := hv_ge h (HR.out h) (fun _ => hc) (fun h' => absurd hk10 h'); omega⟩
          case measure => simp [intOf]; omega
      · rw [if_neg hk10] at hL hU
        by_cases hc : 87 + (k : Int) = c
        · subst hc
          have hb : ((87 : Int) + (k : Int) == 87 + (k : Int)) = true := by simp
          go_wp2
          go_ret
          exact ⟨.inl ⟨by unfold isHex; omega, ret_int (by unfold hv; rw [if_pos (by omega)]; omega)⟩, rfl⟩
        · have hb : ((87 : Int) + (k : Int) == c) = false := by simpa using hc
          by_cases hc2 : 55 + (k : Int) = c
          · subst hc2
            have hb2 : ((55 : Int) + (k : Int) == 55 + (k : Int)) = true := by simp
            go_wp2
            go_ret
            exact ⟨.inl ⟨by unfold isHex; omega, ret_int (by unfold hv; rw [if_neg (by omega), if_pos (by omega)]; omega)⟩, rfl⟩
          · have hb2 : ((55 : Int) + (k : Int) == c) = false := by simpa using hc2
            go_wp2
            go_round
            case rel => exact ⟨k + 1, by omega, by go_num, fun h => by have := hv_ge h (HR.out h) (fun h' => absurd h' hk10) (fun _ => ⟨hc, hc2⟩); omega⟩
            case measure => simp [intOf]; omega
    · obtain rfl : k = 16 := by omega
      go_wp2
      go_ret
      exact ⟨.inr ⟨fun h => by have h1 := HR.out h; have h2 := hv_bd h; omega, rfl⟩, rfl⟩

theorem hexDigit_yes (c : Int) (h : isHex c) (w : World) : Calls Try.prog 13 #[.int .u8 c] w fun e w' => e = .returned (.int .i64 (hv c)) ∧ w' = w :=
  (hexDigit_walk c w (by unfold isHex at h; omega) (by unfold isHex at h; omega)).mono fun e w' ⟨h1, h2⟩ => ⟨by rcases h1 with ⟨_, h1⟩ | ⟨h1, _⟩; exact h1; exact absurd h h1, h2⟩
theorem hexDigit_no (c : Int) (h : ¬ isHex c) (w : World) (h0 : 0 ≤ c) (h1 : c ≤ 255) : Calls Try.prog 13 #[.int .u8 c] w fun e w' => e = .returned (.int .i64 (-1)) ∧ w' = w :=
  (hexDigit_walk c w h0 h1).mono fun e w' ⟨h1, h2⟩ => ⟨by rcases h1 with ⟨h1, _⟩ | ⟨_, h1⟩; exact absurd h1 h; exact h1, h2⟩

/-! ### The number of the last digits -/
theorem foldl_hv (l : List Int) (a : Int) : l.foldl (fun r c => 16 * r + hv c) a = a * 16 ^ l.length + hval l := by
  induction l generalizing a with
  | nil => simp [hval]
  | cons c t ih =>
    have e : hval (c :: t) = hv c * 16 ^ t.length + hval t := by
      show List.foldl (fun r c => 16 * r + hv c) (16 * 0 + hv c) t = _
      rw [ih, Int.mul_zero, Int.zero_add]
    rw [List.foldl_cons, ih, e, List.length_cons, Int.pow_succ, Int.add_mul]
    have h1 : 16 * a * 16 ^ t.length = a * (16 ^ t.length * 16) := by
      rw [Int.mul_comm 16 a, Int.mul_assoc, Int.mul_comm 16]
    rw [h1, Int.add_assoc]

theorem hval_append (a b : List Int) : hval (a ++ b) = hval a * 16 ^ b.length + hval b := by
  rw [hval, List.foldl_append, foldl_hv]; rfl

theorem hval_cons (c : Int) (t : List Int) : hval (c :: t) = hv c * 16 ^ t.length + hval t := by
  have := hval_append [c] t
  simpa [hval] using this

theorem hval_bd (l : List Int) (h : ∀ c ∈ l, isHex c) : 0 ≤ hval l ∧ hval l < 16 ^ l.length := by
  induction l with
  | nil => simp [hval]
  | cons c t ih =>
    have h1 := ih (fun x hx => h x (List.mem_cons_of_mem _ hx))
    have h2 := hv_bd (h c List.mem_cons_self)
    rw [hval_cons, List.length_cons, Int.pow_succ]
    have h3 : 0 ≤ hv c * 16 ^ t.length := Int.mul_nonneg h2.1 (by omega)
    have h4 : hv c * 16 ^ t.length ≤ 15 * 16 ^ t.length := Int.mul_le_mul_of_nonneg_right (by omega) (by omega)
    omega

/-- Only the last eight digits count in 32 bits. -/
theorem hval_last (l : List Int) (h : 8 ≤ l.length) : wrap32 (hval l) = wrap32 (hval (l.drop (l.length - 8))) := by
  have e := hval_append (l.take (l.length - 8)) (l.drop (l.length - 8))
  rw [List.take_append_drop] at e
  have hl : (l.drop (l.length - 8)).length = 8 := by simp; omega
  rw [e, hl, show (16 : Int) ^ 8 = 4294967296 from by decide]
  unfold wrap32
  omega

/-! ### hexRune of no digits -/
set_option maxHeartbeats 400000 in
theorem hexRune_empty (a : Option Addr) (cap : Nat) (w : World) :
    Calls Try.prog 14 #[.slice a 0 cap] w fun e w' => e = .returned (.int .i32 0) ∧ w' = w := by
  have H : Hid (Calls Try.prog 17 #[.slice a 0 cap] w fun e w' => e = .returned (.int .i32 0) ∧ w' = w) := by
    show Calls _ _ _ _ _
    go_enter Try.func17, Try.ntmps17
    go_wp2
    refine wp_loop_rounds 1 ?_
    rw [rounds_succ]
    go_wp2
    go_ret
    exact ⟨rfl, rfl⟩
  go_enter Try.func14, Try.ntmps14
  go_wp2_with (go_at_call 17; refine H.out.mono ?_; rintro e w' ⟨rfl, rfl⟩)
  go_ret
  exact ⟨rfl, rfl⟩

theorem drop_step (l : List Int) (n p : Nat) (hl : l.length = n) (hp : p < n) : l.drop (n - (p + 1)) = l.getD (n - 1 - p) 0 :: l.drop (n - p) := by
  have h : n - (p + 1) < l.length := by omega
  rw [List.drop_eq_getElem_cons h, show n - (p + 1) + 1 = n - p from by omega, show n - 1 - p = n - (p + 1) from by omega]
  simp [h]

set_option maxRecDepth 100000 in
set_option maxHeartbeats 2000000 in
theorem hexlaw_in (b off n cap : Nat) (l : List Int) (hn0 : 0 < n) (w : World) (hn : n ≤ 1048576)
    (HCP : Hid (Calls Try.prog 8 #[.slice (some ⟨b, off, none⟩) n cap] w fun e w' => e = .returned (.slice (some ⟨w.heap.size, 0, none⟩) n n) ∧ w'.rowIs w.heap.size 5 n (fun j => .int .u8 (l.getD j 0)) ∧ Below w.heap.size w w'))
    (HL : Hid (l.length = n)) (HB : Hid (∀ k, k < n → 0 ≤ l.getD k 0 ∧ l.getD k 0 ≤ 255))
    (HC : Hid (∀ k, k < n → w.cell? ⟨b, off + k, none⟩ = some (.int .u8 (l.getD k 0)))) :
    Calls Try.prog 5 #[.slice (some ⟨b, off, none⟩) n cap] w fun e w' => e = .returned (.bool true) ∧ Below w.heap.size w w' := by
  have HG : Hid (∀ w, Calls Try.prog 12 #[.slice (some ⟨b, off, none⟩) n cap] w fun e w' => e = .returned (.bool true) ∧ w' = w) := fun w => guard12 _ _ _ hn w
  go_enter Try.func5, Try.ntmps5
  go_wp2_with (go_at_call 12; refine (HG.out _).mono ?_; rintro e w' ⟨rfl, rfl⟩)
  clear HG
  rename_i w
  go_loop [3] (fun i => ∃ k : Nat, k ≤ n ∧ i = .int .i64 k ∧ Hid (∀ j, j < k → isHex (l.getD j 0))) (fun i => n - (intOf i).toNat)
  case atStart => exact ⟨0, by omega, rfl, fun j hj => by omega⟩
  case round =>
    obtain ⟨k, hk, rfl, HH⟩ := hrel
    by_cases hlt : k < n
    · have hcell := HC.out k hlt
      have hb := HB.out k hlt
      by_cases hx : isHex (l.getD k 0)
      · have HD : Hid (∀ w, Calls Try.prog 13 #[.int .u8 (l.getD k 0)] w fun e w' => e = .returned (.int .i64 (hv (l.getD k 0))) ∧ w' = w) := fun w => hexDigit_yes _ hx w
        have hvb := hv_bd hx
        have HH' : Hid (∀ j, j < k + 1 → isHex (l.getD j 0)) := fun j hj => by
          rcases Nat.lt_or_ge j k with h | h
          · exact HH.out j h
          · obtain rfl : j = k := by omega
            exact hx
        clear hx HH
        generalize l.getD k 0 = c at hcell hb HD hvb
        generalize hv c = d at HD hvb
        go_wp2_with (go_at_call 13; refine (HD.out _).mono ?_; rintro e w' ⟨rfl, rfl⟩)
        go_round
        case rel => exact ⟨k + 1, by omega, by go_num, HH'⟩
        case measure => simp [intOf]; omega
      · have HD : Hid (∀ w, Calls Try.prog 13 #[.int .u8 (l.getD k 0)] w fun e w' => e = .returned (.int .i64 (-1)) ∧ w' = w) := fun w => hexDigit_no _ hx w hb.1 hb.2
        clear hx HH
        generalize l.getD k 0 = c at hcell hb HD
        go_wp2_with (go_at_call 13; refine (HD.out _).mono ?_; rintro e w' ⟨rfl, rfl⟩)
        go_ret
        exact ⟨rfl, Below.refl _ _⟩
    · obtain rfl : k = n := by omega
      go_wp2_with fail
      refine HCP.out.mono ?_
      rintro e w1 ⟨rfl, hrow, hb⟩
      clear HCP HC HB
      have HX := HH
      have HT : Hid (Calls Try.prog 14 #[.slice (some ⟨w'.heap.size, 0, none⟩) k k] w1 fun e w' => e = .returned (.int .i32 (wrap32 (hval l))) ∧ w' = w1) := by
        have h := zzHexRune_any w'.heap.size 0 k k l w1 hn (by rw [HL.out]; omega) (fun j hj => by simpa using hrow.cell hj) (fun j hj => HH.out j hj)
        rw [List.take_of_length_le (by rw [HL.out]; omega), hx_hval] at h
        exact h
      have HROW : Hid (∀ j, j < k → w1.cell? ⟨w'.heap.size, j, none⟩ = some (.int .u8 (l.getD j 0))) := fun j hj => hrow.cell hj
      clear hrow HH
      go_wp2_with fail
      go_loop [4, 6] (fun t q => ∃ p : Nat, p ≤ 8 ∧ p ≤ k ∧ q = .int .i64 p ∧ t = .int .u32 (hval (l.drop (k - p)))) (fun _ q => 8 - (intOf q).toNat)
      case atStart => exact ⟨0, by omega, by omega, rfl, by rw [Nat.sub_zero, ← HL.out, List.drop_length]; rfl⟩
      case round =>
        obtain ⟨p, hp8, hpk, rfl, rfl⟩ := hrel
        by_cases hlt : p < 8 ∧ p < k
        · obtain ⟨hl8, hlk⟩ := hlt
          have hcell := HROW.out (k - 1 - p) (by omega)
          have hx := HX.out (k - 1 - p) (by omega)
          have hds := drop_step l k p HL.out hlk
          have hve : hval (l.drop (k - (p + 1))) = hv (l.getD (k - 1 - p) 0) * 16 ^ p + hval (l.drop (k - p)) := by
            rw [hds, hval_cons]; simp [HL.out]; rw [show k - (k - p) = p from by omega]
          have hbd := hval_bd (l.drop (k - p)) (fun c hc => by
            obtain ⟨j, hj, rfl⟩ := List.getElem_of_mem hc
            rw [List.length_drop, HL.out] at hj
            have := HX.out (k - p + j) (by omega)
            rw [List.getElem_drop]
            have hlen : k - p + j < l.length := by rw [HL.out]; omega
            simpa [hlen] using this)
          rw [List.length_drop, HL.out, show k - (k - p) = p from by omega] at hbd
          have HD : Hid (∀ w, Calls Try.prog 13 #[.int .u8 (l.getD (k - 1 - p) 0)] w fun e w' => e = .returned (.int .i64 (hv (l.getD (k - 1 - p) 0))) ∧ w' = w) := fun w => hexDigit_yes _ hx w
          have hvb := hv_bd hx
          have HV : Hid (hval (l.drop (k - (p + 1))) = hv (l.getD (k - 1 - p) 0) * 16 ^ p + hval (l.drop (k - p))) := hve
          clear hx hds hve
          generalize hval (l.drop (k - p)) = W at hbd HV
          generalize l.getD (k - 1 - p) 0 = c at hcell HD hvb HV
          generalize hv c = d at HD hvb HV
          obtain ⟨hd0, hd1⟩ := hvb
          obtain ⟨hw0, hw1⟩ := hbd
          have ei : ((k : Int) - 1 - (p : Int)).toNat = k - 1 - p := by omega
          rcases (show p = 0 ∨ p = 1 ∨ p = 2 ∨ p = 3 ∨ p = 4 ∨ p = 5 ∨ p = 6 ∨ p = 7 from by omega) with e | e | e | e | e | e | e | e
          · subst e
            simp only [Nat.sub_zero] at hcell
            simp at hw1 ei
            go_wp2_with (go_at_call 13; refine (HD.out _).mono ?_; rintro e w' ⟨rfl, rfl⟩)
            go_round
            case rel => exact ⟨1, by omega, by omega, rfl, by rw [HV.out]; exact congrArg (Value.int .u32) (by omega)⟩
            case measure => simp [intOf]
          · subst e
            simp at hw1 ei
            go_wp2_with (go_at_call 13; refine (HD.out _).mono ?_; rintro e w' ⟨rfl, rfl⟩)
            go_round
            case rel => exact ⟨2, by omega, by omega, rfl, by rw [HV.out]; exact congrArg (Value.int .u32) (by omega)⟩
            case measure => simp [intOf]
          · subst e
            simp at hw1 ei
            go_wp2_with (go_at_call 13; refine (HD.out _).mono ?_; rintro e w' ⟨rfl, rfl⟩)
            go_round
            case rel => exact ⟨3, by omega, by omega, rfl, by rw [HV.out]; exact congrArg (Value.int .u32) (by omega)⟩
            case measure => simp [intOf]
          · subst e
            simp at hw1 ei
            go_wp2_with (go_at_call 13; refine (HD.out _).mono ?_; rintro e w' ⟨rfl, rfl⟩)
            go_round
            case rel => exact ⟨4, by omega, by omega, rfl, by rw [HV.out]; exact congrArg (Value.int .u32) (by omega)⟩
            case measure => simp [intOf]
          · subst e
            simp at hw1 ei
            go_wp2_with (go_at_call 13; refine (HD.out _).mono ?_; rintro e w' ⟨rfl, rfl⟩)
            go_round
            case rel => exact ⟨5, by omega, by omega, rfl, by rw [HV.out]; exact congrArg (Value.int .u32) (by omega)⟩
            case measure => simp [intOf]
          · subst e
            simp at hw1 ei
            go_wp2_with (go_at_call 13; refine (HD.out _).mono ?_; rintro e w' ⟨rfl, rfl⟩)
            go_round
            case rel => exact ⟨6, by omega, by omega, rfl, by rw [HV.out]; exact congrArg (Value.int .u32) (by omega)⟩
            case measure => simp [intOf]
          · subst e
            simp at hw1 ei
            go_wp2_with (go_at_call 13; refine (HD.out _).mono ?_; rintro e w' ⟨rfl, rfl⟩)
            go_round
            case rel => exact ⟨7, by omega, by omega, rfl, by rw [HV.out]; exact congrArg (Value.int .u32) (by omega)⟩
            case measure => simp [intOf]
          · subst e
            simp at hw1 ei
            go_wp2_with (go_at_call 13; refine (HD.out _).mono ?_; rintro e w' ⟨rfl, rfl⟩)
            go_round
            case rel => exact ⟨8, by omega, by omega, rfl, by rw [HV.out]; exact congrArg (Value.int .u32) (by omega)⟩
            case measure => simp [intOf]
        · have HE : Hid (wrap32 (hval l) = wrap32 (hval (l.drop (k - p)))) := by
            show _ = _
            rcases Nat.lt_or_ge p k with h | h
            · obtain rfl : p = 8 := by omega
              have := hval_last l (by rw [HL.out]; omega)
              rwa [HL.out] at this
            · obtain rfl : p = k := by omega
              rw [Nat.sub_self, List.drop_zero]
          have hbd := hval_bd (l.drop (k - p)) (fun c hc => by
            obtain ⟨j, hj, rfl⟩ := List.getElem_of_mem hc
            rw [List.length_drop, HL.out] at hj
            have := HX.out (k - p + j) (by omega)
            rw [List.getElem_drop]
            have hlen : k - p + j < l.length := by rw [HL.out]; omega
            simpa [hlen] using this)
          rw [HE.out] at HT
          generalize hval (l.drop (k - p)) = W at HT hbd
          clear hbd HX HE
          by_cases h8 : p < 8
          all_goals
            go_wp2_with (go_at_call 14; refine HT.out.mono ?_; rintro e w' ⟨rfl, rfl⟩)
            go_ret
            exact ⟨rfl, hb⟩

set_option maxHeartbeats 400000 in
theorem hexlaw_long (a : Option Addr) (n cap : Nat) (hn : ¬ n ≤ 1048576) (w : World) :
    Calls Try.prog 5 #[.slice a n cap] w fun e w' => e = .returned (.bool true) ∧ Below w.heap.size w w' := by
  have HG : Hid (∀ w, Calls Try.prog 12 #[.slice a n cap] w fun e w' => e = .returned (.bool false) ∧ w' = w) := fun w => guard12_no _ _ _ hn w
  go_enter Try.func5, Try.ntmps5
  go_wp2_with (go_at_call 12; refine (HG.out _).mono ?_; rintro e w' ⟨rfl, rfl⟩)
  go_ret
  exact ⟨rfl, Below.refl _ _⟩

set_option maxHeartbeats 1000000 in
theorem hexlaw_empty (a : Option Addr) (cap : Nat) (w : World) :
    Calls Try.prog 5 #[.slice a 0 cap] w fun e w' => e = .returned (.bool true) ∧ Below w.heap.size w w' := by
  have HG : Hid (∀ w, Calls Try.prog 12 #[.slice a 0 cap] w fun e w' => e = .returned (.bool true) ∧ w' = w) := fun w => guard12 _ _ _ (by omega) w
  have HCP : Hid (∀ w, Calls Try.prog 8 #[.slice a 0 cap] w fun e w' => (∃ a', e = .returned (.slice a' 0 0)) ∧ Below w.heap.size w w') := fun w => copy_empty a cap w
  have HT : Hid (∀ a w, Calls Try.prog 14 #[.slice a 0 0] w fun e w' => e = .returned (.int .i32 0) ∧ w' = w) := fun a w => hexRune_empty a 0 w
  go_enter Try.func5, Try.ntmps5
  go_wp2_with (go_at_call 12; refine (HG.out _).mono ?_; rintro e w' ⟨rfl, rfl⟩)
  refine wp_loop_rounds 1 ?_
  rw [rounds_succ]
  go_wp2_with fail
  refine (HCP.out _).mono ?_
  rintro e w1 ⟨⟨a', rfl⟩, hb⟩
  go_wp2_with fail
  refine wp_loop_rounds 1 ?_
  rw [rounds_succ]
  go_wp2_with fail
  refine (HT.out _ _).mono ?_
  rintro e w2 ⟨rfl, rfl⟩
  go_wp2
  go_ret
  exact ⟨rfl, hb⟩

end Go.Proofs.Qxb6601605a
