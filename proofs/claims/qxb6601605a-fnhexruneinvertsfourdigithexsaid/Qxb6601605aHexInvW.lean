/-
  FnHexRuneInvertsFourDigitHex, walked.
-/
import Derived.Test.Qxb6601605aHexW
import Derived.Deep.OwnRows
namespace Go.Proofs.Qxb6601605a
open Go.RowKit
theorem Try.info5 : (Try.prog.info? 5).map (fun i => (i.zero, i.size, i.bytes)) = some (some (.int .u8 0), 1, 1) := by kernel_rfl

/-- What holds behind k rounds: the k first digits are laid. -/
def InvRel (w : World) (v : Int) (k : Nat) (wr : World) : Prop :=
  ∃ zs : List Int, zs.length = k ∧ (∀ c ∈ zs, isHex c) ∧ hval zs = v / 16 ^ (4 - k) ∧ wr.rowIs w.heap.size 5 4 (fun j => .int .u8 (zs.getD j 0)) ∧ Below w.heap.size w wr

theorem InvRel.start (w : World) (v : Int) (h0 : 0 ≤ v) (h1 : v ≤ 65535) : InvRel w v 0 (w.alloc (.cells (madeCells #[.int .u8 0] 4) 5)) :=
  ⟨[], rfl, by simp, by simp [hval]; omega, (World.rowIs_made _ _ _ _).congr (fun i _ => by simp), (Below.refl _ _).alloc (Nat.le_refl _) _⟩

theorem InvRel.step {w wr : World} {v : Int} {k : Nat} (hk : k < 4) (h : InvRel w v k wr) (c : Int) (hc : isHex c) (hn : 16 * (v / 16 ^ (4 - k)) + hv c = v / 16 ^ (4 - (k + 1))) :
    InvRel w v (k + 1) (wr.setCell ⟨w.heap.size, k, none⟩ (.int .u8 c)) := by
  obtain ⟨zs, hl, hh, hval, hrow, hb⟩ := h
  refine ⟨zs ++ [c], by simp [hl], ?_, ?_, ?_, hb.setCell (Nat.le_refl _) _⟩
  · intro x hx
    rcases List.mem_append.1 hx with h | h
    · exact hh x h
    · simp at h; subst h; exact hc
  · rw [hval_snoc, hval, hn]
  · refine (hrow.set k (.int .u8 c)).congr fun i hi => ?_
    by_cases e : i = k
    · subst e; subst hl; simp
    · by_cases hlt : i < k
      · simp only [if_neg e]
        simp [List.getElem?_append, hl, hlt]
      · simp only [if_neg e]
        have : k < i := by omega
        have e2 : ¬ i < k := by omega
        have e3 : i - k ≠ 0 := by omega
        simp [List.getElem?_append, hl, e2, e3]

theorem and15 (x : Int) (h0 : 0 ≤ x) (h1 : x ≤ 65535) : bits .and .i32 x 15 = x % 16 := by
  exact bits_mask .i32 31 (by decide) wraps_i32 4 (by decide) x h0 (by omega)

theorem hex_low {n c : Int} (h0 : 0 ≤ n) (h1 : n < 10) (hc : c = 48 + n) : isHex c ∧ hv c = n := by
  subst hc; unfold isHex hv; refine ⟨by omega, ?_⟩; rw [if_neg (by omega), if_neg (by omega)]; omega
theorem hex_up {n c : Int} (h0 : 10 ≤ n) (h1 : n < 16) (hc : c = 55 + n) : isHex c ∧ hv c = n := by
  subst hc; unfold isHex hv; refine ⟨by omega, ?_⟩; rw [if_neg (by omega), if_pos (by omega)]; omega
theorem hex_dn {n c : Int} (h0 : 10 ≤ n) (h1 : n < 16) (hc : c = 87 + n) : isHex c ∧ hv c = n := by
  subst hc; unfold isHex hv; refine ⟨by omega, ?_⟩; rw [if_pos (by omega)]; omega

theorem step_low {w wr : World} {v : Int} {k : Nat} (n c : Int) (hk : k < 4) (h : InvRel w v k wr) (h0 : 0 ≤ n) (h1 : n < 10) (hc : c = 48 + n) (hn : 16 * (v / 16 ^ (4 - k)) + n = v / 16 ^ (4 - (k + 1))) :
    InvRel w v (k + 1) (wr.setCell ⟨w.heap.size, k, none⟩ (.int .u8 c)) := by
  obtain ⟨a, b⟩ := hex_low h0 h1 hc
  exact InvRel.step hk h c a (by rw [b]; exact hn)
theorem step_up {w wr : World} {v : Int} {k : Nat} (n c : Int) (hk : k < 4) (h : InvRel w v k wr) (h0 : 10 ≤ n) (h1 : n < 16) (hc : c = 55 + n) (hn : 16 * (v / 16 ^ (4 - k)) + n = v / 16 ^ (4 - (k + 1))) :
    InvRel w v (k + 1) (wr.setCell ⟨w.heap.size, k, none⟩ (.int .u8 c)) := by
  obtain ⟨a, b⟩ := hex_up h0 h1 hc
  exact InvRel.step hk h c a (by rw [b]; exact hn)
theorem step_dn {w wr : World} {v : Int} {k : Nat} (n c : Int) (hk : k < 4) (h : InvRel w v k wr) (h0 : 10 ≤ n) (h1 : n < 16) (hc : c = 87 + n) (hn : 16 * (v / 16 ^ (4 - k)) + n = v / 16 ^ (4 - (k + 1))) :
    InvRel w v (k + 1) (wr.setCell ⟨w.heap.size, k, none⟩ (.int .u8 c)) := by
  obtain ⟨a, b⟩ := hex_dn h0 h1 hc
  exact InvRel.step hk h c a (by rw [b]; exact hn)

set_option maxHeartbeats 1000000 in
theorem inv_walk (v : Int) (u : Int) (h0 : 0 ≤ v) (h1 : v ≤ 65535) (w : World) :
    Calls Try.prog 6 #[.int .i32 v, .int .u8 u] w fun e w' => e = .returned (.bool true) ∧ Below w.heap.size w w' := by
  have hmk : ∀ w, (Instr.makeSlice 22 (.int .i64 4) (.int .i64 4)).run Try.prog w = .ok (.slice (some ⟨w.heap.size, 0, none⟩) 4 4) (w.alloc (.cells (madeCells #[.int .u8 0] 4) 5)) :=
    run_make_row' (P := Try.prog) 22 5 (.int .u8 0) 1 Try.underlying22 Try.info5 rfl .i64 .i64 4 (by omega) (by omega)
  go_enter Try.func6, Try.ntmps6
  go_wp2
  go_loopw [6] (fun i wr => ∃ (k : Nat), k ≤ 4 ∧ i = .int .i64 k ∧ InvRel w v k wr) (fun i _ => 4 - (intOf i).toNat)
  case atStart => exact ⟨0, by omega, rfl, InvRel.start w v h0 h1⟩
  case round =>
    obtain ⟨k, hk, rfl, hR⟩ := hrel
    clear hmk
    have hc0 : ∀ j, j < 4 → ∃ x, wr.cell? ⟨w.heap.size, j, none⟩ = some x := by
      obtain ⟨zs, _, _, _, hrow, _⟩ := hR
      exact fun j hj => ⟨_, hrow.cell hj⟩
    have hf0 : ∀ j, wr.frozen? ⟨w.heap.size, j, none⟩ = false := by
      obtain ⟨zs, _, _, _, hrow, _⟩ := hR
      exact fun j => hrow.frozen j
    rcases (show k = 0 ∨ k = 1 ∨ k = 2 ∨ k = 3 ∨ k = 4 from by omega) with e | e | e | e | e
    · subst e
      have hn := and15 (v / 4096) (by omega) (by omega)
      obtain ⟨x, hx⟩ := hc0 0 (by omega)
      have hx' := hf0 0
      clear hc0 hf0
      go_wp2
      · go_round
        case rel => exact ⟨1, by omega, by go_num, step_low (v / 4096 % 16) _ (by omega) hR (by omega) (by omega) (by omega) (by simp; omega)⟩
        case measure => simp [intOf]
      · go_round
        case rel => exact ⟨1, by omega, by go_num, step_up (v / 4096 % 16) _ (by omega) hR (by omega) (by omega) (by omega) (by simp; omega)⟩
        case measure => simp [intOf]
      · go_round
        case rel => exact ⟨1, by omega, by go_num, step_dn (v / 4096 % 16) _ (by omega) hR (by omega) (by omega) (by omega) (by simp; omega)⟩
        case measure => simp [intOf]
    · subst e
      have hn := and15 (v / 256) (by omega) (by omega)
      obtain ⟨x, hx⟩ := hc0 1 (by omega)
      have hx' := hf0 1
      clear hc0 hf0
      go_wp2
      · go_round
        case rel => exact ⟨2, by omega, by go_num, step_low (v / 256 % 16) _ (by omega) hR (by omega) (by omega) (by omega) (by simp; omega)⟩
        case measure => simp [intOf]
      · go_round
        case rel => exact ⟨2, by omega, by go_num, step_up (v / 256 % 16) _ (by omega) hR (by omega) (by omega) (by omega) (by simp; omega)⟩
        case measure => simp [intOf]
      · go_round
        case rel => exact ⟨2, by omega, by go_num, step_dn (v / 256 % 16) _ (by omega) hR (by omega) (by omega) (by omega) (by simp; omega)⟩
        case measure => simp [intOf]
    · subst e
      have hn := and15 (v / 16) (by omega) (by omega)
      obtain ⟨x, hx⟩ := hc0 2 (by omega)
      have hx' := hf0 2
      clear hc0 hf0
      go_wp2
      · go_round
        case rel => exact ⟨3, by omega, by go_num, step_low (v / 16 % 16) _ (by omega) hR (by omega) (by omega) (by omega) (by simp; omega)⟩
        case measure => simp [intOf]
      · go_round
        case rel => exact ⟨3, by omega, by go_num, step_up (v / 16 % 16) _ (by omega) hR (by omega) (by omega) (by omega) (by simp; omega)⟩
        case measure => simp [intOf]
      · go_round
        case rel => exact ⟨3, by omega, by go_num, step_dn (v / 16 % 16) _ (by omega) hR (by omega) (by omega) (by omega) (by simp; omega)⟩
        case measure => simp [intOf]
    · subst e
      have hn := and15 (v) (by omega) (by omega)
      obtain ⟨x, hx⟩ := hc0 3 (by omega)
      have hx' := hf0 3
      clear hc0 hf0
      go_wp2
      · go_round
        case rel => exact ⟨4, by omega, by go_num, step_low (v % 16) _ (by omega) hR (by omega) (by omega) (by omega) (by simp; omega)⟩
        case measure => simp [intOf]
      · go_round
        case rel => exact ⟨4, by omega, by go_num, step_up (v % 16) _ (by omega) hR (by omega) (by omega) (by omega) (by simp; omega)⟩
        case measure => simp [intOf]
      · go_round
        case rel => exact ⟨4, by omega, by go_num, step_dn (v % 16) _ (by omega) hR (by omega) (by omega) (by omega) (by simp; omega)⟩
        case measure => simp [intOf]
    · subst e
      clear hc0 hf0
      obtain ⟨zs, hl, hh, hv, hrow, hb⟩ := hR
      have HC : Calls Try.prog 14 #[.slice (some ⟨w.heap.size, 0, none⟩) 4 4] wr fun e w' => e = .returned (.int .i32 (hx (zs.take 4))) ∧ w' = wr :=
        zzHexRune_any _ _ _ _ zs _ (by omega) (by omega) (fun k hk => by simpa using hrow.cell hk) (fun k hk => hh _ (by
          have : k < zs.length := by omega
          simp [this]))
      have hr : hx (zs.take 4) = v := by
        rw [List.take_of_length_le (by omega), hx_hval, hv]
        simp [wrap32]; omega
      rw [hr] at HC
      have HH : Hid (Calls Try.prog 14 #[.slice (some ⟨w.heap.size, 0, none⟩) 4 4] wr fun e w' => e = .returned (.int .i32 v) ∧ w' = wr) := HC
      clear HC hr hl hv hrow hh
      go_wp2_with (go_at_call 14; refine (HH.out).mono ?_; rintro e w' ⟨rfl, rfl⟩)
      go_ret
      exact ⟨ret_bool (by simp), hb⟩
end Go.Proofs.Qxb6601605a
