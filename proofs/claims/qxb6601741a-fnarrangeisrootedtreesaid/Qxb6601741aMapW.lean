/-
  Maps keyed by strings that a call makes, told by plain functions.
-/
import Derived.Test.Qxb6601741aRows
import Derived.WalkKit
import Derived.WalkLawsBesides
import Derived.Maps.OwnSet
import Derived.Maps.OwnOps
import Derived.Deep.OwnRows
namespace Go.Proofs.Qxb6601741a
open Go.RowKit Go.Maps

theorem keyed9 : Keyed Try.prog 9 := string_keyed Try.underlying9
theorem zero3 (w : World) : (zeroValue 3).run Try.prog w = .ok (.int .i64 0) w := by kernel_rfl
theorem zero4 (w : World) : (zeroValue 4).run Try.prog w = .ok (.bool false) w := by kernel_rfl

theorem keyOf9 (s : ByteArray) (h : s.size ≤ maxLen) : keyOf Try.prog 9 (.string s) = some (.string s.data.toList) := Go.WideMaps.keyOf_string_mk Try.underlying9 h

/-- Block b is a map from strings to ints that holds f. -/
def IMap (w : World) (b n : Nat) (f : List UInt8 → Option Int) : Prop :=
  ∃ D : DataW Unit, w.ownsMap Try.prog 9 (plainElem Try.prog 3) b n D ∧
    ∀ s : List UInt8, (f s = none → Maps.has D (.string s) = false) ∧ (∀ v, f s = some v → Maps.has D (.string s) = true ∧ ∀ z, D.atKey (.string s) z = .lit (.int .i64 v))

/-- Block b is a map from strings to bools: true at the strings of f, nothing elsewhere. -/
def BMap (w : World) (b n : Nat) (f : List UInt8 → Bool) : Prop :=
  ∃ D : DataW Unit, w.ownsMap Try.prog 9 (plainElem Try.prog 4) b n D ∧
    ∀ s : List UInt8, (f s = false → Maps.has D (.string s) = false) ∧ (f s = true → Maps.has D (.string s) = true ∧ ∀ z, D.atKey (.string s) z = .lit (.bool true))

def iput (f : List UInt8 → Option Int) (s : List UInt8) (v : Int) : List UInt8 → Option Int := fun t => if t = s then some v else f t
def bput (f : List UInt8 → Bool) (s : List UInt8) : List UInt8 → Bool := fun t => if t = s then true else f t

theorem IMap.made (w : World) : IMap (w.alloc (.map #[] 0)) w.heap.size 0 (fun _ => none) :=
  ⟨.map [], World.ownsMap_made w _ _ _, fun s => ⟨fun _ => rfl, fun v hv => by simp at hv⟩⟩
theorem BMap.made (w : World) : BMap (w.alloc (.map #[] 0)) w.heap.size 0 (fun _ => false) :=
  ⟨.map [], World.ownsMap_made w _ _ _, fun s => ⟨fun _ => rfl, fun hv => by simp at hv⟩⟩

theorem IMap.kept {w w' : World} {b n : Nat} {f : List UInt8 → Option Int} {row : Option Nat} (h : IMap w b n f) (hg : w.grownBy w' row) (hne : some b ≠ row) : IMap w' b n f := by
  obtain ⟨D, h1, h2⟩ := h; exact ⟨D, h1.kept hg hne, h2⟩
theorem BMap.kept {w w' : World} {b n : Nat} {f : List UInt8 → Bool} {row : Option Nat} (h : BMap w b n f) (hg : w.grownBy w' row) (hne : some b ≠ row) : BMap w' b n f := by
  obtain ⟨D, h1, h2⟩ := h; exact ⟨D, h1.kept hg hne, h2⟩
theorem IMap.alloc {w : World} {b n : Nat} {f : List UInt8 → Option Int} (h : IMap w b n f) (o : Obj) : IMap (w.alloc o) b n f := by
  obtain ⟨D, h1, h2⟩ := h; exact ⟨D, h1.alloc o, h2⟩
theorem BMap.alloc {w : World} {b n : Nat} {f : List UInt8 → Bool} (h : BMap w b n f) (o : Obj) : BMap (w.alloc o) b n f := by
  obtain ⟨D, h1, h2⟩ := h; exact ⟨D, h1.alloc o, h2⟩
theorem IMap.drew {w : World} {b n : Nat} {f : List UInt8 → Option Int} (h : IMap w b n f) : IMap w.drew b n f := h
theorem BMap.drew {w : World} {b n : Nat} {f : List UInt8 → Bool} (h : BMap w b n f) : BMap w.drew b n f := h
theorem IMap.setCell {w : World} {b n : Nat} {f : List UInt8 → Option Int} (h : IMap w b n f) {a : Addr} (ha : b ≠ a.block) (u : Value) : IMap (w.setCell a u) b n f := by
  obtain ⟨D, h1, h2⟩ := h; exact ⟨D, h1.setCell ha u, h2⟩
theorem BMap.setCell {w : World} {b n : Nat} {f : List UInt8 → Bool} (h : BMap w b n f) {a : Addr} (ha : b ≠ a.block) (u : Value) : BMap (w.setCell a u) b n f := by
  obtain ⟨D, h1, h2⟩ := h; exact ⟨D, h1.setCell ha u, h2⟩
theorem IMap.of_block {w w' : World} {b n : Nat} {f : List UInt8 → Option Int} (h : IMap w b n f) (e : w'.heap[b]? = w.heap[b]?) : IMap w' b n f := by
  obtain ⟨D, ⟨es, clock, hb, F, hs, hD⟩, h2⟩ := h; exact ⟨D, ⟨es, clock, e.trans hb, F, hs, hD⟩, h2⟩
theorem BMap.of_block {w w' : World} {b n : Nat} {f : List UInt8 → Bool} (h : BMap w b n f) (e : w'.heap[b]? = w.heap[b]?) : BMap w' b n f := by
  obtain ⟨D, ⟨es, clock, hb, F, hs, hD⟩, h2⟩ := h; exact ⟨D, ⟨es, clock, e.trans hb, F, hs, hD⟩, h2⟩
theorem IMap.lt {w : World} {b n : Nat} {f : List UInt8 → Option Int} (h : IMap w b n f) : b < w.heap.size := by obtain ⟨D, h1, _⟩ := h; exact h1.lt
theorem BMap.lt {w : World} {b n : Nat} {f : List UInt8 → Bool} (h : BMap w b n f) : b < w.heap.size := by obtain ⟨D, h1, _⟩ := h; exact h1.lt
theorem IMap.congr {w : World} {b n : Nat} {f g : List UInt8 → Option Int} (h : IMap w b n f) (e : ∀ s, f s = g s) : IMap w b n g := by
  obtain rfl : f = g := funext e; exact h
theorem BMap.congr {w : World} {b n : Nat} {f g : List UInt8 → Bool} (h : BMap w b n f) (e : ∀ s, f s = g s) : BMap w b n g := by
  obtain rfl : f = g := funext e; exact h

/-- 'v, ok := m[s]'. -/
theorem IMap.look_ok {w : World} {b n : Nat} {f : List UInt8 → Option Int} (h : IMap w b n f) (s : ByteArray) (hs : s.size ≤ maxLen) :
    (Instr.lookup 35 (.map (some b)) (.string s) true).run Try.prog w = .ok (.tuple #[.int .i64 ((f s.data.toList).getD 0), .bool (f s.data.toList).isSome]) w := by
  obtain ⟨D, h1, h2⟩ := h
  obtain ⟨v, ps, hrun, hv⟩ := h1.look_ok keyed9 Try.underlying35 (zero3 w) (plainElem_int (H := Unit) Try.underlying3 (a := 0) (by decide)) (keyOf9 s hs)
  obtain ⟨c, rfl, hc, hwc⟩ := plainElem_int_inv Try.underlying3 hv
  have hc1 : D.atKey (.string s.data.toList) (.lit (.int .i64 0)) = .lit (.int .i64 c) := congrArg Prod.fst hc
  rw [hrun]
  cases e : f s.data.toList with
  | none =>
    have hh := (h2 s.data.toList).1 e
    rw [atKey_of_not_has hh] at hc1
    rw [hh]
    simp at hc1
    simp [← hc1]
  | some v =>
    obtain ⟨hh, ha⟩ := (h2 s.data.toList).2 v e
    rw [ha] at hc1
    rw [hh]
    simp at hc1
    simp [← hc1]

/-- 'm[s]' in a map of ints. -/
theorem IMap.look {w : World} {b n : Nat} {f : List UInt8 → Option Int} (h : IMap w b n f) (s : ByteArray) (hs : s.size ≤ maxLen) :
    (Instr.lookup 35 (.map (some b)) (.string s) false).run Try.prog w = .ok (.int .i64 ((f s.data.toList).getD 0)) w := by
  obtain ⟨D, h1, h2⟩ := h
  obtain ⟨v, ps, hrun, hv⟩ := h1.lookup keyed9 Try.underlying35 (zero3 w) (plainElem_int (H := Unit) Try.underlying3 (a := 0) (by decide)) (keyOf9 s hs)
  obtain ⟨c, rfl, hc, hwc⟩ := plainElem_int_inv Try.underlying3 hv
  have hc1 : D.atKey (.string s.data.toList) (.lit (.int .i64 0)) = .lit (.int .i64 c) := congrArg Prod.fst hc
  rw [hrun]
  cases e : f s.data.toList with
  | none =>
    have hh := (h2 s.data.toList).1 e
    rw [atKey_of_not_has hh] at hc1
    simp at hc1
    simp [← hc1]
  | some v =>
    obtain ⟨hh, ha⟩ := (h2 s.data.toList).2 v e
    rw [ha] at hc1
    simp at hc1
    simp [← hc1]

theorem plainElem_bool_inv {v : Value} {z : DataW Unit × List MemPlace} (h : plainElem Try.prog 4 v = some z) : ∃ a, v = .bool a ∧ z = (.lit (.bool a), []) := by
  unfold plainElem at h
  rw [Try.underlying4] at h
  cases v <;> simp at h
  exact ⟨_, rfl, h.symm⟩

/-- 'm[s]' in a map of bools. -/
theorem BMap.look {w : World} {b n : Nat} {f : List UInt8 → Bool} (h : BMap w b n f) (s : ByteArray) (hs : s.size ≤ maxLen) :
    (Instr.lookup 34 (.map (some b)) (.string s) false).run Try.prog w = .ok (.bool (f s.data.toList)) w := by
  obtain ⟨D, h1, h2⟩ := h
  obtain ⟨v, ps, hrun, hv⟩ := h1.lookup keyed9 Try.underlying34 (zero4 w) (plainElem_bool (H := Unit) Try.underlying4 false) (keyOf9 s hs)
  obtain ⟨c, rfl, hc⟩ := plainElem_bool_inv hv
  have hc1 : D.atKey (.string s.data.toList) (.lit (.bool false)) = .lit (.bool c) := congrArg Prod.fst hc
  rw [hrun]
  cases e : f s.data.toList with
  | false =>
    have hh := (h2 s.data.toList).1 e
    rw [atKey_of_not_has hh] at hc1
    simp at hc1
    simp [← hc1]
  | true =>
    obtain ⟨hh, ha⟩ := (h2 s.data.toList).2 e
    rw [ha] at hc1
    simp at hc1
    simp [← hc1]

theorem str_ne {s t : List UInt8} (h : s ≠ t) : Lit.string s ≠ Lit.string t := fun e => h (by cases e; rfl)

/-- 'm[s] = v' in a map of ints. -/
theorem IMap.update {w : World} {b n : Nat} {f : List UInt8 → Option Int} (h : IMap w b n f) (hn : n < maxLen) (s : ByteArray) (hs : s.size ≤ maxLen) (v : Int) (hv : (Lit.int .i64 v).wf = true) :
    ∃ w', (Instr.mapUpdate 35 (.map (some b)) (.string s) (.int .i64 v)).run Try.prog w = .ok () w' ∧ IMap w' b (n + 1) (iput f s.data.toList v) ∧ w.grownBy w' (some b) := by
  obtain ⟨D, h1, h2⟩ := h
  obtain ⟨w', hrun, r1, r2⟩ := h1.update keyed9 Try.underlying35 hn (keyOf9 s hs) (plainElem_int (H := Unit) Try.underlying3 hv)
  refine ⟨w', hrun, ⟨_, r1, fun t => ?_⟩, r2⟩
  by_cases e : t = s.data.toList
  · subst e
    refine ⟨fun hf => by simp [iput] at hf, fun v' hf => ?_⟩
    simp [iput] at hf
    subst hf
    exact ⟨has_put_same h1.isMap (by trivial) _, fun z => atKey_put_same h1.isMap (by trivial) _ z⟩
  · have hne := str_ne e
    have e1 : iput f s.data.toList v t = f t := by simp [iput, e]
    rw [e1, has_put_other hne]
    refine ⟨(h2 t).1, fun v' hf => ⟨((h2 t).2 v' hf).1, fun z => ?_⟩⟩
    rw [atKey_put_other hne]
    exact ((h2 t).2 v' hf).2 z

/-- 'm[s] = true' in a map of bools. -/
theorem BMap.update {w : World} {b n : Nat} {f : List UInt8 → Bool} (h : BMap w b n f) (hn : n < maxLen) (s : ByteArray) (hs : s.size ≤ maxLen) :
    ∃ w', (Instr.mapUpdate 34 (.map (some b)) (.string s) (.bool true)).run Try.prog w = .ok () w' ∧ BMap w' b (n + 1) (bput f s.data.toList) ∧ w.grownBy w' (some b) := by
  obtain ⟨D, h1, h2⟩ := h
  obtain ⟨w', hrun, r1, r2⟩ := h1.update keyed9 Try.underlying34 hn (keyOf9 s hs) (plainElem_bool (H := Unit) Try.underlying4 true)
  refine ⟨w', hrun, ⟨_, r1, fun t => ?_⟩, r2⟩
  by_cases e : t = s.data.toList
  · subst e
    refine ⟨fun hf => by simp [bput] at hf, fun hf => ?_⟩
    exact ⟨has_put_same h1.isMap (by trivial) _, fun z => atKey_put_same h1.isMap (by trivial) _ z⟩
  · have hne := str_ne e
    have e1 : bput f s.data.toList t = f t := by simp [bput, e]
    rw [e1, has_put_other hne]
    refine ⟨(h2 t).1, fun hf => ⟨((h2 t).2 hf).1, fun z => ?_⟩⟩
    rw [atKey_put_other hne]
    exact ((h2 t).2 hf).2 z
end Go.Proofs.Qxb6601741a
