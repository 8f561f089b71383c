/-
  A MAP FROM STRINGS TO COUNTS THAT THE CALL ITSELF MADE: what it holds, as a plain function; look-up, store and length in those words.
-/
import Derived.Test.Qxb6601209aProg
import Derived.Maps.OwnSet
import Derived.Maps.OwnOps
import Derived.WalkKit
import Derived.WalkSpells
import Derived.Below
namespace Go.Proofs.Qxb6601209a.CountWalk
open Go.RowKit Go.Maps Go.WideMaps

theorem law : Keyed Try.prog 9 := string_keyed Try.underlying9
theorem zero3 (w : World) : (zeroValue 3).run Try.prog w = .ok (.int .i64 0) w := by kernel_rfl

/-- The map D holds just the counts f that are not 0; N of them. -/
structure Cm (D : DataW Unit) (f : List UInt8 → Nat) (N : Nat) : Prop where
  tidy : Tidy D
  at_ : ∀ l, D.atKey (.string l) (.lit (.int .i64 0)) = .lit (.int .i64 (f l : Nat))
  has_ : ∀ l, Maps.has D (.string l) = decide (0 < f l)
  size_ : Maps.size D = N

def upd (f : List UInt8 → Nat) (l : List UInt8) : List UInt8 → Nat := fun x => if x = l then f x + 1 else f x

/-- How many keys there are behind 'm[l]++'. -/
def szN (f : List UInt8 → Nat) (l : List UInt8) (N : Nat) : Nat := if 0 < f l then N else N + 1
theorem szN_hit {f : List UInt8 → Nat} {l : List UInt8} (h : 0 < f l) (N : Nat) : szN f l N = N := if_pos h
theorem szN_miss {f : List UInt8 → Nat} {l : List UInt8} (h : f l = 0) (N : Nat) : szN f l N = N + 1 := if_neg (by omega)
theorem Cm.none : Cm (.map []) (fun _ => 0) 0 := ⟨tidy_empty, fun _ => rfl, fun _ => rfl, rfl⟩
theorem Cm.put {D : DataW Unit} {f : List UInt8 → Nat} {N : Nat} (h : Cm D f N) (l : List UInt8) : Cm (D.put (.string l) (.lit (.int .i64 ((f l : Nat) + 1 : Int)))) (upd f l) (szN f l N) := by
  have hk : WideAt.IsKeyLit (.string l) := trivial
  refine ⟨h.tidy.put hk _, fun x => ?_, fun x => ?_, ?_⟩
  · by_cases e : x = l
    · subst e
      rw [atKey_put_same h.tidy.isMap hk]
      simp [upd]
    · rw [atKey_put_other (by simpa using e), h.at_ x]
      simp [upd, e]
  · by_cases e : x = l
    · subst e
      rw [has_put_same h.tidy.isMap hk]
      simp [upd]
    · rw [has_put_other (by simpa using e), h.has_ x]
      simp [upd, e]
  · rw [size_put h.tidy, h.has_ l, h.size_]
    simp [szN]

/-- Block b is such a map, of at most n entries. -/
def Mp (w : World) (b : Nat) (f : List UInt8 → Nat) (N n : Nat) : Prop := ∃ D : DataW Unit, w.ownsMap Try.prog 9 (plainElem Try.prog 3) b n D ∧ Cm D f N

theorem Mp.made (w : World) : Mp (w.alloc (.map #[] 0)) w.heap.size (fun _ => 0) 0 0 := ⟨_, World.ownsMap_made _ _ _ _, Cm.none⟩
theorem Mp.mono {w : World} {b : Nat} {f : List UInt8 → Nat} {N n m : Nat} (h : Mp w b f N n) (hm : n ≤ m) : Mp w b f N m := let ⟨D, h1, h2⟩ := h; ⟨D, h1.mono hm, h2⟩
theorem Mp.lt {w : World} {b : Nat} {f : List UInt8 → Nat} {N n : Nat} (h : Mp w b f N n) : b < w.heap.size := let ⟨_, h1, _⟩ := h; h1.lt
theorem Mp.le {w : World} {b : Nat} {f : List UInt8 → Nat} {N n : Nat} (h : Mp w b f N n) : N ≤ n := let ⟨_, h1, h2⟩ := h; h2.size_ ▸ h1.size_le
theorem Mp.same {w w' : World} {b : Nat} {f : List UInt8 → Nat} {N n : Nat} (h : Mp w b f N n) (hb : w'.heap[b]? = w.heap[b]?) : Mp w' b f N n := by
  obtain ⟨D, ⟨es, clock, h1, r⟩, h2⟩ := h
  exact ⟨D, ⟨es, clock, hb.trans h1, r⟩, h2⟩
theorem Mp.setCell {w : World} {b : Nat} {f : List UInt8 → Nat} {N n : Nat} (h : Mp w b f N n) {a : Addr} (ha : b ≠ a.block) (u : Value) : Mp (w.setCell a u) b f N n := h.same (Below.heap_setCell _ _ _ _ ha)

theorem Mp.look {w : World} {b : Nat} {f : List UInt8 → Nat} {N n : Nat} (h : Mp w b f N n) {s : ByteArray} (hs : s.size ≤ maxLen) :
    (Instr.lookup 30 (.map (some b)) (.string s) false).run Try.prog w = .ok (.int .i64 (f s.data.toList : Nat)) w := by
  obtain ⟨D, h1, h2⟩ := h
  obtain ⟨c, hrun, hat, _⟩ := h1.lookup_int law Try.underlying30 Try.underlying3 (zero3 w) (keyOf_string_mk Try.underlying9 hs)
  rw [h2.at_] at hat
  simp only [DataW.lit.injEq, Lit.int.injEq, true_and] at hat
  rw [hrun, hat]
theorem Mp.look_ok {w : World} {b : Nat} {f : List UInt8 → Nat} {N n : Nat} (h : Mp w b f N n) {s : ByteArray} (hs : s.size ≤ maxLen) :
    (Instr.lookup 30 (.map (some b)) (.string s) true).run Try.prog w = .ok (.tuple #[.int .i64 (f s.data.toList : Nat), .bool (decide (0 < f s.data.toList))]) w := by
  obtain ⟨D, h1, h2⟩ := h
  obtain ⟨v, ps, hrun, hv⟩ := h1.look_ok law Try.underlying30 (zero3 w) (zd := .lit (.int .i64 0)) (zp := []) (plainElem_int Try.underlying3 (by decide)) (keyOf_string_mk Try.underlying9 hs)
  rw [h2.at_] at hv
  obtain ⟨c, rfl, hc, _⟩ := plainElem_int_inv Try.underlying3 hv
  simp only [Prod.mk.injEq, DataW.lit.injEq, Lit.int.injEq, true_and] at hc
  rw [hrun, h2.has_, hc.1]
theorem Mp.len {w : World} {b : Nat} {f : List UInt8 → Nat} {N n : Nat} (h : Mp w b f N n) (ty : TypeId) : (Builtin.len_ #[30] ty #[.map (some b)]).run Try.prog w = .ok (.int .i64 (N : Nat)) w := by
  obtain ⟨D, h1, h2⟩ := h
  rw [h1.len Try.underlying30 ty, h2.size_]
theorem look_none (w : World) {s : ByteArray} (hs : s.size ≤ maxLen) : (Instr.lookup 30 (.map none) (.string s) false).run Try.prog w = .ok (.int .i64 0) w := by
  simpa using Maps.look_nil (w := w) false law Try.underlying30 (zero3 w) (keyOf_string_mk Try.underlying9 hs)
theorem look_ok_none (w : World) {s : ByteArray} (hs : s.size ≤ maxLen) : (Instr.lookup 30 (.map none) (.string s) true).run Try.prog w = .ok (.tuple #[.int .i64 0, .bool false]) w := by
  simpa using Maps.look_nil (w := w) true law Try.underlying30 (zero3 w) (keyOf_string_mk Try.underlying9 hs)
theorem len_none (w : World) (ty : TypeId) : (Builtin.len_ #[30] ty #[.map none]).run Try.prog w = .ok (.int .i64 0) w := Maps.len_nil Try.underlying30 ty

/-- 'm[s]++' : the store at the operation. -/
theorem wpList_upd (w : World) {ops : Array Oper} {rest : List Oper} {o : Oper} {a : Act} {Q : Exit → Act → World → Prop}
    (hg : o.guard = none) (m x v : Operand) (hop : o.op = Op.mapUpdate 30 m x v) (b : Nat) (f : List UInt8 → Nat) (N n : Nat) (hm : a.eval m = .map (some b)) (h : Mp w b f N n) (hn : n ≤ 1048576) (s : ByteArray) (hs : s.size ≤ maxLen)
    (c : Int) (hx : a.eval x = .string s) (hv : a.eval v = .int .i64 c) (hc : c = (f s.data.toList : Nat) + 1) (hb : f s.data.toList ≤ 1048576)
    (hK : ∀ w', Mp w' b (upd f s.data.toList) (szN f s.data.toList N) (n + 1) → w.grownBy w' (some b) → wpList Try.prog ops Q rest (a.put o.dst undef) w') :
    wpList Try.prog ops Q (o :: rest) a w := by
  obtain ⟨D, h1, h2⟩ := h
  subst hc
  refine wpList_mapUpdate_own w hg m x v 30 hop 9 3 law Try.underlying30 _ b n D hm h1 (by unfold maxLen; omega) _ _ _ hx hv (keyOf_string_mk Try.underlying9 hs) _ [] (plainElem_int Try.underlying3 (WalkArith.wf_i64 (by omega))) ?_
  intro w' h3 hgr
  exact hK w' ⟨_, h3, h2.put _⟩ hgr
#print axioms wpList_upd
#print axioms Mp.look_ok
end Go.Proofs.Qxb6601209a.CountWalk
