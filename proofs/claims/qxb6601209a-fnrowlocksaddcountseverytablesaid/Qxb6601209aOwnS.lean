/-
  A ROW OF STRINGS THAT THE CALL ITSELF MADE: one block, known whole.
-/
import Derived.Test.Qxb6601209aSmall
import Derived.OwnWalk
namespace Go.Proofs.Qxb6601209a.CountWalk
open Go.RowKit Go.Maps Go.WideMaps

theorem info9 : (Try.prog.info? 9).map (fun i => (i.zero, i.size, i.bytes)) = some (some (.string ByteArray.empty), 1, 16) := by kernel_rfl
def OwnS (w : World) (g : Nat) (ss : List ByteArray) : Prop := w.heap[g]? = some (.cells (ss.map Value.string).toArray 9 (0, 0))
theorem OwnS.lt {w : World} {g : Nat} {ss : List ByteArray} (h : OwnS w g ss) : g < w.heap.size := lt_of_block h
theorem OwnS.cell {w : World} {g : Nat} {ss : List ByteArray} (h : OwnS w g ss) (j : Nat) (hj : j < ss.length) : w.cell? ⟨g, j, none⟩ = some (.string (ss.getD j ByteArray.empty)) := by
  have h' : w.heap[g]? = _ := h
  simp [World.cell?, h', hj]
theorem OwnS.frozen {w : World} {g : Nat} {ss : List ByteArray} (h : OwnS w g ss) (j : Nat) : w.frozen? ⟨g, j, none⟩ = false := by
  have h' : w.heap[g]? = _ := h
  simp [World.frozen?, h']
theorem OwnS.same {w w' : World} {g : Nat} {ss : List ByteArray} (h : OwnS w g ss) (hb : w'.heap[g]? = w.heap[g]?) : OwnS w' g ss := hb.trans h
theorem OwnS.setCell {w : World} {g : Nat} {ss : List ByteArray} (h : OwnS w g ss) (k : Nat) (v : ByteArray) : OwnS (w.setCell ⟨g, k, none⟩ (.string v)) g (ss.set k v) := by
  have := setCell_block (j := k) (v := .string v) h
  unfold OwnS
  rw [this]
  simp

/-- 'make([]string, n)'. -/
theorem wpList_make_strs (w : World) {ops : Array Oper} {rest : List Oper} {o : Oper} {a : Act} {Q : Exit → Act → World → Prop}
    (hg : o.guard = none) (l c : Operand) (hop : o.op = Op.makeSlice 26 l c) (kl kc : IntKind) (L C : Int) (n : Nat) (hl : a.eval l = .int kl L) (hc : a.eval c = .int kc C) (hL : L = (n : Int)) (hC : C = (n : Int)) (hn : n ≤ 4194304)
    (hK : ∀ w', OwnS w' w.heap.size (List.replicate n ByteArray.empty) → Below w.heap.size w w' → wpList Try.prog ops Q rest (a.put o.dst (.slice (some ⟨w.heap.size, 0, none⟩) n n)) w') :
    wpList Try.prog ops Q (o :: rest) a w := by
  obtain ⟨i0, hi, hz0, hz1, hz2⟩ := info_parts info9
  refine wpList_make_full w hg l c 26 hop w.heap.size 9 i0 (.string ByteArray.empty) 1 Try.underlying26 hi hz0 hz1 kl kc L C n hl hc hL hC (by rw [hz2]; omega) (by unfold maxLen; omega) (Nat.le_refl _) ?_
  intro w' hown hgrow
  refine hK w' ?_ ?_
  · obtain ⟨h1, h2⟩ := hown
    rcases h2 with ⟨h2, _⟩ | ⟨g, cap, cur, hv, _, hh, _, _, hsz, htk⟩
    · cases h2
    · simp only [Value.slice.injEq, Option.some.injEq, Addr.mk.injEq] at hv
      obtain ⟨⟨rfl, _, _⟩, _, rfl⟩ := hv
      unfold OwnS
      rw [hh]
      have e : cur.toList = (List.replicate n ByteArray.empty).map Value.string := by
        rw [← List.take_of_length_le (l := cur.toList) (i := n * 1) (by simp [hsz])]
        rw [htk]
        apply List.ext_getElem
        · simp [madeCells]
        · intro j h1 h2
          simp [madeCells, Value.cells, Nat.mod_one]
      rw [← e]
  · exact (Below.refl _ _).grown hgrow (Nat.le_refl _) (fun k hk => by cases hk)

/-- Filled as far as k. -/
def fill (ss : List ByteArray) (k : Nat) : List ByteArray := ss.take k ++ List.replicate (ss.length - k) ByteArray.empty
theorem fill_zero (ss : List ByteArray) : fill ss 0 = List.replicate ss.length ByteArray.empty := by simp [fill]
theorem fill_length (ss : List ByteArray) (k : Nat) (hk : k ≤ ss.length) : (fill ss k).length = ss.length := by simp [fill]; omega
theorem fill_step (ss : List ByteArray) (k : Nat) (hk : k < ss.length) : (fill ss k).set k (ss.getD k ByteArray.empty) = fill ss (k + 1) := by
  unfold fill
  have h1 : (ss.take k).length = k := by simp; omega
  rw [List.set_append_right _ _ (by omega), h1, Nat.sub_self]
  have h2 : ss.length - k = (ss.length - (k + 1)) + 1 := by omega
  have e : ss.getD k ByteArray.empty = ss[k] := by simp [List.getD, hk]
  rw [h2, List.replicate_succ, List.set_cons_zero, List.take_succ_eq_append_getElem hk, e, List.append_assoc]
  rfl
theorem fill_all (ss : List ByteArray) : fill ss ss.length = ss := by simp [fill]
#print axioms wpList_make_strs
#print axioms fill_step
end Go.Proofs.Qxb6601209a.CountWalk
