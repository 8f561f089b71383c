/-
  ROWS OF BYTES THAT THE CALL ITSELF MADE: one block, known whole. Laws for make, copy and a store, in those words.
-/
import Derived.Test.Qxb6600068aWalkA
import Derived.Laws.CopyOwn
import Derived.OwnWalk
import Derived.OneCell
namespace Go.Proofs.Qxb6600068a.NumWalk
open Go.RowKit Go.Proofs.Qxb6600068a.Plain

theorem info5 : (Try.prog.info? 5).map (fun i => (i.zero, i.size, i.bytes)) = some (some (.int .u8 0), 1, 1) := by kernel_rfl
theorem size5 : (Try.prog.info? 5).map (·.size) = some 1 := by kernel_rfl

def rowOf (zs : List Int) : List Value := zs.map (Value.int .u8)
theorem length_rowOf (zs : List Int) : (rowOf zs).length = zs.length := by simp [rowOf]
/-- Block g holds the bytes zs, and nothing else; no cell of it is frozen. -/
def Own (w : World) (g : Nat) (zs : List Int) : Prop := w.heap[g]? = some (.cells (rowOf zs).toArray 5 (0, 0))

theorem Own.lt {w : World} {g : Nat} {zs : List Int} (h : Own w g zs) : g < w.heap.size := lt_of_block h
theorem Own.cell {w : World} {g : Nat} {zs : List Int} (h : Own w g zs) (j : Nat) (hj : j < zs.length) : w.cell? ⟨g, j, none⟩ = some (.int .u8 (zs.getD j 0)) := by
  have h' : w.heap[g]? = some (.cells (rowOf zs).toArray 5 (0, 0)) := h
  simp [World.cell?, h', rowOf, hj]
theorem Own.frozen {w : World} {g : Nat} {zs : List Int} (h : Own w g zs) (j : Nat) : w.frozen? ⟨g, j, none⟩ = false := by
  have h' : w.heap[g]? = some (.cells (rowOf zs).toArray 5 (0, 0)) := h
  simp [World.frozen?, h']
theorem Own.below {w w' : World} {B g : Nat} {zs : List Int} (h : Own w g zs) (hb : Below B w w') (hg : g < B) : Own w' g zs := by
  unfold Own; rw [hb.block g hg]; exact h
theorem Own.bytes {w : World} {g : Nat} {zs : List Int} (h : Own w g zs) (off len : Nat) (hl : off + len ≤ zs.length) (hb : len ≤ 4194304) : Bytes w g off len ((zs.drop off).take len) := by
  refine ⟨by simp; omega, hb, fun j hj => ?_⟩
  rw [h.cell (off + j) (by omega)]
  simp [List.getD, hj]
theorem Own.all {w : World} {g : Nat} {zs : List Int} (h : Own w g zs) (hb : zs.length ≤ 4194304) : Bytes w g 0 zs.length zs :=
  ⟨rfl, hb, fun j hj => by simpa using h.cell j hj⟩
theorem lt_of_cell {w : World} {a : Addr} {v : Value} (h : w.cell? a = some v) : a.block < w.heap.size := by
  simp only [World.cell?] at h
  split at h
  · next he => exact lt_of_block he
  · cases h
theorem Own.setCell {w : World} {g : Nat} {zs : List Int} (h : Own w g zs) (k : Nat) (v : Int) : Own (w.setCell ⟨g, k, none⟩ (.int .u8 v)) g (zs.set k v) := by
  have h' : w.heap[g]? = some (.cells (rowOf zs).toArray 5 (0, 0)) := h
  have hlt : g < w.heap.size := lt_of_block h'
  have hv : w.heap[g] = .cells (rowOf zs).toArray 5 (0, 0) := (Array.getElem?_eq_some_iff.1 h').2
  unfold Own World.setCell
  rw [Array.getElem?_eq_getElem (by simpa using hlt), Array.getElem_modify]
  simp [hv, rowOf]
theorem Own.setCell_other {w : World} {g b k : Nat} {zs : List Int} (h : Own w g zs) (v : Value) (hb : b ≠ g) : Own (w.setCell ⟨b, k, none⟩ v) g zs := by
  unfold Own; rw [Below.heap_setCell _ _ _ _ (by simpa using Ne.symm hb)]; exact h

/-- 'make([]byte, n)'. -/
theorem wpList_make_bytes (w : World) {ops : Array Oper} {rest : List Oper} {o : Oper} {a : Act} {Q : Exit → Act → World → Prop}
    (hg : o.guard = none) (l c : Operand) (hop : o.op = Op.makeSlice 22 l c) (kl kc : IntKind) (L C : Int) (n : Nat) (hl : a.eval l = .int kl L) (hc : a.eval c = .int kc C) (hL : L = (n : Int)) (hC : C = (n : Int)) (hn : n ≤ 4194304)
    (hK : ∀ w', Own w' w.heap.size (List.replicate n 0) → Below w.heap.size w w' → wpList Try.prog ops Q rest (a.put o.dst (.slice (some ⟨w.heap.size, 0, none⟩) n n)) w') :
    wpList Try.prog ops Q (o :: rest) a w := by
  obtain ⟨i0, hi, hz0, hz1, hz2⟩ := info_parts info5
  refine wpList_make_full w hg l c 22 hop w.heap.size 5 i0 (.int .u8 0) 1 Try.underlying22 hi hz0 hz1 kl kc L C n hl hc hL hC (by rw [hz2]; omega) (by unfold maxLen; omega) (Nat.le_refl _) ?_
  intro w' hown hgrow
  refine hK w' ?_ ?_
  · obtain ⟨h1, h2⟩ := hown
    rcases h2 with ⟨h2, _⟩ | ⟨g, cap, cur, hv, _, hh, _, _, hsz, htk⟩
    · cases h2
    · simp only [Value.slice.injEq, Option.some.injEq, Addr.mk.injEq] at hv
      obtain ⟨⟨rfl, _, _⟩, _, rfl⟩ := hv
      unfold Own
      rw [hh]
      have e : cur.toList = rowOf (List.replicate n 0) := by
        rw [← List.take_of_length_le (l := cur.toList) (i := n * 1) (by simp [hsz])]
        rw [htk]
        apply List.ext_getElem
        · simp [rowOf, madeCells]
        · intro j h1 h2
          simp [rowOf, madeCells, Value.cells, Nat.mod_one]
      rw [← e]
  · exact (Below.refl _ _).grown hgrow (Nat.le_refl _) (fun k hk => by cases hk)

theorem rowOf_splice (zs ys : List Int) (off : Nat) : splice (rowOf zs) off (rowOf ys) = rowOf (splice zs off ys) := by
  simp [splice, rowOf]
theorem getElem_rowOf {ys : List Int} {j : Nat} {v : Value} (h : (rowOf ys)[j]? = some v) : j < ys.length ∧ v = .int .u8 (ys.getD j 0) := by
  simp only [rowOf, List.getElem?_map, Option.map_eq_some_iff] at h
  obtain ⟨x, hx, rfl⟩ := h
  have hj : j < ys.length := (List.getElem?_eq_some_iff.1 hx).1
  exact ⟨hj, by simp [List.getD, hx]⟩

/-- 'copy(dst, src)' into a row of the call's own. -/
theorem wpList_copy_bytes (w : World) {ops : Array Oper} {rest : List Oper} {o : Oper} {a : Act} {Q : Exit → Act → World → Prop} (hgd : o.guard = none) (d s : Operand)
    (ho : o.op = .call { callee := .builtin .copy, args := #[d, s], argTypes := #[22, 22] })
    (dp sp : Option Addr) (dLen dCap sLen sCap : Nat) (hd : a.eval d = .slice dp dLen dCap) (hs : a.eval s = .slice sp sLen sCap)
    (g off : Nat) (zs : List Int) (hg : Own w g zs) (ys : List Int) (hn : ys.length = Nat.min sLen dLen)
    (hpos : 0 < ys.length → dp = some ⟨g, off, none⟩ ∧ ∃ ad, sp = some ad ∧ ∀ j, j < ys.length → w.cell? (ad.add j) = some (.int .u8 (ys.getD j 0)))
    (hfit : off + ys.length ≤ zs.length)
    (h : ∀ w', Own w' g (splice zs off ys) → Below g w w' → (∀ k, k ≠ g → w'.heap[k]? = w.heap[k]?) → wpList Try.prog ops Q rest (a.put o.dst (goInt ys.length)) w') :
    wpList Try.prog ops Q (o :: rest) a w := by
  by_cases h0 : ys.length = 0
  · obtain rfl : ys = [] := List.eq_nil_of_length_eq_zero h0
    refine wpList_copy_nothing hgd d s 22 22 ho 5 Try.underlying22 size5 dp sp dLen dCap sLen sCap hd hs (by simpa using hn.symm) ?_
    exact h w (by simpa [splice] using hg) (Below.refl _ _) (fun _ _ => rfl)
  · obtain ⟨rfl, ad, rfl, hsrc⟩ := hpos (by omega)
    refine wpList_copy_own hgd d s 22 22 ho 5 Try.underlying22 size5 g off dLen dCap ad sLen sCap hd hs (rowOf zs).toArray 5 hg (rowOf ys) (by rw [length_rowOf]; exact hn) ?_ (by simpa [length_rowOf] using hfit) ?_ ?_
    · intro j v hj
      obtain ⟨h1, rfl⟩ := getElem_rowOf hj
      exact hsrc j h1
    · intro v hv
      simp only [rowOf, List.mem_map] at hv
      obtain ⟨x, _, rfl⟩ := hv
      rfl
    · rw [length_rowOf]
      refine h _ ?_ ?_ ?_
      · have := setRow_heap w g _ (splice (rowOf zs) off (rowOf ys)).toArray 5 (0, 0) hg
        rw [rowOf_splice] at this
        unfold Own
        rw [← this]
        simp [splice, rowOf]
      · exact below_setRow (Below.refl _ _) (Nat.le_refl _) _
      · exact fun k hk => setRow_other w g k _ hk
#print axioms wpList_make_bytes
#print axioms wpList_copy_bytes
end Go.Proofs.Qxb6600068a.NumWalk
