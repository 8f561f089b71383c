/-
  WHAT THE LAST PART OF THE LAW ASKS OF THE TWO MAPS.
-/
import Derived.Test.Qxb6601209aState
namespace Go.Proofs.Qxb6601209a.CountWalk
open Go.RowKit Go.Maps Go.WideMaps

theorem More.same {w w' : World} {O : Nat} {mo : Option Nat} {f : List UInt8 → Nat} {N n : Nat} (h : More w O mo f N n) (hh : w'.heap = w.heap) : More w' O mo f N n := by
  rcases h with h | ⟨M, h1, h2, h3, h4⟩
  · exact .inl h
  · exact .inr ⟨M, h1, h2, h3.same (by rw [hh]), h4⟩
theorem More.look {w : World} {O : Nat} {mo : Option Nat} {f : List UInt8 → Nat} {N n : Nat} (h : More w O mo f N n) {s : ByteArray} (hs : s.size ≤ maxLen) :
    (Instr.lookup 30 (.map mo) (.string s) false).run Try.prog w = .ok (.int .i64 (f s.data.toList : Nat)) w := by
  rcases h with ⟨rfl, hf, _⟩ | ⟨M, rfl, _, h3, _⟩
  · rw [hf]; exact look_none w hs
  · exact h3.look hs
theorem More.look_ok {w : World} {O : Nat} {mo : Option Nat} {f : List UInt8 → Nat} {N n : Nat} (h : More w O mo f N n) {s : ByteArray} (hs : s.size ≤ maxLen) (hz : f s.data.toList = 0) :
    (Instr.lookup 30 (.map mo) (.string s) true).run Try.prog w = .ok (.tuple #[.int .i64 0, .bool false]) w := by
  rcases h with ⟨rfl, hf, _⟩ | ⟨M, rfl, _, h3, _⟩
  · exact look_ok_none w hs
  · have := h3.look_ok hs
    rw [hz] at this
    exact this
theorem More.len {w : World} {O : Nat} {mo : Option Nat} {f : List UInt8 → Nat} {N n : Nat} (h : More w O mo f N n) (ty : TypeId) : (Builtin.len_ #[30] ty #[.map mo]).run Try.prog w = .ok (.int .i64 (N : Nat)) w := by
  rcases h with ⟨rfl, _, rfl⟩ | ⟨M, rfl, _, h3, _⟩
  · exact len_none w ty
  · exact h3.len ty
theorem More.nil {w : World} {O : Nat} {mo : Option Nat} {f : List UInt8 → Nat} {N n : Nat} (h : More w O mo f N n) : mo.isNone = decide (N = 0) := by
  rcases h with ⟨rfl, _, rfl⟩ | ⟨M, rfl, _, _, h4⟩
  · rfl
  · have : ¬ N = 0 := by omega
    simp [this]

theorem row_rel (ss : List ByteArray) (O k : Nat) (w : World) (mo : Option Nat) (hM : More w O mo (cntM ss k) (numM ss k) k) (hne : ((ss.getD 0 ByteArray.empty).toList == []) = false) (s : ByteArray) (hs : s.size ≤ maxLen) :
    Calls Try.prog 14 #[.string (ss.getD 0 ByteArray.empty), .int .i64 (cnt ss k (key ss 0) : Nat), .map mo, .string s] w fun e w' => e = .returned (.int .i64 (cnt ss k s.data.toList : Nat)) ∧ w' = w := by
  by_cases h : s.data.toList = key ss 0
  · have h' : (s.toList == (ss.getD 0 ByteArray.empty).toList) = true := (same_iff _ _).2 h
    refine (row_table _ s _ (.map mo) w hne h').mono ?_
    rintro e w' ⟨rfl, rfl⟩
    exact ⟨by rw [h], rfl⟩
  · have h' : (s.toList == (ss.getD 0 ByteArray.empty).toList) = false := (diff_iff _ _).2 h
    refine (row_more _ s _ _ (.map mo) w (.inr h') (hM.look hs)).mono ?_
    rintro e w' ⟨rfl, rfl⟩
    exact ⟨by rw [cntM_eq]; simp [h], rfl⟩

/-- 'len(m)' of a map, whatever it is. -/
theorem wpList_len_map (w : World) {ops : Array Oper} {rest : List Oper} {o : Oper} {a : Act} {Q : Exit → Act → World → Prop} (hg : o.guard = none) (m : Operand) (hop : o.op = Op.call { callee := Callee.builtin Builtin.len, args := #[m], argTypes := #[30] })
    (v : Value) (hm : a.eval m = v) (N : Nat) (hrun : ∀ ty, (Builtin.len_ #[30] ty #[v]).run Try.prog w = .ok (.int .i64 (N : Nat)) w)
    (hK : wpList Try.prog ops Q rest (a.put o.dst (.int .i64 (N : Nat))) w) : wpList Try.prog ops Q (o :: rest) a w := by
  refine wpList_plain hg fun K' hK' => ?_
  unfold Oper.wp
  simp [execOp, hop, resolve, invoke, builtin, hm, hrun o.type, Result.andThen]
  exact hK' _ _ hK
#print axioms row_rel
#print axioms wpList_len_map
end Go.Proofs.Qxb6601209a.CountWalk
