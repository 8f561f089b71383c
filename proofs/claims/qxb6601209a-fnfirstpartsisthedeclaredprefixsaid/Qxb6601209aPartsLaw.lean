/-
  THE WALK OF 'FnFirstPartsIsTheDeclaredPrefix'.
-/
import Derived.Test.Qxb6601209aPartsA
import Derived.RowKit3
import Derived.OpenShut
namespace Go.Proofs.Qxb6601209a.fnFirstPartsIsTheDeclaredPrefix
open Go.RowKit Go.Proofs.Qxb6601209a.PartsWalk Go.Proofs.Qxb6601209a.Plain
set_option linter.unusedVariables false

set_option maxRecDepth 100000 in
set_option maxHeartbeats 1000000 in
theorem deep_pos (s : ByteArray) (n : Int) (w : World) (hs : s.size ≤ 1048576) (h1 : 1 ≤ n) (h2 : n ≤ 9223372036854775807) :
    Calls Try.prog 3 #[.string s, .int .i64 n] w fun e w' => e = .returned (.bool true) ∧ Grown w w' := by
  go_enter Try.func3, Try.ntmps3
  go_wp2_with (go_at_call 6; go_in)
  refine (zz_pos s n _ hs h1 h2).mono ?_
  rintro e w ⟨h, rfl⟩
  have hle := sc_le (bl s)
  rw [bl_len] at hle
  rcases h with ⟨p, r, rfl, hp, hr, he, hc, hn, hend⟩ | ⟨rfl, a⟩
  · have HC : Hid (sc (bl r) = scT s p) := by show _ = _; rw [← he, scT_extract]
    have HE : Hid (s.extract 0 p = r) := he
    have HR : Hid (r.size = p) := hr
    have HD : Hid (((scT s p : Nat) : Int) = n - 1) := hc
    clear hc hr
    have hrs : r.size ≤ 1048576 := by rw [HR.out]; omega
    clear he
    go_wp2_with fail
    refine (count_any s _ hs).mono ?_
    rintro e w ⟨rfl, rfl⟩
    have he := HE.out
    have hr := HR.out
    go_wp2_with fail
    refine (count_any r _ hrs).mono ?_
    rintro e w ⟨rfl, rfl⟩
    rw [show ((sc (bl r) : Nat) : Int) = n - 1 by rw [HC.out]; exact HD.out]
    rcases hend with hend | ⟨hlt, hsl⟩
    · have hb : ((p : Int) == (s.size : Int)) = true := by rw [beq_iff_eq]; omega
      clear he
      go_wp2
      go_ret
      exact ⟨rfl, Grown.refl _⟩
    · have hb : ((p : Int) == (s.size : Int)) = false := by rw [beq_eq_false_iff_ne]; omega
      have hb2 : (((s[p]'hlt).toNat : Int) == 47) = true := by rw [hsl]; rfl
      clear hsl he
      go_wp2
      go_ret
      exact ⟨rfl, Grown.refl _⟩
  · go_wp2_with fail
    refine (count_any s _ hs).mono ?_
    rintro e w ⟨rfl, rfl⟩
    go_wp2
    go_ret
    exact ⟨rfl, Grown.refl _⟩

theorem deep_neg (s : ByteArray) (n : Int) (w : World) (hs : s.size ≤ 1048576) (h1 : -9223372036854775808 ≤ n) (h2 : n ≤ 0) :
    Calls Try.prog 3 #[.string s, .int .i64 n] w fun e w' => e = .returned (.bool true) ∧ Grown w w' := by
  have HN : Hid (-9223372036854775808 ≤ n) := h1
  clear h1
  go_enter Try.func3, Try.ntmps3
  go_wp2_with (go_at_call 6; go_in)
  refine (zz_neg s n _ hs HN.out h2).mono ?_
  rintro e w ⟨rfl, rfl⟩
  go_wp2_with fail
  refine (count_any s _ hs).mono ?_
  rintro e w ⟨rfl, rfl⟩
  go_wp2
  go_ret
  exact ⟨rfl, Grown.refl _⟩

theorem walk (a0 : ByteArray) (a1 : Int) (w0 : a0.size ≤ maxLen) (w1 : (Lit.int .i64 a1).wf = true) (w : World) :
    Calls Try.prog 3 #[.string a0, .int .i64 a1] w fun e w' => e = .returned (.bool true) ∧ Grown w w' := by
  by_cases hbig : (1048576 : Int) < (a0.size : Int)
  · clear w1
    go_enter Try.func3, Try.ntmps3
    go_wp2
    go_ret
    exact ⟨rfl, Grown.refl _⟩
  have hb := bounds_i64 w1
  by_cases h : 1 ≤ a1
  · exact deep_pos a0 a1 w (by omega) h hb.2
  · exact deep_neg a0 a1 w (by omega) hb.1 (by omega)
#print axioms walk
end Go.Proofs.Qxb6601209a.fnFirstPartsIsTheDeclaredPrefix
