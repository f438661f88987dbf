/-
  Contracts: whether boxes overlap; the square of their distance, of boxes whose numbers are whole.
-/
import Derived.Test.YtflaklceejokhaaDoorTreeA
namespace Go.Proofs.YtflaklceejokhaaDoor.tree
open Go.ChangeShapes Go.WideShapes Go.ChangeAt Go.RowKit
open Go.Proofs.YtflaklceejokhaaDoor.mem Go.Proofs.YtflaklceejokhaaDoor.flt Ieee
set_option linter.unusedVariables false
set_option linter.unusedSimpArgs false

def fle (a b : Nat) : Bool := FloatKind.f64.format.order a b == some .lt || FloatKind.f64.format.order a b == some .eq
def fge (a b : Nat) : Bool := FloatKind.f64.format.order a b == some .gt || FloatKind.f64.format.order a b == some .eq
/-- Whether two boxes have a place in common. -/
def ov (p q : Bx) : Bool := fle p.x0 q.x1 && (fge p.x1 q.x0 && (fle p.y0 q.y1 && fge p.y1 q.y0))

set_option maxHeartbeats 4000000 in
theorem overlap_calls (p q : Bx) (w : World) : Calls Tryd.prog 26 #[.agg (bxA p), .agg (bxA q)] w fun e w' => e = .returned (.bool (ov p q)) ∧ Below w.heap.size w w' := by
  obtain ⟨p0, p1, p2, p3⟩ := p
  obtain ⟨q0, q1, q2, q3⟩ := q
  have hb : Below w.heap.size w ((w.alloc (.cells #[.float .f64 p0, .float .f64 p1, .float .f64 p2, .float .f64 p3] 52)).alloc (.cells #[.float .f64 q0, .float .f64 q1, .float .f64 q2, .float .f64 q3] 52)) :=
    ((Below.refl _ _).alloc (Nat.le_refl _) _).alloc (by simp) _
  have HB := Lib.hid hb
  clear hb
  obtain ⟨b1, h1⟩ : ∃ b, fle p0 q2 = b := ⟨_, rfl⟩
  obtain ⟨b2, h2⟩ : ∃ b, fge p2 q0 = b := ⟨_, rfl⟩
  obtain ⟨b3, h3⟩ : ∃ b, fle p1 q3 = b := ⟨_, rfl⟩
  obtain ⟨b4, h4⟩ : ∃ b, fge p3 q1 = b := ⟨_, rfl⟩
  have hov : ov ⟨p0, p1, p2, p3⟩ ⟨q0, q1, q2, q3⟩ = (b1 && (b2 && (b3 && b4))) := by
    simp only [ov, h1, h2, h3, h4]
  rw [hov]
  unfold fle at h1 h3
  unfold fge at h2 h4
  simp only [bxA]
  clear hov
  cases b1
  · go_enter Tryd.func26, Tryd.ntmps26
    go_wp2_with fail
    exact bodyPost_ret (v := .bool false) (by simp [results, go_sem]) rfl ⟨rfl, HB.out⟩
  · cases b2
    · go_enter Tryd.func26, Tryd.ntmps26
      go_wp2_with fail
      exact bodyPost_ret (v := .bool false) (by simp [results, go_sem]) rfl ⟨rfl, HB.out⟩
    · cases b3
      · go_enter Tryd.func26, Tryd.ntmps26
        go_wp2_with fail
        exact bodyPost_ret (v := .bool false) (by simp [results, go_sem]) rfl ⟨rfl, HB.out⟩
      · go_enter Tryd.func26, Tryd.ntmps26
        go_wp2_with fail
        exact bodyPost_ret (v := .bool b4) (by simp [results, go_sem]) rfl ⟨by simp, HB.out⟩

/-- A number's bits that stand for a whole number of at most N. -/
def Wz (b : Nat) (z : Int) (N : Nat) : Prop := FV b (z * 2 ^ E1074) ∧ z.natAbs ≤ N

theorem Wz.more {b : Nat} {z : Int} {N M : Nat} (h : Wz b z N) (hN : N ≤ M) : Wz b z M := ⟨h.1, Nat.le_trans h.2 hN⟩
theorem rep_whole (z : Int) (h : z.natAbs < 2 ^ 53) : Rep (z * 2 ^ E1074) := rep_of z E1074 h (by rw [E_eq]; omega)

theorem Wz.add {a b : Nat} {x y : Int} {N M : Nat} (ha : Wz a x N) (hb : Wz b y M) (h : N + M < 2 ^ 53) : ∃ r, double.add a b = some r ∧ Wz r (x + y) (N + M) := by
  have hs : (x + y).natAbs ≤ N + M := by have := ha.2; have := hb.2; omega
  obtain ⟨r, hr, hv⟩ := add_FV ha.1 hb.1 (by rw [← Int.add_mul]; exact rep_whole _ (by omega))
  exact ⟨r, hr, by rw [← Int.add_mul] at hv; exact hv, hs⟩
theorem Wz.sub {a b : Nat} {x y : Int} {N M : Nat} (ha : Wz a x N) (hb : Wz b y M) (h : N + M < 2 ^ 53) : ∃ r, double.sub a b = some r ∧ Wz r (x - y) (N + M) := by
  have hs : (x - y).natAbs ≤ N + M := by have := ha.2; have := hb.2; omega
  obtain ⟨r, hr, hv⟩ := sub_FV ha.1 hb.1 (by rw [← Int.sub_mul]; exact rep_whole _ (by omega))
  exact ⟨r, hr, by rw [← Int.sub_mul] at hv; exact hv, hs⟩
theorem Wz.mul {a b : Nat} {x y : Int} {N M : Nat} (ha : Wz a x N) (hb : Wz b y M) (h : N * M < 2 ^ 53) : ∃ r, double.mul a b = some r ∧ Wz r (x * y) (N * M) := by
  have hs : (x * y).natAbs ≤ N * M := by rw [Int.natAbs_mul]; exact Nat.mul_le_mul ha.2 hb.2
  obtain ⟨r, hr, hv⟩ := mul_FV ha.1 hb.1 (P := x * y * 2 ^ E1074) (by rw [Int.mul_assoc, Int.mul_left_comm (2 ^ E1074) y, ← Int.mul_assoc, ← Int.mul_assoc]) (rep_whole _ (by omega))
  exact ⟨r, hr, hv, hs⟩
theorem Wz.order {a b : Nat} {x y : Int} {N M : Nat} (ha : Wz a x N) (hb : Wz b y M) : FloatKind.f64.format.order a b = some (compare x y) := by
  have := order_FV ha.1 hb.1
  rw [show ((2 : Int) ^ E1074) = ((2 ^ E1074 : Nat) : Int) by simp, compare_scale x y _ (Nat.two_pow_pos _)] at this
  exact this
theorem Wz.zero : Wz 0 0 0 := by
  have := word_FV false 0 0 (by omega) (by decide) (.inl rfl)
  exact ⟨by simpa [Format.word, sg] using this, Nat.le_refl _⟩
theorem fmx_whole {a b : Nat} {x y : Int} {N : Nat} (ha : Wz a x N) (hb : Wz b y N) : Wz (fmx a b) (max x y) N := by
  unfold fmx
  rw [ha.order hb, compare_eq]
  by_cases h : x < y
  · rw [if_pos h, if_neg (by simp), Int.max_eq_right (by omega)]; exact hb
  · rw [if_neg h]
    by_cases e : x = y
    · rw [if_pos e, if_neg (by simp)]; subst e; simpa using hb
    · rw [if_neg e, if_pos rfl, Int.max_eq_left (by omega)]; exact ha
theorem fmn_whole {a b : Nat} {x y : Int} {N : Nat} (ha : Wz a x N) (hb : Wz b y N) : Wz (fmn a b) (min x y) N := by
  unfold fmn
  rw [ha.order hb, compare_eq]
  by_cases h : x < y
  · rw [if_pos h, if_pos rfl, Int.min_eq_left (by omega)]; exact ha
  · rw [if_neg h]
    by_cases e : x = y
    · rw [if_pos e, if_neg (by simp)]; subst e; simpa using hb
    · rw [if_neg e, if_neg (by simp), Int.min_eq_right (by omega)]; exact hb
end Go.Proofs.YtflaklceejokhaaDoor.tree
