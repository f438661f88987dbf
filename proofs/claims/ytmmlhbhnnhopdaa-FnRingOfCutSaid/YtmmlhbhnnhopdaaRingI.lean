/-
  Contracts: rows of numbers, equal one by one; no number that is none.
-/
import Derived.Test.YtmmlhbhnnhopdaaRingH
namespace Go.Proofs.Ytmmlhbhnnhopdaa.ring
open Go.ChangeShapes Go.WideShapes Go.ChangeAt Go.RowKit
open Go.Proofs.Ytmmlhbhnnhopdaa.mem
set_option linter.unusedVariables false
set_option linter.unusedSimpArgs false

/-- Two rows of one length read equal, number by number. -/
def AllEq (xs ys : List Nat) : Prop := ∀ j, j < xs.length → FloatKind.f64.format.order (fx xs j) (fx ys j) = some .eq

set_option maxHeartbeats 4000000 in
theorem equal_calls (A B : Option Addr) (n c d : Nat) (xs ys : List Nat) (hn : n ≤ 1000000) (hpos : 0 < n) (he : AllEq xs ys) (w : World) (hA : Sl w w.heap.size A n 1 (FL xs)) (hB : Sl w w.heap.size B n 1 (FL ys)) :
    Calls Try.prog 8 #[.slice A n c, .slice B n d] w fun e w' => e = .returned (.bool true) ∧ w' = w := by
  obtain ⟨hl, a, p, rfl, hla, ha⟩ := sl_at hA hpos
  obtain ⟨hl2, b, q, rfl, hlb, hb⟩ := sl_at hB hpos
  have HA := Lib.hid ha
  have HB := Lib.hid hb
  have HE := Lib.hid (show ∀ j, j < n → FloatKind.f64.format.order (fx xs j) (fx ys j) = some .eq from fun j hj => he j (by rw [hl]; exact hj))
  clear hA hB ha hb he
  go_enter Try.func8, Try.ntmps8
  go_wp2_with fail
  go_loopg [14] n (fun q cc wr => ∃ i, i + q = n ∧ cc = .int .i64 i ∧ wr = w)
  case atStart => exact ⟨0, by omega, by go_num, rfl⟩
  case round =>
    obtain ⟨i, hi', rfl, rfl⟩ := hrel
    have HI := Lib.hid hi'
    have hin : i ≤ n := by omega
    clear hi'
    by_cases hlt : i < n
    · have c0 := HA.out i hlt
      have c1 := HB.out i hlt
      have o := HE.out i hlt
      go_wp2_with fail
      go_roundg (n - (i + 1))
      case measure => have := HI.out; omega
      case rel => exact ⟨i + 1, by omega, by go_num, rfl⟩
    · obtain rfl : i = n := by omega
      go_wp2_with fail
      go_ret
      exact ⟨rfl, rfl⟩

def NumPost (xs : List Nat) (n : Nat) (w : World) (e : Ending) (w' : World) : Prop :=
  ∃ t, e = .returned (.bool t) ∧ (t = true → ∀ j, j < n → FloatKind.f64.format.order (fx xs j) (fx xs j) = some .eq) ∧ Below w.heap.size w w'

set_option maxHeartbeats 4000000 in
theorem numbers_calls (A KA : Option Addr) (n c kc : Nat) (kd dm : Int) (xs : List Nat) (hn : n ≤ 1000000) (hpos : 0 < n) (w : World) (hA : Sl w w.heap.size A n 1 (FL xs)) :
    Calls Try.prog 12 #[.agg #[.int .i64 kd, .int .i64 dm, .slice A n c, .slice KA 0 kc], .bool false] w (NumPost xs n w) := by
  obtain ⟨hl, a, p, rfl, hla, ha⟩ := sl_at hA hpos
  obtain ⟨wA, hwA⟩ : ∃ wA, wA = w.alloc (.cells #[.int .i64 kd, .int .i64 dm, .slice (some ⟨a, p, none⟩) n c, .slice KA 0 kc] 25) := ⟨_, rfl⟩
  have hbl : Below w.heap.size w wA := by rw [hwA]; exact (Below.refl _ _).alloc (Nat.le_refl _) _
  have hD : Blk wA w.heap.size 25 #[.int .i64 kd, .int .i64 dm, .slice (some ⟨a, p, none⟩) n c, .slice KA 0 kc] := by rw [hwA]; exact Blk.new _ _ _
  obtain ⟨c0, c1, c2, c3, -, -, -, -, cl⟩ := cells4 hD
  have HA := Lib.hid (fun j hj => (hbl.cell (p := ⟨a, p + j, none⟩) hla).trans (ha j hj))
  have HBL := Lib.hid hbl
  have HWA := Lib.hid hwA
  clear hA ha hbl hwA hD
  go_enter Try.func12, Try.ntmps12
  go_wp2_with fail
  rw [← HWA.out]
  go_loopg [12] n (fun q cc wr => ∃ i, i + q = n ∧ cc = .int .i64 i ∧ wr = wA ∧ ∀ j, j < i → FloatKind.f64.format.order (fx xs j) (fx xs j) = some .eq)
  case atStart => exact ⟨0, by omega, by go_num, rfl, fun j hj => absurd hj (Nat.not_lt_zero j)⟩
  case round =>
    obtain ⟨i, hi', rfl, rfl, hall⟩ := hrel
    have HI := Lib.hid hi'
    have HALL := Lib.hid hall
    have hin : i ≤ n := by omega
    clear hi' hall
    by_cases hlt : i < n
    · have d0 := HA.out i hlt
      by_cases o : FloatKind.f64.format.order (fx xs i) (fx xs i) = some .eq
      · have HO := Lib.hid o
        go_wp2_with fail
        go_roundg (n - (i + 1))
        case measure => have := HI.out; omega
        case rel =>
          refine ⟨i + 1, by omega, by go_num, rfl, fun j hj => ?_⟩
          by_cases e : j = i
          · subst e; exact HO.out
          · exact HALL.out j (by omega)
      · have o2 : (FloatKind.f64.format.order (fx xs i) (fx xs i) == some .eq) = false := by rw [beq_eq_false_iff_ne]; exact o
        go_wp2_with fail
        exact bodyPost_ret (v := .bool false) (by simp [results, go_sem]) rfl ⟨_, rfl, (fun h => by cases h), HBL.out⟩
    · obtain rfl : i = n := by omega
      go_wp2_with fail
      obtain ⟨wo, hwo⟩ : ∃ wo : World, wo = wr := ⟨_, rfl⟩
      subst hwo
      go_loopg [32] 0 (fun q cc wr => q = 0 ∧ cc = .int .i64 0 ∧ wr = wo)
      case atStart => exact ⟨rfl, by go_num, rfl⟩
      case round =>
        obtain ⟨-, rfl, rfl⟩ := hrel
        go_wp2_with fail
        exact bodyPost_ret (v := .bool true) (by simp [results, go_sem]) rfl ⟨_, rfl, (fun _ => HALL.out), HBL.out⟩
end Go.Proofs.Ytmmlhbhnnhopdaa.ring
