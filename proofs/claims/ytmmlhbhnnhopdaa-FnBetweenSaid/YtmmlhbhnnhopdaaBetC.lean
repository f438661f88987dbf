/-
  Contracts: the law's own test of its two places.
-/
import Derived.Test.YtmmlhbhnnhopdaaBetB
namespace Go.Proofs.Ytmmlhbhnnhopdaa.bet
open Go.ChangeShapes Go.WideShapes Go.ChangeAt Go.RowKit
open Go.Proofs.Ytmmlhbhnnhopdaa.mem Go.Proofs.Ytmmlhbhnnhopdaa.flt Go.Proofs.Ytmmlhbhnnhopdaa.betp
set_option linter.unusedVariables false
set_option linter.unusedSimpArgs false

def BetPost (x y z m X Y Z M : Nat) (d D : Int) (w : World) (e : Ending) (w' : World) : Prop :=
  ∃ t, e = .returned (.bool t) ∧ (t = true → ((∃ n, Wh x n) ∧ (∃ n, Wh y n) ∧ (∃ n, Wh z n) ∧ (∃ n, Wh m n) ∧ (∃ n, Wh X n) ∧ (∃ n, Wh Y n) ∧ (∃ n, Wh Z n) ∧ (∃ n, Wh M n)) ∧ d = D ∧ 0 ≤ d ∧ d ≤ 3) ∧ Below w.heap.size w w'

set_option maxHeartbeats 4000000 in
theorem between_calls (x y z m X Y Z M : Nat) (d D : Int) (w : World) :
    Calls Try.prog 9 #[.agg #[.float .f64 x, .float .f64 y, .float .f64 z, .float .f64 m, .int .i64 d], .agg #[.float .f64 X, .float .f64 Y, .float .f64 Z, .float .f64 M, .int .i64 D]] w (BetPost x y z m X Y Z M d D w) := by
  obtain ⟨fs, hfs⟩ : ∃ fs : List Nat, fs = [x, y, z, m, X, Y, Z, M] := ⟨_, rfl⟩
  obtain ⟨wl, hwl⟩ : ∃ wl, wl = ((w.alloc (.cells #[.float .f64 x, .float .f64 y, .float .f64 z, .float .f64 m, .int .i64 d] 36)).alloc
    (.cells #[.float .f64 X, .float .f64 Y, .float .f64 Z, .float .f64 M, .int .i64 D] 36)).alloc
    (.cells #[.float .f64 x, .float .f64 y, .float .f64 z, .float .f64 m, .float .f64 X, .float .f64 Y, .float .f64 Z, .float .f64 M] 34) := ⟨_, rfl⟩
  have hbl : Below w.heap.size w wl := by
    rw [hwl]
    exact (((Below.refl _ _).alloc (Nat.le_refl _) _).alloc (by simp) _).alloc (by simp; omega) _
  have hrow : ∀ i, i < 8 → wl.cell? ⟨w.heap.size + 2, i, none⟩ = some (.float .f64 (fs.getD i 0)) := by
    intro i hi
    have hsz : ((w.alloc (.cells #[.float .f64 x, .float .f64 y, .float .f64 z, .float .f64 m, .int .i64 d] 36)).alloc
      (.cells #[.float .f64 X, .float .f64 Y, .float .f64 Z, .float .f64 M, .int .i64 D] 36)).heap.size = w.heap.size + 2 := by simp
    rw [hwl, ← hsz, (Blk.new _ _ _).cell, hfs]
    match i, hi with
    | 0, _ => rfl
    | 1, _ => rfl
    | 2, _ => rfl
    | 3, _ => rfl
    | 4, _ => rfl
    | 5, _ => rfl
    | 6, _ => rfl
    | 7, _ => rfl
  have hd : wl.cell? ⟨w.heap.size, 4, none⟩ = some (.int .i64 d) := by
    rw [hwl, (((Blk.new _ _ _).alloc _).alloc _).cell]; rfl
  have hD : wl.cell? ⟨w.heap.size + 1, 4, none⟩ = some (.int .i64 D) := by
    have hsz : (w.alloc (.cells #[.float .f64 x, .float .f64 y, .float .f64 z, .float .f64 m, .int .i64 d] 36)).heap.size = w.heap.size + 1 := by simp
    rw [hwl, ← hsz, ((Blk.new _ _ _).alloc _).cell]; rfl
  have HBL := Lib.hid hbl
  have HROW := Lib.hid hrow
  have HFS := Lib.hid hfs
  have HWL := Lib.hid hwl
  have HD := Lib.hid hd
  have HDD := Lib.hid hD
  have hsz : w.heap.size + 2 < wl.heap.size := by rw [hwl]; simp
  clear hbl hrow hfs hwl hd hD
  go_enter Try.func9, Try.ntmps9
  go_wp2_with fail
  rw [← HWL.out]
  go_loopg [6, 25] 8 (fun q v c wr => ∃ i, i + q = 8 ∧ c = .int .i64 i ∧ wr = wl ∧ ∀ j, j < i → ∃ n, Wh (fs.getD j 0) n)
  case atStart => exact ⟨0, by omega, by go_num, rfl, fun j hj => absurd hj (Nat.not_lt_zero j)⟩
  case round =>
    obtain ⟨i, hi', rfl, rfl, hall⟩ := hrel
    have HI := Lib.hid hi'
    have HALL := Lib.hid hall
    have hin : i ≤ 8 := by omega
    clear hi' hall
    by_cases hlt : i < 8
    · have d0 := HROW.out i hlt
      go_wp2_with fail
      refine (whole_calls _ _).mono ?_
      rintro e w1 ⟨t, rfl, ht, rfl⟩
      have HT := Lib.hid ht
      clear ht
      cases t
      · go_wp2_with fail
        exact bodyPost_ret (v := .bool false) (by simp [results, go_sem]) rfl ⟨_, rfl, (fun h => by cases h), HBL.out⟩
      · go_wp2_with fail
        go_roundg (8 - (i + 1))
        case measure => have := HI.out; omega
        case rel =>
          refine ⟨i + 1, by omega, by go_num, rfl, fun j hj => ?_⟩
          by_cases e : j = i
          · subst e; first | exact HT.out rfl | exact HT.out trivial
          · exact HALL.out j (by omega)
    · obtain rfl : i = 8 := by omega
      have hd := HD.out
      have hD := HDD.out
      clear HWL
      have hA := HALL.out
      rw [HFS.out] at hA
      have hA8 : (∃ n, Wh x n) ∧ (∃ n, Wh y n) ∧ (∃ n, Wh z n) ∧ (∃ n, Wh m n) ∧ (∃ n, Wh X n) ∧ (∃ n, Wh Y n) ∧ (∃ n, Wh Z n) ∧ (∃ n, Wh M n) :=
        ⟨hA 0 (by omega), hA 1 (by omega), hA 2 (by omega), hA 3 (by omega), hA 4 (by omega), hA 5 (by omega), hA 6 (by omega), hA 7 (by omega)⟩
      have HA8 := Lib.hid hA8
      clear hA hA8
      by_cases e1 : d = D
      · subst e1
        by_cases e2 : 0 ≤ d
        · by_cases e3 : d ≤ 3
          · go_wp2_with fail
            exact bodyPost_ret (v := .bool true) (by simp [results, go_sem]) rfl ⟨_, rfl, fun _ => ⟨HA8.out, rfl, e2, e3⟩, HBL.out⟩
          · go_wp2_with fail
            exact bodyPost_ret (v := .bool false) (by simp [results, go_sem]) rfl ⟨_, rfl, (fun h => by cases h), HBL.out⟩
        · go_wp2_with fail
          exact bodyPost_ret (v := .bool false) (by simp [results, go_sem]) rfl ⟨_, rfl, (fun h => by cases h), HBL.out⟩
      · go_wp2_with fail
        exact bodyPost_ret (v := .bool false) (by simp [results, go_sem]) rfl ⟨_, rfl, (fun h => by cases h), HBL.out⟩
end Go.Proofs.Ytmmlhbhnnhopdaa.bet
