/-
  Contracts: whether a row of one line hangs together as a ring.
-/
import Derived.Test.YtmmlhbhnnhopdaaRingI
namespace Go.Proofs.Ytmmlhbhnnhopdaa.ring
open Go.ChangeShapes Go.WideShapes Go.ChangeAt Go.RowKit
open Go.Proofs.Ytmmlhbhnnhopdaa.mem
set_option linter.unusedVariables false
set_option linter.unusedSimpArgs false

def LinePost (kd dm : Int) (n kk : Nat) (xs : List Nat) (w : World) (e : Ending) (w' : World) : Prop :=
  ∃ t, e = .returned (.bool t) ∧ (t = true → kd = 2 ∧ dm = 0 ∧ 4 ≤ n ∧ n ≤ 100 ∧ n % 2 = 0 ∧ kk = 0 ∧ (∀ j, j < n → FloatKind.f64.format.order (fx xs j) (fx xs j) = some .eq) ∧
    FloatKind.f64.format.order (fx xs 0) (fx xs (n - 2)) = some .eq ∧ FloatKind.f64.format.order (fx xs 1) (fx xs (n - 1)) = some .eq) ∧ Below w.heap.size w w'

set_option maxRecDepth 8000 in
set_option maxHeartbeats 4000000 in
theorem lines_calls (A KA : Option Addr) (g n c kk kc : Nat) (kd dm : Int) (xs : List Nat) (hn : n ≤ 2147483647) (w : World) (hA : Sl w w.heap.size A n 1 (FL xs))
    (hg : Blk w g 25 #[.int .i64 kd, .int .i64 dm, .slice A n c, .slice KA kk kc]) :
    Calls Try.prog 6 #[.slice (some ⟨g, 0, none⟩) 1 1] w (LinePost kd dm n kk xs w) := by
  obtain ⟨c0, c1, c2, c3, -, -, -, -, cl⟩ := cells4 hg
  have HA := Lib.hid hA
  have HG := Lib.hid hg
  have HN := Lib.hid hn
  clear hA hg hn
  go_enter Try.func6, Try.ntmps6
  go_wp2_with fail
  go_loopg [3, 24] 1 (fun q last cc wr => ∃ i, i + q = 1 ∧ cc = .int .i64 i ∧ last = .slice A n c ∧ Below w.heap.size w wr ∧
      (i = 1 → kd = 2 ∧ dm = 0 ∧ 4 ≤ n ∧ n ≤ 100 ∧ n % 2 = 0 ∧ kk = 0 ∧ (∀ j, j < n → FloatKind.f64.format.order (fx xs j) (fx xs j) = some .eq) ∧
        FloatKind.f64.format.order (fx xs 0) (fx xs (n - 2)) = some .eq ∧ FloatKind.f64.format.order (fx xs 1) (fx xs (n - 1)) = some .eq))
  case atStart => exact ⟨0, by omega, by go_num, rfl, Below.refl _ _, fun h => absurd h (by omega)⟩
  case round =>
    obtain ⟨i, hi', rfl, rfl, hb, hall⟩ := hrel
    have HI := Lib.hid hi'
    have HB := Lib.hid hb
    have HALL := Lib.hid hall
    have hg := HG.out.below hb HG.out.lt
    obtain ⟨d0, d1, d2, d3, -, -, -, -, dl⟩ := cells4 hg
    have hin : i ≤ 1 := by omega
    clear hi' hb hall hg
    by_cases hlt : i < 1
    · obtain rfl : i = 0 := by omega
      by_cases e1 : kd = 2
      · by_cases e2 : dm = 0
        · by_cases e3 : n < 4
          · go_wp2_with fail
            exact bodyPost_ret (v := .bool false) (by simp [results, go_sem]) rfl ⟨_, rfl, (fun h => by cases h), HB.out.alloc HB.out.size _⟩
          · by_cases e4 : 100 < n
            · go_wp2_with fail
              exact bodyPost_ret (v := .bool false) (by simp [results, go_sem]) rfl ⟨_, rfl, (fun h => by cases h), HB.out.alloc HB.out.size _⟩
            · by_cases e5 : (n : Int) % 2 = 0
              · by_cases e6 : 0 < kk
                · go_wp2_with fail
                  exact bodyPost_ret (v := .bool false) (by simp [results, go_sem]) rfl ⟨_, rfl, (fun h => by cases h), HB.out.alloc HB.out.size _⟩
                · obtain rfl : kk = 0 := by omega
                  go_wp2_with fail
                  have hs1 := (HA.out.up HB.out).up ((Below.refl wr.heap.size wr).alloc (Nat.le_refl _) (.cells #[.int .i64 2, .int .i64 0, .slice A n c, .slice KA 0 kc] 25))
                  refine (numbers_calls A KA n c kc 2 0 xs (by omega) (by omega) _ hs1).mono ?_
                  rintro e w2 ⟨t, rfl, ht, hb2⟩
                  have HT := Lib.hid ht
                  have hb02 := (HB.out.alloc HB.out.size (.cells #[.int .i64 2, .int .i64 0, .slice A n c, .slice KA 0 kc] 25)).trans (hb2.mono (by simp; have := HB.out.size; omega))
                  have HB2 := Lib.hid hb02
                  have hG2 := (Blk.new wr 25 #[.int .i64 2, .int .i64 0, .slice A n c, .slice KA 0 kc]).below hb2 (by simp)
                  obtain ⟨g0, g1, g2, g3, -, -, -, -, gl⟩ := cells4 hG2
                  have hA2 := HA.out.up hb02
                  obtain ⟨hl, a, p, rfl, hla, ha⟩ := sl_at hA2 (by omega)
                  have m0 := ha 0 (by omega)
                  rw [Nat.add_zero] at m0
                  have m1 := ha 1 (by omega)
                  have m2 := ha (n - 2) (by omega)
                  have m3 := ha (n - 1) (by omega)
                  clear ht hs1 hb2 hb02 hG2 hA2 ha d0 d1 d2 d3 c0 c1 c2 c3
                  cases t
                  · go_wp2_with fail
                    exact bodyPost_ret (v := .bool false) (by simp [results, go_sem]) rfl ⟨_, rfl, (fun h => by cases h), HB2.out⟩
                  · have HNUM := Lib.hid (HT.out (by first | rfl | trivial))
                    have w1 : IntKind.i64.wrap ((n : Int) - 2) = ((n - 2 : Nat) : Int) := by
                      rw [show (n : Int) - 2 = ((n - 2 : Nat) : Int) by omega]; exact IntWalk.i64_in _ (by omega)
                    have w3 : IntKind.i64.wrap ((n : Int) - 1) = ((n - 1 : Nat) : Int) := by
                      rw [show (n : Int) - 1 = ((n - 1 : Nat) : Int) by omega]; exact IntWalk.i64_in _ (by omega)
                    have v1 : (((n - 2 : Nat) : Int)) < (n : Int) := by omega
                    have v2 : (((n - 1 : Nat) : Int)) < (n : Int) := by omega
                    have v3 : (0 : Int) < (n : Int) := by omega
                    have v4 : (1 : Int) < (n : Int) := by omega
                    have v5 : decide ((n : Int) < 2) = false := decide_eq_false (by omega)
                    by_cases o1 : FloatKind.f64.format.order (fx xs 0) (fx xs (n - 2)) = some .eq
                    · by_cases o2 : FloatKind.f64.format.order (fx xs 1) (fx xs (n - 1)) = some .eq
                      · go_wp2_with fail
                        go_quiet (fail)
                        go_wp2_with fail
                        go_roundg 0
                        case measure => have := HI.out; omega
                        case rel =>
                          exact ⟨1, by omega, by go_num, rfl, HB2.out.trans (drewN_below _ _ _), fun _ => (by refine ⟨?_, ?_, by omega, by omega, by omega, ?_, HNUM.out, o1, o2⟩ <;> first | trivial | rfl)⟩
                      · have q2 : (FloatKind.f64.format.order (fx xs 1) (fx xs (n - 1)) != some .eq) = true := by rw [bne_iff_ne]; exact o2
                        clear o2
                        go_wp2_with fail
                        go_quiet (fail)
                        go_wp2_with fail
                        exact bodyPost_ret (v := .bool false) (by simp [results, go_sem]) rfl ⟨_, rfl, (fun h => by cases h), HB2.out.trans (drewN_below _ _ _)⟩
                    · have q1 : (FloatKind.f64.format.order (fx xs 0) (fx xs (n - 2)) != some .eq) = true := by rw [bne_iff_ne]; exact o1
                      clear o1
                      go_wp2_with fail
                      go_quiet (fail)
                      go_wp2_with fail
                      exact bodyPost_ret (v := .bool false) (by simp [results, go_sem]) rfl ⟨_, rfl, (fun h => by cases h), HB2.out.trans (drewN_below _ _ _)⟩
              · go_wp2_with fail
                exact bodyPost_ret (v := .bool false) (by simp [results, go_sem]) rfl ⟨_, rfl, (fun h => by cases h), HB.out.alloc HB.out.size _⟩
        · go_wp2_with fail
          exact bodyPost_ret (v := .bool false) (by simp [results, go_sem]) rfl ⟨_, rfl, (fun h => by cases h), HB.out.alloc HB.out.size _⟩
      · go_wp2_with fail
        exact bodyPost_ret (v := .bool false) (by simp [results, go_sem]) rfl ⟨_, rfl, (fun h => by cases h), HB.out.alloc HB.out.size _⟩
    · obtain rfl : i = 1 := by omega
      go_wp2_with fail
      exact bodyPost_ret (v := .bool true) (by simp [results, go_sem]) rfl ⟨_, rfl, (fun _ => by first | exact HALL.out rfl | exact HALL.out trivial), HB.out⟩
end Go.Proofs.Ytmmlhbhnnhopdaa.ring
