/-
  Contracts: the way between two places, the door's own.
-/
import Derived.Test.YtmmlhbhnnhopdaaBetD
namespace Go.Proofs.Ytmmlhbhnnhopdaa.bet
open Go.ChangeShapes Go.WideShapes Go.ChangeAt Go.RowKit
open Go.Proofs.Ytmmlhbhnnhopdaa.mem Go.Proofs.Ytmmlhbhnnhopdaa.flt Go.Proofs.Ytmmlhbhnnhopdaa.betp
set_option linter.unusedVariables false
set_option linter.unusedSimpArgs false

theorem keepS {wA w1 w2 : World} (h : Below wA.heap.size wA w1) (k : Below w1.heap.size w1 w2) : Below wA.heap.size wA w2 := h.trans (k.mono h.size)

theorem allS {wA w' : World} {b b2 : Nat} {t : TypeId} {x y z m X Y Z M : Nat} {d : Int} (hb : Below wA.heap.size wA w') (hB : Blk wA b t #[.float .f64 x, .float .f64 y, .float .f64 z, .float .f64 m, .int .i64 d])
    (hC : Blk wA b2 t #[.float .f64 X, .float .f64 Y, .float .f64 Z, .float .f64 M, .int .i64 d]) :
    Below wA.heap.size wA w' ∧ w'.cell? ⟨b, 0, none⟩ = some (.float .f64 x) ∧ w'.cell? ⟨b, 1, none⟩ = some (.float .f64 y) ∧ w'.cell? ⟨b, 2, none⟩ = some (.float .f64 z) ∧ w'.cell? ⟨b, 3, none⟩ = some (.float .f64 m) ∧ w'.cell? ⟨b, 4, none⟩ = some (.int .i64 d) ∧
      w'.cell? ⟨b2, 0, none⟩ = some (.float .f64 X) ∧ w'.cell? ⟨b2, 1, none⟩ = some (.float .f64 Y) ∧ w'.cell? ⟨b2, 2, none⟩ = some (.float .f64 Z) ∧ w'.cell? ⟨b2, 3, none⟩ = some (.float .f64 M) ∧ w'.cell? ⟨b2, 4, none⟩ = some (.int .i64 d) := by
  have hB' := hB.below hb hB.lt
  have hC' := hC.below hb hC.lt
  exact ⟨hb, hB'.cell 0, hB'.cell 1, hB'.cell 2, hB'.cell 3, hB'.cell 4, hC'.cell 0, hC'.cell 1, hC'.cell 2, hC'.cell 3, hC'.cell 4⟩

theorem blkOf {wA w1 w' : World} {t : TypeId} {cs : Array Value} (h1 : Below wA.heap.size wA w1) (h : Below (w1.alloc (.cells cs t)).heap.size (w1.alloc (.cells cs t)) w') : Blk w' w1.heap.size t cs ∧ wA.heap.size ≤ w1.heap.size :=
  ⟨(Blk.new w1 t cs).below h (Blk.new w1 t cs).lt, h1.size⟩

theorem blkOfD {w1 w' : World} {t : TypeId} {cs : Array Value} (h : Below (w1.alloc (.cells cs t)).drew.heap.size (w1.alloc (.cells cs t)).drew w') : Blk w' w1.heap.size t cs ∧ w1.heap.size ≤ w1.heap.size :=
  ⟨((Blk.new w1 t cs).of_heap (w' := (w1.alloc (.cells cs t)).drew) rfl).below h (Blk.new w1 t cs).lt, Nat.le_refl _⟩

theorem set5 {B g : Nat} {w w1 : World} (h : Below B w w1) (hg : B ≤ g) (a b c d e : Value) :
    Below B w (((((w1.setCell ⟨g, 0, none⟩ a).setCell ⟨g, 1, none⟩ b).setCell ⟨g, 2, none⟩ c).setCell ⟨g, 3, none⟩ d).setCell ⟨g, 4, none⟩ e) :=
  ((((h.setCell hg _).setCell hg _).setCell hg _).setCell hg _).setCell hg _

theorem cells5 {w : World} {g : Nat} {t : TypeId} {a b c d e : Value} (h : Blk w g t #[a, b, c, d, e]) :
    w.cell? ⟨g, 0, none⟩ = some a ∧ w.cell? ⟨g, 1, none⟩ = some b ∧ w.cell? ⟨g, 2, none⟩ = some c ∧ w.cell? ⟨g, 3, none⟩ = some d ∧ w.cell? ⟨g, 4, none⟩ = some e ∧
    w.frozen? ⟨g, 0, none⟩ = false ∧ w.frozen? ⟨g, 1, none⟩ = false ∧ w.frozen? ⟨g, 2, none⟩ = false ∧ w.frozen? ⟨g, 3, none⟩ = false ∧ w.frozen? ⟨g, 4, none⟩ = false ∧ g < w.heap.size :=
  ⟨h.cell 0, h.cell 1, h.cell 2, h.cell 3, h.cell 4, h.frozen 0 (show 0 < 5 by omega), h.frozen 1 (show 1 < 5 by omega), h.frozen 2 (show 2 < 5 by omega), h.frozen 3 (show 3 < 5 by omega), h.frozen 4 (show 4 < 5 by omega), h.lt⟩

set_option maxHeartbeats 8000000 in
theorem way_calls (x y z m X Y Z M t : Nat) (r1 r2 r3 r4 : Nat) (d : Int) (hd : 0 ≤ d ∧ d ≤ 3) (w : World)
    (h : ∀ w, Calls Try.prog 30 #[.agg #[.float .f64 x, .float .f64 y, .float .f64 z, .float .f64 m, .int .u8 d], .agg #[.float .f64 X, .float .f64 Y, .float .f64 Z, .float .f64 M, .int .u8 d], .float .f64 t] w fun e w' => e = .returned (.agg #[.float .f64 r1, .float .f64 r2, .float .f64 r3, .float .f64 r4, .int .u8 d]) ∧ Below w.heap.size w w') :
    Calls Try.prog 10 #[.agg #[.float .f64 x, .float .f64 y, .float .f64 z, .float .f64 m, .int .i64 d], .agg #[.float .f64 X, .float .f64 Y, .float .f64 Z, .float .f64 M, .int .i64 d], .float .f64 t] w fun e w' =>
      e = .returned (.agg #[.float .f64 r1, .float .f64 r2, .float .f64 r3, .float .f64 r4, .int .i64 d]) ∧ Below w.heap.size w w' := by
  have hdoor := fun w => door_calls _ _ _ t w h x y z m X Y Z M r1 r2 r3 r4 d rfl rfl rfl
  have hco := fun x y z m w => coordinates_calls x y z m d hd w
  obtain ⟨wA, hwA⟩ : ∃ wA, wA = ((w.alloc (.cells #[.float .f64 x, .float .f64 y, .float .f64 z, .float .f64 m, .int .i64 d] 36)).alloc
    (.cells #[.float .f64 X, .float .f64 Y, .float .f64 Z, .float .f64 M, .int .i64 d] 36)).alloc
    (.cells #[.float .f64 0, .float .f64 0, .float .f64 0, .float .f64 0, .int .i64 0] 36) := ⟨_, rfl⟩
  have hB : Blk wA w.heap.size 36 #[.float .f64 x, .float .f64 y, .float .f64 z, .float .f64 m, .int .i64 d] := by
    rw [hwA]; exact ((Blk.new _ _ _).alloc _).alloc _
  have hC : Blk wA (w.heap.size + 1) 36 #[.float .f64 X, .float .f64 Y, .float .f64 Z, .float .f64 M, .int .i64 d] := by
    rw [hwA]
    have := Blk.new (w.alloc (.cells #[.float .f64 x, .float .f64 y, .float .f64 z, .float .f64 m, .int .i64 d] 36)) 36 #[.float .f64 X, .float .f64 Y, .float .f64 Z, .float .f64 M, .int .i64 d]
    rw [show (w.alloc (.cells #[.float .f64 x, .float .f64 y, .float .f64 z, .float .f64 m, .int .i64 d] 36)).heap.size = w.heap.size + 1 by simp] at this
    exact this.alloc _
  have hD : Blk wA (w.heap.size + 1 + 1) 36 #[.float .f64 0, .float .f64 0, .float .f64 0, .float .f64 0, .int .i64 0] := by
    rw [hwA]
    have := Blk.new ((w.alloc (.cells #[.float .f64 x, .float .f64 y, .float .f64 z, .float .f64 m, .int .i64 d] 36)).alloc
      (.cells #[.float .f64 X, .float .f64 Y, .float .f64 Z, .float .f64 M, .int .i64 d] 36)) 36 #[.float .f64 0, .float .f64 0, .float .f64 0, .float .f64 0, .int .i64 0]
    simpa using this
  have hbl : Below w.heap.size w wA := by
    rw [hwA]
    exact (((Below.refl _ _).alloc (Nat.le_refl _) _).alloc (by simp) _).alloc (by simp; omega) _
  have c0 : wA.cell? ⟨w.heap.size, 0, none⟩ = some (.float .f64 x) := hB.cell 0
  have c1 : wA.cell? ⟨w.heap.size, 1, none⟩ = some (.float .f64 y) := hB.cell 1
  have c2 : wA.cell? ⟨w.heap.size, 2, none⟩ = some (.float .f64 z) := hB.cell 2
  have c3 : wA.cell? ⟨w.heap.size, 3, none⟩ = some (.float .f64 m) := hB.cell 3
  have c4 : wA.cell? ⟨w.heap.size, 4, none⟩ = some (.int .i64 d) := hB.cell 4
  have e0 : wA.cell? ⟨w.heap.size + 1, 0, none⟩ = some (.float .f64 X) := hC.cell 0
  have e1 : wA.cell? ⟨w.heap.size + 1, 1, none⟩ = some (.float .f64 Y) := hC.cell 1
  have e2 : wA.cell? ⟨w.heap.size + 1, 2, none⟩ = some (.float .f64 Z) := hC.cell 2
  have e3 : wA.cell? ⟨w.heap.size + 1, 3, none⟩ = some (.float .f64 M) := hC.cell 3
  have e4 : wA.cell? ⟨w.heap.size + 1, 4, none⟩ = some (.int .i64 d) := hC.cell 4
  have HWA := Lib.hid hwA
  have HB := Lib.hid hB
  have HC := Lib.hid hC
  have HD := Lib.hid hD
  have HBL := Lib.hid hbl
  clear hwA hB hC hD hbl h
  go_enter Try.func10, Try.ntmps10
  go_wp2_with fail
  rw [← HWA.out]
  have hA0 := (Below.refl wA.heap.size wA).drew
  go_region_held3 (fun w' => Below wA.heap.size wA w' ∧ w'.cell? ⟨w.heap.size, 0, none⟩ = some (.float .f64 x) ∧ w'.cell? ⟨w.heap.size, 1, none⟩ = some (.float .f64 y) ∧ w'.cell? ⟨w.heap.size, 2, none⟩ = some (.float .f64 z) ∧ w'.cell? ⟨w.heap.size, 3, none⟩ = some (.float .f64 m) ∧ w'.cell? ⟨w.heap.size, 4, none⟩ = some (.int .i64 d) ∧
      w'.cell? ⟨w.heap.size + 1, 0, none⟩ = some (.float .f64 X) ∧ w'.cell? ⟨w.heap.size + 1, 1, none⟩ = some (.float .f64 Y) ∧ w'.cell? ⟨w.heap.size + 1, 2, none⟩ = some (.float .f64 Z) ∧ w'.cell? ⟨w.heap.size + 1, 3, none⟩ = some (.float .f64 M) ∧ w'.cell? ⟨w.heap.size + 1, 4, none⟩ = some (.int .i64 d))
    (first
      | exact allS (((((hA.setCell hg _).setCell hg _).setCell hg _).setCell hg _).setCell hg _) HB.out HC.out
      | exact allS (Below.refl _ _).drew HB.out HC.out
      | exact allS hA HB.out HC.out
      | exact allS (Below.alloc (by assumption) (Below.size (by assumption)) _) HB.out HC.out)
    (first
      | (go_at_call 20; refine (hco _ _ _ _ _).mono ?_; rintro e w' ⟨rfl, hbn⟩
         have hA : Below wA.heap.size wA w' := keepS (And.left (by assumption)) hbn
         try (have hkk := blkOf (by assumption) hbn; obtain ⟨hk, hg⟩ := hkk)
         try (have hkk := blkOfD hbn; obtain ⟨hk, hg⟩ := hkk)
         try (have hkk := hk.below hbn hk.lt; clear hk; have hk := hkk)
         try (have hkk := cells5 hk; obtain ⟨q0, q1, q2, q3, q4, p0, p1, p2, p3, p4, hl⟩ := hkk))
      | (go_at_call 19; refine (hdoor _).mono ?_; rintro e w' ⟨rfl, hbn⟩
         have hA : Below wA.heap.size wA w' := keepS (And.left (by assumption)) hbn
         try (have hkk := blkOf (by assumption) hbn; obtain ⟨hk, hg⟩ := hkk)
         try (have hkk := blkOfD hbn; obtain ⟨hk, hg⟩ := hkk)
         try (have hkk := hk.below hbn hk.lt; clear hk; have hk := hkk)
         try (have hkk := cells5 hk; obtain ⟨q0, q1, q2, q3, q4, p0, p1, p2, p3, p4, hl⟩ := hkk)))
  all_goals
    have hD' := HD.out.below hA HD.out.lt
    obtain ⟨s0, s1, s2, s3, s4, g0, g1, g2, g3, g4, hl2⟩ := cells5 hD'
    have hwd : IntKind.i64.wrap d = d := IntWalk.i64_in _ (by omega)
    have HA := Lib.hid hA
    clear hA hD' c0 c1 c2 c3 c4 e0 e1 e2 e3 e4 hdoor hco
    try (have hne := Nat.ne_of_gt (Nat.lt_of_lt_of_le HD.out.lt hg))
    try (have hne2 := Ne.symm hne)
    go_wp2_with fail
    have hb0 : Below w.heap.size w w' := HBL.out.trans (HA.out.mono HBL.out.size)
    have hx : w.heap.size ≤ w.heap.size + 1 + 1 := by omega
    refine bodyPost_ret (v := .agg #[.float .f64 r1, .float .f64 r2, .float .f64 r3, .float .f64 r4, .int .i64 d]) ?_ rfl ⟨rfl, ?_⟩
    · simp [results, Try.results10, go_sem, s0, s1, s2, s3, s4, hl2]
    · first
        | with_reducible exact (set5 hb0 hx _ _ _ _ _).alloc (set5 hb0 hx _ _ _ _ _).size _
        | with_reducible exact set5 (set5 hb0 (Nat.le_trans HBL.out.size hg) _ _ _ _ _) hx _ _ _ _ _
end Go.Proofs.Ytmmlhbhnnhopdaa.bet
