/-
  The laws' own comparisons: kSame, kSameAll.
-/
import Derived.Test.YtflaklceejokhaaDoorTreeKD
namespace Go.Proofs.YtflaklceejokhaaDoor.tree
open Go.ChangeShapes Go.WideShapes Go.ChangeAt Go.RowKit
open Go.Proofs.YtflaklceejokhaaDoor.mem Go.Proofs.YtflaklceejokhaaDoor.flt Ieee
set_option linter.unusedVariables false
set_option linter.unusedSimpArgs false

/-- The numbers in a slice. -/
def IdR (w : World) (v : Value) (l : List Int) : Prop := ∃ A k, v = .slice A l.length k ∧ l.length ≤ k ∧ Sl w w.heap.size A l.length 1 (idVs l)
theorem IdR.of_own {w : World} {B : Nat} {v : Value} {l : List Int} (h : w.ownsRow B 3 1 v l.length (idVs l)) : IdR w v l := by
  obtain ⟨A, k, rfl⟩ := own_slice h
  refine ⟨A, k, rfl, ?_, Sl.of_own h⟩
  rcases h.2 with ⟨hv, hn0⟩ | ⟨g, cap, cur, hv, h4⟩
  · injection hv with e1 e2 e3; omega
  · injection hv with e1 e2 e3; rw [e3]; exact h4.2.2.1
theorem IdR.below {w w' : World} {v : Value} {l : List Int} (h : IdR w v l) (hb : Below w.heap.size w w') : IdR w' v l := by
  obtain ⟨A, k, e, hk, h⟩ := h
  exact ⟨A, k, e, hk, h.up hb⟩
/-- A box that is no NaN. -/
def EqB (b : Bx) : Prop := FloatKind.f64.format.order b.x0 b.x0 = some .eq ∧ FloatKind.f64.format.order b.y0 b.y0 = some .eq ∧ FloatKind.f64.format.order b.x1 b.x1 = some .eq ∧ FloatKind.f64.format.order b.y1 b.y1 = some .eq
theorem EqB.of_gd {b : Bx} (h : Gd b) : EqB b := by
  obtain ⟨P, h1, h2, h3, h4⟩ := h
  have e : ∀ z : Int, compare z z = .eq := fun z => by rw [compare_eq, if_neg (by omega), if_pos rfl]
  exact ⟨by rw [h1.order h1, e], by rw [h2.order h2, e], by rw [h3.order h3, e], by rw [h4.order h4, e]⟩
theorem EqB.zero : EqB ⟨0, 0, 0, 0⟩ := by
  have h := Wz.zero.order Wz.zero
  exact ⟨h, h, h, h⟩

set_option maxRecDepth 100000 in
set_option maxHeartbeats 16000000 in
theorem kSame_calls (u v : Value) (a : An) (hb : EqB a.b) (hl : a.ids.length ≤ 100000) (w : World) (hu : IdR w u a.ids) (hv : IdR w v a.ids) :
    Calls Tryd.prog 9 #[.agg (anA u a), .agg (anA v a)] w fun e w' => e = .returned (.bool true) ∧ Below w.heap.size w w' := by
  obtain ⟨A1, k1, rfl, -, h1⟩ := hu
  obtain ⟨A2, k2, rfl, -, h2⟩ := hv
  have H1 := Lib.hid h1
  have H2 := Lib.hid h2
  obtain ⟨l, e1, e2, e3, id, b, cnt⟩ := a
  simp only at hb hl H1 H2
  unfold anA
  simp only
  obtain ⟨b0, b1, b2, b3⟩ := b
  obtain ⟨o0, o1, o2, o3⟩ := hb
  simp only at o0 o1 o2 o3
  have z0 : Op.floatEq .f64 b0 b0 = true := by unfold Op.floatEq; rw [o0]; rfl
  have z1 : Op.floatEq .f64 b1 b1 = true := by unfold Op.floatEq; rw [o1]; rfl
  have z2 : Op.floatEq .f64 b2 b2 = true := by unfold Op.floatEq; rw [o2]; rfl
  have z3 : Op.floatEq .f64 b3 b3 = true := by unfold Op.floatEq; rw [o3]; rfl
  clear h1 h2
  obtain ⟨n, hn⟩ : ∃ n, n = l.length := ⟨_, rfl⟩
  rw [← hn] at hl H1 H2 ⊢
  have HN := Lib.hid hn
  have hbA : Below w.heap.size w ((w.alloc (.cells #[.slice A1 n k1, .bool e1, .bool e2, .bool e3, .int .i64 id, .float .f64 b0, .float .f64 b1, .float .f64 b2, .float .f64 b3, .int .i64 cnt] 38)).alloc
      (.cells #[.slice A2 n k2, .bool e1, .bool e2, .bool e3, .int .i64 id, .float .f64 b0, .float .f64 b1, .float .f64 b2, .float .f64 b3, .int .i64 cnt] 38)) := ((Below.refl _ _).alloc (Nat.le_refl _) _).alloc (by simp) _
  have q1 : Blk ((w.alloc (.cells #[.slice A1 n k1, .bool e1, .bool e2, .bool e3, .int .i64 id, .float .f64 b0, .float .f64 b1, .float .f64 b2, .float .f64 b3, .int .i64 cnt] 38)).alloc
      (.cells #[.slice A2 n k2, .bool e1, .bool e2, .bool e3, .int .i64 id, .float .f64 b0, .float .f64 b1, .float .f64 b2, .float .f64 b3, .int .i64 cnt] 38)) w.heap.size 38 #[.slice A1 n k1, .bool e1, .bool e2, .bool e3, .int .i64 id, .float .f64 b0, .float .f64 b1, .float .f64 b2, .float .f64 b3, .int .i64 cnt] := (Blk.new _ _ _).alloc _
  have q2 : Blk ((w.alloc (.cells #[.slice A1 n k1, .bool e1, .bool e2, .bool e3, .int .i64 id, .float .f64 b0, .float .f64 b1, .float .f64 b2, .float .f64 b3, .int .i64 cnt] 38)).alloc
      (.cells #[.slice A2 n k2, .bool e1, .bool e2, .bool e3, .int .i64 id, .float .f64 b0, .float .f64 b1, .float .f64 b2, .float .f64 b3, .int .i64 cnt] 38)) (w.heap.size + 1) 38 #[.slice A2 n k2, .bool e1, .bool e2, .bool e3, .int .i64 id, .float .f64 b0, .float .f64 b1, .float .f64 b2, .float .f64 b3, .int .i64 cnt] := by
    have := Blk.new (w.alloc (.cells #[.slice A1 n k1, .bool e1, .bool e2, .bool e3, .int .i64 id, .float .f64 b0, .float .f64 b1, .float .f64 b2, .float .f64 b3, .int .i64 cnt] 38)) 38 #[.slice A2 n k2, .bool e1, .bool e2, .bool e3, .int .i64 id, .float .f64 b0, .float .f64 b1, .float .f64 b2, .float .f64 b3, .int .i64 cnt]
    rw [show (w.alloc (.cells #[.slice A1 n k1, .bool e1, .bool e2, .bool e3, .int .i64 id, .float .f64 b0, .float .f64 b1, .float .f64 b2, .float .f64 b3, .int .i64 cnt] 38)).heap.size = w.heap.size + 1 by simp] at this
    exact this
  obtain ⟨wA, hwA⟩ : ∃ wA, wA = ((w.alloc (.cells #[.slice A1 n k1, .bool e1, .bool e2, .bool e3, .int .i64 id, .float .f64 b0, .float .f64 b1, .float .f64 b2, .float .f64 b3, .int .i64 cnt] 38)).alloc
      (.cells #[.slice A2 n k2, .bool e1, .bool e2, .bool e3, .int .i64 id, .float .f64 b0, .float .f64 b1, .float .f64 b2, .float .f64 b3, .int .i64 cnt] 38)) := ⟨_, rfl⟩
  rw [← hwA] at hbA q1 q2
  have HWA := Lib.hid hwA
  have HBA := Lib.hid hbA
  obtain ⟨c0, c1, c2, c3, c4, c5, c6, c7, c8, c9, lo⟩ := cells10 q1
  obtain ⟨d0, d1, d2, d3, d4, d5, d6, d7, d8, d9, ld⟩ := cells10 q2
  clear hn hwA hbA q1 q2
  go_enter Tryd.func9, Tryd.ntmps9
  go_wp2_with fail
  rw [← HWA.out]
  go_loopg [17] n (fun q ci wr => ∃ (i : Nat), i + q = n ∧ ci = .int .i64 (i : Nat) ∧ wA = wr)
  case atStart => exact ⟨0, by omega, by go_num, rfl⟩
  case round =>
    obtain ⟨i, hi', rfl, rfl⟩ := hrel
    have HI := Lib.hid hi'
    have hin : i ≤ n := by omega
    clear hi'
    by_cases hlt : i < n
    · have hltI : (i : Int) < (n : Int) := by omega
      obtain ⟨g1, f1, rfl, hg1, hc1⟩ := H1.out.2.2 (by omega)
      obtain ⟨g2, f2, rfl, hg2, hc2⟩ := H2.out.2.2 (by omega)
      have hli : i < l.length := by rw [← HN.out]; exact hlt
      have hx : (idVs l)[i]? = some (.int .i64 l[i]) := by simp [idVs, hli]
      have x1 := (HBA.out.cell (p := ⟨g1, f1 + i, none⟩) hg1).trans (hc1 i _ hx)
      have x2 := (HBA.out.cell (p := ⟨g2, f2 + i, none⟩) hg2).trans (hc2 i _ hx)
      obtain ⟨z, hz⟩ : ∃ z, z = l[i] := ⟨_, rfl⟩
      rw [← hz] at x1 x2
      clear hc1 hc2 hx hz
      go_wp2_with fail
      go_roundg (n - (i + 1))
      case measure => have := HI.out; omega
      case rel => exact ⟨i + 1, by omega, by go_num, rfl⟩
    · have hin2 : i = n := by omega
      have hltI : (n : Int) ≤ (i : Int) := by omega
      clear hin2
      go_wp2_with fail
      exact bodyPost_ret (v := .bool true) (by simp [results, go_sem]) rfl ⟨rfl, HBA.out⟩
end Go.Proofs.YtflaklceejokhaaDoor.tree
