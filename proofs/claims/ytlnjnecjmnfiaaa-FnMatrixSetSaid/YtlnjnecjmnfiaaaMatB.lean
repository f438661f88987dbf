/-
  Contracts: a matrix of nine signs in memory: newMatrix, index, get, set, transpose, code. For rows and columns 0 to 2.
-/
import Derived.Test.YtlnjnecjmnfiaaaMatA
import Derived.Deep.LoopGhost
namespace Go.Proofs.Ytlnjnecjmnfiaaa.mat
open Go.ChangeShapes Go.WideShapes Go.ChangeAt Go.RowKit
open Go.Proofs.Ytlnjnecjmnfiaaa.mem
set_option linter.unusedVariables false
set_option linter.unusedSimpArgs false

/-- The cells of some bytes. -/
def bytesOf (l : List Int) : Array Value := (l.map (Value.int .u8)).toArray
theorem bytesOf_get (l : List Int) (i : Nat) (h : i < l.length) : (bytesOf l)[i]? = some (.int .u8 (ix l i)) := by
  unfold bytesOf ix
  simp [List.getD_eq_getElem?_getD, h]
theorem bytesOf_set (l : List Int) (i : Nat) (v : Int) : (bytesOf l).setIfInBounds i (.int .u8 v) = bytesOf (l.set i v) := by
  unfold bytesOf
  simp [List.map_set]
theorem bytesOf_size (l : List Int) : (bytesOf l).size = l.length := by simp [bytesOf]
theorem bytesOf_list (l : List Int) (h : l.length = 9) : bytesOf l = #[.int .u8 (ix l 0), .int .u8 (ix l 1), .int .u8 (ix l 2), .int .u8 (ix l 3), .int .u8 (ix l 4), .int .u8 (ix l 5), .int .u8 (ix l 6), .int .u8 (ix l 7), .int .u8 (ix l 8)] := by
  match l, h with
  | [a0, a1, a2, a3, a4, a5, a6, a7, a8], _ => rfl

set_option maxHeartbeats 4000000 in
theorem index_any (m : Array Value) (a b : Nat) (ha : a ≤ 2) (hb : b ≤ 2) (w : World) :
    Calls Try.prog 43 #[.agg m, .int .u32 a, .int .u32 b] w fun e w' => e = .returned (.int .i64 ((3 * a + b : Nat) : Int)) ∧ Below w.heap.size w w' := by
  rcases (by omega : a = 0 ∨ a = 1 ∨ a = 2) with rfl | rfl | rfl <;> rcases (by omega : b = 0 ∨ b = 1 ∨ b = 2) with rfl | rfl | rfl
  all_goals
    go_enter Try.func43, Try.ntmps43
    go_wp2_with fail
    go_ret
    exact ⟨rfl, by repeat (first | exact Below.refl _ _ | refine Below.alloc ?_ (by simp; try omega) _)⟩

/-- The nine cells of a matrix. -/
structure Nine (w : World) (g : Nat) (l : List Int) : Prop where
  blk : Blk w g 75 (bytesOf l)
  len : l.length = 9

theorem Nine.at_ {w : World} {g : Nat} {l : List Int} (h : Nine w g l) (i : Nat) (hi : i < 9) : w.cell? ⟨g, i, none⟩ = some (.int .u8 (ix l i)) :=
  (h.blk.cell i).trans (bytesOf_get l i (by rw [h.len]; exact hi))
theorem Nine.below {w w' : World} {g : Nat} {l : List Int} (h : Nine w g l) (hb : Below w.heap.size w w') : Nine w' g l := ⟨h.blk.below hb h.blk.lt, h.len⟩

set_option maxHeartbeats 4000000 in
theorem get_any (g : Nat) (l : List Int) (a b : Nat) (ha : a ≤ 2) (hb : b ≤ 2) (w : World) (hg : Nine w g l) :
    Calls Try.prog 44 #[.pointer (some ⟨g, 0, none⟩), .int .u32 a, .int .u32 b] w fun e w' => e = .returned (.int .u8 (ix l (3 * a + b))) ∧ Below w.heap.size w w' := by
  have c0 := hg.at_ 0 (by omega)
  have c1 := hg.at_ 1 (by omega)
  have c2 := hg.at_ 2 (by omega)
  have c3 := hg.at_ 3 (by omega)
  have c4 := hg.at_ 4 (by omega)
  have c5 := hg.at_ 5 (by omega)
  have c6 := hg.at_ 6 (by omega)
  have c7 := hg.at_ 7 (by omega)
  have c8 := hg.at_ 8 (by omega)
  have Hg := Lib.hid hg
  clear hg
  go_enter Try.func44, Try.ntmps44
  go_wp2_with fail
  refine (index_any _ a b ha hb _).mono ?_; rintro e w1 ⟨rfl, h1⟩
  clear c0 c1 c2 c3 c4 c5 c6 c7 c8
  obtain ⟨n, hn⟩ : ∃ n, n = 3 * a + b := ⟨_, rfl⟩
  have hn9 : n < 9 := by omega
  rw [← hn]
  have cn := (Hg.out.below h1).at_ n hn9
  have HH := Lib.hid hn
  clear hn
  go_wp2_with fail
  go_ret
  exact ⟨by rw [← HH.out]; rfl, h1⟩

set_option maxHeartbeats 4000000 in
theorem set_any (g : Nat) (l : List Int) (a b : Nat) (v : Int) (ha : a ≤ 2) (hb : b ≤ 2) (w : World) (hg : Nine w g l) :
    Calls Try.prog 36 #[.pointer (some ⟨g, 0, none⟩), .int .u32 a, .int .u32 b, .int .u8 v] w fun e w' => e = .returned (.tuple #[]) ∧ Nine w' g (l.set (3 * a + b) v) ∧ w.grownBy w' (some g) := by
  have c0 := hg.at_ 0 (by omega)
  have c1 := hg.at_ 1 (by omega)
  have c2 := hg.at_ 2 (by omega)
  have c3 := hg.at_ 3 (by omega)
  have c4 := hg.at_ 4 (by omega)
  have c5 := hg.at_ 5 (by omega)
  have c6 := hg.at_ 6 (by omega)
  have c7 := hg.at_ 7 (by omega)
  have c8 := hg.at_ 8 (by omega)
  have Hg := Lib.hid hg
  clear hg
  go_enter Try.func36, Try.ntmps36
  go_wp2_with fail
  refine (index_any _ a b ha hb _).mono ?_; rintro e w1 ⟨rfl, h1⟩
  clear c0 c1 c2 c3 c4 c5 c6 c7 c8
  obtain ⟨n, hn⟩ : ∃ n, n = 3 * a + b := ⟨_, rfl⟩
  have hn9 : n < 9 := by omega
  rw [← hn]
  have hN := Hg.out.below h1
  have cn := hN.at_ n hn9
  have fn := hN.blk.frozen n (by rw [bytesOf_size, hN.len]; exact hn9)
  have HN := Lib.hid hN
  have HH := Lib.hid hn
  clear hn hN
  go_wp2_with fail
  first | go_end0 | refine bodyPost_ret (results_none rfl _ _ _) rfl ?_
  rw [← HH.out]
  refine ⟨rfl, ⟨?_, ?_⟩, grown_trans (grown_below h1) (grown_set _ ⟨g, n, none⟩ _)⟩
  · have := HN.out.blk.set_ n (.int .u8 v)
    rw [bytesOf_set] at this
    exact this
  · rw [List.length_set]; exact HN.out.len

set_option maxHeartbeats 4000000 in
theorem newMatrix_any (w : World) :
    Calls Try.prog 35 #[] w fun e w' => e = .returned (.agg (bytesOf (List.replicate 9 70))) ∧ Below w.heap.size w w' := by
  go_enter Try.func35, Try.ntmps35
  go_wp2_with fail
  refine bodyPost_ret (v := .agg (bytesOf (List.replicate 9 70))) (by simp [results, Try.results35, go_sem, bytesOf, List.replicate]) rfl ⟨rfl, (Below.refl _ _).alloc (Nat.le_refl _) _⟩

/-- The matrix with rows and columns changed. -/
def tr (l : List Int) : List Int := [ix l 0, ix l 3, ix l 6, ix l 1, ix l 4, ix l 7, ix l 2, ix l 5, ix l 8]

/-- The first m of nine entries exchanged. -/
def tn (l : List Int) : Nat → List Int
  | 0 => l
  | m + 1 => (tn l m).set (3 * (m % 3) + m / 3) (ix l m)
theorem tn_all (l : List Int) (h : l.length = 9) : tn l 9 = tr l := by
  match l, h with
  | [a0, a1, a2, a3, a4, a5, a6, a7, a8], _ => rfl

set_option maxHeartbeats 4000000 in
theorem transpose_any (g : Nat) (l : List Int) (w : World) (hg : Nine w g l) :
    Calls Try.prog 37 #[.pointer (some ⟨g, 0, none⟩)] w fun e w' => e = .returned (.tuple #[]) ∧ Nine w' g (tr l) ∧ w.grownBy w' (some g) := by
  have c0 := hg.at_ 0 (by omega)
  have c1 := hg.at_ 1 (by omega)
  have c2 := hg.at_ 2 (by omega)
  have c3 := hg.at_ 3 (by omega)
  have c4 := hg.at_ 4 (by omega)
  have c5 := hg.at_ 5 (by omega)
  have c6 := hg.at_ 6 (by omega)
  have c7 := hg.at_ 7 (by omega)
  have c8 := hg.at_ 8 (by omega)
  have Hg := Lib.hid hg
  clear hg
  go_enter Try.func37, Try.ntmps37
  have cp := fun wx : World => Blk.new wx 75 (bytesOf l)
  rw [bytesOf_list l Hg.out.len] at cp
  have tb := fun wx : World => Blk.new wx 60 #[.int .u32 0, .int .u32 1, .int .u32 2]
  have CP := Lib.hid cp
  have TB := Lib.hid tb
  clear cp tb
  go_wp2_with fail
  clear c0 c1 c2 c3 c4 c5 c6 c7 c8
  obtain ⟨W, hW⟩ : ∃ W, W = ((w.alloc (Obj.cells #[Value.int IntKind.u8 (ix l 0), Value.int IntKind.u8 (ix l 1), Value.int IntKind.u8 (ix l 2), Value.int IntKind.u8 (ix l 3), Value.int IntKind.u8 (ix l 4), Value.int IntKind.u8 (ix l 5),
            Value.int IntKind.u8 (ix l 6), Value.int IntKind.u8 (ix l 7), Value.int IntKind.u8 (ix l 8)] 75)).alloc (Obj.cells #[Value.int IntKind.u32 0, Value.int IntKind.u32 1, Value.int IntKind.u32 2] 60)) := ⟨_, rfl⟩
  have hB : Below w.heap.size w W := by rw [hW]; exact ((Below.refl _ _).alloc (Nat.le_refl _) _).alloc (by simp) _
  have hN : Nine W g l := Hg.out.below hB
  have hcp : Blk W w.heap.size 75 (bytesOf l) := by
    rw [hW, bytesOf_list l Hg.out.len]; exact (CP.out w).alloc _
  have htb : Blk W (w.heap.size + 1) 60 #[.int .u32 0, .int .u32 1, .int .u32 2] := by
    rw [hW]; have := TB.out (w.alloc (.cells (bytesOf l) 75)); rw [bytesOf_list l Hg.out.len] at this; simpa using this
  rw [← hW]
  have hlt := Hg.out.blk.lt
  have hsz : W.heap.size = w.heap.size + 2 := by rw [hW]; simp
  have HG : Hid (Below w.heap.size w W) := hB
  clear hW hB CP TB
  go_loopg [12] 3 (fun n c wr => ∃ k, k + n = 3 ∧ c = .int .i64 k ∧ Nine wr g (tn l (3 * k)) ∧ W.grownBy wr (some g))
  case atStart => exact ⟨0, rfl, rfl, hN, World.grownBy.refl _ _⟩
  case round =>
    obtain ⟨wo, rfl⟩ : ∃ wo : World, wo = wr := ⟨_, rfl⟩
    obtain ⟨k, hk, rfl, hn, hgr⟩ := hrel
    by_cases hlt3 : k < 3
    · have t1 : wo.cell? ⟨w.heap.size + 1, k, none⟩ = some (.int .u32 k) := by
        rw [(htb.grown hgr (by simp; omega)).cell]
        rcases (by omega : k = 0 ∨ k = 1 ∨ k = 2) with rfl | rfl | rfl <;> rfl
      have HN := Lib.hid hn
      have HR := Lib.hid hgr
      clear hn hgr
      have hd : decide ((k : Int) < 3) = true := by simp; omega
      go_wp2_with fail
      clear t1
      have ht2 : Blk (wo.alloc (Obj.cells #[Value.int IntKind.u32 0, Value.int IntKind.u32 1, Value.int IntKind.u32 2] 60)) wo.heap.size 60 #[.int .u32 0, .int .u32 1, .int .u32 2] := Blk.new _ _ _
      have hn2 := HN.out.below ((Below.refl _ _).alloc (Nat.le_refl _) (Obj.cells #[Value.int IntKind.u32 0, Value.int IntKind.u32 1, Value.int IntKind.u32 2] 60))
      have hr2 := grown_trans HR.out (World.grownBy_alloc wo (Obj.cells #[Value.int IntKind.u32 0, Value.int IntKind.u32 1, Value.int IntKind.u32 2] 60) _)
      have hlw : g < wo.heap.size := HN.out.blk.lt
      have hsw : W.heap.size ≤ wo.heap.size := HR.out.size
      obtain ⟨W2, hW2⟩ : ∃ W2, W2 = wo.alloc (Obj.cells #[Value.int IntKind.u32 0, Value.int IntKind.u32 1, Value.int IntKind.u32 2] 60) := ⟨_, rfl⟩
      rw [← hW2] at ht2 hn2 hr2 ⊢
      have HW2 := Lib.hid hW2
      have HRW := Lib.hid hr2
      clear hW2 hr2
      go_loopg [18] 3 (fun n c wr => ∃ j, j + n = 3 ∧ c = .int .i64 j ∧ Nine wr g (tn l (3 * k + j)) ∧ W2.grownBy wr (some g))
      case atStart => exact ⟨0, rfl, rfl, hn2, World.grownBy.refl _ _⟩
      case round =>
        obtain ⟨j, hj, rfl, hn, hgr⟩ := hrel
        by_cases hj3 : j < 3
        · have t1 : wr.cell? ⟨wo.heap.size, j, none⟩ = some (.int .u32 j) := by
            rw [(ht2.grown hgr (by simp; omega)).cell]
            rcases (by omega : j = 0 ∨ j = 1 ∨ j = 2) with rfl | rfl | rfl <;> rfl
          have HN' := Lib.hid hn
          have HR' := Lib.hid hgr
          clear hn hgr
          have hd2 : decide ((j : Int) < 3) = true := by simp; omega
          have hcpr : Nine wr w.heap.size l := ⟨(hcp.grown HRW.out (by simp; omega)).grown HR'.out (by simp; omega), Hg.out.len⟩
          have HC := Lib.hid hcpr
          clear hcpr
          go_wp2_with fail
          refine (get_any w.heap.size l k j (by omega) (by omega) _ HC.out).mono ?_; rintro e w3 ⟨rfl, h3⟩
          clear t1
          go_wp2_with fail
          refine (set_any g (tn l (3 * k + j)) j k (ix l (3 * k + j)) (by omega) (by omega) _ (HN'.out.below h3)).mono ?_; rintro e w4 ⟨rfl, hn4, hg4⟩
          have HN4 := Lib.hid hn4
          have HG4 := Lib.hid hg4
          have H3 := Lib.hid h3
          clear hn4 hg4 h3
          go_wp2_with fail
          go_roundg (3 - (j + 1))
          case measure => omega
          case rel =>
            refine ⟨j + 1, by omega, by go_num, ?_, grown_trans (grown_trans HR'.out (grown_below H3.out)) HG4.out⟩
            have e1 : tn l (3 * k + (j + 1)) = (tn l (3 * k + j)).set (3 * j + k) (ix l (3 * k + j)) := by
              show (tn l (3 * k + j)).set (3 * ((3 * k + j) % 3) + (3 * k + j) / 3) (ix l (3 * k + j)) = _
              rw [show (3 * k + j) % 3 = j from by omega, show (3 * k + j) / 3 = k from by omega]
            rw [e1]
            exact HN4.out
        · obtain rfl : j = 3 := by omega
          have HN' := Lib.hid hn
          have HR' := Lib.hid hgr
          clear hn hgr
          go_wp2_with fail
          go_roundg (3 - (k + 1))
          case measure => omega
          case rel =>
            refine ⟨k + 1, by omega, by go_num, ?_, grown_trans HRW.out HR'.out⟩
            have := HN'.out
            rw [show 3 * k + 3 = 3 * (k + 1) from by omega] at this
            exact this
    · obtain rfl : k = 3 := by omega
      have HN := Lib.hid hn
      have HR := Lib.hid hgr
      clear hn hgr
      go_wp2_with fail
      first | go_end0 | refine bodyPost_ret (results_none rfl _ _ _) rfl ?_
      refine ⟨rfl, ?_, grown_trans (grown_below HG.out) HR.out⟩
      rw [← tn_all l Hg.out.len]
      exact HN.out
end Go.Proofs.Ytlnjnecjmnfiaaa.mat
