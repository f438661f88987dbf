/-
  Contracts: laws.lined: whether places are at most 200 and bounded (the way from yes on).
-/
import Derived.Test.YtlnjnecjmnfiaaaMem
namespace Go.Proofs.Ytlnjnecjmnfiaaa.pts
open Go.ChangeShapes Go.WideShapes Go.ChangeAt Go.RowKit
open Go.Proofs.Ytlnjnecjmnfiaaa.mem
set_option linter.unusedVariables false
set_option linter.unusedSimpArgs false

/-- A whole place's two cells. -/
def encP (p : Int × Int) : List Value := [.int .i64 p.1, .int .i64 p.2]
theorem encP_len (p : Int × Int) : (encP p).length = 2 := rfl
def px (l : List (Int × Int)) (k : Nat) : Int := (l.getD k (0, 0)).1
def py (l : List (Int × Int)) (k : Nat) : Int := (l.getD k (0, 0)).2

theorem sl_pt {w : World} {B n : Nat} {A : Option Addr} {l : List (Int × Int)} (h : Sl w B A n 2 (l.flatMap encP)) {k : Nat} (hk : k < n) :
    ∃ b off, A = some ⟨b, off, none⟩ ∧ b < B ∧ w.cell? ⟨b, off + k * 2, none⟩ = some (.int .i64 (px l k)) ∧ w.cell? ⟨b, off + k * 2 + 1, none⟩ = some (.int .i64 (py l k)) := by
  obtain ⟨b, off, e, hb, hc⟩ := h.2.2 (by omega)
  have hl : k < l.length := by have := h.1; rw [flatMap_len encP 2 encP_len] at this; omega
  have e0 := flatMap_get encP 2 encP_len l k 0 (by omega)
  have e1 := flatMap_get encP 2 encP_len l k 1 (by omega)
  rw [List.getElem?_eq_getElem hl] at e0 e1
  refine ⟨b, off, e, hb, ?_, ?_⟩
  · have := hc _ _ e0
    rw [Nat.add_zero] at this
    rw [this]; unfold px; simp [List.getD_eq_getElem?_getD, hl]
  · have := hc _ _ e1
    rw [Nat.add_assoc, this]; unfold py; simp [List.getD_eq_getElem?_getD, hl]

theorem wp_getD {l : List (Int × Int)} {k : Nat} (h : k < l.length) : l.getD k (0, 0) ∈ l := by
  rw [List.getD_eq_getElem?_getD, List.getElem?_eq_getElem h]; exact List.getElem_mem h

/-- Each coordinate from -2^20 to 2^20. -/
def Small (l : List (Int × Int)) : Prop := ∀ k, k < l.length → -1048576 ≤ px l k ∧ px l k ≤ 1048576 ∧ -1048576 ≤ py l k ∧ py l k ≤ 1048576

def LinedPost (l : List (Int × Int)) (w : World) (e : Ending) (w' : World) : Prop := ∃ b : Bool, e = .returned (.bool b) ∧ (b = true → Small l) ∧ Below w.heap.size w w'

set_option maxHeartbeats 8000000 in
theorem formedLine_any (A : Option Addr) (n k : Nat) (l : List (Int × Int)) (w : World) (hA : Sl w w.heap.size A n 2 (l.flatMap encP)) (hn : n ≤ 200) :
    Calls Try.prog 29 #[.agg #[.int .i64 2, .slice A n k, .slice none 0 0], .int .i64 1048576, .int .i64 100] w (LinedPost l w) := by
  have hl : l.length = n := by have := hA.1; rw [flatMap_len encP 2 encP_len] at this; omega
  have HA := Lib.hid hA
  have HL := Lib.hid hl
  clear hA hl
  go_enter Try.func29, Try.ntmps29
  go_wp2_with fail
  obtain ⟨W, hW⟩ : ∃ W : World, W = w.alloc (Obj.cells #[Value.int IntKind.i64 2, Value.slice A n k, Value.slice none 0 0] 46) := ⟨_, rfl⟩
  have hB0 : Below w.heap.size w W := by rw [hW]; exact (Below.refl _ _).alloc (Nat.le_refl _) _
  have hbox : Blk W w.heap.size 46 #[Value.int IntKind.i64 2, Value.slice A n k, Value.slice none 0 0] := by rw [hW]; exact Blk.new _ _ _
  have hWs : W.heap.size = w.heap.size + 1 := by rw [hW]; simp
  rw [← hW]
  clear hW
  have HB0 := Lib.hid hB0
  have HX := Lib.hid hbox
  have HWS := Lib.hid hWs
  clear hB0 hbox hWs
  go_loopg [17] n (fun q c wr => ∃ i, i + q = n ∧ c = .int .i64 i ∧ (∀ j, j < i → -1048576 ≤ px l j ∧ px l j ≤ 1048576 ∧ -1048576 ≤ py l j ∧ py l j ≤ 1048576) ∧ Below W.heap.size W wr)
  case atStart => exact ⟨0, by omega, by go_num, fun j hj => absurd hj (by omega), Below.refl _ _⟩
  case round =>
    obtain ⟨i, hi, rfl, hs, hb⟩ := hrel
    have HS := Lib.hid hs
    have HB := Lib.hid hb
    have HI := Lib.hid hi
    have hin : i ≤ n := by omega
    clear hs hb hi
    by_cases hlt : i < n
    · obtain ⟨b, off, rfl, hb, c0, c1⟩ := sl_pt HA.out hlt
      have hbW : b < W.heap.size := by rw [HWS.out]; omega
      have d0 : wr.cell? ⟨b, off + i * 2, none⟩ = some (.int .i64 (px l i)) := ((HB.out.cell (p := ⟨b, off + i * 2, none⟩) hbW).trans (HB0.out.cell (p := ⟨b, off + i * 2, none⟩) hb)).trans c0
      have d1 : wr.cell? ⟨b, off + i * 2 + 1, none⟩ = some (.int .i64 (py l i)) := ((HB.out.cell (p := ⟨b, off + i * 2 + 1, none⟩) hbW).trans (HB0.out.cell (p := ⟨b, off + i * 2 + 1, none⟩) hb)).trans c1
      clear c0 c1 hbW
      go_wp2_with fail
      all_goals first
        | (go_ret
           exact ⟨false, rfl, (fun h => by cases h), (HB0.out.trans (HB.out.mono HB0.out.size)).alloc (HB0.out.trans (HB.out.mono HB0.out.size)).size _⟩)
        | (go_roundg (n - (i + 1))
           case measure => have := HI.out; omega
           case rel =>
             refine ⟨i + 1, by omega, by go_num, fun j hj => ?_, HB.out.alloc HB.out.size _⟩
             by_cases e : j = i
             · subst e; omega
             · exact HS.out j (by omega))
    · obtain rfl : i = n := by omega
      have hb1 : w.heap.size < W.heap.size := by rw [HWS.out]; omega
      have x0 := (HB.out.cell (p := ⟨w.heap.size, 0, none⟩) hb1).trans (HX.out.cell 0)
      have x1 := (HB.out.cell (p := ⟨w.heap.size, 1, none⟩) hb1).trans (HX.out.cell 1)
      have x2 := (HB.out.cell (p := ⟨w.heap.size, 2, none⟩) hb1).trans (HX.out.cell 2)
      simp at x0 x1 x2
      clear hb1
      go_wp2_with fail
      go_ret
      exact ⟨true, rfl, fun _ j hj => HS.out j (by rw [HL.out] at hj; exact hj), HB0.out.trans (HB.out.mono HB0.out.size)⟩

set_option maxHeartbeats 4000000 in
theorem formed_any (A : Option Addr) (n k : Nat) (l : List (Int × Int)) (w : World) (hA : Sl w w.heap.size A n 2 (l.flatMap encP)) (hn : n ≤ 200) :
    Calls Try.prog 20 #[.agg #[.int .i64 2, .slice A n k, .slice none 0 0], .int .i64 1048576] w (LinedPost l w) := by
  have HA := Lib.hid hA
  clear hA
  go_enter Try.func20, Try.ntmps20
  go_wp2_with fail
  have hb := (Below.refl w.heap.size w).alloc (Nat.le_refl _) (Obj.cells #[Value.int IntKind.i64 2, Value.slice A n k, Value.slice none 0 0] 46)
  refine (formedLine_any A n k l _ (HA.out.up hb) hn).mono ?_; rintro e w1 ⟨b, rfl, hs, h1⟩
  go_wp2_with fail
  go_ret
  exact ⟨b, rfl, hs, hb.trans (h1.mono hb.size)⟩

set_option maxHeartbeats 4000000 in
theorem lined_any (A : Option Addr) (n k : Nat) (l : List (Int × Int)) (w : World) (hA : Sl w w.heap.size A n 2 (l.flatMap encP)) :
    Calls Try.prog 10 #[.slice A n k, .int .i64 1048576] w (fun e w' => LinedPost l w e w' ∧ (200 < n → e = .returned (.bool false))) := by
  by_cases hn : n ≤ 200
  · have hd : decide ((n : Int) ≤ 200) = true := by simp; omega
    have HA := Lib.hid hA
    have HN := Lib.hid hn
    clear hA hn
    go_enter Try.func10, Try.ntmps10
    go_wp2_with fail
    refine (formed_any A n k l _ HA.out HN.out).mono ?_; rintro e w1 ⟨b, rfl, hs, h1⟩
    go_wp2_with fail
    go_ret
    exact ⟨⟨b, rfl, hs, h1⟩, fun h => absurd HN.out (by omega)⟩
  · have hd : decide ((n : Int) ≤ 200) = false := by simp; omega
    clear hA
    go_enter Try.func10, Try.ntmps10
    go_wp2_with fail
    go_ret
    exact ⟨⟨false, rfl, (fun h => by cases h), Below.refl _ _⟩, fun _ => rfl⟩
end Go.Proofs.Ytlnjnecjmnfiaaa.pts
