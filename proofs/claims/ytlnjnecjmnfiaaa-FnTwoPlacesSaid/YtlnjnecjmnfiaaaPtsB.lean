/-
  Contracts: laws.row, impl.xy, impl.xys: places as numbers, copied.
-/
import Derived.Test.YtlnjnecjmnfiaaaPtsA
import Derived.Test.YtlnjnecjmnfiaaaFlt
namespace Go.Proofs.Ytlnjnecjmnfiaaa.pts
open Go.ChangeShapes Go.WideShapes Go.ChangeAt Go.RowKit
open Go.Proofs.Ytlnjnecjmnfiaaa.mem Go.Proofs.Ytlnjnecjmnfiaaa.flt
set_option linter.unusedVariables false
set_option linter.unusedSimpArgs false

/-- A place's two cells. -/
def encF (p : Nat × Nat) : List Value := [.float .f64 p.1, .float .f64 p.2]
theorem encF_len (p : Nat × Nat) : (encF p).length = 2 := rfl
def fx (l : List (Nat × Nat)) (k : Nat) : Nat := (l.getD k (0, 0)).1
def fy (l : List (Nat × Nat)) (k : Nat) : Nat := (l.getD k (0, 0)).2

theorem sl_fl {w : World} {B n : Nat} {A : Option Addr} {l : List (Nat × Nat)} (h : Sl w B A n 2 (l.flatMap encF)) {k : Nat} (hk : k < n) :
    ∃ b off, A = some ⟨b, off, none⟩ ∧ b < B ∧ w.cell? ⟨b, off + k * 2, none⟩ = some (.float .f64 (fx l k)) ∧ w.cell? ⟨b, off + k * 2 + 1, none⟩ = some (.float .f64 (fy l k)) := by
  obtain ⟨b, off, e, hb, hc⟩ := h.2.2 (by omega)
  have hl : k < l.length := by have := h.1; rw [flatMap_len encF 2 encF_len] at this; omega
  have e0 := flatMap_get encF 2 encF_len l k 0 (by omega)
  have e1 := flatMap_get encF 2 encF_len l k 1 (by omega)
  rw [List.getElem?_eq_getElem hl] at e0 e1
  refine ⟨b, off, e, hb, ?_, ?_⟩
  · have := hc _ _ e0
    rw [Nat.add_zero] at this
    rw [this]; unfold fx; simp [List.getD_eq_getElem?_getD, hl]
  · have := hc _ _ e1
    rw [Nat.add_assoc, this]; unfold fy; simp [List.getD_eq_getElem?_getD, hl]

/-- A whole place as floats. -/
def toF (p : Int × Int) : Nat × Nat := (fi p.1, fi p.2)

theorem infoXY : (Try.prog.info? 52).map (fun i => (i.zero, i.size, i.bytes)) = some (some (.agg #[.float .f64 0, .float .f64 0]), 2, 16) := by kernel_rfl

set_option maxHeartbeats 8000000 in
theorem row_any (A : Option Addr) (n k : Nat) (l : List (Int × Int)) (w : World) (hA : Sl w w.heap.size A n 2 (l.flatMap encP)) (hn : n ≤ 400) :
    Calls Try.prog 12 #[.slice A n k] w fun e w' => ∃ v, e = .returned v ∧ w'.ownsRow w.heap.size 52 2 v n ((l.map toF).flatMap encF) ∧ Below w.heap.size w w' := by
  have hl : l.length = n := by have := hA.1; rw [flatMap_len encP 2 encP_len] at this; omega
  obtain ⟨i0, hi, hz0, hz1, hz2⟩ := info_parts infoXY
  have HA := Lib.hid hA
  have HL := Lib.hid hl
  clear hA hl
  go_enter Try.func12, Try.ntmps12
  go_wp2_with fail
  go_loopg [3, 8] n (fun q v c wr => ∃ i, i + q = n ∧ c = .int .i64 i ∧ wr.ownsRow w.heap.size 52 2 v i (((l.take i).map toF).flatMap encF) ∧ Below w.heap.size w wr)
  case atStart => exact ⟨0, by omega, by go_num, World.ownsRow_nil _ _ _ _, Below.refl _ _⟩
  case round =>
    obtain ⟨i, hi', rfl, ho, hb⟩ := hrel
    have HO := Lib.hid ho
    have HB := Lib.hid hb
    have HI := Lib.hid hi'
    have hin : i ≤ n := by omega
    clear ho hb hi'
    by_cases hlt : i < n
    · obtain ⟨b, off, rfl, hb, c0, c1⟩ := sl_pt HA.out hlt
      have d0 : wr.cell? ⟨b, off + i * 2, none⟩ = some (.int .i64 (px l i)) := (HB.out.cell (p := ⟨b, off + i * 2, none⟩) hb).trans c0
      have d1 : wr.cell? ⟨b, off + i * 2 + 1, none⟩ = some (.int .i64 (py l i)) := (HB.out.cell (p := ⟨b, off + i * 2 + 1, none⟩) hb).trans c1
      clear c0 c1
      have hn2 : ∀ j u, (encF (toF (px l i, py l i)))[j]? = some u → ((wr.alloc (.cells #[.int .i64 (px l i), .int .i64 (py l i)] 28)).alloc (.cells #[.float .f64 (fi (px l i)), .float .f64 (fi (py l i))] 52)).cell? ((⟨wr.heap.size + 1, 0, none⟩ : Addr).add j) = some u := by
        have := cell_two_new (wr.alloc (.cells #[.int .i64 (px l i), .int .i64 (py l i)] 28)) (.float .f64 (fi (px l i))) (.float .f64 (fi (py l i))) 52
        rw [World.size_alloc] at this
        exact this
      have HN2 := Lib.hid hn2
      clear hn2
      have hone : ∀ u ∈ encF (toF (px l i, py l i)), u.oneCell' = true := by intro u hu; simp [encF] at hu; rcases hu with rfl | rfl <;> rfl
      have hsz : w.heap.size ≤ wr.heap.size := HB.out.size
      have HONE := Lib.hid hone
      clear hone
      go_wp2_with (at_builtin; refine wpList_append_own _ rfl (.tmp 12) (.tmp 20) 30 rfl w.heap.size 52 i0 _ 2 16 Try.underlying30 hi hz0 hz1 hz2 rfl (by decide) _ i _ rfl ((HO.out.alloc _).alloc _) ⟨wr.heap.size + 1, 0, none⟩ 1 1 (encF (toF (px l i, py l i))) rfl rfl HN2.out HONE.out (by unfold maxLen; omega) (by omega) (by simp; omega) ?_; intro v' w1 hown' hgrow _)
      have HO' := Lib.hid hown'
      have HG := Lib.hid hgrow
      clear hown' hgrow d0 d1
      go_wp2_with fail
      go_roundg (n - (i + 1))
      case measure => have := HI.out; omega
      case rel =>
        refine ⟨i + 1, by omega, by go_num, ?_, ?_⟩
        · have hli : i < l.length := by rw [HL.out]; exact hlt
          have e1 : ((l.take (i + 1)).map toF).flatMap encF = ((l.take i).map toF).flatMap encF ++ encF (toF (px l i, py l i)) := by
            rw [List.take_succ_eq_append_getElem hli, List.map_append, List.flatMap_append]
            have : l[i] = (px l i, py l i) := by unfold px py; simp [List.getD_eq_getElem?_getD, hli]
            rw [this]; simp
          rw [e1]
          exact HO'.out
        · exact ((HB.out.alloc HB.out.size _).alloc (by simp; omega) _).grown HG.out (by simp; omega) (fun q hq => (HO.out.lt q hq).1)
    · obtain rfl : i = n := by omega
      go_wp2_with fail
      go_ret
      refine ⟨_, rfl, ?_, HB.out⟩
      have := HO.out
      rw [List.take_of_length_le (by rw [HL.out]; exact Nat.le_refl _)] at this
      exact this

set_option maxHeartbeats 4000000 in
theorem xy_any (x y : Nat) (w : World) :
    Calls Try.prog 31 #[.agg #[.float .f64 x, .float .f64 y]] w fun e w' => e = .returned (.agg #[.float .f64 x, .float .f64 y]) ∧ Below w.heap.size w w' := by
  go_enter Try.func31, Try.ntmps31
  go_wp2_with fail
  exact bodyPost_ret (v := .agg #[.float .f64 x, .float .f64 y]) (by simp [results, Try.results31, go_sem]) rfl ⟨rfl, ((Below.refl _ _).alloc (Nat.le_refl _) _).alloc (by simp) _⟩

theorem infoGXY : (Try.prog.info? 57).map (fun i => (i.zero, i.size, i.bytes)) = some (some (.agg #[.float .f64 0, .float .f64 0]), 2, 16) := by kernel_rfl

set_option maxHeartbeats 8000000 in
theorem xys_any (A : Option Addr) (n k : Nat) (l : List (Nat × Nat)) (w : World) (hA : Sl w w.heap.size A n 2 (l.flatMap encF)) (hn : n ≤ 400) :
    Calls Try.prog 22 #[.slice A n k] w fun e w' => ∃ B, e = .returned (.slice B n n) ∧ Sl w' w'.heap.size B n 2 (l.flatMap encF) ∧ Below w.heap.size w w' := by
  have hl : l.length = n := by have := hA.1; rw [flatMap_len encF 2 encF_len] at this; omega
  obtain ⟨i0, hi, hz0, hz1, hz2⟩ := info_parts infoGXY
  have hb48 : i0.bytes * n ≤ 281474976710656 := by rw [hz2]; omega
  have HA := Lib.hid hA
  have HL := Lib.hid hl
  clear hA hl
  go_enter Try.func22, Try.ntmps22
  go_wp2_with (at_make; refine wpList_make_full _ rfl (.tmp 7) (.tmp 7) 48 rfl w.heap.size 57 i0 _ 2 Try.underlying48 hi hz0 hz1 .i64 .i64 _ _ n rfl rfl rfl rfl hb48 (by unfold maxLen; omega) (Nat.le_refl _) ?_; intro w1 hown hgrow)
  have HO := Lib.hid hown
  have HG := Lib.hid hgrow
  have hB1 : Below w.heap.size w w1 := (Below.refl _ _).grown hgrow (Nat.le_refl _) (fun q hq => by cases hq)
  clear hown hgrow
  go_wp2_with fail
  go_loopg [11] n (fun q c wr => ∃ i xs, i + q = n ∧ c = .int .i64 i ∧ wr.ownsRow w.heap.size 57 2 (.slice (some ⟨w.heap.size, 0, none⟩) n n) n xs ∧ (∀ j, j < i * 2 → xs[j]? = (l.flatMap encF)[j]?) ∧ Below w.heap.size w wr)
  case atStart => exact ⟨0, _, by omega, by go_num, HO.out, fun j hj => absurd hj (by omega), hB1⟩
  case round =>
    obtain ⟨i, xs, hi', rfl, ho, hx, hb⟩ := hrel
    have HO' := Lib.hid ho
    have HX := Lib.hid hx
    have HB := Lib.hid hb
    have HI := Lib.hid hi'
    have hin : i ≤ n := by omega
    clear ho hx hb hi' hB1
    by_cases hlt : i < n
    · obtain ⟨b, off, rfl, hb, c0, c1⟩ := sl_fl HA.out hlt
      have d0 : wr.cell? ⟨b, off + i * 2, none⟩ = some (.float .f64 (fx l i)) := (HB.out.cell (p := ⟨b, off + i * 2, none⟩) hb).trans c0
      have d1 : wr.cell? ⟨b, off + i * 2 + 1, none⟩ = some (.float .f64 (fy l i)) := (HB.out.cell (p := ⟨b, off + i * 2 + 1, none⟩) hb).trans c1
      clear c0 c1
      go_wp2_with fail
      refine (xy_any _ _ _).mono ?_; rintro e w2 ⟨rfl, h2⟩
      have ho2 : w2.ownsRow w.heap.size 57 2 (.slice (some ⟨w.heap.size, 0, none⟩) n n) n xs := (HO'.out.alloc _).kept (grown_below (row := none) h2) (Or.inr (by simp [Value.ownBlock]))
      have hB2 : Below w.heap.size w w2 := (HB.out.alloc HB.out.size _).trans (h2.mono (by have := HB.out.size; simp; omega))
      have hxl : xs.length = n * 2 := ho2.1
      obtain ⟨u0, hu0⟩ : ∃ u, xs[i * 2]? = some u := ⟨_, List.getElem?_eq_getElem (by omega)⟩
      obtain ⟨u1, hu1⟩ : ∃ u, xs[i * 2 + 1]? = some u := ⟨_, List.getElem?_eq_getElem (by omega)⟩
      have e0 := (ho2.cellAt (i * 2) (by omega)).trans hu0
      have e1 := (ho2.cellAt (i * 2 + 1) (by omega)).trans hu1
      have f0 := ho2.frozenAt (i * 2)
      have f1 := ho2.frozenAt (i * 2 + 1)
      have HO2 := Lib.hid ho2
      have HB2 := Lib.hid hB2
      have HXL := Lib.hid hxl
      clear ho2 hB2 hu0 hu1 d0 d1 h2 hxl
      go_wp2_with fail
      go_roundg (n - (i + 1))
      case measure => have := HI.out; omega
      case rel =>
        refine ⟨i + 1, (xs.set (i * 2) (.float .f64 (fx l i))).set (i * 2 + 1) (.float .f64 (fy l i)), by omega, by go_num, ((HO2.out.stored _ _).1.stored _ _).1, fun j hj => ?_, (HB2.out.setCell (p := ⟨w.heap.size, i * 2, none⟩) (Nat.le_refl _) _).setCell (p := ⟨w.heap.size, i * 2 + 1, none⟩) (Nat.le_refl _) _⟩
        have hxl := HXL.out
        have hli : i < l.length := by rw [HL.out]; exact hlt
        have g0 := flatMap_get encF 2 encF_len l i 0 (by omega)
        have g1 := flatMap_get encF 2 encF_len l i 1 (by omega)
        rw [List.getElem?_eq_getElem hli] at g0 g1
        have gp : l[i] = (fx l i, fy l i) := by unfold fx fy; simp [List.getD_eq_getElem?_getD, hli]
        rw [gp] at g0 g1
        rcases (by omega : j < i * 2 ∨ j = i * 2 ∨ j = i * 2 + 1) with h | h | h
        · rw [List.getElem?_set_ne (by omega), List.getElem?_set_ne (by omega)]
          exact HX.out j h
        · subst h
          rw [List.getElem?_set_ne (by omega), List.getElem?_set_self (by omega)]
          exact g0.symm
        · subst h
          rw [List.getElem?_set_self (by rw [List.length_set]; omega)]
          exact g1.symm
    · obtain rfl : i = n := by omega
      go_wp2_with fail
      go_ret
      refine ⟨_, rfl, ?_, HB.out⟩
      have hfin : xs = l.flatMap encF := by
        refine List.ext_getElem? fun j => ?_
        rcases Nat.lt_or_ge j (i * 2) with h | h
        · exact HX.out j h
        · rw [List.getElem?_eq_none (by have := HO'.out.1; omega), List.getElem?_eq_none (by rw [flatMap_len encF 2 encF_len, HL.out]; omega)]
      have := HO'.out
      rw [hfin] at this
      exact Sl.of_own this

/-- Two places' numbers are equal as floats. -/
def eqF (p q : Nat × Nat) : Bool := Op.floatEq .f64 p.1 q.1 && Op.floatEq .f64 p.2 q.2

/-- Some place is not as the first one is. -/
def Two (l : List (Nat × Nat)) : Bool := l.any fun p => !eqF p (l.getD 0 (0, 0))

theorem two_true (l : List (Nat × Nat)) (i : Nat) (hi : i < l.length) (h : eqF (l.getD i (0, 0)) (l.getD 0 (0, 0)) = false) : Two l = true := by
  unfold Two
  rw [List.any_eq_true]
  refine ⟨l[i], List.getElem_mem hi, ?_⟩
  rw [List.getD_eq_getElem?_getD, List.getElem?_eq_getElem hi] at h
  simp only [Option.getD_some] at h
  rw [h]; rfl
theorem two_false (l : List (Nat × Nat)) (h : ∀ j, j < l.length → eqF (l.getD j (0, 0)) (l.getD 0 (0, 0)) = true) : Two l = false := by
  unfold Two
  rw [List.any_eq_false]
  intro p hp
  obtain ⟨j, hj, rfl⟩ := List.getElem_of_mem hp
  have := h j hj
  rw [List.getD_eq_getElem?_getD, List.getElem?_eq_getElem hj] at this
  simp only [Option.getD_some] at this
  rw [this]; decide

set_option maxHeartbeats 8000000 in
theorem has2_any (A : Option Addr) (n k : Nat) (l : List (Nat × Nat)) (w : World) (hA : Sl w w.heap.size A n 2 (l.flatMap encF)) (hn : n ≤ 400) (hk : n ≤ k) (hself : ∀ p ∈ l, eqF p p = true) :
    Calls Try.prog 30 #[.slice A n k] w fun e w' => e = .returned (.bool (Two l)) ∧ Below w.heap.size w w' := by
  have hl : l.length = n := by have := hA.1; rw [flatMap_len encF 2 encF_len] at this; omega
  by_cases h1 : n ≤ 1
  · have hT : Two l = false := by
      unfold Two
      match l, hl with
      | [], _ => rfl
      | [p], _ => simp [hself p (by simp)]
      | _ :: _ :: _, h => simp at h; omega
    have HT := Lib.hid hT
    clear hA hl hself hT
    go_enter Try.func30, Try.ntmps30
    go_wp2_with fail
    go_ret
    exact ⟨by rw [HT.out]; rfl, Below.refl _ _⟩
  · obtain ⟨b, off, rfl, hb, c0, c1⟩ := sl_fl hA (show 0 < n by omega)
    have HA := Lib.hid hA
    have HL := Lib.hid hl
    have HS := Lib.hid hself
    have hn1 : (1 : Int) ≤ (n : Int) := by omega
    have hk1 : (1 : Int) ≤ (k : Int) := by omega
    have hkn : ¬ (k = 1) := by omega
    clear hA hl hself
    go_enter Try.func30, Try.ntmps30
    go_wp2_with fail
    go_loopg [11] (n - 1) (fun q c wr => ∃ i, i + q = n - 1 ∧ c = .int .i64 i ∧ (∀ j, j ≤ i → eqF (l.getD j (0, 0)) (l.getD 0 (0, 0)) = true) ∧ Below w.heap.size w wr)
    case atStart => exact ⟨0, by omega, by go_num, fun j hj => by
      obtain rfl : j = 0 := by omega
      have h0 : 0 < l.length := by rw [HL.out]; omega
      exact HS.out _ (by rw [List.getD_eq_getElem?_getD, List.getElem?_eq_getElem h0]; exact List.getElem_mem h0), Below.refl _ _⟩
    case round =>
      obtain ⟨i, hi, rfl, hs, hb'⟩ := hrel
      have HQ := Lib.hid hs
      have HB := Lib.hid hb'
      have HI := Lib.hid hi
      have hin : i ≤ n - 1 := by omega
      clear hs hb' hi
      by_cases hlt : i < n - 1
      · obtain ⟨b2, off2, heq, hb2, g0, g1⟩ := sl_fl HA.out (show i + 1 < n by omega)
        simp only [Option.some.injEq, Addr.mk.injEq, and_true] at heq
        obtain ⟨rfl, rfl⟩ := heq
        have d0 : wr.cell? ⟨b, off + 0 * 2, none⟩ = some (.float .f64 (fx l 0)) := (HB.out.cell (p := ⟨b, off + 0 * 2, none⟩) hb).trans c0
        have d1 : wr.cell? ⟨b, off + 0 * 2 + 1, none⟩ = some (.float .f64 (fy l 0)) := (HB.out.cell (p := ⟨b, off + 0 * 2 + 1, none⟩) hb).trans c1
        have d2 : wr.cell? ⟨b, off + (i + 1) * 2, none⟩ = some (.float .f64 (fx l (i + 1))) := (HB.out.cell (p := ⟨b, off + (i + 1) * 2, none⟩) hb2).trans g0
        have d3 : wr.cell? ⟨b, off + (i + 1) * 2 + 1, none⟩ = some (.float .f64 (fy l (i + 1))) := (HB.out.cell (p := ⟨b, off + (i + 1) * 2 + 1, none⟩) hb2).trans g1
        rw [show off + 0 * 2 = off from by omega] at d0 d1
        rw [show off + (i + 1) * 2 = off + 2 + i * 2 from by omega] at d2 d3
        clear c0 c1 g0 g1
        obtain ⟨X, hX⟩ : ∃ X, X = Op.floatEq .f64 (fx l (i + 1)) (fx l 0) := ⟨_, rfl⟩
        obtain ⟨Y, hY⟩ : ∃ Y, Y = Op.floatEq .f64 (fy l (i + 1)) (fy l 0) := ⟨_, rfl⟩
        have HX := Lib.hid hX
        have HY := Lib.hid hY
        have hX' := hX.symm
        have hY' := hY.symm
        have hn0 : (0 : Int) < (n : Int) := by omega
        have hbw : b < wr.heap.size := Nat.lt_of_lt_of_le hb HB.out.size
        have hn0' : 0 < n := by omega
        have hltI : (i : Int) < ((n - 1 : Nat) : Int) := by omega
        clear hX hY
        cases X <;> cases Y
        all_goals
          go_wp2_with fail
          go_quiet (fail)
          go_wp2_with fail
        all_goals first
          | (go_ret
             refine ⟨?_, ((HB.out.alloc HB.out.size _).trans (drewN_below _ _ _))⟩
             have hq : eqF (l.getD (i + 1) (0, 0)) (l.getD 0 (0, 0)) = false := by
               show (Op.floatEq .f64 (fx l (i + 1)) (fx l 0) && Op.floatEq .f64 (fy l (i + 1)) (fy l 0)) = false
               rw [← HX.out, ← HY.out]; rfl
             rw [two_true l (i + 1) (by rw [HL.out]; omega) hq]; rfl)
          | (go_roundg (n - 1 - (i + 1))
             case measure => have := HI.out; omega
             case rel =>
               refine ⟨i + 1, by omega, by go_num, fun j hj => ?_, ((HB.out.alloc HB.out.size _).trans (drewN_below _ _ _))⟩
               by_cases e : j = i + 1
               · subst e
                 show (Op.floatEq .f64 (fx l (i + 1)) (fx l 0) && Op.floatEq .f64 (fy l (i + 1)) (fy l 0)) = true
                 rw [← HX.out, ← HY.out]; rfl
               · exact HQ.out j (by omega))
      · obtain rfl : i = n - 1 := by omega
        clear c0 c1
        go_wp2_with fail
        go_ret
        refine ⟨?_, HB.out⟩
        rw [two_false l (fun j hj => HQ.out j (by rw [HL.out] at hj; omega))]; rfl

set_option maxHeartbeats 4000000 in
theorem doorTwo_any (A : Option Addr) (n k : Nat) (l : List (Nat × Nat)) (w : World) (hA : Sl w w.heap.size A n 2 (l.flatMap encF)) (hn : n ≤ 400) (hk : n ≤ k) (hself : ∀ p ∈ l, eqF p p = true) :
    Calls Try.prog 21 #[.slice A n k] w fun e w' => e = .returned (.bool (Two l)) ∧ Below w.heap.size w w' := by
  have H1 := Lib.hid (has2_any A n k l w hA hn hk hself)
  clear hA hself
  go_enter Try.func21, Try.ntmps21
  go_wp2_with fail
  refine H1.out.mono ?_; rintro e w2 ⟨rfl, h2⟩
  go_wp2_with fail
  go_ret
  exact ⟨rfl, h2⟩

set_option maxHeartbeats 4000000 in
theorem twoPlaces_any (A : Option Addr) (n k : Nat) (l : List (Nat × Nat)) (w : World) (hA : Sl w w.heap.size A n 2 (l.flatMap encF)) (hn : n ≤ 400) (hself : ∀ p ∈ l, eqF p p = true) :
    Calls Try.prog 11 #[.slice A n k] w fun e w' => e = .returned (.bool (Two l)) ∧ Below w.heap.size w w' := by
  have HS := Lib.hid hself
  have H1 := Lib.hid (xys_any A n k l w hA hn)
  clear hA hself
  go_enter Try.func11, Try.ntmps11
  go_wp2_with fail
  refine H1.out.mono ?_; rintro e w2 ⟨B, rfl, hs, h2⟩
  have H3 := Lib.hid (doorTwo_any B n n l w2 hs hn (Nat.le_refl _) HS.out)
  clear hs
  go_wp2_with fail
  refine H3.out.mono ?_; rintro e w3 ⟨rfl, h3⟩
  go_wp2_with fail
  go_ret
  exact ⟨rfl, h2.trans (h3.mono h2.size)⟩
end Go.Proofs.Ytlnjnecjmnfiaaa.pts
