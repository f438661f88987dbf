/-
  Proved: the law FnTwoPlaces: for every slice of places and every int that can be read the call returns true, and the arguments read as they did. No condition.
-/
import Derived.Test.YtlnjnecjmnfiaaaPtsB
import Derived.Deep.RegionHeld3
import Derived.Deep.AppendLies
namespace Go.Proofs.Ytlnjnecjmnfiaaa.pts
open Go.ChangeShapes Go.WideShapes Go.ChangeAt Go.RowKit
open Go.Proofs.Ytlnjnecjmnfiaaa.mem Go.Proofs.Ytlnjnecjmnfiaaa.flt
set_option linter.unusedVariables false
set_option linter.unusedSimpArgs false

/-- Where the i-th other place is taken from. -/
def sig (n : Nat) (k : Int) (i : Nat) : Nat := (((i : Int) + k.tmod (n : Int) + (n : Int)) % (n : Int)).toNat
def others (l : List (Int × Int)) (k : Int) : Nat → List (Int × Int)
  | 0 => []
  | i + 1 => others l k i ++ [l.getD (sig l.length k i) (0, 0), l.getD i (0, 0)]
def wantB (l : List (Int × Int)) : Nat → Bool
  | 0 => false
  | i + 1 => wantB l i || !(px l i == px l 0 && py l i == py l 0)

theorem others_succ (l : List (Int × Int)) (k : Int) (i s : Nat) (h : sig l.length k i = s) :
    (others l k (i + 1)).flatMap encP = (others l k i).flatMap encP ++ [.int .i64 (px l s), .int .i64 (py l s), .int .i64 (px l i), .int .i64 (py l i)] := by
  show (others l k i ++ [l.getD (sig l.length k i) (0, 0), l.getD i (0, 0)]).flatMap encP = _
  rw [List.flatMap_append, h]
  simp [encP, px, py]
theorem others_len (l : List (Int × Int)) (k : Int) (i : Nat) : (others l k i).length = i * 2 := by
  induction i with
  | zero => rfl
  | succ i ih =>
    show (others l k i ++ _).length = _
    rw [List.length_append, ih]; simp; omega

/-! The plain law. -/
theorem floatEq_fi (a b : Int) (ha : a.natAbs < 2 ^ 53) (hb : b.natAbs < 2 ^ 53) : Op.floatEq .f64 (fi a) (fi b) = (a == b) := by
  show (Ieee.double.order (fi a) (fi b) == some .eq) = (a == b)
  rw [order_fi a b ha hb, compare_eq]
  by_cases h1 : a < b
  · simp [h1]; omega
  · by_cases h2 : a = b
    · simp [h2]
    · simp [h1, h2]

def SmallP (p : Int × Int) : Prop := -1048576 ≤ p.1 ∧ p.1 ≤ 1048576 ∧ -1048576 ≤ p.2 ∧ p.2 ≤ 1048576
theorem eqF_toF {p q : Int × Int} (hp : SmallP p) (hq : SmallP q) : eqF (toF p) (toF q) = (p == q) := by
  have k53 : (2 : Nat) ^ 53 = 9007199254740992 := by decide
  unfold eqF toF
  rw [floatEq_fi _ _ (by rw [k53]; have := hp.1; have := hp.2.1; omega) (by rw [k53]; have := hq.1; have := hq.2.1; omega),
    floatEq_fi _ _ (by rw [k53]; have := hp.2.2.1; have := hp.2.2.2; omega) (by rw [k53]; have := hq.2.2.1; have := hq.2.2.2; omega)]
  rfl

/-- Some place is not as the first one. -/
def TwoI (l : List (Int × Int)) : Prop := ∃ p ∈ l, p ≠ l.getD 0 (0, 0)
theorem getD0_mem {l : List (Int × Int)} (h : l ≠ []) : l.getD 0 (0, 0) ∈ l := by
  cases l with
  | nil => exact absurd rfl h
  | cons a l => simp
theorem two_iff (l : List (Int × Int)) (h : ∀ p ∈ l, SmallP p) : Two (l.map toF) = true ↔ TwoI l := by
  unfold Two TwoI
  rw [List.any_eq_true]
  by_cases hl : l = []
  · subst hl; simp
  have h0 := getD0_mem hl
  have e0 : (l.map toF).getD 0 (0, 0) = toF (l.getD 0 (0, 0)) := by cases l with
    | nil => exact absurd rfl hl
    | cons a l => rfl
  rw [e0]
  constructor
  · rintro ⟨x, hx, hne⟩
    obtain ⟨p, hp, rfl⟩ := List.mem_map.1 hx
    refine ⟨p, hp, fun e => ?_⟩
    rw [eqF_toF (h p hp) (h _ h0), e] at hne
    simp at hne
  · rintro ⟨p, hp, hne⟩
    refine ⟨toF p, List.mem_map_of_mem hp, ?_⟩
    rw [eqF_toF (h p hp) (h _ h0)]
    simpa using hne
theorem two_same {a b : List (Int × Int)} (ha : a ≠ []) (hb : b ≠ []) (h : ∀ p, p ∈ a ↔ p ∈ b) : TwoI a ↔ TwoI b := by
  have one : ∀ {a b : List (Int × Int)}, a ≠ [] → b ≠ [] → (∀ p, p ∈ a ↔ p ∈ b) → TwoI a → TwoI b := by
    rintro a b ha hb h ⟨p, hp, hne⟩
    by_cases h1 : p = b.getD 0 (0, 0)
    · refine ⟨a.getD 0 (0, 0), (h _).1 (getD0_mem ha), fun e => hne (by rw [h1, e])⟩
    · exact ⟨p, (h p).1 hp, h1⟩
  exact ⟨one ha hb h, one hb ha fun p => (h p).symm⟩
theorem getD_mem {l : List (Int × Int)} {i : Nat} (h : i < l.length) : l.getD i (0, 0) ∈ l := by
  rw [List.getD_eq_getElem?_getD, List.getElem?_eq_getElem h]; exact List.getElem_mem h
theorem sig_lt (n : Nat) (k : Int) (i : Nat) (h : 0 < n) : sig n k i < n := by
  unfold sig
  have h1 := Int.emod_nonneg ((i : Int) + k.tmod (n : Int) + (n : Int)) (show (n : Int) ≠ 0 by omega)
  have h2 := Int.emod_lt_of_pos ((i : Int) + k.tmod (n : Int) + (n : Int)) (show (0 : Int) < (n : Int) by omega)
  omega
theorem others_mem (l : List (Int × Int)) (k : Int) (hl : 0 < l.length) (i : Nat) (hi : i ≤ l.length) : (∀ p ∈ others l k i, p ∈ l) ∧ ∀ j, j < i → l.getD j (0, 0) ∈ others l k i := by
  induction i with
  | zero => exact ⟨fun p hp => (by cases hp), fun j hj => absurd hj (by omega)⟩
  | succ i ih =>
    obtain ⟨h1, h2⟩ := ih (by omega)
    refine ⟨fun p hp => ?_, fun j hj => ?_⟩
    · rcases List.mem_append.1 hp with hp | hp
      · exact h1 p hp
      · simp only [List.mem_cons, List.not_mem_nil, or_false] at hp
        rcases hp with rfl | rfl
        · exact getD_mem (sig_lt _ _ _ hl)
        · exact getD_mem (by omega)
    · refine List.mem_append.2 ?_
      by_cases e : j = i
      · subst e; right; simp
      · left; exact h2 j (by omega)
theorem want_iff (l : List (Int × Int)) (i : Nat) : wantB l i = true ↔ ∃ j, j < i ∧ l.getD j (0, 0) ≠ l.getD 0 (0, 0) := by
  induction i with
  | zero => simp [wantB]
  | succ i ih =>
    unfold wantB
    rw [Bool.or_eq_true, ih]
    have e : (!(px l i == px l 0 && py l i == py l 0)) = true ↔ l.getD i (0, 0) ≠ l.getD 0 (0, 0) := by
      unfold px py
      rw [Ne, Prod.ext_iff]
      simp only [Bool.not_eq_true', Bool.and_eq_false_iff, beq_eq_false_iff_ne, ne_eq]
      exact Decidable.not_and_iff_not_or_not.symm
    rw [e]
    constructor
    · rintro (⟨j, hj, h⟩ | h)
      · exact ⟨j, by omega, h⟩
      · exact ⟨i, by omega, h⟩
    · rintro ⟨j, hj, h⟩
      by_cases e : j = i
      · subst e; exact Or.inr h
      · exact Or.inl ⟨j, by omega, h⟩
theorem want_two (l : List (Int × Int)) : wantB l l.length = true ↔ TwoI l := by
  rw [want_iff]
  constructor
  · rintro ⟨j, hj, h⟩; exact ⟨_, getD_mem hj, h⟩
  · rintro ⟨p, hp, h⟩
    obtain ⟨j, hj, rfl⟩ := List.getElem_of_mem hp
    exact ⟨j, hj, by rw [List.getD_eq_getElem?_getD, List.getElem?_eq_getElem hj]; exact h⟩
theorem plain1 (l : List (Int × Int)) (h : ∀ p ∈ l, SmallP p) : Two (l.map toF) = wantB l l.length := by
  rw [Bool.eq_iff_iff, two_iff l h, want_two]
theorem plain2 (l : List (Int × Int)) (k : Int) (h : ∀ p ∈ l, SmallP p) : Two ((others l k l.length).map toF) = wantB l l.length := by
  by_cases hl : l = []
  · subst hl; rfl
  have hpos : 0 < l.length := List.length_pos_iff.2 hl
  obtain ⟨h1, h2⟩ := others_mem l k hpos l.length (Nat.le_refl _)
  have hne : others l k l.length ≠ [] := by
    intro e
    have := others_len l k l.length
    rw [e] at this; simp at this; omega
  rw [Bool.eq_iff_iff, two_iff _ (fun p hp => h p (h1 p hp)), want_two]
  refine two_same hne hl fun p => ⟨h1 p, fun hp => ?_⟩
  obtain ⟨j, hj, rfl⟩ := List.getElem_of_mem hp
  have := h2 j hj
  rwa [List.getD_eq_getElem?_getD, List.getElem?_eq_getElem hj] at this
theorem small_mem {l : List (Int × Int)} (h : Small l) : ∀ p ∈ l, SmallP p := by
  intro p hp
  obtain ⟨j, hj, rfl⟩ := List.getElem_of_mem hp
  have := h j hj
  unfold px py at this
  rwa [List.getD_eq_getElem?_getD, List.getElem?_eq_getElem hj] at this
theorem self_eq (l : List (Int × Int)) (h : ∀ p ∈ l, SmallP p) : ∀ p ∈ l.map toF, eqF p p = true := by
  intro x hx
  obtain ⟨p, hp, rfl⟩ := List.mem_map.1 hx
  rw [eqF_toF (h p hp) (h p hp)]; simp

theorem infoPt : (Try.prog.info? 28).map (fun i => (i.zero, i.size, i.bytes)) = some (some (.agg #[.int .i64 0, .int .i64 0]), 2, 16) := by kernel_rfl

theorem tmod_bounds (k : Int) (n : Nat) (h : 0 < n) : -(n : Int) < k.tmod (n : Int) ∧ k.tmod (n : Int) < (n : Int) := by
  refine ⟨?_, Int.tmod_lt_of_pos _ (by omega)⟩
  have h1 := Int.tmod_lt_of_pos (-k) (show (0 : Int) < (n : Int) by omega)
  rw [Int.neg_tmod] at h1
  omega

set_option maxHeartbeats 8000000 in
theorem walk_small (A : Option Addr) (n c : Nat) (l : List (Int × Int)) (k : Int) (w : World) (hA : Sl w w.heap.size A n 2 (l.flatMap encP)) (hwf : -9223372036854775808 ≤ k ∧ k ≤ 9223372036854775807) (hz : (n : Int) ≤ 2147483647) :
    Calls Try.prog 4 #[.slice A n c, .int .i64 k] w fun e w' => e = .returned (.bool true) ∧ Below w.heap.size w w' := by
  have hl : l.length = n := by have := hA.1; rw [flatMap_len encP 2 encP_len] at this; omega
  have H1 := Lib.hid (lined_any A n c l w hA)
  obtain ⟨i0, hi, hz0, hz1, hz2⟩ := info_parts infoPt
  have HA := Lib.hid hA
  have HL := Lib.hid hl
  clear hA hl
  go_enter Try.func4, Try.ntmps4
  go_wp2_with fail
  refine H1.out.mono ?_; rintro e w1 ⟨⟨b, rfl, hs, h1⟩, h200⟩
  cases b
  · clear h200
    go_wp2_with fail
    go_ret
    exact ⟨rfl, h1⟩
  · have hn : n ≤ 200 := by
      rcases Nat.lt_or_ge 200 n with h | h
      · exact absurd (h200 h) (by simp)
      · exact h
    have HS := Lib.hid (hs rfl)
    have HB1 := Lib.hid h1
    have hsz1 := h1.size
    clear h200 hs h1
    go_wp2_with fail
    go_loopg [5, 6, 17] n (fun q a v cc wr => ∃ i, i + q = n ∧ cc = .int .i64 i ∧ a = .bool (wantB l i) ∧ wr.ownsRow w1.heap.size 28 2 v (i * 2) ((others l k i).flatMap encP) ∧ Below w1.heap.size w1 wr)
    case atStart => exact ⟨0, by omega, by go_num, rfl, World.ownsRow_nil _ _ _ _, Below.refl _ _⟩
    case round =>
      obtain ⟨i, hi', rfl, rfl, ho, hb⟩ := hrel
      have HO := Lib.hid ho
      have HB := Lib.hid hb
      have HI := Lib.hid hi'
      have hin : i ≤ n := by omega
      clear ho hb hi'
      by_cases hlt : i < n
      · obtain ⟨b, off, rfl, hb, c0, c1⟩ := sl_pt HA.out hlt
        obtain ⟨b2, off2, heq, hb2, g0, g1⟩ := sl_pt HA.out (show 0 < n by omega)
        simp only [Option.some.injEq, Addr.mk.injEq, and_true] at heq
        obtain ⟨rfl, rfl⟩ := heq
        have hBw : Below w.heap.size w wr := HB1.out.trans (HB.out.mono hsz1)
        have d0 : wr.cell? ⟨b, off + i * 2, none⟩ = some (.int .i64 (px l i)) := (hBw.cell (p := ⟨b, off + i * 2, none⟩) hb).trans c0
        have d1 : wr.cell? ⟨b, off + i * 2 + 1, none⟩ = some (.int .i64 (py l i)) := (hBw.cell (p := ⟨b, off + i * 2 + 1, none⟩) hb).trans c1
        have d2 : wr.cell? ⟨b, off, none⟩ = some (.int .i64 (px l 0)) := by
          have := (hBw.cell (p := ⟨b, off + 0 * 2, none⟩) hb).trans g0
          rw [show off + 0 * 2 = off from by omega] at this; exact this
        have d3 : wr.cell? ⟨b, off + 1, none⟩ = some (.int .i64 (py l 0)) := by
          have := (hBw.cell (p := ⟨b, off + 0 * 2 + 1, none⟩) hb).trans g1
          rw [show off + 0 * 2 + 1 = off + 1 from by omega] at this; exact this
        have hbw : b < wr.heap.size := Nat.lt_of_lt_of_le hb hBw.size
        have hn0 : (0 : Int) < (n : Int) := by omega
        have hn0' : 0 < n := by omega
        have HBw := Lib.hid hBw
        clear c0 c1 g0 g1 hBw
        obtain ⟨X, hX⟩ : ∃ X, X = (px l i == px l 0) := ⟨_, rfl⟩
        obtain ⟨Y, hY⟩ : ∃ Y, Y = (py l i == py l 0) := ⟨_, rfl⟩
        obtain ⟨Z, hZ⟩ : ∃ Z, Z = wantB l i := ⟨_, rfl⟩
        have HX := Lib.hid hX
        have HY := Lib.hid hY
        have HZ := Lib.hid hZ
        have hX' := hX.symm
        have hY' := hY.symm
        rw [← hZ]
        have hnext : (Z || !(X && Y)) = wantB l (i + 1) := by rw [hX, hY, hZ]; rfl
        have HN := Lib.hid hnext
        clear hX hY hZ hnext
        obtain ⟨q, hq⟩ : ∃ q, k.tmod (n : Int) = q := ⟨_, rfl⟩
        have hqb : -(n : Int) < q ∧ q < (n : Int) := by rw [← hq]; exact tmod_bounds k n hn0'
        obtain ⟨s, hs⟩ : ∃ s : Nat, ((i : Int) + q + (n : Int)).tmod (n : Int) = (s : Int) := Int.eq_ofNat_of_zero_le (Int.tmod_nonneg _ (by omega))
        have hsn : s < n := by
          have h1 : ((i : Int) + q + (n : Int)).tmod (n : Int) < n := Int.tmod_lt_of_pos _ (by omega)
          omega
        have hsig : sig n k i = s := by
          unfold sig
          rw [hq, ← Int.tmod_eq_emod_of_nonneg (by omega), hs]; rfl
        have HSIG := Lib.hid hsig
        clear hsig
        obtain ⟨_, _, heq, _, g0, g1⟩ := sl_pt HA.out hsn
        simp only [Option.some.injEq, Addr.mk.injEq, and_true] at heq
        obtain ⟨rfl, rfl⟩ := heq
        have d4 : wr.cell? ⟨b, off + s * 2, none⟩ = some (.int .i64 (px l s)) := (HBw.out.cell (p := ⟨b, off + s * 2, none⟩) hb).trans g0
        have d5 : wr.cell? ⟨b, off + s * 2 + 1, none⟩ = some (.int .i64 (py l s)) := (HBw.out.cell (p := ⟨b, off + s * 2 + 1, none⟩) hb).trans g1
        clear g0 g1
        have v0 : ¬ n = 0 := by omega
        have v6 : IntKind.i64.wrap (k.tmod (n : Int)) = q := by rw [hq]; exact IntWalk.i64_in _ (by omega)
        have v7 : IntKind.i64.wrap (((i : Int) + q + (n : Int)).tmod (n : Int)) = (s : Int) := by rw [hs]; exact IntWalk.i64_in _ (by omega)
        have v1 : IntKind.i64.wrap q = q := IntWalk.i64_in _ (by omega)
        have v2 : IntKind.i64.wrap ((i : Int) + q) = (i : Int) + q := IntWalk.i64_in _ (by omega)
        have v3 : IntKind.i64.wrap ((i : Int) + q + (n : Int)) = (i : Int) + q + (n : Int) := IntWalk.i64_in _ (by omega)
        have v4 : IntKind.i64.wrap (s : Int) = (s : Int) := IntWalk.i64_in _ (by omega)
        have v5 : (s : Int) < (n : Int) := by omega
        rcases (by cases Z <;> cases X <;> cases Y <;> simp : Z = true ∨ (Z = false ∧ X = true ∧ Y = true) ∨ (Z = false ∧ X = true ∧ Y = false) ∨ (Z = false ∧ X = false)) with rfl | ⟨rfl, rfl, rfl⟩ | ⟨rfl, rfl, rfl⟩ | ⟨rfl, rfl⟩
        all_goals
          go_wp2_with fail
          go_quiet (fail)
          generalize hw5 : (wr.alloc (Obj.cells #[Value.int IntKind.i64 (px l i), Value.int IntKind.i64 (py l i)] 28)).drewN nq = w5
          have hw6 := hw5.symm
          have m0 : w5.cell? ⟨wr.heap.size, 0, none⟩ = some (.int .i64 (px l i)) := by rw [hw6]; simp [go_sem]
          have m1 : w5.cell? ⟨wr.heap.size, 1, none⟩ = some (.int .i64 (py l i)) := by rw [hw6]; simp [go_sem]
          have hb5 : Below wr.heap.size wr w5 := by rw [hw6]; exact ((Below.refl _ _).alloc (Nat.le_refl _) _).trans (drewN_below _ _ _)
          have m4 := (hb5.cell (p := ⟨b, off + s * 2, none⟩) hbw).trans d4
          have m5 := (hb5.cell (p := ⟨b, off + s * 2 + 1, none⟩) hbw).trans d5
          have HO5 := Lib.hid (HO.out.kept (grown_below (row := none) hb5) (own_row _))
          have HB5 := Lib.hid hb5
          have ag : u6.ownBlock ≠ some b := fun h => by have := (HO.out.lt b h).1; omega
          have ak : u6.ownBlock ≠ some wr.heap.size := fun h => by have := (HO.out.lt _ h).2; omega
          have lz : wr.heap.size < w5.heap.size := by rw [hw6]; simp
          have lb : b < w5.heap.size := by omega
          have v8 : (0 : Int) ≤ (s : Int) := Int.natCast_nonneg _
          have hone : ∀ u ∈ [Value.int .i64 (px l s), .int .i64 (py l s), .int .i64 (px l i), .int .i64 (py l i)], u.oneCell' = true := by
            intro u hu; simp at hu; rcases hu with rfl | rfl | rfl | rfl <;> rfl
          have HONE := Lib.hid hone
          have hsw : w1.heap.size ≤ w5.heap.size := Nat.le_trans HB.out.size HB5.out.size
          clear hX' hY' d0 d1 d2 d3 d4 d5 hw5 hw6 hb5 hone
          go_wp2_with fail
          go_region_held3 (fun w' => w'.cell? ⟨b, off + s * 2, none⟩ = some (.int .i64 (px l s)) ∧ w'.cell? ⟨b, off + s * 2 + 1, none⟩ = some (.int .i64 (py l s)) ∧
              w'.cell? ⟨wr.heap.size, 0, none⟩ = some (.int .i64 (px l i)) ∧ w'.cell? ⟨wr.heap.size, 1, none⟩ = some (.int .i64 (py l i)))
            (first
              | go_keep
              | (go_split_ands
                 refine ⟨?_, ?_, ?_, ?_⟩
                 · (rw [hgrow.cell_far _ (by simp; omega) (Ne.symm ag)]; assumption)
                 · (rw [hgrow.cell_far _ (by simp; omega) (Ne.symm ag)]; assumption)
                 · (rw [hgrow.cell_far _ (by simp; omega) (Ne.symm ak)]; assumption)
                 · (rw [hgrow.cell_far _ (by simp; omega) (Ne.symm ak)]; assumption)))
            ((refine step_append_lies _ (by rfl) _ _ _ (by rfl) w1.heap.size 28 i0 _ 2 16 Try.underlying25 hi hz0 hz1 hz2 rfl (by omega) u6 (i * 2) _ (by rfl) ((HO5.out.alloc _).drew)
                ⟨w5.heap.size, 0, none⟩ 2 2 [.int .i64 (px l s), .int .i64 (py l s), .int .i64 (px l i), .int .i64 (py l i)] (by rfl) (by rfl) (World.news_of_block (cs := #[.int .i64 (px l s), .int .i64 (py l s), .int .i64 (px l i), .int .i64 (py l i)]) (t := 28) (fr := (0, 0)) (heap_alloc_new w5 _)) HONE.out
                (by omega) (by unfold maxLen; omega) (by omega) (by simp; omega) (w5.heap.size + 1) (by simp) ?_; intro gg cap w8 hown' hgrow hat hlt'))
          clear v1 v2 v3 v4 v6 v7 v8
          have HO8 := Lib.hid hown'
          have HG8 := Lib.hid hgrow
          have HAT := Lib.hid hat
          clear hown' hgrow hat
          go_wp2_with fail
          go_roundg (n - (i + 1))
          case measure => have := HI.out; omega
          case rel =>
            refine ⟨i + 1, by omega, by go_num, by rw [← HN.out]; rfl, ?_, ?_⟩
            · have e1 := others_succ l k i s (by rw [HL.out]; exact HSIG.out)
              have h8 := HO8.out
              rw [← e1] at h8
              rw [show (i + 1) * 2 = i * 2 + 2 from by omega]
              exact h8
            · exact (((HB.out.trans (HB5.out.mono HB.out.size)).alloc hsw _).drew).grown HG8.out (by simp; omega) (fun r hr => (HO.out.lt r hr).1)
      · obtain rfl : i = n := by omega
        have hsm := small_mem HS.out
        have p1 : Two (l.map toF) = wantB l i := by rw [plain1 l hsm, HL.out]
        have p2 : Two ((others l k i).map toF) = wantB l i := by have := plain2 l k hsm; rwa [HL.out] at this
        have p3 : ∀ p ∈ others l k i, SmallP p := by
          intro p hp
          by_cases hz : l = []
          · subst hz
            have hi0 : i = 0 := by have := HL.out; simpa using this.symm
            subst hi0; cases hp
          · exact hsm p ((others_mem l k (List.length_pos_iff.2 hz) i (by rw [HL.out]; exact Nat.le_refl _)).1 p hp)
        have P1 := Lib.hid p1
        have P2 := Lib.hid p2
        have P3 := Lib.hid p3
        have HSM := Lib.hid hsm
        have HBw := Lib.hid (HB1.out.trans (HB.out.mono hsz1))
        obtain ⟨A3, c3, rfl⟩ := own_slice HO.out
        have S3 := Lib.hid (Sl.of_own HO.out)
        clear p1 p2 p3 hsm
        go_wp2_with fail
        refine (row_any A i c l wr (HA.out.up HBw.out) (by omega)).mono ?_; rintro e w2 ⟨v2, rfl, ho2, h2⟩
        obtain ⟨A2, c2, rfl⟩ := own_slice ho2
        have hs2 := Sl.of_own ho2
        have H2 := Lib.hid h2
        have S2 := Lib.hid hs2
        clear ho2 hs2 h2
        go_wp2_with fail
        refine (twoPlaces_any A2 i c2 (l.map toF) w2 S2.out (by omega) (self_eq l HSM.out)).mono ?_; rintro e w3 ⟨rfl, h3⟩
        rw [P1.out]
        have H3 := Lib.hid (H2.out.trans (h3.mono H2.out.size))
        have hq : (wantB l i == wantB l i) = true := by simp
        clear h3
        go_wp2_with fail
        refine (row_any A3 (i * 2) c3 (others l k i) w3 (S3.out.up H3.out) (by omega)).mono ?_; rintro e w4 ⟨v4, rfl, ho4, h4⟩
        obtain ⟨A4, c4, rfl⟩ := own_slice ho4
        have hs4 := Sl.of_own ho4
        have S4 := Lib.hid hs4
        have H4 := Lib.hid (H3.out.trans (h4.mono H3.out.size))
        clear ho4 hs4 h4
        go_wp2_with fail
        refine (twoPlaces_any A4 (i * 2) c4 ((others l k i).map toF) w4 S4.out (by omega) (self_eq _ P3.out)).mono ?_; rintro e w5 ⟨rfl, h5⟩
        rw [P2.out]
        have H5 := Lib.hid (H4.out.trans (h5.mono H4.out.size))
        clear h5
        go_wp2_with fail
        have hs5 : ∀ W : World, Sl (W.alloc (.cells #[.int .i64 0, .int .i64 0, .int .i64 1, .int .i64 0] 28)) (W.heap.size + 1) (some ⟨W.heap.size, 0, none⟩) 2 2 ([((0 : Int), (0 : Int)), (1, 0)].flatMap encP) := fun W =>
          ⟨rfl, by unfold maxLen; omega, fun _ => ⟨W.heap.size, 0, rfl, by omega, fun j u hu => by
            have := cells_new W ([((0 : Int), (0 : Int)), (1, 0)].flatMap encP) 28 j u hu
            rw [mem.add_plain] at this; exact this⟩⟩
        have h6 := (Below.refl w5.heap.size w5).alloc (Nat.le_refl _) (.cells #[.int .i64 0, .int .i64 0, .int .i64 1, .int .i64 0] 28)
        refine (row_any _ 2 2 [(0, 0), (1, 0)] _ (by simpa using hs5 w5) (by omega)).mono ?_; rintro e w6 ⟨v6, rfl, ho6, h7⟩
        obtain ⟨A6, c6, rfl⟩ := own_slice ho6
        have S6 := Lib.hid (Sl.of_own ho6)
        have H7 := Lib.hid (H5.out.trans ((h6.trans (h7.mono h6.size)).mono H5.out.size))
        clear hs5 h6 ho6 h7
        go_wp2_with fail
        have hsm2 : ∀ p ∈ [((0 : Int), (0 : Int)), (1, 0)], SmallP p := by
          intro p hp; simp at hp; rcases hp with rfl | rfl <;> (unfold SmallP; simp)
        have h10 : Two ([((0 : Int), (0 : Int)), (1, 0)].map toF) = true := by
          rw [two_iff _ hsm2]; exact ⟨(1, 0), by simp, by simp⟩
        refine (twoPlaces_any A6 2 c6 ([((0 : Int), (0 : Int)), (1, 0)].map toF) w6 S6.out (by omega) (self_eq _ hsm2)).mono ?_; rintro e w8 ⟨rfl, h8⟩
        rw [h10]
        have H9 := Lib.hid (H7.out.trans (h8.mono H7.out.size))
        clear h8 h10 hsm2
        go_wp2_with fail
        go_ret
        exact ⟨rfl, HBw.out.trans (H9.out.mono HBw.out.size)⟩

set_option maxHeartbeats 4000000 in
theorem walk (A : Option Addr) (n c : Nat) (l : List (Int × Int)) (k : Int) (w : World) (hA : Sl w w.heap.size A n 2 (l.flatMap encP)) (hwf : -9223372036854775808 ≤ k ∧ k ≤ 9223372036854775807) :
    Calls Try.prog 4 #[.slice A n c, .int .i64 k] w fun e w' => e = .returned (.bool true) ∧ Below w.heap.size w w' := by
  by_cases h1 : 2147483647 < (n : Int)
  · clear hA
    go_enter Try.func4, Try.ntmps4
    go_wp2_with fail
    go_ret
    exact ⟨rfl, Below.refl _ _⟩
  · exact walk_small A n c l k w hA hwf (by omega)

theorem own : ownKnob Try.prog.godebug = none := by kernel_rfl
theorem laidOut : laidOutB Try.prog = true := by kernel_rfl

theorem open_pts {H : Type} {enc : TypeId × Value → H} {W : World} {base : Nat} {v : Value} {d : DataW H} {p : List MemPlace}
    (hv : Value.okWide Try.prog W .any base 25 v) (h : DataW.Trod enc Try.prog W 0 (fun _ => true) true 25 v d p) :
    ∃ (A : Option Addr) (n k : Nat) (l : List (Int × Int)), v = .slice A n k ∧ Sl W W.heap.size A n 2 (l.flatMap encP) := by
  obtain ⟨a0, len0, cap0, rfl⟩ := okWide_slice Try.underlying25 hv
  obtain ⟨fuel, hf⟩ := h
  obtain ⟨A, n, k, l, hcs, hl, hs, _⟩ := open_list (α := Int × Int) encP (fun _ => True) Try.underlying25 (show Try.prog.cellsOf 28 = 2 by kernel_rfl) (by omega) encP_len (fun m cs' y hy => by
    obtain ⟨xs, m', _, _, hlen, hxl, hf⟩ := DataW.trod_struct Try.underlying28 hy
    have h0 := hf 0 _ rfl
    have h1 := hf 1 _ rfl
    have hc2 : cs'.length = 2 := hlen.trans (by kernel_rfl)
    match cs', hc2 with
    | [a, b], _ =>
      match xs, hxl with
      | [y0, y1], _ =>
        have e0 : DataW.trod enc Try.prog W 0 (fun _ => true) true m' 3 [a] = some y0 := h0
        have e1 : DataW.trod enc Try.prog W 0 (fun _ => true) true m' 3 [b] = some y1 := h1
        obtain ⟨x, hx, _, _⟩ := DataW.trod_int Try.underlying3 e0
        obtain ⟨z, hz, _, _⟩ := DataW.trod_int Try.underlying3 e1
        simp at hx hz
        subst hx hz
        exact ⟨(x, z), rfl, trivial⟩) hf
  simp [Value.cells] at hcs
  obtain ⟨rfl, rfl, rfl⟩ := hcs
  exact ⟨_, _, _, l, rfl, hs⟩

theorem proved : Rows.FnTwoPlacesSaid :=
  OpenClaim.holds_of_wide 4 Try.f4 rfl rfl rfl rfl rfl rfl rfl ⟨rfl, rfl, rfl, rfl, rfl⟩ rfl rfl rfl rfl rfl (by kernel_rfl) Try.func4 (by kernel_rfl)
    (of_decide_eq_true (by kernel_rfl)) (by unfold Func.isWrapper; first | (rw [if_pos (by decide +kernel)]; kernel_rfl) | (rw [if_neg (by decide +kernel)]; exact ⟨rfl, rfl⟩))
    (fun os started H enc _ => lift.handed (C := Try.checked) (s := Rows.fnTwoPlacesSpec) own started (by kernel_rfl) Try.func4 laidOut (tb := 4) rfl Try.underlying4 rfl
      (fun t ht => of_decide_eq_true (List.all_eq_true.1 (show (Try.f4.params.toList.all fun t => decide (Try.prog.readableRec t = true ∧ t < Try.prog.types.size)) = true by kernel_rfl) t ht))
      (fun ds h => by match ds, h with | [_, _], _ => rfl)
      (ChangeSpec.witness6 (enc := enc) (C := Try.checked) false ⟨#[], #[.slice none 0 0, .int .i64 0], []⟩ 8 (by kernel_rfl) (by kernel_rfl) (by kernel_rfl) (by kernel_rfl))
      (fun W args ds ⟨⟨base, hval0⟩, ⟨p, hA0⟩⟩ => by
        have hval : ∀ (j : Nat) t v, Try.f4.params[j]? = some t → args[j]? = some v → Value.okWide Try.prog W .any base t v := hval0
        have hA : DataW.TrodAll enc Try.prog W 0 (fun _ => true) true Try.f4.params.toList args.toList ds p := hA0
        rw [Try.params4] at hA hval
        obtain ⟨v0, v1, d0, d1, p0, p1, rfl, rfl, rfl, h0, h1⟩ := trodAll_two hA
        obtain ⟨A, n, k, l, rfl, hs⟩ := open_pts (hval 0 _ v0 rfl rfl) h0
        obtain ⟨q, rfl, rfl, rfl, wq⟩ := open_int Try.underlying3 (hval 1 _ v1 rfl rfl) h1
        exact walk A n k l q W hs (i64_bounds wq)))
#print axioms proved
end Go.Proofs.Ytlnjnecjmnfiaaa.pts
