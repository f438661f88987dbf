/-
  Contracts: a sequence, told plainly.
-/
import Derived.Test.YtmmlhbhnnhopdaaRingC
namespace Go.Proofs.Ytmmlhbhnnhopdaa.ring
open Go.ChangeShapes Go.WideShapes Go.ChangeAt Go.RowKit
open Go.Proofs.Ytmmlhbhnnhopdaa.mem
set_option linter.unusedVariables false
set_option linter.unusedSimpArgs false

def PlainPost (w : World) (n : Nat) (fs : List Nat) (e : Ending) (w' : World) : Prop :=
  ∃ A c, e = .returned (.agg #[.int .i64 2, .int .i64 0, .slice A n c, .slice none 0 0]) ∧ (∀ a, A = some a → w.heap.size ≤ a.block) ∧ Sl w' w'.heap.size A n 1 (FL fs) ∧ Below w.heap.size w w'

def fx (fs : List Nat) (k : Nat) : Nat := fs.getD k 0

theorem FL_get {fs : List Nat} {k : Nat} (h : k < fs.length) : (FL fs)[k]? = some (.float .f64 (fx fs k)) := by
  unfold FL fx
  rw [List.getElem?_map, List.getD_eq_getElem?_getD, List.getElem?_eq_getElem h]; rfl

theorem sl_at {w : World} {B : Nat} {A : Option Addr} {n : Nat} {fs : List Nat} (h : Sl w B A n 1 (FL fs)) (hpos : 0 < n) : fs.length = n ∧ ∃ b off, A = some ⟨b, off, none⟩ ∧ b < B ∧ ∀ j, j < n → w.cell? ⟨b, off + j, none⟩ = some (.float .f64 (fx fs j)) := by
  obtain ⟨hl, _, hc⟩ := h
  obtain ⟨b, off, rfl, hlt, hcell⟩ := hc hpos
  have hl' : fs.length = n := by rw [FL_len] at hl; omega
  exact ⟨hl', b, off, rfl, hlt, fun j hj => hcell j _ (FL_get (by omega))⟩

theorem cells4 {w : World} {g : Nat} {t : TypeId} {a b c d : Value} (h : Blk w g t #[a, b, c, d]) :
    w.cell? ⟨g, 0, none⟩ = some a ∧ w.cell? ⟨g, 1, none⟩ = some b ∧ w.cell? ⟨g, 2, none⟩ = some c ∧ w.cell? ⟨g, 3, none⟩ = some d ∧
    w.frozen? ⟨g, 0, none⟩ = false ∧ w.frozen? ⟨g, 1, none⟩ = false ∧ w.frozen? ⟨g, 2, none⟩ = false ∧ w.frozen? ⟨g, 3, none⟩ = false ∧ g < w.heap.size :=
  ⟨h.cell 0, h.cell 1, h.cell 2, h.cell 3, h.frozen 0 (show 0 < 4 by omega), h.frozen 1 (show 1 < 4 by omega), h.frozen 2 (show 2 < 4 by omega), h.frozen 3 (show 3 < 4 by omega), h.lt⟩

theorem take_two {fs : List Nat} {i : Nat} (h : i * 2 + 1 < fs.length) : FL (fs.take ((i + 1) * 2)) = FL (fs.take (i * 2)) ++ [.float .f64 (fx fs (i * 2)), .float .f64 (fx fs (i * 2 + 1))] := by
  rw [show (i + 1) * 2 = i * 2 + 1 + 1 by omega, List.take_succ_eq_append_getElem h, List.take_succ_eq_append_getElem (show i * 2 < fs.length by omega)]
  have h0 : i * 2 < fs.length := by omega
  simp only [FL, fx, List.map_append, List.map_cons, List.map_nil, List.append_assoc, List.cons_append, List.nil_append, List.getD_eq_getElem?_getD, List.getElem?_eq_getElem h, List.getElem?_eq_getElem h0, Option.getD_some]

theorem two_new (w : World) (x y : Nat) (t : TypeId) (t2 : TypeId) (cs : Array Value) : ∀ j u, ([.float .f64 x, .float .f64 y] : List Value)[j]? = some u → ((w.alloc (.cells cs t2)).alloc (.cells #[.float .f64 x, .float .f64 y] t)).cell? ((⟨w.heap.size + 1, 0, none⟩ : Addr).add j) = some u := by
  have := cells_new (w.alloc (.cells cs t2)) [.float .f64 x, .float .f64 y] t
  simpa using this

theorem two_one (x y : Nat) : ∀ u ∈ ([.float .f64 x, .float .f64 y] : List Value), u.oneCell' = true := by
  intro u hu; simp at hu; rcases hu with rfl | rfl <;> rfl

set_option maxHeartbeats 8000000 in
theorem plain_calls (A : Option Addr) (n c : Nat) (fs : List Nat) (hn : n ≤ 1000000) (hpos : 0 < n) (hev : n % 2 = 0) (w : World) (hA : Sl w w.heap.size A n 1 (FL fs)) :
    Calls Try.prog 16 #[.agg #[.int .u8 0, .slice A n c]] w (PlainPost w n fs) := by
  obtain ⟨hfl, b, off, rfl, hlt, hcells⟩ := sl_at hA hpos
  obtain ⟨i0, hi, hz0, hz1, hz2⟩ := info_parts infoF
  obtain ⟨wA, hwA⟩ : ∃ wA, wA = (w.alloc (.cells #[.int .u8 0, .slice (some ⟨b, off, none⟩) n c] 45)).alloc (.cells #[.int .i64 0, .int .i64 0, .slice none 0 0, .slice none 0 0] 25) := ⟨_, rfl⟩
  have hbl : Below w.heap.size w wA := by rw [hwA]; exact ((Below.refl _ _).alloc (Nat.le_refl _) _).alloc (by simp) _
  have hB : Blk wA w.heap.size 45 #[.int .u8 0, .slice (some ⟨b, off, none⟩) n c] := by rw [hwA]; exact (Blk.new _ _ _).alloc _
  have hD : Blk wA (w.heap.size + 1) 25 #[.int .i64 0, .int .i64 0, .slice none 0 0, .slice none 0 0] := by
    rw [hwA]
    have := Blk.new (w.alloc (.cells #[.int .u8 0, .slice (some ⟨b, off, none⟩) n c] 45)) 25 #[.int .i64 0, .int .i64 0, .slice none 0 0, .slice none 0 0]
    simpa using this
  have HCELLS := Lib.hid hcells
  have HFL := Lib.hid hfl
  have HB := Lib.hid hB
  have HD := Lib.hid hD
  have HBL := Lib.hid hbl
  have HWA := Lib.hid hwA
  clear hA hcells hwA hB hD hbl hfl
  go_enter Try.func16, Try.ntmps16
  go_wp2_with fail
  rw [← HWA.out]
  refine (ctype_calls _ _ _ _).mono ?_
  rintro e w1 ⟨rfl, hb1⟩
  have HB1 := Lib.hid (HB.out.below hb1 HB.out.lt)
  have HD1 := Lib.hid (HD.out.below hb1 HD.out.lt)
  have HBL1 := Lib.hid (HBL.out.trans (hb1.mono HBL.out.size))
  clear hb1 HB HD HBL HWA
  obtain ⟨wL, hwL⟩ : ∃ wL, wL = w1.alloc (.cells #[.int .i64 2, .int .i64 0, .slice none 0 0, .slice none 0 0] 25) := ⟨_, rfl⟩
  have hG : Blk wL w1.heap.size 25 #[.int .i64 2, .int .i64 0, .slice none 0 0, .slice none 0 0] := by rw [hwL]; exact Blk.new _ _ _
  have hbL : Below w1.heap.size w1 wL := by rw [hwL]; exact (Below.refl _ _).alloc (Nat.le_refl _) _
  have HWL := Lib.hid hwL
  have HG := Lib.hid hG
  have HBL2 := Lib.hid hbL
  have hszL : w1.heap.size + 1 = wL.heap.size := by rw [hwL]; simp
  have HSZ := Lib.hid hszL
  clear hwL hG hbL hszL
  have hq2 : n / 2 * 2 = n := by omega
  go_wp2_with fail
  rw [← HWL.out]
  go_loopg [4] (n / 2) (fun q cc wr => ∃ i v, i + q = n / 2 ∧ cc = .int .i64 i ∧ Blk wr w1.heap.size 25 #[.int .i64 2, .int .i64 0, v, .slice none 0 0] ∧
      wr.ownsRow wL.heap.size 34 1 v (i * 2) (FL (fs.take (i * 2))) ∧ Below w1.heap.size w1 wr ∧ wL.heap.size ≤ wr.heap.size)
  case atStart => exact ⟨0, _, by omega, by go_num, HG.out, World.ownsRow_nil _ _ _ _, HBL2.out, Nat.le_refl _⟩
  case round =>
    obtain ⟨i, v, hi', rfl, hg, ho, hb, hsz⟩ := hrel
    obtain ⟨A0, k0, rfl⟩ := own_slice ho
    have HI := Lib.hid hi'
    have HG' := Lib.hid hg
    have HO := Lib.hid ho
    have HB' := Lib.hid hb
    have HS := Lib.hid hsz
    have hin : i ≤ n / 2 := by omega
    have hBs := HB1.out.below hb HB1.out.lt
    obtain ⟨s0, s1, -, -, sl⟩ := cells2 hBs
    clear hi' hg ho hb hsz
    go_wp2_with fail
    refine (length_calls _ _ _ hn _).mono ?_
    rintro e w2 ⟨rfl, hb2⟩
    have hBs2 := hBs.below hb2 hBs.lt
    have hG2 := HG'.out.below hb2 HG'.out.lt
    have HO2 := Lib.hid (HO.out.kept (grown_below (row := none) hb2) (own_row _))
    have HB2 := Lib.hid (HB'.out.trans (hb2.mono HB'.out.size))
    have HS2 := Lib.hid (Nat.le_trans HS.out hb2.size)
    have hw12 : Below w.heap.size w w2 := (HBL1.out.trans (HB'.out.mono HBL1.out.size)).trans (hb2.mono (Nat.le_trans HBL1.out.size HB'.out.size))
    have HW12 := Lib.hid hw12
    clear hb2 s0 s1 sl hw12
    obtain ⟨s0, s1, -, -, sl⟩ := cells2 hBs2
    by_cases hlt2 : i < n / 2
    · have hx : w2.cell? ⟨b, off + i * 2, none⟩ = some (.float .f64 (fx fs (i * 2))) := (HW12.out.cell (p := ⟨b, off + i * 2, none⟩) hlt).trans (HCELLS.out (i * 2) (by omega))
      have hy : w2.cell? ⟨b, off + (i * 2 + 1), none⟩ = some (.float .f64 (fx fs (i * 2 + 1))) := (HW12.out.cell (p := ⟨b, off + (i * 2 + 1), none⟩) hlt).trans (HCELLS.out (i * 2 + 1) (by omega))
      have hb2w : b < w2.heap.size := Nat.lt_of_lt_of_le hlt HW12.out.size
      have HGET := Lib.hid (get_calls b off n c i _ _ hn (by omega) w2 hb2w hx hy)
      have HBS2 := Lib.hid hBs2
      have HG2 := Lib.hid hG2
      clear hx hy hb2w hBs2 hG2 hBs
      go_wp2_with fail
      refine HGET.out.mono ?_
      rintro e w3 ⟨rfl, hb3⟩
      have hG3 := HG2.out.below hb3 HG2.out.lt
      have HO3 := Lib.hid (HO2.out.kept (grown_below (row := none) hb3) (own_row _))
      have HB3 := Lib.hid (HB2.out.trans (hb3.mono HB2.out.size))
      have HS3 := Lib.hid (Nat.le_trans HS2.out hb3.size)
      have HG3 := Lib.hid hG3
      obtain ⟨q0, q1, q2, q3, p0, p1, p2, p3, ql⟩ := cells4 hG3
      clear hG3 HGET hb3 s0 s1 sl HBS2 HG2 HO2 HO HG'
      have HN2 := Lib.hid (two_new w3 (fx fs (i * 2)) (fx fs (i * 2 + 1)) 34 56 #[.float .f64 (fx fs (i * 2)), .float .f64 (fx fs (i * 2 + 1)), .float .f64 0, .float .f64 0, .int .u8 0])
      have HONE := Lib.hid (two_one (fx fs (i * 2)) (fx fs (i * 2 + 1)))
      have hne : some w1.heap.size ≠ (Value.slice A0 (i * 2) k0).ownBlock := fun h => by have := (HO3.out.lt _ h.symm).1; have := HSZ.out; omega
      have hne3 : some w3.heap.size ≠ (Value.slice A0 (i * 2) k0).ownBlock := fun h => by have := (HO3.out.lt _ h.symm).2; omega
      have HNE := Lib.hid hne
      have HNE3 := Lib.hid hne3
      clear hne hne3
      go_wp2_with (at_builtin; refine wpList_append_own _ rfl (.tmp 20) (.tmp 27) 22 rfl wL.heap.size 34 i0 _ 1 8 Try.underlying22 hi hz0 hz1 hz2 rfl (by decide) _ (i * 2) _ rfl ((HO3.out.alloc _).alloc _) ⟨w3.heap.size + 1, 0, none⟩ 2 2 [.float .f64 (fx fs (i * 2)), .float .f64 (fx fs (i * 2 + 1))] rfl rfl HN2.out HONE.out (by unfold maxLen; omega) (by omega) (by simp; have := HS3.out; omega) ?_; intro v' w4 hown' hgrow _
                   obtain ⟨A1, k1, rfl⟩ := own_slice hown'
                   have hG4 := ((HG3.out.alloc (.cells #[.float .f64 (fx fs (i * 2)), .float .f64 (fx fs (i * 2 + 1)), .float .f64 0, .float .f64 0, .int .u8 0] 56)).alloc (.cells #[.float .f64 (fx fs (i * 2)), .float .f64 (fx fs (i * 2 + 1))] 34)).grown hgrow HNE.out
                   have hC4 := ((Blk.new w3 56 #[.float .f64 (fx fs (i * 2)), .float .f64 (fx fs (i * 2 + 1)), .float .f64 0, .float .f64 0, .int .u8 0]).alloc (.cells #[.float .f64 (fx fs (i * 2)), .float .f64 (fx fs (i * 2 + 1))] 34)).grown hgrow HNE3.out
                   have HG4 := Lib.hid hG4
                   have HC4 := Lib.hid hC4
                   have HGR := Lib.hid hgrow
                   have HO4 := Lib.hid hown'
                   obtain ⟨x0, x1, x2, x3, y0, y1, y2, y3, xl⟩ := cells4 hG4
                   obtain ⟨z0, z1, z2, z3, z4, -, -, -, -, -, zl⟩ := cells5 hC4
                   clear hG4 hC4 hgrow hown' q0 q1 q2 q3 p0 p1 p2 p3 ql)
      refine (is3_calls _).mono ?_
      rintro e w9 ⟨rfl, h9⟩
      subst h9
      go_wp2_with fail
      refine (isM_calls _).mono ?_
      rintro e w9 ⟨rfl, h9⟩
      subst h9
      go_wp2_with fail
      go_roundg (n / 2 - (i + 1))
      case measure => have := HI.out; omega
      case rel =>
        refine ⟨i + 1, .slice A1 (i * 2 + 2) k1, by omega, by go_num, ?_, ?_, ?_, ?_⟩
        · have := HG4.out.set_ 2 (.slice A1 (i * 2 + 2) k1)
          simpa using this
        · have hl : i * 2 + 1 < fs.length := by rw [HFL.out]; omega
          rw [take_two hl]
          have := HO4.out.kept (grown_set w4 ⟨w1.heap.size, 2, none⟩ (.slice A1 (i * 2 + 2) k1)) (.inr (fun h => by have h1 : wL.heap.size ≤ w1.heap.size := (HO4.out.lt _ h).1; have := HSZ.out; omega))
          rw [show (i + 1) * 2 = i * 2 + 2 by omega]
          exact this
        · exact (((HB3.out.alloc HB3.out.size _).alloc (by simp; have := HB3.out.size; omega) _).grown HGR.out (by simp; have := HB3.out.size; omega) (fun q hq => by have := (HO3.out.lt q hq).1; have := HSZ.out; omega)).setCell (Nat.le_refl _) _
        · have h1 := HGR.out.size
          have h2 := HS3.out
          simp at h1 ⊢
          omega
    · obtain rfl : i = n / 2 := by omega
      have hO := HO2.out
      rw [hq2] at hG2 hO
      have hD2 := HD1.out.below HB2.out HD1.out.lt
      have HO5 := Lib.hid hO
      obtain ⟨q0, q1, q2, q3, -, -, -, -, ql⟩ := cells4 hG2
      obtain ⟨r0, r1, r2, r3, p0, p1, p2, p3, rl⟩ := cells4 hD2
      clear hO hG2 hD2 s0 s1 sl
      go_wp2_with fail
      have hx1 : w.heap.size ≤ w.heap.size + 1 := by omega
      refine bodyPost_ret (v := .agg #[.int .i64 2, .int .i64 0, .slice A0 n k0, .slice none 0 0]) ?_ rfl ⟨A0, k0, rfl, (fun a ha => by subst ha; have h1 := (HO5.out.lt a.block rfl).1; have h2 := HSZ.out; have h3 := HBL1.out.size; omega), ?_, (((HW12.out.setCell hx1 _).setCell hx1 _).setCell hx1 _).setCell hx1 _⟩
      · simp [results, Try.results16, go_sem, r0, r1, r2, r3, rl]
      · have hne : (Value.slice A0 n k0).ownBlock = none ∨ (Value.slice A0 n k0).ownBlock ≠ some (w.heap.size + 1) := .inr (fun h => by
          have := (HO5.out.lt _ h).1
          have := HSZ.out
          have := HD1.out.lt
          omega)
        have h4 := (((HO5.out.kept (grown_set _ ⟨w.heap.size + 1, 0, none⟩ (.int .i64 2)) hne).kept (grown_set _ ⟨w.heap.size + 1, 1, none⟩ (.int .i64 0)) hne).kept (grown_set _ ⟨w.heap.size + 1, 2, none⟩ (.slice A0 n k0)) hne).kept (grown_set _ ⟨w.heap.size + 1, 3, none⟩ (.slice none 0 0)) hne
        rw [List.take_of_length_le (by rw [HFL.out]; exact Nat.le_refl _)] at h4
        exact Sl.of_own h4
end Go.Proofs.Ytmmlhbhnnhopdaa.ring
