/-
  Contracts: a ring of a polygon; a place as a point.
-/
import Derived.Test.YtplphaaeibeheaaGreatGeoAJ
namespace Go.Proofs.YtplphaaeibeheaaGreat.geo
open Go.ChangeShapes Go.WideShapes Go.ChangeAt Go.RowKit
open Go.Proofs.YtplphaaeibeheaaGreat.mem
set_option linter.unusedVariables false
set_option linter.unusedSimpArgs false
set_option maxRecDepth 100000

theorem isEmpty3 (n c : Nat) (A : Option Addr) (d : Value) (w : World) : Calls Tryz.prog 113 #[.agg #[.slice A n c, d]] w (Gives w (.bool ((n : Int) == 0))) := by
  have hb := (Below.refl w.heap.size w).alloc (Nat.le_refl _) (.cells #[.slice A n c, d] 69)
  have HB := Lib.hid hb
  clear hb
  go_enter Tryz.func113, Tryz.ntmps113
  go_wp2_with fail
  exact bodyPost_ret (v := .bool ((n : Int) == 0)) (by simp [results, go_sem]) rfl ⟨rfl, HB.out⟩

theorem asPoint_calls (x y z m d : Nat) (w : World) : Calls Tryz.prog 62 #[.agg #[.float .f64 x, .float .f64 y, .float .f64 z, .float .f64 m, .int .u8 d]] w (Gives w (.agg #[.float .f64 x, .float .f64 y, .float .f64 z, .float .f64 m, .int .u8 d, .bool true])) := by
  obtain ⟨wA, hwA⟩ : ∃ wA, wA = (w.alloc (.cells #[.float .f64 x, .float .f64 y, .float .f64 z, .float .f64 m, .int .u8 d] 57)).alloc (.cells #[.float .f64 0, .float .f64 0, .float .f64 0, .float .f64 0, .int .u8 0, .bool false] 59) := ⟨_, rfl⟩
  have hbl : Below w.heap.size w wA := by rw [hwA]; exact ((Below.refl _ _).alloc (Nat.le_refl _) _).alloc (by simp) _
  have hD : Blk wA (w.heap.size + 1) 59 #[.float .f64 0, .float .f64 0, .float .f64 0, .float .f64 0, .int .u8 0, .bool false] := by
    rw [hwA]
    have := Blk.new (w.alloc (.cells #[.float .f64 x, .float .f64 y, .float .f64 z, .float .f64 m, .int .u8 d] 57)) 59 #[.float .f64 0, .float .f64 0, .float .f64 0, .float .f64 0, .int .u8 0, .bool false]
    simpa using this
  have hB : Blk wA w.heap.size 57 #[.float .f64 x, .float .f64 y, .float .f64 z, .float .f64 m, .int .u8 d] := by rw [hwA]; exact (Blk.new _ _ _).alloc _
  obtain ⟨b0, b1, b2, b3, b4, -, -, -, -, -, bl⟩ := cells5 hB
  have HD := Lib.hid hD
  have HBL := Lib.hid hbl
  have HWA := Lib.hid hwA
  clear hwA hB hD hbl
  go_enter Tryz.func62, Tryz.ntmps62
  go_wp2_with fail
  rw [← HWA.out]
  refine (newPoint_calls _ _ _ _ _ _).mono ?_
  rintro e w1 ⟨rfl, hb1⟩
  have HB1 := Lib.hid (HBL.out.trans (hb1.mono HBL.out.size))
  obtain ⟨r0, r1, r2, r3, r4, r5, p0, p1, p2, p3, p4, p5, rl⟩ := cells6 (HD.out.below hb1 HD.out.lt)
  clear hb1 b0 b1 b2 b3 b4 bl
  go_wp2_with fail
  have hx : w.heap.size ≤ w.heap.size + 1 := Nat.le_add_right _ 1
  exact bodyPost_ret (v := .agg #[.float .f64 x, .float .f64 y, .float .f64 z, .float .f64 m, .int .u8 d, .bool true]) (by simp [results, Tryz.results62, go_sem, r0, r1, r2, r3, r4, r5, rl]) rfl ⟨rfl, (set5 HB1.out hx _ _ _ _ _).setCell hx _⟩

/-- A ring comes back. -/
def RingPost (S : Nat → Prop) (w : World) (q : PG) (e : Ending) (w' : World) : Prop :=
  ∃ g : MG, e = .returned (.agg g.enc.toArray) ∧ g.kind = 2 ∧ g.In (Fresh S w) w' ∧ g.plain = q ∧ Below w.heap.size w w'

theorem extRing_none {d : Nat} (hd : d < 4) (A : Option Addr) (c : Nat) (S : Nat → Prop) (w : World) : Calls Tryz.prog 64 #[.agg #[.slice A 0 c, .int .u8 d]] w (RingPost S w (.mk 2 d [] [])) := by
  obtain ⟨wA, hwA⟩ : ∃ wA, wA = (w.alloc (.cells #[.slice A 0 c, .int .u8 d] 69)).alloc (.cells #[.int .u8 0, .slice none 0 0] 65) := ⟨_, rfl⟩
  have hbl : Below w.heap.size w wA := by rw [hwA]; exact ((Below.refl _ _).alloc (Nat.le_refl _) _).alloc (by simp) _
  have hD : Blk wA (w.heap.size + 1) 65 #[.int .u8 0, .slice none 0 0] := by
    rw [hwA]
    have := Blk.new (w.alloc (.cells #[.slice A 0 c, .int .u8 d] 69)) 65 #[.int .u8 0, .slice none 0 0]
    simpa using this
  have hB : Blk wA w.heap.size 69 #[.slice A 0 c, .int .u8 d] := by rw [hwA]; exact (Blk.new _ _ _).alloc _
  obtain ⟨b0, b1, -, -, bl⟩ := cells2 hB
  have hsz : wA.heap.size = w.heap.size + 2 := by rw [hwA]; simp
  have HE := Lib.hid (show ∀ w, Calls Tryz.prog 113 #[.agg #[.slice A 0 c, .int .u8 d]] w (Gives w (.bool true)) from fun w => isEmpty3 0 c A _ w)
  have HF := Lib.hid (show ∀ w', Calls Tryz.prog 114 #[.agg #[.int .u8 0, .slice none 0 0], .int .u8 d] w' (LnPost (fun _ => False) w' d []) from fun w' => by
    have h := lnForce_calls (d := 0) hd (A := none) (c := 0) (ns := []) (S := fun _ => False) (w := w') (by rw [MG.In]; exact ⟨by decide, by simp, by simp, ⟨by simp [Sl, FL], fun h => absurd h (by simp)⟩⟩)
    rw [frcN_nil] at h
    exact h)
  have HB := Lib.hid hB
  have HD := Lib.hid hD
  have HBL := Lib.hid hbl
  have HWA := Lib.hid hwA
  have HSZ := Lib.hid hsz
  clear hwA hB hD hbl hsz
  go_enter Tryz.func64, Tryz.ntmps64
  go_wp2_with fail
  rw [← HWA.out]
  refine (HE.out _).mono ?_
  rintro e w0 ⟨rfl, hb0⟩
  have HB0 := Lib.hid hb0
  obtain ⟨c0, c1, -, -, cl⟩ := cells2 (HB.out.below hb0 HB.out.lt)
  clear hb0 b0 b1 bl
  go_wp2_with fail
  refine (HF.out _).mono ?_
  rintro e w1 ⟨A1, c1, rfl, h1, hb1⟩
  have HB1 := Lib.hid (HB0.out.trans (hb1.mono HB0.out.size))
  obtain ⟨r0, r1, p0, p1, rl⟩ := cells2 (HD.out.below HB1.out HD.out.lt)
  have H1 := Lib.hid h1
  clear hb1 h1
  go_wp2_with fail
  have hbw := HBL.out.trans (HB1.out.mono HBL.out.size)
  have h00 := HB0.out.size
  have hszv := HSZ.out
  have hno : ¬ Fresh (fun _ => False) w0 (w.heap.size + 1) := fun h => by
    rcases h with h | h
    · exact h
    · omega
  exact bodyPost_ret (v := .agg #[.int .u8 d, .slice A1 0 c1]) (by simp [results, Tryz.results64, go_sem, r0, r1, rl]) rfl ⟨.ln d A1 c1 [], rfl, rfl, MG.less (fun a ha => by
    rcases ha with h | h
    · exact h.elim
    · exact .inr (by omega)) (MG.keep ((Keeps.set (p := ⟨w.heap.size + 1, 0, none⟩) hno _).trans (.set (p := ⟨w.heap.size + 1, 1, none⟩) hno _)) H1.out), rfl, (hbw.setCell (Nat.le_add_right _ 1) _).setCell (Nat.le_add_right _ 1) _⟩

theorem extRing_some {kids : List MG} {A : Option Addr} {c : Nat} {d : Value} {S : Nat → Prop} {w : World} (h : Sl w w.heap.size A kids.length 2 (kids.flatMap MG.enc)) (hE : ∀ g ∈ kids, g.enc.length = 2) {g : MG} (hi : kids[0]? = some g) (hk : g.kind = 2) (hin : g.In S w) :
    Calls Tryz.prog 64 #[.agg #[.slice A kids.length c, d]] w (Gives w (.agg g.enc.toArray)) := by
  have hil := (List.getElem?_eq_some_iff.1 hi).1
  obtain ⟨b, off, rfl, hb, hc⟩ := sl_part h hE (by omega)
  obtain ⟨d1, A1, c1, ns, rfl⟩ := MG.is_ln hk hin
  have e0 := hc 0 _ hi 0 _ rfl
  have e1 := hc 0 _ hi 1 _ rfl
  rw [Nat.zero_mul, Nat.add_zero] at e0
  rw [Nat.zero_mul, Nat.zero_add] at e1
  obtain ⟨n, hn⟩ : ∃ n, n = kids.length := ⟨_, rfl⟩
  show Calls Tryz.prog 64 #[.agg #[.slice (some ⟨b, off, none⟩) kids.length c, d]] w (Gives w (.agg #[.int .u8 d1, .slice A1 ns.length c1]))
  rw [← hn] at hil ⊢
  have hltI : (0 : Int) < (n : Int) := by omega
  have hne : ((n : Int) == 0) = false := beq_eq_false_iff_ne.2 (by omega)
  obtain ⟨wA, hwA⟩ : ∃ wA, wA = (w.alloc (.cells #[.slice (some ⟨b, off, none⟩) n c, d] 69)).alloc (.cells #[.int .u8 0, .slice none 0 0] 65) := ⟨_, rfl⟩
  have hbl : Below w.heap.size w wA := by rw [hwA]; exact ((Below.refl _ _).alloc (Nat.le_refl _) _).alloc (by simp) _
  have hB : Blk wA w.heap.size 69 #[.slice (some ⟨b, off, none⟩) n c, d] := by rw [hwA]; exact (Blk.new _ _ _).alloc _
  have hD : Blk wA (w.heap.size + 1) 65 #[.int .u8 0, .slice none 0 0] := by
    rw [hwA]
    have := Blk.new (w.alloc (.cells #[.slice (some ⟨b, off, none⟩) n c, d] 69)) 65 #[.int .u8 0, .slice none 0 0]
    simpa using this
  obtain ⟨b0, b1, -, -, bl⟩ := cells2 hB
  have HE := Lib.hid (show ∀ w, Calls Tryz.prog 113 #[.agg #[.slice (some ⟨b, off, none⟩) n c, d]] w (Gives w (.bool false)) from fun w => by have := isEmpty3 n c (some ⟨b, off, none⟩) d w; rw [hne] at this; exact this)
  have HB := Lib.hid hB
  have HD := Lib.hid hD
  have HBL := Lib.hid hbl
  have HWA := Lib.hid hwA
  have HC0 := Lib.hid (fun w' (hbw : Below w.heap.size w w') => (hbw.cell (p := ⟨b, off, none⟩) hb).trans e0)
  have HC1 := Lib.hid (fun w' (hbw : Below w.heap.size w w') => (hbw.cell (p := ⟨b, off + 1, none⟩) hb).trans e1)
  clear hn hi hc h hE hk hin hwA hB hD hbl e0 e1
  go_enter Tryz.func64, Tryz.ntmps64
  go_wp2_with fail
  rw [← HWA.out]
  refine (HE.out _).mono ?_
  rintro e w0 ⟨rfl, hb0⟩
  have HB0 := Lib.hid (HBL.out.trans (hb0.mono HBL.out.size))
  obtain ⟨q0, q1, -, -, ql⟩ := cells2 (HB.out.below hb0 HB.out.lt)
  obtain ⟨r0, r1, p0, p1, rl⟩ := cells2 (HD.out.below hb0 HD.out.lt)
  have dd0 := HC0.out w0 HB0.out
  have dd1 := HC1.out w0 HB0.out
  clear hb0 b0 b1 bl
  go_wp2_with fail
  exact bodyPost_ret (v := .agg #[.int .u8 d1, .slice A1 ns.length c1]) (by simp [results, Tryz.results64, go_sem, r0, r1, rl]) rfl ⟨rfl, (HB0.out.setCell (Nat.le_add_right _ 1) _).setCell (Nat.le_add_right _ 1) _⟩

theorem intRing_in {kids : List MG} {A : Option Addr} {c : Nat} {d : Value} {S : Nat → Prop} {w : World} (h : Sl w w.heap.size A kids.length 2 (kids.flatMap MG.enc)) (hE : ∀ g ∈ kids, g.enc.length = 2) (hkb : kids.length ≤ kbig) {i : Nat} {g : MG} (hi : kids[i]? = some g) (h0 : i ≠ 0) (hk : g.kind = 2) (hin : g.In S w) :
    Calls Tryz.prog 65 #[.agg #[.slice A kids.length c, d], .int .i64 ((i : Int) - 1)] w (Gives w (.agg g.enc.toArray)) := by
  have hil := (List.getElem?_eq_some_iff.1 hi).1
  obtain ⟨b, off, rfl, hb, hc⟩ := sl_part h hE (by omega)
  obtain ⟨d1, A1, c1, ns, rfl⟩ := MG.is_ln hk hin
  have e0 := hc i _ hi 0 _ rfl
  have e1 := hc i _ hi 1 _ rfl
  rw [Nat.add_zero] at e0
  rw [← Nat.add_assoc] at e1
  obtain ⟨n, hn⟩ : ∃ n, n = kids.length := ⟨_, rfl⟩
  show Calls Tryz.prog 65 #[.agg #[.slice (some ⟨b, off, none⟩) kids.length c, d], .int .i64 ((i : Int) - 1)] w (Gives w (.agg #[.int .u8 d1, .slice A1 ns.length c1]))
  rw [← hn] at hil hkb ⊢
  have hkb2 : n ≤ 1099511627776 := hkb
  obtain ⟨j, hj⟩ : ∃ j : Int, j = (i : Int) - 1 := ⟨_, rfl⟩
  rw [← hj]
  have hne : (j == -1) = false := beq_eq_false_iff_ne.2 (by omega)
  have hw1 : IntKind.i64.wrap (j + 1) = (i : Int) := by rw [show j + 1 = (i : Int) by omega]; exact IntWalk.i64_in _ (by omega)
  have hltI : (i : Int) < (n : Int) := by omega
  have hlt2 : b < w.heap.size := hb
  have hj1 : ¬ j = -1 := by omega
  clear hn hi hc h hE hk hin hkb hj
  go_enter Tryz.func65, Tryz.ntmps65
  go_wp2_with fail
  exact bodyPost_ret (v := .agg #[.int .u8 d1, .slice A1 ns.length c1]) (by simp [results, Tryz.results65, go_sem]) rfl ⟨rfl, ((Below.refl _ _).alloc (Nat.le_refl _) _).alloc (by simp) _⟩

theorem intRing_out {A : Option Addr} {n c : Nat} {d : Value} {i : Int} {w : World} (ho : i < 0 ∨ (n : Int) ≤ i) (hb : -2147483648 ≤ i ∧ i ≤ 2147483648) (h0 : i ≠ 0) (hnil : A = none → n = 0) :
    Calls Tryz.prog 65 #[.agg #[.slice A n c, d], .int .i64 (i - 1)] w (Dies w) := by
  obtain ⟨v, w', hrun, hw'⟩ := run_index_out (c := c) Tryz.underlying67 ho hnil ((w.alloc (.cells #[.slice A n c, d] 69)).alloc (.cells #[.int .u8 0, .slice none 0 0] 65))
  have hd := Lib.hid (Dies.of (u := Tryz.prog.rt.boundsError) (pv := v) (((Below.refl w.heap.size w).alloc (Nat.le_refl _) _).alloc (by simp) _) hw')
  obtain ⟨j, hj⟩ : ∃ j : Int, j = i - 1 := ⟨_, rfl⟩
  rw [← hj]
  have hne : (j == -1) = false := beq_eq_false_iff_ne.2 (by omega)
  have hw1 : IntKind.i64.wrap (j + 1) = i := by rw [show j + 1 = i by omega]; exact IntWalk.i64_in _ (by omega)
  have hj1 : ¬ j = -1 := by omega
  clear hw' hj hb h0 ho
  go_enter Tryz.func65, Tryz.ntmps65
  go_wp2_with fail
  exact ⟨rfl, hd.out⟩
end Go.Proofs.YtplphaaeibeheaaGreat.geo
