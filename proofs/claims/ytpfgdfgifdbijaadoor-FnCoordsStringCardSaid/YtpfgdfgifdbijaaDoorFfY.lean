/-
  Contracts: whether a place's numbers are wanted (any Boolean; true only for a type from 0 to 3); a number's text; a place's text; its point.
-/
import Derived.Test.YtpfgdfgifdbijaaDoorFfX
namespace Go.Proofs.YtpfgdfgifdbijaaDoor.pt
open Go.ChangeShapes Go.WideShapes Go.ChangeAt Go.RowKit
open Go.Proofs.YtpfgdfgifdbijaaDoor.mem Go.Proofs.YtpfgdfgifdbijaaDoor.geo
set_option linter.unusedVariables false
set_option linter.unusedSimpArgs false

/-- Float arithmetic gives some double: where no law fixes it, the tape's. -/
theorem run_arith_any (op : BinOp) (hop : op = .sub ∨ op = .quo) (x y : Nat) (w : World) :
    ∃ r w', (binOp op 22 (.float .f64 x) (.float .f64 y)).run Tryd.prog w = .ok (.float .f64 r) w' ∧ Below w.heap.size w w' := by
  rcases h : floatBits op .f64 x y with _ | r
  · rcases hop with rfl | rfl
    · unfold floatBits at h
      simp only at h
      apply Exists.intro
      refine ⟨w.drew, ?_, (Below.refl _ _).drew⟩
      simp [binOp, Op.floatArith, h]
      rfl
    · unfold floatBits at h
      simp only at h
      apply Exists.intro
      refine ⟨w.drew, ?_, (Below.refl _ _).drew⟩
      simp [binOp, Op.floatArith, h]
      rfl
  · exact ⟨r, w, run_float_arith w op 22 .f64 x y r h, Below.refl _ _⟩

def KC (w : World) (D : Int) (e : Ending) (w' : World) : Prop := ∃ b, e = .returned (.bool b) ∧ (b = true → 0 ≤ D ∧ D ≤ 3) ∧ Below w.heap.size w w'
theorem KC.ret {w w' : World} {D : Int} {b : Bool} (h : b = true → 0 ≤ D ∧ D ≤ 3) (hb : Below w.heap.size w w') : KC w D (.returned (.bool b)) w' := ⟨b, rfl, h, hb⟩
set_option maxHeartbeats 8000000 in
set_option maxRecDepth 100000 in
theorem kCoords_calls (q : Pl) (D : Int) (w : World) : Calls Tryd.prog 4 #[.agg #[.float .f64 q.x, .float .f64 q.y, .float .f64 q.z, .float .f64 q.m, .int .i64 D]] w (KC w D) := by
  obtain ⟨w2, hw2⟩ : ∃ w2, w2 = (w.alloc (.cells #[.float .f64 q.x, .float .f64 q.y, .float .f64 q.z, .float .f64 q.m, .int .i64 D] 24)).alloc (.cells #[.float .f64 q.x, .float .f64 q.y, .float .f64 q.z, .float .f64 q.m] 22) := ⟨_, rfl⟩
  have hB : Blk w2 w.heap.size 24 #[.float .f64 q.x, .float .f64 q.y, .float .f64 q.z, .float .f64 q.m, .int .i64 D] := by rw [hw2]; exact (Blk.new _ _ _).alloc _
  have hC : Blk w2 (w.heap.size + 1) 22 #[.float .f64 q.x, .float .f64 q.y, .float .f64 q.z, .float .f64 q.m] := by
    rw [hw2]
    have := Blk.new (w.alloc (.cells #[.float .f64 q.x, .float .f64 q.y, .float .f64 q.z, .float .f64 q.m, .int .i64 D] 24)) 22 #[.float .f64 q.x, .float .f64 q.y, .float .f64 q.z, .float .f64 q.m]
    simpa using this
  have hbl : Below w.heap.size w w2 := by rw [hw2]; exact ((Below.refl _ _).alloc (Nat.le_refl _) _).alloc (by simp) _
  have HW2 := Lib.hid hw2
  have HB := Lib.hid hB
  have HC := Lib.hid hC
  have HBL := Lib.hid hbl
  clear hw2 hB hC hbl
  go_enter Tryd.func4, Tryd.ntmps4
  go_upto_region 2 with fail
  rw [← HW2.out]
  go_loopg [15] 4 (fun n ci wr => ∃ (i : Nat), i + n = 4 ∧ ci = .int .i64 (i : Nat) ∧ Below w2.heap.size w2 wr)
  case atStart => exact ⟨0, by omega, by go_num, Below.refl _ _⟩
  case round =>
    obtain ⟨i, hi', rfl, hb⟩ := hrel
    have HI := Lib.hid hi'
    have hin : i ≤ 4 := by omega
    have HB2 := Lib.hid hb
    clear hi' hb
    by_cases hlt : i < 4
    · obtain ⟨v, hv⟩ : ∃ v, (#[q.x, q.y, q.z, q.m] : Array Nat)[i]? = some v := ⟨(#[q.x, q.y, q.z, q.m] : Array Nat)[i], by simp [hlt]⟩
      have c0 : wr.cell? ⟨w.heap.size + 1, i, none⟩ = some (.float .f64 v) := by
        rw [(HC.out.below HB2.out HC.out.lt).cell i]
        obtain rfl | rfl | rfl | rfl := four hlt <;> (simp at hv ⊢; exact hv)
      have cl := (HC.out.below HB2.out HC.out.lt).lt
      have hltI : (i : Int) < 4 := by omega
      obtain ⟨r, w3, hr, hb3⟩ := run_arith_any .sub (.inl rfl) v v wr
      have HR := Lib.hid hr
      have HB3 := Lib.hid (HB2.out.trans (hb3.mono HB2.out.size))
      obtain ⟨r', w4, hr', hb4⟩ := run_arith_any .quo (.inr rfl) 4607182418800017408 v w3
      have HB4 := Lib.hid (HB3.out.trans (hb4.mono HB3.out.size))
      clear hv hb3 hb4
      have HR := Lib.hid hr
      go_wp2_with fail
      all_goals first
        | exact bodyPost_ret (v := .bool false) (by simp [results, go_sem]) rfl (KC.ret (by simp) (HBL.out.trans (HB3.out.mono HBL.out.size)))
        | exact bodyPost_ret (v := .bool false) (by simp [results, go_sem]) rfl (KC.ret (by simp) (HBL.out.trans (HB4.out.mono HBL.out.size)))
        | (go_roundg (4 - (i + 1))
           case measure => have := HI.out; omega
           case rel => exact ⟨i + 1, by omega, by go_num, by first | exact HB3.out | exact HB4.out⟩)
    · obtain rfl : i = 4 := by omega
      obtain ⟨b0, b1, b2, b3, b4, -, -, -, -, -, bl⟩ := cells5 (HB.out.below HB2.out HB.out.lt)
      by_cases h0 : 0 ≤ D
      · by_cases h3 : D ≤ 3
        · go_wp2_with fail
          exact bodyPost_ret (v := .bool true) (by simp [results, go_sem]) rfl (KC.ret (fun _ => ⟨h0, h3⟩) (HBL.out.trans (HB2.out.mono HBL.out.size)))
        · have h3' : 3 < D := by omega
          go_wp2_with fail
          exact bodyPost_ret (v := .bool false) (by simp [results, go_sem]) rfl (KC.ret (by simp) (HBL.out.trans (HB2.out.mono HBL.out.size)))
      · have h0' : D < 0 := by omega
        go_wp2_with fail
        exact bodyPost_ret (v := .bool false) (by simp [results, go_sem]) rfl (KC.ret (by simp) (HBL.out.trans (HB2.out.mono HBL.out.size)))

/-- What is asked of the package's texts of numbers: one text for a number, in every world that has the tables. -/
def FFC (T : Nat → Int) (FT : Nat → List Nat) : Prop := (∀ x, (FT x).length ≤ 1000 ∧ ∀ b ∈ FT x, b < 256) ∧ ∀ (x : Nat) (w : World), ff.Tab T w → ff.P10 w → Calls Tryd.prog 10 #[.float .f64 x, .int .u8 102, .int .i64 (-1), .int .i64 64] w (fun e w' => e = .returned (.string (ff.strN (FT x))) ∧ Below w.heap.size w w')
theorem wnum_calls {T : Nat → Int} {FT : Nat → List Nat} (hff : FFC T FT) (x : Nat) (w : World) (hT : ff.Tab T w) (hP : ff.P10 w) : Calls Tryd.prog 6 #[.float .f64 x] w (Gives w (.string (ff.strN (FT x)))) := by
  have hc := hff.2 x w hT hP
  clear hff hT hP
  go_enter Tryd.func6, Tryd.ntmps6
  go_wp2_with fail
  refine hc.mono ?_
  rintro e w1 ⟨rfl, hb⟩
  have HB := Lib.hid hb
  clear hb
  go_wp2_with fail
  exact bodyPost_ret (v := .string (ff.strN (FT x))) (by simp [results, go_sem]) rfl ⟨rfl, HB.out⟩
theorem cstr_calls {T : Nat → Int} {FT : Nat → List Nat} (hff : FFC T FT) {d : Nat} (hd : d < 4) (q : Pl) (w : World) (hT : ff.Tab T w) (hP : ff.P10 w) :
    Calls Tryd.prog 12 #[.agg #[.float .f64 q.x, .float .f64 q.y, .float .f64 q.z, .float .f64 q.m, .int .u8 d]] w (Gives w (.string ⟨(ff.cS FT d q.x q.y q.z q.m).toArray⟩)) := by
  obtain rfl | rfl | rfl | rfl := four hd
  · exact ff.cstr0_calls hff.1 hff.2 _ _ _ _ w hT hP
  · exact ff.cstr1_calls hff.1 hff.2 _ _ _ _ w hT hP
  · exact ff.cstr2_calls hff.1 hff.2 _ _ _ _ w hT hP
  · exact ff.cstr3_calls hff.1 hff.2 _ _ _ _ w hT hP
theorem istr_calls {T : Nat → Int} {FT : Nat → List Nat} (hff : FFC T FT) {d : Nat} (hd : d < 4) (q : Pl) (w : World) (hT : ff.Tab T w) (hP : ff.P10 w) :
    Calls Tryd.prog 7 #[.agg #[.float .f64 q.x, .float .f64 q.y, .float .f64 q.z, .float .f64 q.m, .int .i64 d]] w (Gives w (.string ⟨(ff.cS FT d q.x q.y q.z q.m).toArray⟩)) := by
  have HK := Lib.hid (coordinates_calls q.x q.y q.z q.m (d : Int) (by omega))
  have hbl := (Below.refl w.heap.size w).alloc (Nat.le_refl _) (.cells #[.float .f64 q.x, .float .f64 q.y, .float .f64 q.z, .float .f64 q.m, .int .i64 d] 24)
  obtain ⟨s, hs⟩ : ∃ s : ByteArray, s = ⟨(ff.cS FT d q.x q.y q.z q.m).toArray⟩ := ⟨_, rfl⟩
  have HC := Lib.hid (fun w' (hb : Below w.heap.size w w') => cstr_calls hff hd q w' (hT.below hb hT.lt) (ff.p10_below hP hb))
  rw [← hs] at HC ⊢
  have HBL := Lib.hid hbl
  clear hff hd hT hP hbl hs
  go_enter Tryd.func7, Tryd.ntmps7
  go_wp2_with fail
  refine (HK.out _).mono ?_
  rintro e w1 ⟨rfl, hb⟩
  have HB := Lib.hid (HBL.out.trans (hb.mono HBL.out.size))
  clear hb
  go_wp2_with fail
  refine (HC.out _ HB.out).mono ?_
  rintro e w2 ⟨rfl, hb⟩
  have HB2 := Lib.hid (HB.out.trans (hb.mono HB.out.size))
  clear hb
  go_wp2_with fail
  exact bodyPost_ret (v := .string s) (by simp [results, go_sem]) rfl ⟨rfl, HB2.out⟩
set_option maxHeartbeats 8000000 in
set_option maxRecDepth 100000 in
theorem ipt_calls {d : Nat} (hd : d < 4) (q : Pl) (w : World) :
    Calls Tryd.prog 9 #[.agg #[.float .f64 q.x, .float .f64 q.y, .float .f64 q.z, .float .f64 q.m, .int .i64 d]] w (IP w d (emit d q)) := by
  obtain ⟨wA, hwA⟩ : ∃ wA, wA = (w.alloc (.cells #[.float .f64 q.x, .float .f64 q.y, .float .f64 q.z, .float .f64 q.m, .int .i64 d] 24)).alloc (.cells #[.int .i64 0, .int .i64 0, .slice none 0 0, .slice none 0 0] 34) := ⟨_, rfl⟩
  have hbl : Below w.heap.size w wA := by rw [hwA]; exact ((Below.refl _ _).alloc (Nat.le_refl _) _).alloc (by simp) _
  have hB : Blk wA w.heap.size 24 #[.float .f64 q.x, .float .f64 q.y, .float .f64 q.z, .float .f64 q.m, .int .i64 d] := by rw [hwA]; exact (Blk.new _ _ _).alloc _
  have hD : Blk wA (w.heap.size + 1) 34 #[.int .i64 0, .int .i64 0, .slice none 0 0, .slice none 0 0] := by
    rw [hwA]
    have := Blk.new (w.alloc (.cells #[.float .f64 q.x, .float .f64 q.y, .float .f64 q.z, .float .f64 q.m, .int .i64 d] 24)) 34 #[.int .i64 0, .int .i64 0, .slice none 0 0, .slice none 0 0]
    simpa using this
  have HK := Lib.hid (coordinates_calls q.x q.y q.z q.m (d : Int) (by omega))
  have HP := Lib.hid (plainPt_calls hd q)
  have HBL := Lib.hid hbl
  have HWA := Lib.hid hwA
  have HD := Lib.hid hD
  obtain ⟨b0, b1, b2, b3, b4, -, -, -, -, -, bl⟩ := cells5 hB
  clear hwA hB hD hbl hd
  go_enter Tryd.func9, Tryd.ntmps9
  go_wp2_with fail
  rw [← HWA.out]
  go_wp2_with fail
  refine (HK.out _).mono ?_
  rintro e w1 ⟨rfl, hb1⟩
  have HBL1 := Lib.hid (HBL.out.trans (hb1.mono HBL.out.size))
  have HB1 := Lib.hid hb1
  clear hb1 b0 b1 b2 b3 b4 bl
  go_wp2_with fail
  refine (asPoint_calls _ _ _ _ _ _).mono ?_
  rintro e w2 ⟨rfl, hb2⟩
  have HB2 := Lib.hid (HB1.out.trans (hb2.mono HB1.out.size))
  clear hb2
  go_wp2_with fail
  refine (HP.out _).mono ?_
  rintro e w3 ⟨A, k, rfl, hA, hfr, hb3⟩
  have HB3 := Lib.hid (HB2.out.trans (hb3.mono HB2.out.size))
  have HBW := Lib.hid (HBL.out.trans (HB3.out.mono HBL.out.size))
  have HA := Lib.hid hA
  have HFR := Lib.hid (show ∀ a, A = some a → w.heap.size + 1 ≠ a.block ∧ w.heap.size ≤ a.block from fun a ha => by have h1 := hfr a ha; have h2 := HB2.out.size; have h3 := HD.out.lt; omega)
  obtain ⟨r0, r1, r2, r3, p0, p1, p2, p3, rl⟩ := cells4 (HD.out.below HB3.out HD.out.lt)
  obtain ⟨n, hn⟩ : ∃ n, n = (emit d q).length := ⟨_, rfl⟩
  rw [← hn] at HA ⊢
  have HN := Lib.hid hn
  clear hA hfr hb3 hn
  go_wp2_with fail
  have hx1 : w.heap.size ≤ w.heap.size + 1 := by omega
  refine bodyPost_ret (v := .agg #[.int .i64 1, .int .i64 d, .slice A n k, .slice none 0 0]) (by simp [results, Tryd.results9, go_sem, r0, r1, r2, r3, rl]) rfl ⟨A, k, by rw [HN.out], ?_, fun a ha => (HFR.out a ha).2, (((HBW.out.setCell hx1 _).setCell hx1 _).setCell hx1 _).setCell hx1 _⟩
  rw [← HN.out]
  exact sl_far (sl_far (sl_far (sl_far HA.out (fun a ha => (HFR.out a ha).1)) (fun a ha => (HFR.out a ha).1)) (fun a ha => (HFR.out a ha).1)) (fun a ha => (HFR.out a ha).1)
end Go.Proofs.YtpfgdfgifdbijaaDoor.pt
