/-
  Contracts: a place's numbers; its text; its point.
-/
import Derived.Test.YtpfgdfgifdbijaaDoorFfV
import Derived.Test.YtpfgdfgifdbijaaDoorFfW
import Derived.Test.YtpfgdfgifdbijaaDoorFfT0
import Derived.Test.YtpfgdfgifdbijaaDoorFfT1
import Derived.Test.YtpfgdfgifdbijaaDoorFfT2
import Derived.Test.YtpfgdfgifdbijaaDoorFfT3
namespace Go.Proofs.YtpfgdfgifdbijaaDoor.pt
open Go.ChangeShapes Go.WideShapes Go.ChangeAt Go.RowKit
open Go.Proofs.YtpfgdfgifdbijaaDoor.mem Go.Proofs.YtpfgdfgifdbijaaDoor.geo
set_option linter.unusedVariables false
set_option linter.unusedSimpArgs false

/-- Numbers come back. -/
def KN (w : World) (fs : List Nat) (e : Ending) (w' : World) : Prop :=
  ∃ A k, e = .returned (.slice A fs.length k) ∧ Sl w' w'.heap.size A fs.length 1 (FL fs) ∧ Below w.heap.size w w'

set_option maxHeartbeats 8000000 in
set_option maxRecDepth 100000 in
theorem kNums0 (q : Pl) (w : World) : Calls Tryd.prog 5 #[.agg #[.float .f64 q.x, .float .f64 q.y, .float .f64 q.z, .float .f64 q.m, .int .i64 0]] w (KN w (emit 0 q)) := by
  obtain ⟨i0, hi, hz0, hz1, hz2⟩ := info_parts infoF
  obtain ⟨w2, hw2⟩ : ∃ w2, w2 = (w.alloc (.cells #[.float .f64 q.x, .float .f64 q.y, .float .f64 q.z, .float .f64 q.m, .int .i64 0] 24)).alloc (.cells #[.float .f64 q.x, .float .f64 q.y] 22) := ⟨_, rfl⟩
  have hB : Blk w2 w.heap.size 24 #[.float .f64 q.x, .float .f64 q.y, .float .f64 q.z, .float .f64 q.m, .int .i64 0] := by rw [hw2]; exact (Blk.new _ _ _).alloc _
  have hO : w2.ownsRow (w.heap.size + 1) 22 1 (.slice (some ⟨w.heap.size + 1, 0, none⟩) 2 2) 2 (FL [q.x, q.y]) := by
    rw [hw2]
    have := World.ownsRow_lit (base := w.heap.size + 1) (e := 22) (size := 1) (w.alloc (.cells #[.float .f64 q.x, .float .f64 q.y, .float .f64 q.z, .float .f64 q.m, .int .i64 0] 24)) #[.float .f64 q.x, .float .f64 q.y] 2 (by simp) (by decide) rfl
    simpa [FL] using this
  have hbl : Below w.heap.size w w2 := by rw [hw2]; exact ((Below.refl _ _).alloc (Nat.le_refl _) _).alloc (by simp) _
  have hsz : w.heap.size + 1 ≤ w2.heap.size := by rw [hw2]; simp
  have HW2 := Lib.hid hw2
  have HB := Lib.hid hB
  have HBL := Lib.hid hbl
  have HO2 := Lib.hid hO
  have HS2 := Lib.hid hsz
  obtain ⟨b0, b1, b2, b3, b4, -, -, -, -, -, bl⟩ := cells5 hB
  clear hw2 hB hO hbl hsz
  go_enter Tryd.func5, Tryd.ntmps5
  go_upto_region 2 with fail
  rw [← HW2.out]
  go_wp2_with fail
  refine bodyPost_ret (v := .slice (some ⟨w.heap.size + 1, 0, none⟩) (2) 2) (by simp [results, go_sem]) rfl ⟨_, _, rfl, ?_, HBL.out⟩
  exact Sl.of_own HO2.out
set_option maxHeartbeats 8000000 in
set_option maxRecDepth 100000 in
theorem kNums1 (q : Pl) (w : World) : Calls Tryd.prog 5 #[.agg #[.float .f64 q.x, .float .f64 q.y, .float .f64 q.z, .float .f64 q.m, .int .i64 1]] w (KN w (emit 1 q)) := by
  obtain ⟨i0, hi, hz0, hz1, hz2⟩ := info_parts infoF
  obtain ⟨w2, hw2⟩ : ∃ w2, w2 = (w.alloc (.cells #[.float .f64 q.x, .float .f64 q.y, .float .f64 q.z, .float .f64 q.m, .int .i64 1] 24)).alloc (.cells #[.float .f64 q.x, .float .f64 q.y] 22) := ⟨_, rfl⟩
  have hB : Blk w2 w.heap.size 24 #[.float .f64 q.x, .float .f64 q.y, .float .f64 q.z, .float .f64 q.m, .int .i64 1] := by rw [hw2]; exact (Blk.new _ _ _).alloc _
  have hO : w2.ownsRow (w.heap.size + 1) 22 1 (.slice (some ⟨w.heap.size + 1, 0, none⟩) 2 2) 2 (FL [q.x, q.y]) := by
    rw [hw2]
    have := World.ownsRow_lit (base := w.heap.size + 1) (e := 22) (size := 1) (w.alloc (.cells #[.float .f64 q.x, .float .f64 q.y, .float .f64 q.z, .float .f64 q.m, .int .i64 1] 24)) #[.float .f64 q.x, .float .f64 q.y] 2 (by simp) (by decide) rfl
    simpa [FL] using this
  have hbl : Below w.heap.size w w2 := by rw [hw2]; exact ((Below.refl _ _).alloc (Nat.le_refl _) _).alloc (by simp) _
  have hsz : w.heap.size + 1 ≤ w2.heap.size := by rw [hw2]; simp
  have HW2 := Lib.hid hw2
  have HB := Lib.hid hB
  have HBL := Lib.hid hbl
  have HO2 := Lib.hid hO
  have HS2 := Lib.hid hsz
  obtain ⟨b0, b1, b2, b3, b4, -, -, -, -, -, bl⟩ := cells5 hB
  clear hw2 hB hO hbl hsz
  go_enter Tryd.func5, Tryd.ntmps5
  go_upto_region 2 with fail
  rw [← HW2.out]
  go_wp2_with (at_builtin; first
    | (refine wpList_append_sl _ rfl (.tmp 17) (.tmp 20) 27 rfl (w.heap.size + 1) 22 i0 _ 1 8 Tryd.underlying27 hi hz0 hz1 hz2 rfl (by decide) _ (2) _ rfl (HO2.out.alloc _) (w2.heap.size + 1) (some ⟨w2.heap.size, 0, none⟩) 1 1 [.float .f64 q.z] rfl (lit_sl rfl rfl (by decide)) (lit_one [q.z]) (by decide) (by decide) (by have := HS2.out; simp; omega) ?_; intro A3 k3 w3 hown3 hgrow3 hat3
       have HB := Lib.hid ((HB.out.alloc _).grown hgrow3 (fun e => by have := (HO2.out.lt _ e.symm).1; omega))
       have HBL := Lib.hid ((HBL.out.alloc HBL.out.size _).grown hgrow3 (by have := HBL.out.size; simp; omega) (fun r hr => by have := (HO2.out.lt r hr).1; omega))
       have HS3 := Lib.hid (show w.heap.size + 1 ≤ w3.heap.size from by have h1 := hgrow3.size; have h2 := HS2.out; simp at h1; omega)
       have HO3 := Lib.hid (show w3.ownsRow (w.heap.size + 1) 22 1 (.slice A3 3 k3) 3 _ from hown3)
       obtain ⟨b0, b1, b2, b3, b4, -, -, -, -, -, bl⟩ := cells5 HB.out
       clear hown3 hgrow3 hat3))
  refine bodyPost_ret (v := .slice A3 (3) k3) (by simp [results, go_sem]) rfl ⟨_, _, rfl, ?_, HBL.out⟩
  exact Sl.of_own HO3.out
set_option maxHeartbeats 8000000 in
set_option maxRecDepth 100000 in
theorem kNums2 (q : Pl) (w : World) : Calls Tryd.prog 5 #[.agg #[.float .f64 q.x, .float .f64 q.y, .float .f64 q.z, .float .f64 q.m, .int .i64 2]] w (KN w (emit 2 q)) := by
  obtain ⟨i0, hi, hz0, hz1, hz2⟩ := info_parts infoF
  obtain ⟨w2, hw2⟩ : ∃ w2, w2 = (w.alloc (.cells #[.float .f64 q.x, .float .f64 q.y, .float .f64 q.z, .float .f64 q.m, .int .i64 2] 24)).alloc (.cells #[.float .f64 q.x, .float .f64 q.y] 22) := ⟨_, rfl⟩
  have hB : Blk w2 w.heap.size 24 #[.float .f64 q.x, .float .f64 q.y, .float .f64 q.z, .float .f64 q.m, .int .i64 2] := by rw [hw2]; exact (Blk.new _ _ _).alloc _
  have hO : w2.ownsRow (w.heap.size + 1) 22 1 (.slice (some ⟨w.heap.size + 1, 0, none⟩) 2 2) 2 (FL [q.x, q.y]) := by
    rw [hw2]
    have := World.ownsRow_lit (base := w.heap.size + 1) (e := 22) (size := 1) (w.alloc (.cells #[.float .f64 q.x, .float .f64 q.y, .float .f64 q.z, .float .f64 q.m, .int .i64 2] 24)) #[.float .f64 q.x, .float .f64 q.y] 2 (by simp) (by decide) rfl
    simpa [FL] using this
  have hbl : Below w.heap.size w w2 := by rw [hw2]; exact ((Below.refl _ _).alloc (Nat.le_refl _) _).alloc (by simp) _
  have hsz : w.heap.size + 1 ≤ w2.heap.size := by rw [hw2]; simp
  have HW2 := Lib.hid hw2
  have HB := Lib.hid hB
  have HBL := Lib.hid hbl
  have HO2 := Lib.hid hO
  have HS2 := Lib.hid hsz
  obtain ⟨b0, b1, b2, b3, b4, -, -, -, -, -, bl⟩ := cells5 hB
  clear hw2 hB hO hbl hsz
  go_enter Tryd.func5, Tryd.ntmps5
  go_upto_region 2 with fail
  rw [← HW2.out]
  go_wp2_with (at_builtin; first
    | (refine wpList_append_sl _ rfl (.tmp 25) (.tmp 28) 27 rfl (w.heap.size + 1) 22 i0 _ 1 8 Tryd.underlying27 hi hz0 hz1 hz2 rfl (by decide) _ (2) _ rfl (HO2.out.alloc _) (w2.heap.size + 1) (some ⟨w2.heap.size, 0, none⟩) 1 1 [.float .f64 q.m] rfl (lit_sl rfl rfl (by decide)) (lit_one [q.m]) (by decide) (by decide) (by have := HS2.out; simp; omega) ?_; intro A4 k4 w4 hown4 hgrow4 hat4
       have HB := Lib.hid ((HB.out.alloc _).grown hgrow4 (fun e => by have := (HO2.out.lt _ e.symm).1; omega))
       have HBL := Lib.hid ((HBL.out.alloc HBL.out.size _).grown hgrow4 (by have := HBL.out.size; simp; omega) (fun r hr => by have := (HO2.out.lt r hr).1; omega))
       have HS4 := Lib.hid (show w.heap.size + 1 ≤ w4.heap.size from by have h1 := hgrow4.size; have h2 := HS2.out; simp at h1; omega)
       have HO4 := Lib.hid (show w4.ownsRow (w.heap.size + 1) 22 1 (.slice A4 3 k4) 3 _ from hown4)
       obtain ⟨b0, b1, b2, b3, b4, -, -, -, -, -, bl⟩ := cells5 HB.out
       clear hown4 hgrow4 hat4))
  refine bodyPost_ret (v := .slice A4 (3) k4) (by simp [results, go_sem]) rfl ⟨_, _, rfl, ?_, HBL.out⟩
  exact Sl.of_own HO4.out
set_option maxHeartbeats 8000000 in
set_option maxRecDepth 100000 in
theorem kNums3 (q : Pl) (w : World) : Calls Tryd.prog 5 #[.agg #[.float .f64 q.x, .float .f64 q.y, .float .f64 q.z, .float .f64 q.m, .int .i64 3]] w (KN w (emit 3 q)) := by
  obtain ⟨i0, hi, hz0, hz1, hz2⟩ := info_parts infoF
  obtain ⟨w2, hw2⟩ : ∃ w2, w2 = (w.alloc (.cells #[.float .f64 q.x, .float .f64 q.y, .float .f64 q.z, .float .f64 q.m, .int .i64 3] 24)).alloc (.cells #[.float .f64 q.x, .float .f64 q.y] 22) := ⟨_, rfl⟩
  have hB : Blk w2 w.heap.size 24 #[.float .f64 q.x, .float .f64 q.y, .float .f64 q.z, .float .f64 q.m, .int .i64 3] := by rw [hw2]; exact (Blk.new _ _ _).alloc _
  have hO : w2.ownsRow (w.heap.size + 1) 22 1 (.slice (some ⟨w.heap.size + 1, 0, none⟩) 2 2) 2 (FL [q.x, q.y]) := by
    rw [hw2]
    have := World.ownsRow_lit (base := w.heap.size + 1) (e := 22) (size := 1) (w.alloc (.cells #[.float .f64 q.x, .float .f64 q.y, .float .f64 q.z, .float .f64 q.m, .int .i64 3] 24)) #[.float .f64 q.x, .float .f64 q.y] 2 (by simp) (by decide) rfl
    simpa [FL] using this
  have hbl : Below w.heap.size w w2 := by rw [hw2]; exact ((Below.refl _ _).alloc (Nat.le_refl _) _).alloc (by simp) _
  have hsz : w.heap.size + 1 ≤ w2.heap.size := by rw [hw2]; simp
  have HW2 := Lib.hid hw2
  have HB := Lib.hid hB
  have HBL := Lib.hid hbl
  have HO2 := Lib.hid hO
  have HS2 := Lib.hid hsz
  obtain ⟨b0, b1, b2, b3, b4, -, -, -, -, -, bl⟩ := cells5 hB
  clear hw2 hB hO hbl hsz
  go_enter Tryd.func5, Tryd.ntmps5
  go_upto_region 2 with fail
  rw [← HW2.out]
  go_wp2_with (at_builtin; first
    | (refine wpList_append_sl _ rfl (.tmp 17) (.tmp 20) 27 rfl (w.heap.size + 1) 22 i0 _ 1 8 Tryd.underlying27 hi hz0 hz1 hz2 rfl (by decide) _ (2) _ rfl (HO2.out.alloc _) (w2.heap.size + 1) (some ⟨w2.heap.size, 0, none⟩) 1 1 [.float .f64 q.z] rfl (lit_sl rfl rfl (by decide)) (lit_one [q.z]) (by decide) (by decide) (by have := HS2.out; simp; omega) ?_; intro A3 k3 w3 hown3 hgrow3 hat3
       have HB := Lib.hid ((HB.out.alloc _).grown hgrow3 (fun e => by have := (HO2.out.lt _ e.symm).1; omega))
       have HBL := Lib.hid ((HBL.out.alloc HBL.out.size _).grown hgrow3 (by have := HBL.out.size; simp; omega) (fun r hr => by have := (HO2.out.lt r hr).1; omega))
       have HS3 := Lib.hid (show w.heap.size + 1 ≤ w3.heap.size from by have h1 := hgrow3.size; have h2 := HS2.out; simp at h1; omega)
       have HO3 := Lib.hid (show w3.ownsRow (w.heap.size + 1) 22 1 (.slice A3 3 k3) 3 _ from hown3)
       obtain ⟨b0, b1, b2, b3, b4, -, -, -, -, -, bl⟩ := cells5 HB.out
       clear hown3 hgrow3 hat3)
    | (refine wpList_append_sl _ rfl (.tmp 25) (.tmp 28) 27 rfl (w.heap.size + 1) 22 i0 _ 1 8 Tryd.underlying27 hi hz0 hz1 hz2 rfl (by decide) _ (3) _ rfl (HO3.out.alloc _) (w3.heap.size + 1) (some ⟨w3.heap.size, 0, none⟩) 1 1 [.float .f64 q.m] rfl (lit_sl rfl rfl (by decide)) (lit_one [q.m]) (by decide) (by decide) (by have := HS3.out; simp; omega) ?_; intro A4 k4 w4 hown4 hgrow4 hat4
       have HB := Lib.hid ((HB.out.alloc _).grown hgrow4 (fun e => by have := (HO3.out.lt _ e.symm).1; omega))
       have HBL := Lib.hid ((HBL.out.alloc HBL.out.size _).grown hgrow4 (by have := HBL.out.size; simp; omega) (fun r hr => by have := (HO3.out.lt r hr).1; omega))
       have HS4 := Lib.hid (show w.heap.size + 1 ≤ w4.heap.size from by have h1 := hgrow4.size; have h2 := HS3.out; simp at h1; omega)
       have HO4 := Lib.hid (show w4.ownsRow (w.heap.size + 1) 22 1 (.slice A4 4 k4) 4 _ from hown4)
       obtain ⟨b0, b1, b2, b3, b4, -, -, -, -, -, bl⟩ := cells5 HB.out
       clear hown4 hgrow4 hat4))
  refine bodyPost_ret (v := .slice A4 (4) k4) (by simp [results, go_sem]) rfl ⟨_, _, rfl, ?_, HBL.out⟩
  exact Sl.of_own HO4.out
theorem kNums_calls {d : Nat} (hd : d < 4) (q : Pl) (w : World) : Calls Tryd.prog 5 #[.agg #[.float .f64 q.x, .float .f64 q.y, .float .f64 q.z, .float .f64 q.m, .int .i64 d]] w (KN w (emit d q)) := by
  obtain rfl | rfl | rfl | rfl := four hd
  · exact kNums0 q w
  · exact kNums1 q w
  · exact kNums2 q w
  · exact kNums3 q w

end Go.Proofs.YtpfgdfgifdbijaaDoor.pt
