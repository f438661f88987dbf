/-
  Contracts: a line forced to a type, a point forced to a type; a line and a point made of plain data.
-/
import Derived.Test.YtbacakdpfiiblaaGreatGeoE
namespace Go.Proofs.YtbacakdpfiiblaaGreat.geo
open Go.ChangeShapes Go.WideShapes Go.ChangeAt Go.RowKit
open Go.Proofs.YtbacakdpfiiblaaGreat.mem
set_option linter.unusedVariables false
set_option linter.unusedSimpArgs false
set_option maxHeartbeats 4000000
set_option maxRecDepth 100000

theorem newLine_calls (d : Int) (A : Option Addr) (n c : Nat) (w : World) :
    Calls Tryz.prog 117 #[.agg #[.int .u8 d, .slice A n c]] w (Gives w (.agg #[.int .u8 d, .slice A n c])) := by
  go_enter Tryz.func117, Tryz.ntmps117
  go_wp2_with fail
  exact bodyPost_ret (v := .agg #[.int .u8 d, .slice A n c]) (by simp [results, Tryz.results117, go_sem]) rfl ⟨rfl, ((Below.refl _ _).alloc (Nat.le_refl _) _).alloc (by simp) _⟩
theorem coords_calls (d : Int) (A : Option Addr) (n c : Nat) (w : World) :
    Calls Tryz.prog 72 #[.agg #[.int .u8 d, .slice A n c]] w (Gives w (.agg #[.int .u8 d, .slice A n c])) := by
  go_enter Tryz.func72, Tryz.ntmps72
  go_wp2_with fail
  exact bodyPost_ret (v := .agg #[.int .u8 d, .slice A n c]) (by simp [results, Tryz.results72, go_sem]) rfl ⟨rfl, ((Below.refl _ _).alloc (Nat.le_refl _) _).alloc (by simp) _⟩

/-- A geometry of a kind comes back, forced to a type. -/
def ForcePost (S : Nat → Prop) (w : World) (d' : Nat) (g : MG) (e : Ending) (w' : World) : Prop :=
  ∃ g' : MG, e = .returned (.agg g'.enc.toArray) ∧ g'.In (Fresh S w) w' ∧ g'.kind = g.kind ∧ g'.plain = g.plain.frc d' ∧ Below w.heap.size w w'
/-- The contract of what forces a geometry to a type. -/
def ForceC (f : FuncId) (g : MG) : Prop := ∀ (d' : Nat), d' < 4 → ∀ (S : Nat → Prop) (w : World), g.In S w → Calls Tryz.prog f #[.agg g.enc.toArray, .int .u8 d'] w (ForcePost S w d' g)

theorem lnForce_calls {d d' : Nat} (hd' : d' < 4) {A : Option Addr} {c : Nat} {ns : List Nat} {S : Nat → Prop} {w : World} (h : (MG.ln d A c ns).In S w) :
    Calls Tryz.prog 132 #[.agg #[.int .u8 d, .slice A ns.length c], .int .u8 d'] w (LnPost S w d' (frcN d d' ns)) := by
  obtain ⟨wA, hwA⟩ : ∃ wA, wA = (w.alloc (.cells #[.int .u8 d, .slice A ns.length c] 83)).alloc (.cells #[.int .u8 0, .slice none 0 0] 83) := ⟨_, rfl⟩
  have hbl : Below w.heap.size w wA := by rw [hwA]; exact ((Below.refl _ _).alloc (Nat.le_refl _) _).alloc (by simp) _
  have hD : Blk wA (w.heap.size + 1) 83 #[.int .u8 0, .slice none 0 0] := by
    rw [hwA]
    have := Blk.new (w.alloc (.cells #[.int .u8 d, .slice A ns.length c] 83)) 83 #[.int .u8 0, .slice none 0 0]
    simpa using this
  have hsz : wA.heap.size = w.heap.size + 2 := by rw [hwA]; simp
  have HSQ := Lib.hid (seqForce_calls hd' (MG.up hbl (MG.old h)))
  have HD := Lib.hid hD
  have HBL := Lib.hid hbl
  have HWA := Lib.hid hwA
  have HSZ := Lib.hid hsz
  clear h hbl hD hwA hsz
  go_enter Tryz.func132, Tryz.ntmps132
  go_wp2_with fail
  rw [← HWA.out]
  refine HSQ.out.mono ?_
  rintro e w1 ⟨A1, c1, rfl, h1, hb1⟩
  have HBL1 := Lib.hid (HBL.out.trans (hb1.mono HBL.out.size))
  obtain ⟨z0, z1, y0, y1, zl⟩ := cells2 (HD.out.below hb1 HD.out.lt)
  have H1 := Lib.hid h1
  clear hb1 h1
  go_wp2_with fail
  have hno : ¬ Fresh (Old S w) wA (w.heap.size + 1) := Fresh.not (by omega) (by have := HSZ.out; omega)
  exact bodyPost_ret (v := .agg #[.int .u8 d', .slice A1 (frcN d d' ns).length c1]) (by simp [results, Tryz.results132, go_sem, z0, z1, zl]) rfl ⟨A1, c1, rfl, MG.less (Fresh.old HBL.out.size) (MG.keep ((Keeps.set (p := ⟨w.heap.size + 1, 0, none⟩) hno _).trans (.set (p := ⟨w.heap.size + 1, 1, none⟩) hno _)) H1.out), (HBL1.out.setCell (by simp) _).setCell (by simp) _⟩

/-! ### points -/
theorem quiet_add_same {P : Program} {f : FuncId} {args : Array Value} {w : World} {a n : Nat} {v : Value}
    (h : Calls P f args (w.drewN (a + n)) fun e w' => e = .returned v ∧ w' = w.drewN (a + n)) :
    Calls P f args (w.drewN (a + n)) fun e w'' => e = .returned v ∧ ∃ m, w'' = w.drewN (a + m) :=
  h.mono fun _ _ ⟨he, hm⟩ => ⟨he, n, hm⟩
theorem newEmpty_calls (d : Nat) (w : World) : Calls Tryz.prog 114 #[.int .u8 d] w (Gives w (.agg #[.float .f64 0, .float .f64 0, .float .f64 0, .float .f64 0, .int .u8 d, .bool false])) := by
  go_enter Tryz.func114, Tryz.ntmps114
  go_wp2_with fail
  exact bodyPost_ret (v := .agg #[.float .f64 0, .float .f64 0, .float .f64 0, .float .f64 0, .int .u8 d, .bool false]) (by simp [results, Tryz.results114, go_sem]) rfl ⟨rfl, (Below.refl _ _).alloc (Nat.le_refl _) _⟩
theorem newPoint_calls (x y z m : Nat) (d : Nat) (w : World) : Calls Tryz.prog 116 #[.agg #[.float .f64 x, .float .f64 y, .float .f64 z, .float .f64 m, .int .u8 d]] w (Gives w (.agg #[.float .f64 x, .float .f64 y, .float .f64 z, .float .f64 m, .int .u8 d, .bool true])) := by
  go_enter Tryz.func116, Tryz.ntmps116
  go_wp2_with fail
  exact bodyPost_ret (v := .agg #[.float .f64 x, .float .f64 y, .float .f64 z, .float .f64 m, .int .u8 d, .bool true]) (by simp [results, Tryz.results116, go_sem]) rfl ⟨rfl, ((Below.refl _ _).alloc (Nat.le_refl _) _).alloc (by simp) _⟩

/-- A place under another type. -/
def ptz (d d' : Nat) (p : Pl) : Pl := ⟨p.x, p.y, if hz d' != hz d then 0 else p.z, if hm d' != hm d then 0 else p.m⟩
theorem ptz_clip {d d' : Nat} {p : Pl} (h : clip d p = p) : clip d' (ptz d d' p) = ptz d d' p := by
  obtain ⟨x, y, z, m⟩ := p
  simp only [clip, Pl.mk.injEq, true_and] at h
  unfold clip ptz
  generalize hz d = a at *
  generalize hm d = b at *
  generalize hz d' = a' at *
  generalize hm d' = b' at *
  cases a <;> cases b <;> cases a' <;> cases b' <;> simp_all <;> omega
theorem ptz_emit {d d' : Nat} {p : Pl} (h : clip d p = p) : emit d' (ptz d d' p) = emit d' p := by
  obtain ⟨x, y, z, m⟩ := p
  simp only [clip, Pl.mk.injEq, true_and] at h
  unfold emit ptz
  generalize hz d = a at *
  generalize hm d = b at *
  generalize hz d' = a' at *
  generalize hm d' = b' at *
  cases a <;> cases b <;> cases a' <;> cases b' <;> simp_all <;> omega
theorem pt_plain {d d' : Nat} (hd : d < 4) (hd' : d' < 4) (full : Bool) (p : Pl) (h : clip d p = p) : (PG.mk 1 d' (if full then emit d' (ptz d d' p) else []) []) = (MG.pt d full p).plain.frc d' := by
  rw [MG.plain, frc_eq, dm_nat hd]
  cases full
  · rw [if_neg (by simp), if_neg (by simp), frcN_nil]; rfl
  · rw [if_pos rfl, if_pos rfl, frcN_one hd hd', h, ptz_emit h]; rfl

theorem ptForce_full {d d' : Nat} (hd : d < 4) (hd' : d' < 4) (p : Pl) (w : World) :
    Calls Tryz.prog 171 #[.agg #[.float .f64 p.x, .float .f64 p.y, .float .f64 p.z, .float .f64 p.m, .int .u8 d, .bool true], .int .u8 d'] w (Gives w (.agg #[.float .f64 (ptz d d' p).x, .float .f64 (ptz d d' p).y, .float .f64 (ptz d d' p).z, .float .f64 (ptz d d' p).m, .int .u8 d', .bool true])) := by
  obtain ⟨x, y, z, m⟩ := p
  unfold ptz
  simp only
  have h3 := Lib.hid (is3_calls hd)
  have h3' := Lib.hid (is3_calls hd')
  have h4 := Lib.hid (isM_calls hd)
  have h4' := Lib.hid (isM_calls hd')
  generalize hz d = a at *
  generalize hm d = b at *
  generalize hz d' = a' at *
  generalize hm d' = b' at *
  obtain ⟨wA, hwA⟩ : ∃ wA, wA = (w.alloc (.cells #[.float .f64 x, .float .f64 y, .float .f64 z, .float .f64 m, .int .u8 d, .bool true] 77)).alloc (.cells #[.float .f64 0, .float .f64 0, .float .f64 0, .float .f64 0, .int .u8 0, .bool false] 77) := ⟨_, rfl⟩
  have hbl : Below w.heap.size w wA := by rw [hwA]; exact ((Below.refl _ _).alloc (Nat.le_refl _) _).alloc (by simp) _
  have hB : Blk wA w.heap.size 77 #[.float .f64 x, .float .f64 y, .float .f64 z, .float .f64 m, .int .u8 d, .bool true] := by rw [hwA]; exact (Blk.new _ _ _).alloc _
  have hD : Blk wA (w.heap.size + 1) 77 #[.float .f64 0, .float .f64 0, .float .f64 0, .float .f64 0, .int .u8 0, .bool false] := by
    rw [hwA]
    have := Blk.new (w.alloc (.cells #[.float .f64 x, .float .f64 y, .float .f64 z, .float .f64 m, .int .u8 d, .bool true] 77)) 77 #[.float .f64 0, .float .f64 0, .float .f64 0, .float .f64 0, .int .u8 0, .bool false]
    simpa using this
  obtain ⟨c0, c1, c2, c3, c4, c5, e0, e1, e2, e3, e4, e5, cl⟩ := cells6 hB
  obtain ⟨z0, z1, z2, z3, z4, z5, y0, y1, y2, y3, y4, y5, zl⟩ := cells6 hD
  have HBL := Lib.hid hbl
  have HWA := Lib.hid hwA
  have hne : w.heap.size ≠ w.heap.size + 1 := by omega
  clear hbl hB hD hwA
  have n1 : (a != a) = false := by simp
  have n2 : ((!a) != a) = true := by cases a <;> rfl
  have n3 : (b != b) = false := by simp
  have n4 : ((!b) != b) = true := by cases b <;> rfl
  have ea : a' = a ∨ a' = !a := by cases a <;> cases a' <;> simp
  have eb : b' = b ∨ b' = !b := by cases b <;> cases b' <;> simp
  rcases ea with rfl | rfl <;> rcases eb with rfl | rfl
  all_goals
    simp only [n1, n2, n3, n4, Bool.false_eq_true, if_true, if_false]
    go_enter Tryz.func171, Tryz.ntmps171
    go_wp2_with fail
    rw [← HWA.out]
    go_quiet ((go_at_call 135; first | exact Calls.quiet_of_same (h3.out _) | exact Calls.quiet_of_same (h3'.out _)))
    go_wp2_with fail
    go_quiet ((go_at_call 136; first | exact Calls.quiet_of_same (h4.out _) | exact Calls.quiet_of_same (h4'.out _) | exact quiet_add_same (h4.out _) | exact quiet_add_same (h4'.out _)))
    go_wp2_with fail
    refine bodyPost_ret (v := .agg #[.float .f64 _, .float .f64 _, .float .f64 _, .float .f64 _, .int .u8 d', .bool true]) (by simp [results, Tryz.results171, go_sem, z0, z1, z2, z3, z4, z5, zl]) rfl ⟨rfl, ?_⟩
    repeat' (first | (with_reducible exact HBL.out) | (with_reducible refine Below.setCell ?_ (by simp) _) | (with_reducible refine Below.trans ?_ (drewN_below _ _ _)))
theorem ptForce_none {d d' : Nat} (p : Pl) (w : World) :
    Calls Tryz.prog 171 #[.agg #[.float .f64 p.x, .float .f64 p.y, .float .f64 p.z, .float .f64 p.m, .int .u8 d, .bool false], .int .u8 d'] w (Gives w (.agg #[.float .f64 0, .float .f64 0, .float .f64 0, .float .f64 0, .int .u8 d', .bool false])) := by
  obtain ⟨x, y, z, m⟩ := p
  simp only
  obtain ⟨wA, hwA⟩ : ∃ wA, wA = (w.alloc (.cells #[.float .f64 x, .float .f64 y, .float .f64 z, .float .f64 m, .int .u8 d, .bool false] 77)).alloc (.cells #[.float .f64 0, .float .f64 0, .float .f64 0, .float .f64 0, .int .u8 0, .bool false] 77) := ⟨_, rfl⟩
  have hbl : Below w.heap.size w wA := by rw [hwA]; exact ((Below.refl _ _).alloc (Nat.le_refl _) _).alloc (by simp) _
  have hD : Blk wA (w.heap.size + 1) 77 #[.float .f64 0, .float .f64 0, .float .f64 0, .float .f64 0, .int .u8 0, .bool false] := by
    rw [hwA]
    have := Blk.new (w.alloc (.cells #[.float .f64 x, .float .f64 y, .float .f64 z, .float .f64 m, .int .u8 d, .bool false] 77)) 77 #[.float .f64 0, .float .f64 0, .float .f64 0, .float .f64 0, .int .u8 0, .bool false]
    simpa using this
  have HBL := Lib.hid hbl
  have HWA := Lib.hid hwA
  have HD := Lib.hid hD
  clear hbl hD hwA
  go_enter Tryz.func171, Tryz.ntmps171
  go_wp2_with fail
  rw [← HWA.out]
  refine (newEmpty_calls _ _).mono ?_
  rintro e w1 ⟨rfl, hb1⟩
  have HBL1 := Lib.hid (HBL.out.trans (hb1.mono HBL.out.size))
  obtain ⟨z0, z1, z2, z3, z4, z5, y0, y1, y2, y3, y4, y5, zl⟩ := cells6 (HD.out.below hb1 HD.out.lt)
  clear hb1
  go_wp2_with fail
  refine bodyPost_ret (v := .agg #[.float .f64 0, .float .f64 0, .float .f64 0, .float .f64 0, .int .u8 d', .bool false]) (by simp [results, Tryz.results171, go_sem, z0, z1, z2, z3, z4, z5, zl]) rfl ⟨rfl, ?_⟩
  repeat' (first | exact HBL1.out | (refine Below.setCell ?_ (by simp) _))
/-- What forces a point, as a part. -/
theorem ptForceC (d : Nat) (full : Bool) (p : Pl) : ForceC 171 (.pt d full p) := fun d' hd' S w h => by
  rw [MG.In] at h
  cases full
  · refine (ptForce_none (d := d) (d' := d') p w).mono fun e w' ⟨he, hb⟩ => ⟨.pt d' false ⟨0, 0, 0, 0⟩, he, ?_, rfl, ?_, hb⟩
    · rw [MG.In]
      exact ⟨hd', by simp [clip]⟩
    · exact pt_plain h.1 hd' false p h.2
  · refine (ptForce_full h.1 hd' p w).mono fun e w' ⟨he, hb⟩ => ⟨.pt d' true (ptz d d' p), he, ?_, rfl, ?_, hb⟩
    · rw [MG.In]
      exact ⟨hd', ptz_clip h.2⟩
    · exact pt_plain h.1 hd' true p h.2
theorem lnForceC (d : Nat) (A : Option Addr) (c : Nat) (ns : List Nat) : ForceC 132 (.ln d A c ns) := fun d' hd' S w h => by
  have hd : d < 4 := by rw [MG.In] at h; exact h.1
  refine (lnForce_calls hd' h).mono fun e w' ⟨A', c', he, hin, hb⟩ => ⟨.ln d' A' c' (frcN d d' ns), he, hin, rfl, ?_, hb⟩
  rw [MG.plain, MG.plain, frc_eq, dm_nat hd]; rfl

end Go.Proofs.YtbacakdpfiiblaaGreat.geo
