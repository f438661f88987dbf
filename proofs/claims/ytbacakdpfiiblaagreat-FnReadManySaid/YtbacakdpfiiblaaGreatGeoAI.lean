/-
  Contracts: any geometry, told as plain data.
-/
import Derived.Test.YtbacakdpfiiblaaGreatGeoAH
namespace Go.Proofs.YtbacakdpfiiblaaGreat.geo
open Go.ChangeShapes Go.WideShapes Go.ChangeAt Go.RowKit
open Go.Proofs.YtbacakdpfiiblaaGreat.mem
set_option linter.unusedVariables false
set_option linter.unusedSimpArgs false

theorem gtype_calls (k : Int) (v : Value) (w : World) : Calls Tryz.prog 70 #[.agg #[.int .i64 k, v]] w (Gives w (.int .i64 k)) := by
  go_enter Tryz.func70, Tryz.ntmps70
  go_wp2_with fail
  exact bodyPost_ret (v := .int .i64 k) (by simp [results, go_sem]) rfl ⟨rfl, (Below.refl _ _).alloc (Nat.le_refl _) _⟩


set_option maxHeartbeats 8000000 in
set_option maxRecDepth 100000 in
theorem plainG0 {a : Nat} {m : MG} (hm : m.kind = 0) (hF : PlainC 93 m) : PlainC 35 (.bx a m) := fun S w h => by
  rw [MG.In] at h
  obtain ⟨-, hSa, hblk, hin⟩ := h
  rw [hm] at hblk
  rw [MG.plain]
  obtain ⟨d, A, c, kids, rfl⟩ := MG.is_mu (S := S) (w := w) (k := 0) hm (by decide) (by decide) (by decide)
  have hblk : Blk w a 102 #[.slice A kids.length c, .int .u8 d] := hblk
  show Calls Tryz.prog 35 #[.agg #[.int .i64 0, .iface 180 (.pointer (some ⟨a, 0, none⟩))]] w _
  obtain ⟨wA, hwA⟩ : ∃ wA, wA = (w.alloc (.cells #[.int .i64 0, .iface 180 (.pointer (some ⟨a, 0, none⟩))] 47)).alloc (.cells #[.int .i64 0, .int .i64 0, .slice none 0 0, .slice none 0 0] 25) := ⟨_, rfl⟩
  have hbl : Below w.heap.size w wA := by rw [hwA]; exact ((Below.refl _ _).alloc (Nat.le_refl _) _).alloc (by simp) _
  have hB : Blk wA w.heap.size 47 #[.int .i64 0, .iface 180 (.pointer (some ⟨a, 0, none⟩))] := by rw [hwA]; exact (Blk.new _ _ _).alloc _
  have hD : Blk wA (w.heap.size + 1) 25 #[.int .i64 0, .int .i64 0, .slice none 0 0, .slice none 0 0] := by
    rw [hwA]
    have := Blk.new (w.alloc (.cells #[.int .i64 0, .iface 180 (.pointer (some ⟨a, 0, none⟩))] 47)) 25 #[.int .i64 0, .int .i64 0, .slice none 0 0, .slice none 0 0]
    simpa using this
  have HB := Lib.hid hB
  have HD := Lib.hid hD
  have HM := Lib.hid (fun w' (hb : Below w.heap.size w w') => must0 (hblk.below hb hblk.lt))
  have HF := Lib.hid (fun w' (hb : Below w.heap.size w w') => hF S w' (MG.up hb hin))
  have HBL := Lib.hid hbl
  have HWA := Lib.hid hwA
  have HF := Lib.hid (show ∀ w', Below w.heap.size w w' → Calls Tryz.prog 93 #[.agg #[.slice A kids.length c, .int .u8 d]] w' (IPost w' (MG.plain _)) from HF.out)
  obtain ⟨r, hr⟩ : ∃ r, r = MG.plain (.mu 0 d A c kids) := ⟨_, rfl⟩
  rw [← hr] at HF ⊢
  clear hF hbl hwA hblk hin hm hr hB hD
  go_enter Tryz.func35, Tryz.ntmps35
  go_wp2_with fail
  rw [← HWA.out]
  refine (gtype_calls _ _ _).mono ?_
  rintro e w0 ⟨rfl, hb0⟩
  have HB0 := Lib.hid (HBL.out.trans (hb0.mono HBL.out.size))
  have HD0 := Lib.hid (HD.out.below hb0 HD.out.lt)
  obtain ⟨b0, b1, -, -, bl⟩ := cells2 (HB.out.below hb0 HB.out.lt)
  have HM0 := Lib.hid (HM.out w0 HB0.out)
  clear hb0
  go_wp2_with fail
  refine HM0.out.mono ?_
  rintro e w1 ⟨rfl, hb1⟩
  have HB1 := Lib.hid (HB0.out.trans (hb1.mono HB0.out.size))
  have HD1 := Lib.hid (HD0.out.below hb1 HD0.out.lt)
  have HF1 := Lib.hid (HF.out w1 HB1.out)
  clear hb1 b0 b1 bl
  go_wp2_with fail
  refine HF1.out.mono ?_
  rintro e w2 ⟨⟨k2, d2, A2, ca2, ns2, B2, cb2, ks2⟩, rfl, h2, hp2, hb2⟩
  obtain ⟨r0, r1, r2, r3, p0, p1, p2, p3, rl⟩ := cells4 (HD1.out.below hb2 HD1.out.lt)
  have HB2 := Lib.hid (HB1.out.trans (hb2.mono HB1.out.size))
  have H2 := Lib.hid (IG.less (T := fun a => w.heap.size + 1 < a) (fun a ha => Nat.lt_of_lt_of_le HD1.out.lt ha) h2)
  have HP2 := Lib.hid hp2
  rw [show (IG.mk k2 d2 A2 ca2 ns2 B2 cb2 ks2).enc.toArray = #[.int .i64 k2, .int .i64 d2, .slice A2 ns2.length ca2, .slice B2 ks2.length cb2] from rfl]
  clear hb2 h2 hp2
  go_wp2_with fail
  exact bodyPost_ret (v := .agg #[.int .i64 k2, .int .i64 d2, .slice A2 ns2.length ca2, .slice B2 ks2.length cb2]) (by simp [results, Tryz.results35, go_sem, r0, r1, r2, r3, rl]) rfl (IPost.store (g := .mk k2 d2 A2 ca2 ns2 B2 cb2 ks2) H2.out HP2.out HB2.out (Nat.le_add_right _ 1) _ _ _ _)


set_option maxHeartbeats 8000000 in
set_option maxRecDepth 100000 in
theorem plainG1 {a : Nat} {m : MG} (hm : m.kind = 1) (hF : PlainC 86 m) : PlainC 35 (.bx a m) := fun S w h => by
  rw [MG.In] at h
  obtain ⟨-, hSa, hblk, hin⟩ := h
  rw [hm] at hblk
  rw [MG.plain]
  obtain ⟨d, full, p, rfl⟩ := MG.is_pt hm hin
  have hblk : Blk w a 77 #[.float .f64 p.x, .float .f64 p.y, .float .f64 p.z, .float .f64 p.m, .int .u8 d, .bool full] := hblk
  show Calls Tryz.prog 35 #[.agg #[.int .i64 1, .iface 162 (.pointer (some ⟨a, 0, none⟩))]] w _
  obtain ⟨wA, hwA⟩ : ∃ wA, wA = (w.alloc (.cells #[.int .i64 1, .iface 162 (.pointer (some ⟨a, 0, none⟩))] 47)).alloc (.cells #[.int .i64 0, .int .i64 0, .slice none 0 0, .slice none 0 0] 25) := ⟨_, rfl⟩
  have hbl : Below w.heap.size w wA := by rw [hwA]; exact ((Below.refl _ _).alloc (Nat.le_refl _) _).alloc (by simp) _
  have hB : Blk wA w.heap.size 47 #[.int .i64 1, .iface 162 (.pointer (some ⟨a, 0, none⟩))] := by rw [hwA]; exact (Blk.new _ _ _).alloc _
  have hD : Blk wA (w.heap.size + 1) 25 #[.int .i64 0, .int .i64 0, .slice none 0 0, .slice none 0 0] := by
    rw [hwA]
    have := Blk.new (w.alloc (.cells #[.int .i64 1, .iface 162 (.pointer (some ⟨a, 0, none⟩))] 47)) 25 #[.int .i64 0, .int .i64 0, .slice none 0 0, .slice none 0 0]
    simpa using this
  have HB := Lib.hid hB
  have HD := Lib.hid hD
  have HM := Lib.hid (fun w' (hb : Below w.heap.size w w') => must1 (hblk.below hb hblk.lt))
  have HF := Lib.hid (fun w' (hb : Below w.heap.size w w') => hF S w' (MG.up hb hin))
  have HBL := Lib.hid hbl
  have HWA := Lib.hid hwA
  have HF := Lib.hid (show ∀ w', Below w.heap.size w w' → Calls Tryz.prog 86 #[.agg #[.float .f64 p.x, .float .f64 p.y, .float .f64 p.z, .float .f64 p.m, .int .u8 d, .bool full]] w' (IPost w' (MG.plain _)) from HF.out)
  obtain ⟨r, hr⟩ : ∃ r, r = MG.plain (.pt d full p) := ⟨_, rfl⟩
  rw [← hr] at HF ⊢
  clear hF hbl hwA hblk hin hm hr hB hD
  go_enter Tryz.func35, Tryz.ntmps35
  go_wp2_with fail
  rw [← HWA.out]
  refine (gtype_calls _ _ _).mono ?_
  rintro e w0 ⟨rfl, hb0⟩
  have HB0 := Lib.hid (HBL.out.trans (hb0.mono HBL.out.size))
  have HD0 := Lib.hid (HD.out.below hb0 HD.out.lt)
  obtain ⟨b0, b1, -, -, bl⟩ := cells2 (HB.out.below hb0 HB.out.lt)
  have HM0 := Lib.hid (HM.out w0 HB0.out)
  clear hb0
  go_wp2_with fail
  refine HM0.out.mono ?_
  rintro e w1 ⟨rfl, hb1⟩
  have HB1 := Lib.hid (HB0.out.trans (hb1.mono HB0.out.size))
  have HD1 := Lib.hid (HD0.out.below hb1 HD0.out.lt)
  have HF1 := Lib.hid (HF.out w1 HB1.out)
  clear hb1 b0 b1 bl
  go_wp2_with fail
  refine HF1.out.mono ?_
  rintro e w2 ⟨⟨k2, d2, A2, ca2, ns2, B2, cb2, ks2⟩, rfl, h2, hp2, hb2⟩
  obtain ⟨r0, r1, r2, r3, p0, p1, p2, p3, rl⟩ := cells4 (HD1.out.below hb2 HD1.out.lt)
  have HB2 := Lib.hid (HB1.out.trans (hb2.mono HB1.out.size))
  have H2 := Lib.hid (IG.less (T := fun a => w.heap.size + 1 < a) (fun a ha => Nat.lt_of_lt_of_le HD1.out.lt ha) h2)
  have HP2 := Lib.hid hp2
  rw [show (IG.mk k2 d2 A2 ca2 ns2 B2 cb2 ks2).enc.toArray = #[.int .i64 k2, .int .i64 d2, .slice A2 ns2.length ca2, .slice B2 ks2.length cb2] from rfl]
  clear hb2 h2 hp2
  go_wp2_with fail
  exact bodyPost_ret (v := .agg #[.int .i64 k2, .int .i64 d2, .slice A2 ns2.length ca2, .slice B2 ks2.length cb2]) (by simp [results, Tryz.results35, go_sem, r0, r1, r2, r3, rl]) rfl (IPost.store (g := .mk k2 d2 A2 ca2 ns2 B2 cb2 ks2) H2.out HP2.out HB2.out (Nat.le_add_right _ 1) _ _ _ _)


set_option maxHeartbeats 8000000 in
set_option maxRecDepth 100000 in
theorem plainG2 {a : Nat} {m : MG} (hm : m.kind = 2) (hF : PlainC 88 m) : PlainC 35 (.bx a m) := fun S w h => by
  rw [MG.In] at h
  obtain ⟨-, hSa, hblk, hin⟩ := h
  rw [hm] at hblk
  rw [MG.plain]
  obtain ⟨d, A, c, ns, rfl⟩ := MG.is_ln hm hin
  have hblk : Blk w a 83 #[.int .u8 d, .slice A ns.length c] := hblk
  show Calls Tryz.prog 35 #[.agg #[.int .i64 2, .iface 164 (.pointer (some ⟨a, 0, none⟩))]] w _
  obtain ⟨wA, hwA⟩ : ∃ wA, wA = (w.alloc (.cells #[.int .i64 2, .iface 164 (.pointer (some ⟨a, 0, none⟩))] 47)).alloc (.cells #[.int .i64 0, .int .i64 0, .slice none 0 0, .slice none 0 0] 25) := ⟨_, rfl⟩
  have hbl : Below w.heap.size w wA := by rw [hwA]; exact ((Below.refl _ _).alloc (Nat.le_refl _) _).alloc (by simp) _
  have hB : Blk wA w.heap.size 47 #[.int .i64 2, .iface 164 (.pointer (some ⟨a, 0, none⟩))] := by rw [hwA]; exact (Blk.new _ _ _).alloc _
  have hD : Blk wA (w.heap.size + 1) 25 #[.int .i64 0, .int .i64 0, .slice none 0 0, .slice none 0 0] := by
    rw [hwA]
    have := Blk.new (w.alloc (.cells #[.int .i64 2, .iface 164 (.pointer (some ⟨a, 0, none⟩))] 47)) 25 #[.int .i64 0, .int .i64 0, .slice none 0 0, .slice none 0 0]
    simpa using this
  have HB := Lib.hid hB
  have HD := Lib.hid hD
  have HM := Lib.hid (fun w' (hb : Below w.heap.size w w') => must2 (hblk.below hb hblk.lt))
  have HF := Lib.hid (fun w' (hb : Below w.heap.size w w') => hF S w' (MG.up hb hin))
  have HBL := Lib.hid hbl
  have HWA := Lib.hid hwA
  have HF := Lib.hid (show ∀ w', Below w.heap.size w w' → Calls Tryz.prog 88 #[.agg #[.int .u8 d, .slice A ns.length c]] w' (IPost w' (MG.plain _)) from HF.out)
  obtain ⟨r, hr⟩ : ∃ r, r = MG.plain (.ln d A c ns) := ⟨_, rfl⟩
  rw [← hr] at HF ⊢
  clear hF hbl hwA hblk hin hm hr hB hD
  go_enter Tryz.func35, Tryz.ntmps35
  go_wp2_with fail
  rw [← HWA.out]
  refine (gtype_calls _ _ _).mono ?_
  rintro e w0 ⟨rfl, hb0⟩
  have HB0 := Lib.hid (HBL.out.trans (hb0.mono HBL.out.size))
  have HD0 := Lib.hid (HD.out.below hb0 HD.out.lt)
  obtain ⟨b0, b1, -, -, bl⟩ := cells2 (HB.out.below hb0 HB.out.lt)
  have HM0 := Lib.hid (HM.out w0 HB0.out)
  clear hb0
  go_wp2_with fail
  refine HM0.out.mono ?_
  rintro e w1 ⟨rfl, hb1⟩
  have HB1 := Lib.hid (HB0.out.trans (hb1.mono HB0.out.size))
  have HD1 := Lib.hid (HD0.out.below hb1 HD0.out.lt)
  have HF1 := Lib.hid (HF.out w1 HB1.out)
  clear hb1 b0 b1 bl
  go_wp2_with fail
  refine HF1.out.mono ?_
  rintro e w2 ⟨⟨k2, d2, A2, ca2, ns2, B2, cb2, ks2⟩, rfl, h2, hp2, hb2⟩
  obtain ⟨r0, r1, r2, r3, p0, p1, p2, p3, rl⟩ := cells4 (HD1.out.below hb2 HD1.out.lt)
  have HB2 := Lib.hid (HB1.out.trans (hb2.mono HB1.out.size))
  have H2 := Lib.hid (IG.less (T := fun a => w.heap.size + 1 < a) (fun a ha => Nat.lt_of_lt_of_le HD1.out.lt ha) h2)
  have HP2 := Lib.hid hp2
  rw [show (IG.mk k2 d2 A2 ca2 ns2 B2 cb2 ks2).enc.toArray = #[.int .i64 k2, .int .i64 d2, .slice A2 ns2.length ca2, .slice B2 ks2.length cb2] from rfl]
  clear hb2 h2 hp2
  go_wp2_with fail
  exact bodyPost_ret (v := .agg #[.int .i64 k2, .int .i64 d2, .slice A2 ns2.length ca2, .slice B2 ks2.length cb2]) (by simp [results, Tryz.results35, go_sem, r0, r1, r2, r3, rl]) rfl (IPost.store (g := .mk k2 d2 A2 ca2 ns2 B2 cb2 ks2) H2.out HP2.out HB2.out (Nat.le_add_right _ 1) _ _ _ _)


set_option maxHeartbeats 8000000 in
set_option maxRecDepth 100000 in
theorem plainG3 {a : Nat} {m : MG} (hm : m.kind = 3) (hF : PlainC 89 m) : PlainC 35 (.bx a m) := fun S w h => by
  rw [MG.In] at h
  obtain ⟨-, hSa, hblk, hin⟩ := h
  rw [hm] at hblk
  rw [MG.plain]
  obtain ⟨d, A, c, kids, rfl⟩ := MG.is_mu (S := S) (w := w) (k := 3) hm (by decide) (by decide) (by decide)
  have hblk : Blk w a 87 #[.slice A kids.length c, .int .u8 d] := hblk
  show Calls Tryz.prog 35 #[.agg #[.int .i64 3, .iface 167 (.pointer (some ⟨a, 0, none⟩))]] w _
  obtain ⟨wA, hwA⟩ : ∃ wA, wA = (w.alloc (.cells #[.int .i64 3, .iface 167 (.pointer (some ⟨a, 0, none⟩))] 47)).alloc (.cells #[.int .i64 0, .int .i64 0, .slice none 0 0, .slice none 0 0] 25) := ⟨_, rfl⟩
  have hbl : Below w.heap.size w wA := by rw [hwA]; exact ((Below.refl _ _).alloc (Nat.le_refl _) _).alloc (by simp) _
  have hB : Blk wA w.heap.size 47 #[.int .i64 3, .iface 167 (.pointer (some ⟨a, 0, none⟩))] := by rw [hwA]; exact (Blk.new _ _ _).alloc _
  have hD : Blk wA (w.heap.size + 1) 25 #[.int .i64 0, .int .i64 0, .slice none 0 0, .slice none 0 0] := by
    rw [hwA]
    have := Blk.new (w.alloc (.cells #[.int .i64 3, .iface 167 (.pointer (some ⟨a, 0, none⟩))] 47)) 25 #[.int .i64 0, .int .i64 0, .slice none 0 0, .slice none 0 0]
    simpa using this
  have HB := Lib.hid hB
  have HD := Lib.hid hD
  have HM := Lib.hid (fun w' (hb : Below w.heap.size w w') => must3 (hblk.below hb hblk.lt))
  have HF := Lib.hid (fun w' (hb : Below w.heap.size w w') => hF S w' (MG.up hb hin))
  have HBL := Lib.hid hbl
  have HWA := Lib.hid hwA
  have HF := Lib.hid (show ∀ w', Below w.heap.size w w' → Calls Tryz.prog 89 #[.agg #[.slice A kids.length c, .int .u8 d]] w' (IPost w' (MG.plain _)) from HF.out)
  obtain ⟨r, hr⟩ : ∃ r, r = MG.plain (.mu 3 d A c kids) := ⟨_, rfl⟩
  rw [← hr] at HF ⊢
  clear hF hbl hwA hblk hin hm hr hB hD
  go_enter Tryz.func35, Tryz.ntmps35
  go_wp2_with fail
  rw [← HWA.out]
  refine (gtype_calls _ _ _).mono ?_
  rintro e w0 ⟨rfl, hb0⟩
  have HB0 := Lib.hid (HBL.out.trans (hb0.mono HBL.out.size))
  have HD0 := Lib.hid (HD.out.below hb0 HD.out.lt)
  obtain ⟨b0, b1, -, -, bl⟩ := cells2 (HB.out.below hb0 HB.out.lt)
  have HM0 := Lib.hid (HM.out w0 HB0.out)
  clear hb0
  go_wp2_with fail
  refine HM0.out.mono ?_
  rintro e w1 ⟨rfl, hb1⟩
  have HB1 := Lib.hid (HB0.out.trans (hb1.mono HB0.out.size))
  have HD1 := Lib.hid (HD0.out.below hb1 HD0.out.lt)
  have HF1 := Lib.hid (HF.out w1 HB1.out)
  clear hb1 b0 b1 bl
  go_wp2_with fail
  refine HF1.out.mono ?_
  rintro e w2 ⟨⟨k2, d2, A2, ca2, ns2, B2, cb2, ks2⟩, rfl, h2, hp2, hb2⟩
  obtain ⟨r0, r1, r2, r3, p0, p1, p2, p3, rl⟩ := cells4 (HD1.out.below hb2 HD1.out.lt)
  have HB2 := Lib.hid (HB1.out.trans (hb2.mono HB1.out.size))
  have H2 := Lib.hid (IG.less (T := fun a => w.heap.size + 1 < a) (fun a ha => Nat.lt_of_lt_of_le HD1.out.lt ha) h2)
  have HP2 := Lib.hid hp2
  rw [show (IG.mk k2 d2 A2 ca2 ns2 B2 cb2 ks2).enc.toArray = #[.int .i64 k2, .int .i64 d2, .slice A2 ns2.length ca2, .slice B2 ks2.length cb2] from rfl]
  clear hb2 h2 hp2
  go_wp2_with fail
  exact bodyPost_ret (v := .agg #[.int .i64 k2, .int .i64 d2, .slice A2 ns2.length ca2, .slice B2 ks2.length cb2]) (by simp [results, Tryz.results35, go_sem, r0, r1, r2, r3, rl]) rfl (IPost.store (g := .mk k2 d2 A2 ca2 ns2 B2 cb2 ks2) H2.out HP2.out HB2.out (Nat.le_add_right _ 1) _ _ _ _)


set_option maxHeartbeats 8000000 in
set_option maxRecDepth 100000 in
theorem plainG4 {a : Nat} {m : MG} (hm : m.kind = 4) (hF : PlainC 90 m) : PlainC 35 (.bx a m) := fun S w h => by
  rw [MG.In] at h
  obtain ⟨-, hSa, hblk, hin⟩ := h
  rw [hm] at hblk
  rw [MG.plain]
  obtain ⟨d, A, c, kids, rfl⟩ := MG.is_mu (S := S) (w := w) (k := 4) hm (by decide) (by decide) (by decide)
  have hblk : Blk w a 91 #[.slice A kids.length c, .int .u8 d] := hblk
  show Calls Tryz.prog 35 #[.agg #[.int .i64 4, .iface 170 (.pointer (some ⟨a, 0, none⟩))]] w _
  obtain ⟨wA, hwA⟩ : ∃ wA, wA = (w.alloc (.cells #[.int .i64 4, .iface 170 (.pointer (some ⟨a, 0, none⟩))] 47)).alloc (.cells #[.int .i64 0, .int .i64 0, .slice none 0 0, .slice none 0 0] 25) := ⟨_, rfl⟩
  have hbl : Below w.heap.size w wA := by rw [hwA]; exact ((Below.refl _ _).alloc (Nat.le_refl _) _).alloc (by simp) _
  have hB : Blk wA w.heap.size 47 #[.int .i64 4, .iface 170 (.pointer (some ⟨a, 0, none⟩))] := by rw [hwA]; exact (Blk.new _ _ _).alloc _
  have hD : Blk wA (w.heap.size + 1) 25 #[.int .i64 0, .int .i64 0, .slice none 0 0, .slice none 0 0] := by
    rw [hwA]
    have := Blk.new (w.alloc (.cells #[.int .i64 4, .iface 170 (.pointer (some ⟨a, 0, none⟩))] 47)) 25 #[.int .i64 0, .int .i64 0, .slice none 0 0, .slice none 0 0]
    simpa using this
  have HB := Lib.hid hB
  have HD := Lib.hid hD
  have HM := Lib.hid (fun w' (hb : Below w.heap.size w w') => must4 (hblk.below hb hblk.lt))
  have HF := Lib.hid (fun w' (hb : Below w.heap.size w w') => hF S w' (MG.up hb hin))
  have HBL := Lib.hid hbl
  have HWA := Lib.hid hwA
  have HF := Lib.hid (show ∀ w', Below w.heap.size w w' → Calls Tryz.prog 90 #[.agg #[.slice A kids.length c, .int .u8 d]] w' (IPost w' (MG.plain _)) from HF.out)
  obtain ⟨r, hr⟩ : ∃ r, r = MG.plain (.mu 4 d A c kids) := ⟨_, rfl⟩
  rw [← hr] at HF ⊢
  clear hF hbl hwA hblk hin hm hr hB hD
  go_enter Tryz.func35, Tryz.ntmps35
  go_wp2_with fail
  rw [← HWA.out]
  refine (gtype_calls _ _ _).mono ?_
  rintro e w0 ⟨rfl, hb0⟩
  have HB0 := Lib.hid (HBL.out.trans (hb0.mono HBL.out.size))
  have HD0 := Lib.hid (HD.out.below hb0 HD.out.lt)
  obtain ⟨b0, b1, -, -, bl⟩ := cells2 (HB.out.below hb0 HB.out.lt)
  have HM0 := Lib.hid (HM.out w0 HB0.out)
  clear hb0
  go_wp2_with fail
  refine HM0.out.mono ?_
  rintro e w1 ⟨rfl, hb1⟩
  have HB1 := Lib.hid (HB0.out.trans (hb1.mono HB0.out.size))
  have HD1 := Lib.hid (HD0.out.below hb1 HD0.out.lt)
  have HF1 := Lib.hid (HF.out w1 HB1.out)
  clear hb1 b0 b1 bl
  go_wp2_with fail
  refine HF1.out.mono ?_
  rintro e w2 ⟨⟨k2, d2, A2, ca2, ns2, B2, cb2, ks2⟩, rfl, h2, hp2, hb2⟩
  obtain ⟨r0, r1, r2, r3, p0, p1, p2, p3, rl⟩ := cells4 (HD1.out.below hb2 HD1.out.lt)
  have HB2 := Lib.hid (HB1.out.trans (hb2.mono HB1.out.size))
  have H2 := Lib.hid (IG.less (T := fun a => w.heap.size + 1 < a) (fun a ha => Nat.lt_of_lt_of_le HD1.out.lt ha) h2)
  have HP2 := Lib.hid hp2
  rw [show (IG.mk k2 d2 A2 ca2 ns2 B2 cb2 ks2).enc.toArray = #[.int .i64 k2, .int .i64 d2, .slice A2 ns2.length ca2, .slice B2 ks2.length cb2] from rfl]
  clear hb2 h2 hp2
  go_wp2_with fail
  exact bodyPost_ret (v := .agg #[.int .i64 k2, .int .i64 d2, .slice A2 ns2.length ca2, .slice B2 ks2.length cb2]) (by simp [results, Tryz.results35, go_sem, r0, r1, r2, r3, rl]) rfl (IPost.store (g := .mk k2 d2 A2 ca2 ns2 B2 cb2 ks2) H2.out HP2.out HB2.out (Nat.le_add_right _ 1) _ _ _ _)


set_option maxHeartbeats 8000000 in
set_option maxRecDepth 100000 in
theorem plainG5 {a : Nat} {m : MG} (hm : m.kind = 5) (hF : PlainC 91 m) : PlainC 35 (.bx a m) := fun S w h => by
  rw [MG.In] at h
  obtain ⟨-, hSa, hblk, hin⟩ := h
  rw [hm] at hblk
  rw [MG.plain]
  obtain ⟨d, A, c, kids, rfl⟩ := MG.is_mu (S := S) (w := w) (k := 5) hm (by decide) (by decide) (by decide)
  have hblk : Blk w a 94 #[.slice A kids.length c, .int .u8 d] := hblk
  show Calls Tryz.prog 35 #[.agg #[.int .i64 5, .iface 173 (.pointer (some ⟨a, 0, none⟩))]] w _
  obtain ⟨wA, hwA⟩ : ∃ wA, wA = (w.alloc (.cells #[.int .i64 5, .iface 173 (.pointer (some ⟨a, 0, none⟩))] 47)).alloc (.cells #[.int .i64 0, .int .i64 0, .slice none 0 0, .slice none 0 0] 25) := ⟨_, rfl⟩
  have hbl : Below w.heap.size w wA := by rw [hwA]; exact ((Below.refl _ _).alloc (Nat.le_refl _) _).alloc (by simp) _
  have hB : Blk wA w.heap.size 47 #[.int .i64 5, .iface 173 (.pointer (some ⟨a, 0, none⟩))] := by rw [hwA]; exact (Blk.new _ _ _).alloc _
  have hD : Blk wA (w.heap.size + 1) 25 #[.int .i64 0, .int .i64 0, .slice none 0 0, .slice none 0 0] := by
    rw [hwA]
    have := Blk.new (w.alloc (.cells #[.int .i64 5, .iface 173 (.pointer (some ⟨a, 0, none⟩))] 47)) 25 #[.int .i64 0, .int .i64 0, .slice none 0 0, .slice none 0 0]
    simpa using this
  have HB := Lib.hid hB
  have HD := Lib.hid hD
  have HM := Lib.hid (fun w' (hb : Below w.heap.size w w') => must5 (hblk.below hb hblk.lt))
  have HF := Lib.hid (fun w' (hb : Below w.heap.size w w') => hF S w' (MG.up hb hin))
  have HBL := Lib.hid hbl
  have HWA := Lib.hid hwA
  have HF := Lib.hid (show ∀ w', Below w.heap.size w w' → Calls Tryz.prog 91 #[.agg #[.slice A kids.length c, .int .u8 d]] w' (IPost w' (MG.plain _)) from HF.out)
  obtain ⟨r, hr⟩ : ∃ r, r = MG.plain (.mu 5 d A c kids) := ⟨_, rfl⟩
  rw [← hr] at HF ⊢
  clear hF hbl hwA hblk hin hm hr hB hD
  go_enter Tryz.func35, Tryz.ntmps35
  go_wp2_with fail
  rw [← HWA.out]
  refine (gtype_calls _ _ _).mono ?_
  rintro e w0 ⟨rfl, hb0⟩
  have HB0 := Lib.hid (HBL.out.trans (hb0.mono HBL.out.size))
  have HD0 := Lib.hid (HD.out.below hb0 HD.out.lt)
  obtain ⟨b0, b1, -, -, bl⟩ := cells2 (HB.out.below hb0 HB.out.lt)
  have HM0 := Lib.hid (HM.out w0 HB0.out)
  clear hb0
  go_wp2_with fail
  refine HM0.out.mono ?_
  rintro e w1 ⟨rfl, hb1⟩
  have HB1 := Lib.hid (HB0.out.trans (hb1.mono HB0.out.size))
  have HD1 := Lib.hid (HD0.out.below hb1 HD0.out.lt)
  have HF1 := Lib.hid (HF.out w1 HB1.out)
  clear hb1 b0 b1 bl
  go_wp2_with fail
  refine HF1.out.mono ?_
  rintro e w2 ⟨⟨k2, d2, A2, ca2, ns2, B2, cb2, ks2⟩, rfl, h2, hp2, hb2⟩
  obtain ⟨r0, r1, r2, r3, p0, p1, p2, p3, rl⟩ := cells4 (HD1.out.below hb2 HD1.out.lt)
  have HB2 := Lib.hid (HB1.out.trans (hb2.mono HB1.out.size))
  have H2 := Lib.hid (IG.less (T := fun a => w.heap.size + 1 < a) (fun a ha => Nat.lt_of_lt_of_le HD1.out.lt ha) h2)
  have HP2 := Lib.hid hp2
  rw [show (IG.mk k2 d2 A2 ca2 ns2 B2 cb2 ks2).enc.toArray = #[.int .i64 k2, .int .i64 d2, .slice A2 ns2.length ca2, .slice B2 ks2.length cb2] from rfl]
  clear hb2 h2 hp2
  go_wp2_with fail
  exact bodyPost_ret (v := .agg #[.int .i64 k2, .int .i64 d2, .slice A2 ns2.length ca2, .slice B2 ks2.length cb2]) (by simp [results, Tryz.results35, go_sem, r0, r1, r2, r3, rl]) rfl (IPost.store (g := .mk k2 d2 A2 ca2 ns2 B2 cb2 ks2) H2.out HP2.out HB2.out (Nat.le_add_right _ 1) _ _ _ _)


set_option maxHeartbeats 8000000 in
set_option maxRecDepth 100000 in
theorem plainG6 {a : Nat} {m : MG} (hm : m.kind = 6) (hF : PlainC 92 m) : PlainC 35 (.bx a m) := fun S w h => by
  rw [MG.In] at h
  obtain ⟨-, hSa, hblk, hin⟩ := h
  rw [hm] at hblk
  rw [MG.plain]
  obtain ⟨d, A, c, kids, rfl⟩ := MG.is_mu (S := S) (w := w) (k := 6) hm (by decide) (by decide) (by decide)
  have hblk : Blk w a 98 #[.slice A kids.length c, .int .u8 d] := hblk
  show Calls Tryz.prog 35 #[.agg #[.int .i64 6, .iface 176 (.pointer (some ⟨a, 0, none⟩))]] w _
  obtain ⟨wA, hwA⟩ : ∃ wA, wA = (w.alloc (.cells #[.int .i64 6, .iface 176 (.pointer (some ⟨a, 0, none⟩))] 47)).alloc (.cells #[.int .i64 0, .int .i64 0, .slice none 0 0, .slice none 0 0] 25) := ⟨_, rfl⟩
  have hbl : Below w.heap.size w wA := by rw [hwA]; exact ((Below.refl _ _).alloc (Nat.le_refl _) _).alloc (by simp) _
  have hB : Blk wA w.heap.size 47 #[.int .i64 6, .iface 176 (.pointer (some ⟨a, 0, none⟩))] := by rw [hwA]; exact (Blk.new _ _ _).alloc _
  have hD : Blk wA (w.heap.size + 1) 25 #[.int .i64 0, .int .i64 0, .slice none 0 0, .slice none 0 0] := by
    rw [hwA]
    have := Blk.new (w.alloc (.cells #[.int .i64 6, .iface 176 (.pointer (some ⟨a, 0, none⟩))] 47)) 25 #[.int .i64 0, .int .i64 0, .slice none 0 0, .slice none 0 0]
    simpa using this
  have HB := Lib.hid hB
  have HD := Lib.hid hD
  have HM := Lib.hid (fun w' (hb : Below w.heap.size w w') => must6 (hblk.below hb hblk.lt))
  have HF := Lib.hid (fun w' (hb : Below w.heap.size w w') => hF S w' (MG.up hb hin))
  have HBL := Lib.hid hbl
  have HWA := Lib.hid hwA
  have HF := Lib.hid (show ∀ w', Below w.heap.size w w' → Calls Tryz.prog 92 #[.agg #[.slice A kids.length c, .int .u8 d]] w' (IPost w' (MG.plain _)) from HF.out)
  obtain ⟨r, hr⟩ : ∃ r, r = MG.plain (.mu 6 d A c kids) := ⟨_, rfl⟩
  rw [← hr] at HF ⊢
  clear hF hbl hwA hblk hin hm hr hB hD
  go_enter Tryz.func35, Tryz.ntmps35
  go_wp2_with fail
  rw [← HWA.out]
  refine (gtype_calls _ _ _).mono ?_
  rintro e w0 ⟨rfl, hb0⟩
  have HB0 := Lib.hid (HBL.out.trans (hb0.mono HBL.out.size))
  have HD0 := Lib.hid (HD.out.below hb0 HD.out.lt)
  obtain ⟨b0, b1, -, -, bl⟩ := cells2 (HB.out.below hb0 HB.out.lt)
  have HM0 := Lib.hid (HM.out w0 HB0.out)
  clear hb0
  go_wp2_with fail
  refine HM0.out.mono ?_
  rintro e w1 ⟨rfl, hb1⟩
  have HB1 := Lib.hid (HB0.out.trans (hb1.mono HB0.out.size))
  have HD1 := Lib.hid (HD0.out.below hb1 HD0.out.lt)
  have HF1 := Lib.hid (HF.out w1 HB1.out)
  clear hb1 b0 b1 bl
  go_wp2_with fail
  refine HF1.out.mono ?_
  rintro e w2 ⟨⟨k2, d2, A2, ca2, ns2, B2, cb2, ks2⟩, rfl, h2, hp2, hb2⟩
  obtain ⟨r0, r1, r2, r3, p0, p1, p2, p3, rl⟩ := cells4 (HD1.out.below hb2 HD1.out.lt)
  have HB2 := Lib.hid (HB1.out.trans (hb2.mono HB1.out.size))
  have H2 := Lib.hid (IG.less (T := fun a => w.heap.size + 1 < a) (fun a ha => Nat.lt_of_lt_of_le HD1.out.lt ha) h2)
  have HP2 := Lib.hid hp2
  rw [show (IG.mk k2 d2 A2 ca2 ns2 B2 cb2 ks2).enc.toArray = #[.int .i64 k2, .int .i64 d2, .slice A2 ns2.length ca2, .slice B2 ks2.length cb2] from rfl]
  clear hb2 h2 hp2
  go_wp2_with fail
  exact bodyPost_ret (v := .agg #[.int .i64 k2, .int .i64 d2, .slice A2 ns2.length ca2, .slice B2 ks2.length cb2]) (by simp [results, Tryz.results35, go_sem, r0, r1, r2, r3, rl]) rfl (IPost.store (g := .mk k2 d2 A2 ca2 ns2 B2 cb2 ks2) H2.out HP2.out HB2.out (Nat.le_add_right _ 1) _ _ _ _)

theorem plainPtK {g : MG} (hk : g.kind = 1) : PlainC 86 g := fun S w h => by
  obtain ⟨d, full, p, rfl⟩ := MG.is_pt hk h
  exact plainPointC S w h
theorem plainLnK {g : MG} (hk : g.kind = 2) : PlainC 88 g := fun S w h => by
  obtain ⟨d, A, c, ns, rfl⟩ := MG.is_ln hk h
  exact plainLineC S w h
theorem plainPolyK {g : MG} (hk : g.kind = 3) : PlainC 89 g := fun S w h => by
  obtain ⟨d, A, c, kids, rfl⟩ := MG.is_mu (S := S) (w := w) (k := 3) hk (by decide) (by decide) (by decide)
  exact plainPolygonC (fun g _ hk => plainLnK hk) S w h
theorem plain_all : ∀ m : MG, (∀ a, PlainC 35 (.bx a m)) ∧ (m.kind = 7 → PlainC 35 m) := by
  intro m
  induction m using MG.ind with
  | h1 d full p => exact ⟨fun a => plainG1 rfl plainPointC, fun h => by cases h⟩
  | h2 d A c ns => exact ⟨fun a => plainG2 rfl plainLineC, fun h => by cases h⟩
  | h3 k d A c kids ih =>
    refine ⟨fun a S w h => ?_, fun h7 S w h => ?_⟩
    · have hk : k < 7 ∧ pk k < 8 := by
        rw [MG.In] at h
        obtain ⟨h1, -, -, h2⟩ := h
        rw [MG.In] at h2
        exact ⟨h1, h2.2.1⟩
      obtain rfl | rfl | rfl | rfl | rfl | rfl | rfl : k = 0 ∨ k = 1 ∨ k = 2 ∨ k = 3 ∨ k = 4 ∨ k = 5 ∨ k = 6 := by omega
      · exact plainG0 rfl (plainCollectionC (fun g hg hk => (ih g hg).2 hk)) S w h
      · exact absurd hk.2 (by decide)
      · exact absurd hk.2 (by decide)
      · exact plainG3 rfl (plainPolyK rfl) S w h
      · exact plainG4 rfl (plainMultiPointC (fun g _ hk => plainPtK hk)) S w h
      · exact plainG5 rfl (plainMultiLineC (fun g _ hk => plainLnK hk)) S w h
      · exact plainG6 rfl (plainMultiPolygonC (fun g _ hk => plainPolyK hk)) S w h
    · obtain ⟨a, g, e⟩ := MG.is_bx h7 h
      cases e
  | h4 a g ih =>
    refine ⟨fun a' S w h => ?_, fun _ => ih.1 a⟩
    rw [MG.In] at h
    exact absurd h.1 (by show ¬ (7 : Nat) < 7; omega)
/-- Any geometry is told plainly. -/
theorem plainK {g : MG} (hk : g.kind = 7) : PlainC 35 g := (plain_all g).2 hk
end Go.Proofs.YtbacakdpfiiblaaGreat.geo
