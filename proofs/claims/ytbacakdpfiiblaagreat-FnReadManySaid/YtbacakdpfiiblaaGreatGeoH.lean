/-
  Contracts: a geometry of any kind forced to a type; its type.
-/
import Derived.Test.YtbacakdpfiiblaaGreatGeoG
namespace Go.Proofs.YtbacakdpfiiblaaGreat.geo
open Go.ChangeShapes Go.WideShapes Go.ChangeAt Go.RowKit
open Go.Proofs.YtbacakdpfiiblaaGreat.mem
set_option linter.unusedVariables false
set_option linter.unusedSimpArgs false
set_option maxHeartbeats 4000000
set_option maxRecDepth 100000

theorem geoF0 {a : Nat} {m : MG} (hm : m.kind = 0) (hF : ForceC 126 m) : ForceC 158 (.bx a m) := fun d' hd' S w h0 => by
  have h := MG.old h0
  rw [MG.In] at h
  obtain ⟨-, hSa, hblk, hin⟩ := h
  rw [hm] at hblk
  obtain ⟨d, A, c, kids, rfl⟩ := MG.is_mu (S := S) (w := w) (k := 0) hm (by decide) (by decide) (by decide)
  have hblk : Blk w a 102 #[.slice A kids.length c, .int .u8 d] := hblk
  show Calls Tryz.prog 158 #[.agg #[.int .i64 0, .iface 180 (.pointer (some ⟨a, 0, none⟩))], .int .u8 d'] w _
  obtain ⟨wA, hwA⟩ : ∃ wA, wA = (w.alloc (.cells #[.int .i64 0, .iface 180 (.pointer (some ⟨a, 0, none⟩))] 47)).alloc (.cells #[.int .i64 0, .nilIface] 47) := ⟨_, rfl⟩
  have hbl : Below w.heap.size w wA := by rw [hwA]; exact ((Below.refl _ _).alloc (Nat.le_refl _) _).alloc (by simp) _
  have hD : Blk wA (w.heap.size + 1) 47 #[.int .i64 0, .nilIface] := by
    rw [hwA]
    have := Blk.new (w.alloc (.cells #[.int .i64 0, .iface 180 (.pointer (some ⟨a, 0, none⟩))] 47)) 47 #[.int .i64 0, .nilIface]
    simpa using this
  have hsz : wA.heap.size = w.heap.size + 2 := by rw [hwA]; simp
  have HM := Lib.hid (must0 (hblk.below hbl hblk.lt))
  have HF := Lib.hid (fun w' hb => hF d' hd' (Old S w) w' (MG.up hb (MG.up hbl hin)))
  have HD := Lib.hid hD
  have HBL := Lib.hid hbl
  have HWA := Lib.hid hwA
  have HSZ := Lib.hid hsz
  clear hF h0 hbl hD hwA hsz hblk hin hm
  go_enter Tryz.func158, Tryz.ntmps158
  go_wp2_with fail
  rw [← HWA.out]
  refine HM.out.mono ?_
  rintro e w1 ⟨rfl, hb1⟩
  have HB1 := Lib.hid hb1
  have HF1 := Lib.hid (HF.out w1 hb1)
  clear hb1
  go_wp2_with fail
  refine HF1.out.mono ?_
  rintro e w2 ⟨g2, rfl, h2, hk2, hp2, hb2⟩
  have HB2 := Lib.hid (HB1.out.trans (hb2.mono HB1.out.size))
  have HB12 := Lib.hid hb2
  have H2 := Lib.hid h2
  have HK2 := Lib.hid hk2
  have HP2 := Lib.hid hp2

  obtain ⟨u, v, huv⟩ := MG.enc_two h2 (by rw [hk2]; show 0 ≠ 1; decide)
  rw [huv]
  have HUV := Lib.hid huv
  clear hb2 h2 hk2 hp2 huv
  go_wp2_with fail
  refine (asGeo0 u v _).mono ?_
  rintro e w3 ⟨a3, rfl, hbk, ha3, hb3⟩
  have HBK := Lib.hid hbk
  have HA3 := Lib.hid ha3
  have HB3 := Lib.hid hb3
  have hb02 := HBL.out.trans (HB2.out.mono HBL.out.size)
  have HB03 := Lib.hid (hb02.trans (hb3.mono hb02.size))
  obtain ⟨z0, z1, y0, y1, zl⟩ := cells2 ((HD.out.below HB2.out HD.out.lt).below hb3 (Nat.lt_of_lt_of_le HD.out.lt HB2.out.size))
  clear hbk ha3 hb3 hb02
  go_wp2_with fail
  have hs2 := HB2.out.size
  have hsz := HSZ.out
  have ha3 := HA3.out
  have hno : ¬ Fresh (Old S w) w1 (w.heap.size + 1) := Fresh.not (by omega) (by have := HB1.out.size; omega)
  have hne : a3 ≠ w.heap.size + 1 := by omega
  refine bodyPost_ret (v := .agg #[.int .i64 0, .iface 180 (.pointer (some ⟨a3, 0, none⟩))]) (by simp [results, Tryz.results158, go_sem, z0, z1, zl, pT]) rfl ⟨.bx a3 g2, ?_, ?_, rfl, HP2.out, (HB03.out.setCell (by simp) _).setCell (by simp) _⟩
  · rw [MG.enc, HK2.out]; rfl
  · rw [MG.In, HK2.out]
    refine ⟨by show 0 < 7; decide, .inr (by omega), ?_, MG.less (Fresh.old (by have := HB1.out.size; omega)) (MG.keep ((Keeps.set (p := ⟨w.heap.size + 1, 0, none⟩) hno _).trans (.set (p := ⟨w.heap.size + 1, 1, none⟩) hno _)) (MG.up HB3.out H2.out))⟩
    rw [HUV.out]
    exact (HBK.out.far (p := ⟨w.heap.size + 1, 0, none⟩) hne _).far (p := ⟨w.heap.size + 1, 1, none⟩) hne _

theorem geoF1 {a : Nat} {m : MG} (hm : m.kind = 1) (hF : ForceC 171 m) : ForceC 158 (.bx a m) := fun d' hd' S w h0 => by
  have h := MG.old h0
  rw [MG.In] at h
  obtain ⟨-, hSa, hblk, hin⟩ := h
  rw [hm] at hblk
  obtain ⟨d, full, p, rfl⟩ := MG.is_pt hm hin
  have hblk : Blk w a 77 #[.float .f64 p.x, .float .f64 p.y, .float .f64 p.z, .float .f64 p.m, .int .u8 d, .bool full] := hblk
  show Calls Tryz.prog 158 #[.agg #[.int .i64 1, .iface 162 (.pointer (some ⟨a, 0, none⟩))], .int .u8 d'] w _
  obtain ⟨wA, hwA⟩ : ∃ wA, wA = (w.alloc (.cells #[.int .i64 1, .iface 162 (.pointer (some ⟨a, 0, none⟩))] 47)).alloc (.cells #[.int .i64 0, .nilIface] 47) := ⟨_, rfl⟩
  have hbl : Below w.heap.size w wA := by rw [hwA]; exact ((Below.refl _ _).alloc (Nat.le_refl _) _).alloc (by simp) _
  have hD : Blk wA (w.heap.size + 1) 47 #[.int .i64 0, .nilIface] := by
    rw [hwA]
    have := Blk.new (w.alloc (.cells #[.int .i64 1, .iface 162 (.pointer (some ⟨a, 0, none⟩))] 47)) 47 #[.int .i64 0, .nilIface]
    simpa using this
  have hsz : wA.heap.size = w.heap.size + 2 := by rw [hwA]; simp
  have HM := Lib.hid (must1 (hblk.below hbl hblk.lt))
  have HF := Lib.hid (fun w' hb => hF d' hd' (Old S w) w' (MG.up hb (MG.up hbl hin)))
  have HD := Lib.hid hD
  have HBL := Lib.hid hbl
  have HWA := Lib.hid hwA
  have HSZ := Lib.hid hsz
  clear hF h0 hbl hD hwA hsz hblk hin hm
  go_enter Tryz.func158, Tryz.ntmps158
  go_wp2_with fail
  rw [← HWA.out]
  refine HM.out.mono ?_
  rintro e w1 ⟨rfl, hb1⟩
  have HB1 := Lib.hid hb1
  have HF1 := Lib.hid (HF.out w1 hb1)
  clear hb1
  go_wp2_with fail
  refine HF1.out.mono ?_
  rintro e w2 ⟨g2, rfl, h2, hk2, hp2, hb2⟩
  have HB2 := Lib.hid (HB1.out.trans (hb2.mono HB1.out.size))
  have HB12 := Lib.hid hb2
  have H2 := Lib.hid h2
  have HK2 := Lib.hid hk2
  have HP2 := Lib.hid hp2

  obtain ⟨d2, full2, p2, rfl⟩ := MG.is_pt hk2 h2
  clear hb2 h2 hk2 hp2
  rw [show (MG.pt d2 full2 p2).enc.toArray = #[.float .f64 p2.x, .float .f64 p2.y, .float .f64 p2.z, .float .f64 p2.m, .int .u8 d2, .bool full2] from rfl]
  go_wp2_with fail
  refine (asGeo1 _ _ _ _ _ _ _).mono ?_
  rintro e w3 ⟨a3, rfl, hbk, ha3, hb3⟩
  have HBK := Lib.hid hbk
  have HA3 := Lib.hid ha3
  have HB3 := Lib.hid hb3
  have hb02 := HBL.out.trans (HB2.out.mono HBL.out.size)
  have HB03 := Lib.hid (hb02.trans (hb3.mono hb02.size))
  obtain ⟨z0, z1, y0, y1, zl⟩ := cells2 ((HD.out.below HB2.out HD.out.lt).below hb3 (Nat.lt_of_lt_of_le HD.out.lt HB2.out.size))
  clear hbk ha3 hb3 hb02
  go_wp2_with fail
  have hs2 := HB2.out.size
  have hsz := HSZ.out
  have ha3 := HA3.out
  have hno : ¬ Fresh (Old S w) w1 (w.heap.size + 1) := Fresh.not (by omega) (by have := HB1.out.size; omega)
  have hne : a3 ≠ w.heap.size + 1 := by omega
  refine bodyPost_ret (v := .agg #[.int .i64 1, .iface 162 (.pointer (some ⟨a3, 0, none⟩))]) (by simp [results, Tryz.results158, go_sem, z0, z1, zl, pT]) rfl ⟨.bx a3 (.pt d2 full2 p2), ?_, ?_, rfl, HP2.out, (HB03.out.setCell (by simp) _).setCell (by simp) _⟩
  · rw [MG.enc, HK2.out]; rfl
  · rw [MG.In, HK2.out]
    refine ⟨by show 1 < 7; decide, .inr (by omega), ?_, MG.less (Fresh.old (by have := HB1.out.size; omega)) (MG.keep ((Keeps.set (p := ⟨w.heap.size + 1, 0, none⟩) hno _).trans (.set (p := ⟨w.heap.size + 1, 1, none⟩) hno _)) (MG.up HB3.out H2.out))⟩
    skip
    exact (HBK.out.far (p := ⟨w.heap.size + 1, 0, none⟩) hne _).far (p := ⟨w.heap.size + 1, 1, none⟩) hne _

theorem geoF2 {a : Nat} {m : MG} (hm : m.kind = 2) (hF : ForceC 132 m) : ForceC 158 (.bx a m) := fun d' hd' S w h0 => by
  have h := MG.old h0
  rw [MG.In] at h
  obtain ⟨-, hSa, hblk, hin⟩ := h
  rw [hm] at hblk
  obtain ⟨d, A, c, ns, rfl⟩ := MG.is_ln hm hin
  have hblk : Blk w a 83 #[.int .u8 d, .slice A ns.length c] := hblk
  show Calls Tryz.prog 158 #[.agg #[.int .i64 2, .iface 164 (.pointer (some ⟨a, 0, none⟩))], .int .u8 d'] w _
  obtain ⟨wA, hwA⟩ : ∃ wA, wA = (w.alloc (.cells #[.int .i64 2, .iface 164 (.pointer (some ⟨a, 0, none⟩))] 47)).alloc (.cells #[.int .i64 0, .nilIface] 47) := ⟨_, rfl⟩
  have hbl : Below w.heap.size w wA := by rw [hwA]; exact ((Below.refl _ _).alloc (Nat.le_refl _) _).alloc (by simp) _
  have hD : Blk wA (w.heap.size + 1) 47 #[.int .i64 0, .nilIface] := by
    rw [hwA]
    have := Blk.new (w.alloc (.cells #[.int .i64 2, .iface 164 (.pointer (some ⟨a, 0, none⟩))] 47)) 47 #[.int .i64 0, .nilIface]
    simpa using this
  have hsz : wA.heap.size = w.heap.size + 2 := by rw [hwA]; simp
  have HM := Lib.hid (must2 (hblk.below hbl hblk.lt))
  have HF := Lib.hid (fun w' hb => hF d' hd' (Old S w) w' (MG.up hb (MG.up hbl hin)))
  have HD := Lib.hid hD
  have HBL := Lib.hid hbl
  have HWA := Lib.hid hwA
  have HSZ := Lib.hid hsz
  clear hF h0 hbl hD hwA hsz hblk hin hm
  go_enter Tryz.func158, Tryz.ntmps158
  go_wp2_with fail
  rw [← HWA.out]
  refine HM.out.mono ?_
  rintro e w1 ⟨rfl, hb1⟩
  have HB1 := Lib.hid hb1
  have HF1 := Lib.hid (HF.out w1 hb1)
  clear hb1
  go_wp2_with fail
  refine HF1.out.mono ?_
  rintro e w2 ⟨g2, rfl, h2, hk2, hp2, hb2⟩
  have HB2 := Lib.hid (HB1.out.trans (hb2.mono HB1.out.size))
  have HB12 := Lib.hid hb2
  have H2 := Lib.hid h2
  have HK2 := Lib.hid hk2
  have HP2 := Lib.hid hp2

  obtain ⟨u, v, huv⟩ := MG.enc_two h2 (by rw [hk2]; show 2 ≠ 1; decide)
  rw [huv]
  have HUV := Lib.hid huv
  clear hb2 h2 hk2 hp2 huv
  go_wp2_with fail
  refine (asGeo2 u v _).mono ?_
  rintro e w3 ⟨a3, rfl, hbk, ha3, hb3⟩
  have HBK := Lib.hid hbk
  have HA3 := Lib.hid ha3
  have HB3 := Lib.hid hb3
  have hb02 := HBL.out.trans (HB2.out.mono HBL.out.size)
  have HB03 := Lib.hid (hb02.trans (hb3.mono hb02.size))
  obtain ⟨z0, z1, y0, y1, zl⟩ := cells2 ((HD.out.below HB2.out HD.out.lt).below hb3 (Nat.lt_of_lt_of_le HD.out.lt HB2.out.size))
  clear hbk ha3 hb3 hb02
  go_wp2_with fail
  have hs2 := HB2.out.size
  have hsz := HSZ.out
  have ha3 := HA3.out
  have hno : ¬ Fresh (Old S w) w1 (w.heap.size + 1) := Fresh.not (by omega) (by have := HB1.out.size; omega)
  have hne : a3 ≠ w.heap.size + 1 := by omega
  refine bodyPost_ret (v := .agg #[.int .i64 2, .iface 164 (.pointer (some ⟨a3, 0, none⟩))]) (by simp [results, Tryz.results158, go_sem, z0, z1, zl, pT]) rfl ⟨.bx a3 g2, ?_, ?_, rfl, HP2.out, (HB03.out.setCell (by simp) _).setCell (by simp) _⟩
  · rw [MG.enc, HK2.out]; rfl
  · rw [MG.In, HK2.out]
    refine ⟨by show 2 < 7; decide, .inr (by omega), ?_, MG.less (Fresh.old (by have := HB1.out.size; omega)) (MG.keep ((Keeps.set (p := ⟨w.heap.size + 1, 0, none⟩) hno _).trans (.set (p := ⟨w.heap.size + 1, 1, none⟩) hno _)) (MG.up HB3.out H2.out))⟩
    rw [HUV.out]
    exact (HBK.out.far (p := ⟨w.heap.size + 1, 0, none⟩) hne _).far (p := ⟨w.heap.size + 1, 1, none⟩) hne _

theorem geoF3 {a : Nat} {m : MG} (hm : m.kind = 3) (hF : ForceC 118 m) : ForceC 158 (.bx a m) := fun d' hd' S w h0 => by
  have h := MG.old h0
  rw [MG.In] at h
  obtain ⟨-, hSa, hblk, hin⟩ := h
  rw [hm] at hblk
  obtain ⟨d, A, c, kids, rfl⟩ := MG.is_mu (S := S) (w := w) (k := 3) hm (by decide) (by decide) (by decide)
  have hblk : Blk w a 87 #[.slice A kids.length c, .int .u8 d] := hblk
  show Calls Tryz.prog 158 #[.agg #[.int .i64 3, .iface 167 (.pointer (some ⟨a, 0, none⟩))], .int .u8 d'] w _
  obtain ⟨wA, hwA⟩ : ∃ wA, wA = (w.alloc (.cells #[.int .i64 3, .iface 167 (.pointer (some ⟨a, 0, none⟩))] 47)).alloc (.cells #[.int .i64 0, .nilIface] 47) := ⟨_, rfl⟩
  have hbl : Below w.heap.size w wA := by rw [hwA]; exact ((Below.refl _ _).alloc (Nat.le_refl _) _).alloc (by simp) _
  have hD : Blk wA (w.heap.size + 1) 47 #[.int .i64 0, .nilIface] := by
    rw [hwA]
    have := Blk.new (w.alloc (.cells #[.int .i64 3, .iface 167 (.pointer (some ⟨a, 0, none⟩))] 47)) 47 #[.int .i64 0, .nilIface]
    simpa using this
  have hsz : wA.heap.size = w.heap.size + 2 := by rw [hwA]; simp
  have HM := Lib.hid (must3 (hblk.below hbl hblk.lt))
  have HF := Lib.hid (fun w' hb => hF d' hd' (Old S w) w' (MG.up hb (MG.up hbl hin)))
  have HD := Lib.hid hD
  have HBL := Lib.hid hbl
  have HWA := Lib.hid hwA
  have HSZ := Lib.hid hsz
  clear hF h0 hbl hD hwA hsz hblk hin hm
  go_enter Tryz.func158, Tryz.ntmps158
  go_wp2_with fail
  rw [← HWA.out]
  refine HM.out.mono ?_
  rintro e w1 ⟨rfl, hb1⟩
  have HB1 := Lib.hid hb1
  have HF1 := Lib.hid (HF.out w1 hb1)
  clear hb1
  go_wp2_with fail
  refine HF1.out.mono ?_
  rintro e w2 ⟨g2, rfl, h2, hk2, hp2, hb2⟩
  have HB2 := Lib.hid (HB1.out.trans (hb2.mono HB1.out.size))
  have HB12 := Lib.hid hb2
  have H2 := Lib.hid h2
  have HK2 := Lib.hid hk2
  have HP2 := Lib.hid hp2

  obtain ⟨u, v, huv⟩ := MG.enc_two h2 (by rw [hk2]; show 3 ≠ 1; decide)
  rw [huv]
  have HUV := Lib.hid huv
  clear hb2 h2 hk2 hp2 huv
  go_wp2_with fail
  refine (asGeo3 u v _).mono ?_
  rintro e w3 ⟨a3, rfl, hbk, ha3, hb3⟩
  have HBK := Lib.hid hbk
  have HA3 := Lib.hid ha3
  have HB3 := Lib.hid hb3
  have hb02 := HBL.out.trans (HB2.out.mono HBL.out.size)
  have HB03 := Lib.hid (hb02.trans (hb3.mono hb02.size))
  obtain ⟨z0, z1, y0, y1, zl⟩ := cells2 ((HD.out.below HB2.out HD.out.lt).below hb3 (Nat.lt_of_lt_of_le HD.out.lt HB2.out.size))
  clear hbk ha3 hb3 hb02
  go_wp2_with fail
  have hs2 := HB2.out.size
  have hsz := HSZ.out
  have ha3 := HA3.out
  have hno : ¬ Fresh (Old S w) w1 (w.heap.size + 1) := Fresh.not (by omega) (by have := HB1.out.size; omega)
  have hne : a3 ≠ w.heap.size + 1 := by omega
  refine bodyPost_ret (v := .agg #[.int .i64 3, .iface 167 (.pointer (some ⟨a3, 0, none⟩))]) (by simp [results, Tryz.results158, go_sem, z0, z1, zl, pT]) rfl ⟨.bx a3 g2, ?_, ?_, rfl, HP2.out, (HB03.out.setCell (by simp) _).setCell (by simp) _⟩
  · rw [MG.enc, HK2.out]; rfl
  · rw [MG.In, HK2.out]
    refine ⟨by show 3 < 7; decide, .inr (by omega), ?_, MG.less (Fresh.old (by have := HB1.out.size; omega)) (MG.keep ((Keeps.set (p := ⟨w.heap.size + 1, 0, none⟩) hno _).trans (.set (p := ⟨w.heap.size + 1, 1, none⟩) hno _)) (MG.up HB3.out H2.out))⟩
    rw [HUV.out]
    exact (HBK.out.far (p := ⟨w.heap.size + 1, 0, none⟩) hne _).far (p := ⟨w.heap.size + 1, 1, none⟩) hne _

theorem geoF4 {a : Nat} {m : MG} (hm : m.kind = 4) (hF : ForceC 120 m) : ForceC 158 (.bx a m) := fun d' hd' S w h0 => by
  have h := MG.old h0
  rw [MG.In] at h
  obtain ⟨-, hSa, hblk, hin⟩ := h
  rw [hm] at hblk
  obtain ⟨d, A, c, kids, rfl⟩ := MG.is_mu (S := S) (w := w) (k := 4) hm (by decide) (by decide) (by decide)
  have hblk : Blk w a 91 #[.slice A kids.length c, .int .u8 d] := hblk
  show Calls Tryz.prog 158 #[.agg #[.int .i64 4, .iface 170 (.pointer (some ⟨a, 0, none⟩))], .int .u8 d'] w _
  obtain ⟨wA, hwA⟩ : ∃ wA, wA = (w.alloc (.cells #[.int .i64 4, .iface 170 (.pointer (some ⟨a, 0, none⟩))] 47)).alloc (.cells #[.int .i64 0, .nilIface] 47) := ⟨_, rfl⟩
  have hbl : Below w.heap.size w wA := by rw [hwA]; exact ((Below.refl _ _).alloc (Nat.le_refl _) _).alloc (by simp) _
  have hD : Blk wA (w.heap.size + 1) 47 #[.int .i64 0, .nilIface] := by
    rw [hwA]
    have := Blk.new (w.alloc (.cells #[.int .i64 4, .iface 170 (.pointer (some ⟨a, 0, none⟩))] 47)) 47 #[.int .i64 0, .nilIface]
    simpa using this
  have hsz : wA.heap.size = w.heap.size + 2 := by rw [hwA]; simp
  have HM := Lib.hid (must4 (hblk.below hbl hblk.lt))
  have HF := Lib.hid (fun w' hb => hF d' hd' (Old S w) w' (MG.up hb (MG.up hbl hin)))
  have HD := Lib.hid hD
  have HBL := Lib.hid hbl
  have HWA := Lib.hid hwA
  have HSZ := Lib.hid hsz
  clear hF h0 hbl hD hwA hsz hblk hin hm
  go_enter Tryz.func158, Tryz.ntmps158
  go_wp2_with fail
  rw [← HWA.out]
  refine HM.out.mono ?_
  rintro e w1 ⟨rfl, hb1⟩
  have HB1 := Lib.hid hb1
  have HF1 := Lib.hid (HF.out w1 hb1)
  clear hb1
  go_wp2_with fail
  refine HF1.out.mono ?_
  rintro e w2 ⟨g2, rfl, h2, hk2, hp2, hb2⟩
  have HB2 := Lib.hid (HB1.out.trans (hb2.mono HB1.out.size))
  have HB12 := Lib.hid hb2
  have H2 := Lib.hid h2
  have HK2 := Lib.hid hk2
  have HP2 := Lib.hid hp2

  obtain ⟨u, v, huv⟩ := MG.enc_two h2 (by rw [hk2]; show 4 ≠ 1; decide)
  rw [huv]
  have HUV := Lib.hid huv
  clear hb2 h2 hk2 hp2 huv
  go_wp2_with fail
  refine (asGeo4 u v _).mono ?_
  rintro e w3 ⟨a3, rfl, hbk, ha3, hb3⟩
  have HBK := Lib.hid hbk
  have HA3 := Lib.hid ha3
  have HB3 := Lib.hid hb3
  have hb02 := HBL.out.trans (HB2.out.mono HBL.out.size)
  have HB03 := Lib.hid (hb02.trans (hb3.mono hb02.size))
  obtain ⟨z0, z1, y0, y1, zl⟩ := cells2 ((HD.out.below HB2.out HD.out.lt).below hb3 (Nat.lt_of_lt_of_le HD.out.lt HB2.out.size))
  clear hbk ha3 hb3 hb02
  go_wp2_with fail
  have hs2 := HB2.out.size
  have hsz := HSZ.out
  have ha3 := HA3.out
  have hno : ¬ Fresh (Old S w) w1 (w.heap.size + 1) := Fresh.not (by omega) (by have := HB1.out.size; omega)
  have hne : a3 ≠ w.heap.size + 1 := by omega
  refine bodyPost_ret (v := .agg #[.int .i64 4, .iface 170 (.pointer (some ⟨a3, 0, none⟩))]) (by simp [results, Tryz.results158, go_sem, z0, z1, zl, pT]) rfl ⟨.bx a3 g2, ?_, ?_, rfl, HP2.out, (HB03.out.setCell (by simp) _).setCell (by simp) _⟩
  · rw [MG.enc, HK2.out]; rfl
  · rw [MG.In, HK2.out]
    refine ⟨by show 4 < 7; decide, .inr (by omega), ?_, MG.less (Fresh.old (by have := HB1.out.size; omega)) (MG.keep ((Keeps.set (p := ⟨w.heap.size + 1, 0, none⟩) hno _).trans (.set (p := ⟨w.heap.size + 1, 1, none⟩) hno _)) (MG.up HB3.out H2.out))⟩
    rw [HUV.out]
    exact (HBK.out.far (p := ⟨w.heap.size + 1, 0, none⟩) hne _).far (p := ⟨w.heap.size + 1, 1, none⟩) hne _

theorem geoF5 {a : Nat} {m : MG} (hm : m.kind = 5) (hF : ForceC 122 m) : ForceC 158 (.bx a m) := fun d' hd' S w h0 => by
  have h := MG.old h0
  rw [MG.In] at h
  obtain ⟨-, hSa, hblk, hin⟩ := h
  rw [hm] at hblk
  obtain ⟨d, A, c, kids, rfl⟩ := MG.is_mu (S := S) (w := w) (k := 5) hm (by decide) (by decide) (by decide)
  have hblk : Blk w a 94 #[.slice A kids.length c, .int .u8 d] := hblk
  show Calls Tryz.prog 158 #[.agg #[.int .i64 5, .iface 173 (.pointer (some ⟨a, 0, none⟩))], .int .u8 d'] w _
  obtain ⟨wA, hwA⟩ : ∃ wA, wA = (w.alloc (.cells #[.int .i64 5, .iface 173 (.pointer (some ⟨a, 0, none⟩))] 47)).alloc (.cells #[.int .i64 0, .nilIface] 47) := ⟨_, rfl⟩
  have hbl : Below w.heap.size w wA := by rw [hwA]; exact ((Below.refl _ _).alloc (Nat.le_refl _) _).alloc (by simp) _
  have hD : Blk wA (w.heap.size + 1) 47 #[.int .i64 0, .nilIface] := by
    rw [hwA]
    have := Blk.new (w.alloc (.cells #[.int .i64 5, .iface 173 (.pointer (some ⟨a, 0, none⟩))] 47)) 47 #[.int .i64 0, .nilIface]
    simpa using this
  have hsz : wA.heap.size = w.heap.size + 2 := by rw [hwA]; simp
  have HM := Lib.hid (must5 (hblk.below hbl hblk.lt))
  have HF := Lib.hid (fun w' hb => hF d' hd' (Old S w) w' (MG.up hb (MG.up hbl hin)))
  have HD := Lib.hid hD
  have HBL := Lib.hid hbl
  have HWA := Lib.hid hwA
  have HSZ := Lib.hid hsz
  clear hF h0 hbl hD hwA hsz hblk hin hm
  go_enter Tryz.func158, Tryz.ntmps158
  go_wp2_with fail
  rw [← HWA.out]
  refine HM.out.mono ?_
  rintro e w1 ⟨rfl, hb1⟩
  have HB1 := Lib.hid hb1
  have HF1 := Lib.hid (HF.out w1 hb1)
  clear hb1
  go_wp2_with fail
  refine HF1.out.mono ?_
  rintro e w2 ⟨g2, rfl, h2, hk2, hp2, hb2⟩
  have HB2 := Lib.hid (HB1.out.trans (hb2.mono HB1.out.size))
  have HB12 := Lib.hid hb2
  have H2 := Lib.hid h2
  have HK2 := Lib.hid hk2
  have HP2 := Lib.hid hp2

  obtain ⟨u, v, huv⟩ := MG.enc_two h2 (by rw [hk2]; show 5 ≠ 1; decide)
  rw [huv]
  have HUV := Lib.hid huv
  clear hb2 h2 hk2 hp2 huv
  go_wp2_with fail
  refine (asGeo5 u v _).mono ?_
  rintro e w3 ⟨a3, rfl, hbk, ha3, hb3⟩
  have HBK := Lib.hid hbk
  have HA3 := Lib.hid ha3
  have HB3 := Lib.hid hb3
  have hb02 := HBL.out.trans (HB2.out.mono HBL.out.size)
  have HB03 := Lib.hid (hb02.trans (hb3.mono hb02.size))
  obtain ⟨z0, z1, y0, y1, zl⟩ := cells2 ((HD.out.below HB2.out HD.out.lt).below hb3 (Nat.lt_of_lt_of_le HD.out.lt HB2.out.size))
  clear hbk ha3 hb3 hb02
  go_wp2_with fail
  have hs2 := HB2.out.size
  have hsz := HSZ.out
  have ha3 := HA3.out
  have hno : ¬ Fresh (Old S w) w1 (w.heap.size + 1) := Fresh.not (by omega) (by have := HB1.out.size; omega)
  have hne : a3 ≠ w.heap.size + 1 := by omega
  refine bodyPost_ret (v := .agg #[.int .i64 5, .iface 173 (.pointer (some ⟨a3, 0, none⟩))]) (by simp [results, Tryz.results158, go_sem, z0, z1, zl, pT]) rfl ⟨.bx a3 g2, ?_, ?_, rfl, HP2.out, (HB03.out.setCell (by simp) _).setCell (by simp) _⟩
  · rw [MG.enc, HK2.out]; rfl
  · rw [MG.In, HK2.out]
    refine ⟨by show 5 < 7; decide, .inr (by omega), ?_, MG.less (Fresh.old (by have := HB1.out.size; omega)) (MG.keep ((Keeps.set (p := ⟨w.heap.size + 1, 0, none⟩) hno _).trans (.set (p := ⟨w.heap.size + 1, 1, none⟩) hno _)) (MG.up HB3.out H2.out))⟩
    rw [HUV.out]
    exact (HBK.out.far (p := ⟨w.heap.size + 1, 0, none⟩) hne _).far (p := ⟨w.heap.size + 1, 1, none⟩) hne _

theorem geoF6 {a : Nat} {m : MG} (hm : m.kind = 6) (hF : ForceC 124 m) : ForceC 158 (.bx a m) := fun d' hd' S w h0 => by
  have h := MG.old h0
  rw [MG.In] at h
  obtain ⟨-, hSa, hblk, hin⟩ := h
  rw [hm] at hblk
  obtain ⟨d, A, c, kids, rfl⟩ := MG.is_mu (S := S) (w := w) (k := 6) hm (by decide) (by decide) (by decide)
  have hblk : Blk w a 98 #[.slice A kids.length c, .int .u8 d] := hblk
  show Calls Tryz.prog 158 #[.agg #[.int .i64 6, .iface 176 (.pointer (some ⟨a, 0, none⟩))], .int .u8 d'] w _
  obtain ⟨wA, hwA⟩ : ∃ wA, wA = (w.alloc (.cells #[.int .i64 6, .iface 176 (.pointer (some ⟨a, 0, none⟩))] 47)).alloc (.cells #[.int .i64 0, .nilIface] 47) := ⟨_, rfl⟩
  have hbl : Below w.heap.size w wA := by rw [hwA]; exact ((Below.refl _ _).alloc (Nat.le_refl _) _).alloc (by simp) _
  have hD : Blk wA (w.heap.size + 1) 47 #[.int .i64 0, .nilIface] := by
    rw [hwA]
    have := Blk.new (w.alloc (.cells #[.int .i64 6, .iface 176 (.pointer (some ⟨a, 0, none⟩))] 47)) 47 #[.int .i64 0, .nilIface]
    simpa using this
  have hsz : wA.heap.size = w.heap.size + 2 := by rw [hwA]; simp
  have HM := Lib.hid (must6 (hblk.below hbl hblk.lt))
  have HF := Lib.hid (fun w' hb => hF d' hd' (Old S w) w' (MG.up hb (MG.up hbl hin)))
  have HD := Lib.hid hD
  have HBL := Lib.hid hbl
  have HWA := Lib.hid hwA
  have HSZ := Lib.hid hsz
  clear hF h0 hbl hD hwA hsz hblk hin hm
  go_enter Tryz.func158, Tryz.ntmps158
  go_wp2_with fail
  rw [← HWA.out]
  refine HM.out.mono ?_
  rintro e w1 ⟨rfl, hb1⟩
  have HB1 := Lib.hid hb1
  have HF1 := Lib.hid (HF.out w1 hb1)
  clear hb1
  go_wp2_with fail
  refine HF1.out.mono ?_
  rintro e w2 ⟨g2, rfl, h2, hk2, hp2, hb2⟩
  have HB2 := Lib.hid (HB1.out.trans (hb2.mono HB1.out.size))
  have HB12 := Lib.hid hb2
  have H2 := Lib.hid h2
  have HK2 := Lib.hid hk2
  have HP2 := Lib.hid hp2

  obtain ⟨u, v, huv⟩ := MG.enc_two h2 (by rw [hk2]; show 6 ≠ 1; decide)
  rw [huv]
  have HUV := Lib.hid huv
  clear hb2 h2 hk2 hp2 huv
  go_wp2_with fail
  refine (asGeo6 u v _).mono ?_
  rintro e w3 ⟨a3, rfl, hbk, ha3, hb3⟩
  have HBK := Lib.hid hbk
  have HA3 := Lib.hid ha3
  have HB3 := Lib.hid hb3
  have hb02 := HBL.out.trans (HB2.out.mono HBL.out.size)
  have HB03 := Lib.hid (hb02.trans (hb3.mono hb02.size))
  obtain ⟨z0, z1, y0, y1, zl⟩ := cells2 ((HD.out.below HB2.out HD.out.lt).below hb3 (Nat.lt_of_lt_of_le HD.out.lt HB2.out.size))
  clear hbk ha3 hb3 hb02
  go_wp2_with fail
  have hs2 := HB2.out.size
  have hsz := HSZ.out
  have ha3 := HA3.out
  have hno : ¬ Fresh (Old S w) w1 (w.heap.size + 1) := Fresh.not (by omega) (by have := HB1.out.size; omega)
  have hne : a3 ≠ w.heap.size + 1 := by omega
  refine bodyPost_ret (v := .agg #[.int .i64 6, .iface 176 (.pointer (some ⟨a3, 0, none⟩))]) (by simp [results, Tryz.results158, go_sem, z0, z1, zl, pT]) rfl ⟨.bx a3 g2, ?_, ?_, rfl, HP2.out, (HB03.out.setCell (by simp) _).setCell (by simp) _⟩
  · rw [MG.enc, HK2.out]; rfl
  · rw [MG.In, HK2.out]
    refine ⟨by show 6 < 7; decide, .inr (by omega), ?_, MG.less (Fresh.old (by have := HB1.out.size; omega)) (MG.keep ((Keeps.set (p := ⟨w.heap.size + 1, 0, none⟩) hno _).trans (.set (p := ⟨w.heap.size + 1, 1, none⟩) hno _)) (MG.up HB3.out H2.out))⟩
    rw [HUV.out]
    exact (HBK.out.far (p := ⟨w.heap.size + 1, 0, none⟩) hne _).far (p := ⟨w.heap.size + 1, 1, none⟩) hne _

/-- What forces a line, a polygon: as a part of a kind. -/
theorem lnForceK {g : MG} (hk : g.kind = 2) : ForceC 132 g := by
  intro d' hd' S w h
  obtain ⟨d, A, c, ns, rfl⟩ := MG.is_ln hk h
  exact lnForceC d A c ns d' hd' S w h
theorem polyForceK {g : MG} (hk : g.kind = 3) : ForceC 118 g := by
  intro d' hd' S w h
  obtain ⟨d, A, c, kids, rfl⟩ := MG.is_mu (S := S) (w := w) (k := 3) hk (by decide) (by decide) (by decide)
  exact force3 (fun g _ hg => lnForceK hg) d' hd' S w h
theorem geoForce_all : ∀ m : MG, (∀ a, ForceC 158 (.bx a m)) ∧ (m.kind = 7 → ForceC 158 m) := by
  intro m
  induction m using MG.ind with
  | h1 d full p => exact ⟨fun a => geoF1 rfl (ptForceC d full p), fun h => by cases h⟩
  | h2 d A c ns => exact ⟨fun a => geoF2 rfl (lnForceC d A c ns), fun h => by cases h⟩
  | h3 k d A c kids ih =>
    refine ⟨fun a d' hd' S w h => ?_, fun h7 d' hd' S w h => ?_⟩
    · have hk : k < 7 ∧ pk k < 8 := by
        rw [MG.In] at h
        obtain ⟨h1, -, -, h2⟩ := h
        rw [MG.In] at h2
        exact ⟨h1, h2.2.1⟩
      obtain rfl | rfl | rfl | rfl | rfl | rfl | rfl : k = 0 ∨ k = 1 ∨ k = 2 ∨ k = 3 ∨ k = 4 ∨ k = 5 ∨ k = 6 := by omega
      · exact geoF0 rfl (force0 (fun g hg hk => (ih g hg).2 hk)) d' hd' S w h
      · exact absurd hk.2 (by decide)
      · exact absurd hk.2 (by decide)
      · exact geoF3 rfl (force3 (fun g _ hg => lnForceK hg)) d' hd' S w h
      · exact geoF4 rfl ptForceMulti d' hd' S w h
      · exact geoF5 rfl (force5 (fun g _ hg => lnForceK hg)) d' hd' S w h
      · exact geoF6 rfl (force6 (fun g _ hg => polyForceK hg)) d' hd' S w h
    · obtain ⟨a, g, e⟩ := MG.is_bx h7 h
      cases e
  | h4 a g ih =>
    refine ⟨fun a' d' hd' S w h => ?_, fun _ => ih.1 a⟩
    rw [MG.In] at h
    exact absurd h.1 (by show ¬ (7 : Nat) < 7; omega)
theorem geoForceK {g : MG} (hk : g.kind = 7) : ForceC 158 g := (geoForce_all g).2 hk
theorem colForceK {d : Nat} {A : Option Addr} {c : Nat} {kids : List MG} : ForceC 126 (.mu 0 d A c kids) := force0 (fun g _ hk => geoForceK hk)

/-! ### types -/
/-- The contract of what tells a type. -/
def TypeC (f : FuncId) (g : MG) : Prop := ∀ (S : Nat → Prop) (w : World), g.In S w → Calls Tryz.prog f #[.agg g.enc.toArray] w (Gives w (.int .u8 (dm g.plain.d : Nat)))

theorem typeC0 {d : Nat} {A : Option Addr} {c : Nat} {kids : List MG} : TypeC 145 (.mu 0 d A c kids) := fun S w h => by
  rw [MG.In] at h
  have := ctype0 d (.slice A kids.length c) w
  rw [MG.plain, PG.d, dm_nat h.1]
  exact this

theorem typeC3 {d : Nat} {A : Option Addr} {c : Nat} {kids : List MG} : TypeC 138 (.mu 3 d A c kids) := fun S w h => by
  rw [MG.In] at h
  have := ctype3 d (.slice A kids.length c) w
  rw [MG.plain, PG.d, dm_nat h.1]
  exact this

theorem typeC4 {d : Nat} {A : Option Addr} {c : Nat} {kids : List MG} : TypeC 140 (.mu 4 d A c kids) := fun S w h => by
  rw [MG.In] at h
  have := ctype4 d (.slice A kids.length c) w
  rw [MG.plain, PG.d, dm_nat h.1]
  exact this

theorem typeC5 {d : Nat} {A : Option Addr} {c : Nat} {kids : List MG} : TypeC 141 (.mu 5 d A c kids) := fun S w h => by
  rw [MG.In] at h
  have := ctype5 d (.slice A kids.length c) w
  rw [MG.plain, PG.d, dm_nat h.1]
  exact this

theorem typeC6 {d : Nat} {A : Option Addr} {c : Nat} {kids : List MG} : TypeC 143 (.mu 6 d A c kids) := fun S w h => by
  rw [MG.In] at h
  have := ctype6 d (.slice A kids.length c) w
  rw [MG.plain, PG.d, dm_nat h.1]
  exact this

theorem typeC1 {d : Nat} {full : Bool} {p : Pl} : TypeC 133 (.pt d full p) := fun S w h => by
  rw [MG.In] at h
  rw [MG.plain, PG.d, dm_nat h.1]
  exact ctype1 d _ _ _ _ _ w
theorem typeC2 {d : Nat} {A : Option Addr} {c : Nat} {ns : List Nat} : TypeC 156 (.ln d A c ns) := fun S w h => by
  rw [MG.In] at h
  rw [MG.plain, PG.d, dm_nat h.1]
  exact ctype2 d _ w

theorem geoT0 {a : Nat} {m : MG} (hm : m.kind = 0) (hF : TypeC 145 m) : TypeC 159 (.bx a m) := fun S w h => by
  rw [MG.In] at h
  obtain ⟨-, hSa, hblk, hin⟩ := h
  rw [hm] at hblk
  rw [MG.plain]
  obtain ⟨d, A, c, kids, rfl⟩ := MG.is_mu (S := S) (w := w) (k := 0) hm (by decide) (by decide) (by decide)
  have hblk : Blk w a 102 #[.slice A kids.length c, .int .u8 d] := hblk
  show Calls Tryz.prog 159 #[.agg #[.int .i64 0, .iface 180 (.pointer (some ⟨a, 0, none⟩))]] w _
  obtain ⟨wA, hwA⟩ : ∃ wA, wA = w.alloc (.cells #[.int .i64 0, .iface 180 (.pointer (some ⟨a, 0, none⟩))] 47) := ⟨_, rfl⟩
  have hbl : Below w.heap.size w wA := by rw [hwA]; exact (Below.refl _ _).alloc (Nat.le_refl _) _
  have HM := Lib.hid (must0 (hblk.below hbl hblk.lt))
  have HF := Lib.hid (fun w' hb => hF S w' (MG.up hb (MG.up hbl hin)))
  have HBL := Lib.hid hbl
  have HWA := Lib.hid hwA
  obtain ⟨r, hr⟩ : ∃ r, r = dm (MG.mu 0 d A c kids).plain.d := ⟨_, rfl⟩
  rw [← hr] at HF ⊢
  clear hF hbl hwA hblk hin hm hr
  go_enter Tryz.func159, Tryz.ntmps159
  go_wp2_with fail
  rw [← HWA.out]
  refine HM.out.mono ?_
  rintro e w1 ⟨rfl, hb1⟩
  have HB1 := Lib.hid hb1
  have HF1 := Lib.hid (HF.out w1 hb1)
  clear hb1
  go_wp2_with fail
  refine HF1.out.mono ?_
  rintro e w2 ⟨rfl, hb2⟩
  have HB2 := Lib.hid (HBL.out.trans ((HB1.out.trans (hb2.mono HB1.out.size)).mono HBL.out.size))
  clear hb2
  go_wp2_with fail
  exact bodyPost_ret (v := .int .u8 (r : Nat)) (by simp [results, go_sem]) rfl ⟨rfl, HB2.out⟩

theorem geoT1 {a : Nat} {m : MG} (hm : m.kind = 1) (hF : TypeC 133 m) : TypeC 159 (.bx a m) := fun S w h => by
  rw [MG.In] at h
  obtain ⟨-, hSa, hblk, hin⟩ := h
  rw [hm] at hblk
  rw [MG.plain]
  obtain ⟨d, full, p, rfl⟩ := MG.is_pt hm hin
  have hblk : Blk w a 77 #[.float .f64 p.x, .float .f64 p.y, .float .f64 p.z, .float .f64 p.m, .int .u8 d, .bool full] := hblk
  show Calls Tryz.prog 159 #[.agg #[.int .i64 1, .iface 162 (.pointer (some ⟨a, 0, none⟩))]] w _
  obtain ⟨wA, hwA⟩ : ∃ wA, wA = w.alloc (.cells #[.int .i64 1, .iface 162 (.pointer (some ⟨a, 0, none⟩))] 47) := ⟨_, rfl⟩
  have hbl : Below w.heap.size w wA := by rw [hwA]; exact (Below.refl _ _).alloc (Nat.le_refl _) _
  have HM := Lib.hid (must1 (hblk.below hbl hblk.lt))
  have HF := Lib.hid (fun w' hb => hF S w' (MG.up hb (MG.up hbl hin)))
  have HBL := Lib.hid hbl
  have HWA := Lib.hid hwA
  obtain ⟨r, hr⟩ : ∃ r, r = dm (MG.pt d full p).plain.d := ⟨_, rfl⟩
  rw [← hr] at HF ⊢
  clear hF hbl hwA hblk hin hm hr
  go_enter Tryz.func159, Tryz.ntmps159
  go_wp2_with fail
  rw [← HWA.out]
  refine HM.out.mono ?_
  rintro e w1 ⟨rfl, hb1⟩
  have HB1 := Lib.hid hb1
  have HF1 := Lib.hid (HF.out w1 hb1)
  clear hb1
  go_wp2_with fail
  refine HF1.out.mono ?_
  rintro e w2 ⟨rfl, hb2⟩
  have HB2 := Lib.hid (HBL.out.trans ((HB1.out.trans (hb2.mono HB1.out.size)).mono HBL.out.size))
  clear hb2
  go_wp2_with fail
  exact bodyPost_ret (v := .int .u8 (r : Nat)) (by simp [results, go_sem]) rfl ⟨rfl, HB2.out⟩

theorem geoT2 {a : Nat} {m : MG} (hm : m.kind = 2) (hF : TypeC 156 m) : TypeC 159 (.bx a m) := fun S w h => by
  rw [MG.In] at h
  obtain ⟨-, hSa, hblk, hin⟩ := h
  rw [hm] at hblk
  rw [MG.plain]
  obtain ⟨d, A, c, ns, rfl⟩ := MG.is_ln hm hin
  have hblk : Blk w a 83 #[.int .u8 d, .slice A ns.length c] := hblk
  show Calls Tryz.prog 159 #[.agg #[.int .i64 2, .iface 164 (.pointer (some ⟨a, 0, none⟩))]] w _
  obtain ⟨wA, hwA⟩ : ∃ wA, wA = w.alloc (.cells #[.int .i64 2, .iface 164 (.pointer (some ⟨a, 0, none⟩))] 47) := ⟨_, rfl⟩
  have hbl : Below w.heap.size w wA := by rw [hwA]; exact (Below.refl _ _).alloc (Nat.le_refl _) _
  have HM := Lib.hid (must2 (hblk.below hbl hblk.lt))
  have HF := Lib.hid (fun w' hb => hF S w' (MG.up hb (MG.up hbl hin)))
  have HBL := Lib.hid hbl
  have HWA := Lib.hid hwA
  obtain ⟨r, hr⟩ : ∃ r, r = dm (MG.ln d A c ns).plain.d := ⟨_, rfl⟩
  rw [← hr] at HF ⊢
  clear hF hbl hwA hblk hin hm hr
  go_enter Tryz.func159, Tryz.ntmps159
  go_wp2_with fail
  rw [← HWA.out]
  refine HM.out.mono ?_
  rintro e w1 ⟨rfl, hb1⟩
  have HB1 := Lib.hid hb1
  have HF1 := Lib.hid (HF.out w1 hb1)
  clear hb1
  go_wp2_with fail
  refine HF1.out.mono ?_
  rintro e w2 ⟨rfl, hb2⟩
  have HB2 := Lib.hid (HBL.out.trans ((HB1.out.trans (hb2.mono HB1.out.size)).mono HBL.out.size))
  clear hb2
  go_wp2_with fail
  exact bodyPost_ret (v := .int .u8 (r : Nat)) (by simp [results, go_sem]) rfl ⟨rfl, HB2.out⟩

theorem geoT3 {a : Nat} {m : MG} (hm : m.kind = 3) (hF : TypeC 138 m) : TypeC 159 (.bx a m) := fun S w h => by
  rw [MG.In] at h
  obtain ⟨-, hSa, hblk, hin⟩ := h
  rw [hm] at hblk
  rw [MG.plain]
  obtain ⟨d, A, c, kids, rfl⟩ := MG.is_mu (S := S) (w := w) (k := 3) hm (by decide) (by decide) (by decide)
  have hblk : Blk w a 87 #[.slice A kids.length c, .int .u8 d] := hblk
  show Calls Tryz.prog 159 #[.agg #[.int .i64 3, .iface 167 (.pointer (some ⟨a, 0, none⟩))]] w _
  obtain ⟨wA, hwA⟩ : ∃ wA, wA = w.alloc (.cells #[.int .i64 3, .iface 167 (.pointer (some ⟨a, 0, none⟩))] 47) := ⟨_, rfl⟩
  have hbl : Below w.heap.size w wA := by rw [hwA]; exact (Below.refl _ _).alloc (Nat.le_refl _) _
  have HM := Lib.hid (must3 (hblk.below hbl hblk.lt))
  have HF := Lib.hid (fun w' hb => hF S w' (MG.up hb (MG.up hbl hin)))
  have HBL := Lib.hid hbl
  have HWA := Lib.hid hwA
  obtain ⟨r, hr⟩ : ∃ r, r = dm (MG.mu 3 d A c kids).plain.d := ⟨_, rfl⟩
  rw [← hr] at HF ⊢
  clear hF hbl hwA hblk hin hm hr
  go_enter Tryz.func159, Tryz.ntmps159
  go_wp2_with fail
  rw [← HWA.out]
  refine HM.out.mono ?_
  rintro e w1 ⟨rfl, hb1⟩
  have HB1 := Lib.hid hb1
  have HF1 := Lib.hid (HF.out w1 hb1)
  clear hb1
  go_wp2_with fail
  refine HF1.out.mono ?_
  rintro e w2 ⟨rfl, hb2⟩
  have HB2 := Lib.hid (HBL.out.trans ((HB1.out.trans (hb2.mono HB1.out.size)).mono HBL.out.size))
  clear hb2
  go_wp2_with fail
  exact bodyPost_ret (v := .int .u8 (r : Nat)) (by simp [results, go_sem]) rfl ⟨rfl, HB2.out⟩

theorem geoT4 {a : Nat} {m : MG} (hm : m.kind = 4) (hF : TypeC 140 m) : TypeC 159 (.bx a m) := fun S w h => by
  rw [MG.In] at h
  obtain ⟨-, hSa, hblk, hin⟩ := h
  rw [hm] at hblk
  rw [MG.plain]
  obtain ⟨d, A, c, kids, rfl⟩ := MG.is_mu (S := S) (w := w) (k := 4) hm (by decide) (by decide) (by decide)
  have hblk : Blk w a 91 #[.slice A kids.length c, .int .u8 d] := hblk
  show Calls Tryz.prog 159 #[.agg #[.int .i64 4, .iface 170 (.pointer (some ⟨a, 0, none⟩))]] w _
  obtain ⟨wA, hwA⟩ : ∃ wA, wA = w.alloc (.cells #[.int .i64 4, .iface 170 (.pointer (some ⟨a, 0, none⟩))] 47) := ⟨_, rfl⟩
  have hbl : Below w.heap.size w wA := by rw [hwA]; exact (Below.refl _ _).alloc (Nat.le_refl _) _
  have HM := Lib.hid (must4 (hblk.below hbl hblk.lt))
  have HF := Lib.hid (fun w' hb => hF S w' (MG.up hb (MG.up hbl hin)))
  have HBL := Lib.hid hbl
  have HWA := Lib.hid hwA
  obtain ⟨r, hr⟩ : ∃ r, r = dm (MG.mu 4 d A c kids).plain.d := ⟨_, rfl⟩
  rw [← hr] at HF ⊢
  clear hF hbl hwA hblk hin hm hr
  go_enter Tryz.func159, Tryz.ntmps159
  go_wp2_with fail
  rw [← HWA.out]
  refine HM.out.mono ?_
  rintro e w1 ⟨rfl, hb1⟩
  have HB1 := Lib.hid hb1
  have HF1 := Lib.hid (HF.out w1 hb1)
  clear hb1
  go_wp2_with fail
  refine HF1.out.mono ?_
  rintro e w2 ⟨rfl, hb2⟩
  have HB2 := Lib.hid (HBL.out.trans ((HB1.out.trans (hb2.mono HB1.out.size)).mono HBL.out.size))
  clear hb2
  go_wp2_with fail
  exact bodyPost_ret (v := .int .u8 (r : Nat)) (by simp [results, go_sem]) rfl ⟨rfl, HB2.out⟩

theorem geoT5 {a : Nat} {m : MG} (hm : m.kind = 5) (hF : TypeC 141 m) : TypeC 159 (.bx a m) := fun S w h => by
  rw [MG.In] at h
  obtain ⟨-, hSa, hblk, hin⟩ := h
  rw [hm] at hblk
  rw [MG.plain]
  obtain ⟨d, A, c, kids, rfl⟩ := MG.is_mu (S := S) (w := w) (k := 5) hm (by decide) (by decide) (by decide)
  have hblk : Blk w a 94 #[.slice A kids.length c, .int .u8 d] := hblk
  show Calls Tryz.prog 159 #[.agg #[.int .i64 5, .iface 173 (.pointer (some ⟨a, 0, none⟩))]] w _
  obtain ⟨wA, hwA⟩ : ∃ wA, wA = w.alloc (.cells #[.int .i64 5, .iface 173 (.pointer (some ⟨a, 0, none⟩))] 47) := ⟨_, rfl⟩
  have hbl : Below w.heap.size w wA := by rw [hwA]; exact (Below.refl _ _).alloc (Nat.le_refl _) _
  have HM := Lib.hid (must5 (hblk.below hbl hblk.lt))
  have HF := Lib.hid (fun w' hb => hF S w' (MG.up hb (MG.up hbl hin)))
  have HBL := Lib.hid hbl
  have HWA := Lib.hid hwA
  obtain ⟨r, hr⟩ : ∃ r, r = dm (MG.mu 5 d A c kids).plain.d := ⟨_, rfl⟩
  rw [← hr] at HF ⊢
  clear hF hbl hwA hblk hin hm hr
  go_enter Tryz.func159, Tryz.ntmps159
  go_wp2_with fail
  rw [← HWA.out]
  refine HM.out.mono ?_
  rintro e w1 ⟨rfl, hb1⟩
  have HB1 := Lib.hid hb1
  have HF1 := Lib.hid (HF.out w1 hb1)
  clear hb1
  go_wp2_with fail
  refine HF1.out.mono ?_
  rintro e w2 ⟨rfl, hb2⟩
  have HB2 := Lib.hid (HBL.out.trans ((HB1.out.trans (hb2.mono HB1.out.size)).mono HBL.out.size))
  clear hb2
  go_wp2_with fail
  exact bodyPost_ret (v := .int .u8 (r : Nat)) (by simp [results, go_sem]) rfl ⟨rfl, HB2.out⟩

theorem geoT6 {a : Nat} {m : MG} (hm : m.kind = 6) (hF : TypeC 143 m) : TypeC 159 (.bx a m) := fun S w h => by
  rw [MG.In] at h
  obtain ⟨-, hSa, hblk, hin⟩ := h
  rw [hm] at hblk
  rw [MG.plain]
  obtain ⟨d, A, c, kids, rfl⟩ := MG.is_mu (S := S) (w := w) (k := 6) hm (by decide) (by decide) (by decide)
  have hblk : Blk w a 98 #[.slice A kids.length c, .int .u8 d] := hblk
  show Calls Tryz.prog 159 #[.agg #[.int .i64 6, .iface 176 (.pointer (some ⟨a, 0, none⟩))]] w _
  obtain ⟨wA, hwA⟩ : ∃ wA, wA = w.alloc (.cells #[.int .i64 6, .iface 176 (.pointer (some ⟨a, 0, none⟩))] 47) := ⟨_, rfl⟩
  have hbl : Below w.heap.size w wA := by rw [hwA]; exact (Below.refl _ _).alloc (Nat.le_refl _) _
  have HM := Lib.hid (must6 (hblk.below hbl hblk.lt))
  have HF := Lib.hid (fun w' hb => hF S w' (MG.up hb (MG.up hbl hin)))
  have HBL := Lib.hid hbl
  have HWA := Lib.hid hwA
  obtain ⟨r, hr⟩ : ∃ r, r = dm (MG.mu 6 d A c kids).plain.d := ⟨_, rfl⟩
  rw [← hr] at HF ⊢
  clear hF hbl hwA hblk hin hm hr
  go_enter Tryz.func159, Tryz.ntmps159
  go_wp2_with fail
  rw [← HWA.out]
  refine HM.out.mono ?_
  rintro e w1 ⟨rfl, hb1⟩
  have HB1 := Lib.hid hb1
  have HF1 := Lib.hid (HF.out w1 hb1)
  clear hb1
  go_wp2_with fail
  refine HF1.out.mono ?_
  rintro e w2 ⟨rfl, hb2⟩
  have HB2 := Lib.hid (HBL.out.trans ((HB1.out.trans (hb2.mono HB1.out.size)).mono HBL.out.size))
  clear hb2
  go_wp2_with fail
  exact bodyPost_ret (v := .int .u8 (r : Nat)) (by simp [results, go_sem]) rfl ⟨rfl, HB2.out⟩

theorem geoTypeK {g : MG} (hk : g.kind = 7) : TypeC 159 g := fun S w h => by
  obtain ⟨a, m, rfl⟩ := MG.is_bx hk h
  have h' := h
  rw [MG.In] at h'
  obtain ⟨h7, -, -, hin⟩ := h'
  cases m with
  | pt d full p => exact geoT1 rfl typeC1 S w h
  | ln d A c ns => exact geoT2 rfl typeC2 S w h
  | bx a g => exact absurd h7 (by show ¬ (7 : Nat) < 7; omega)
  | mu k d A c kids =>
    rw [MG.In] at hin
    have hk : k < 7 ∧ pk k < 8 := ⟨h7, hin.2.1⟩
    obtain rfl | rfl | rfl | rfl | rfl | rfl | rfl : k = 0 ∨ k = 1 ∨ k = 2 ∨ k = 3 ∨ k = 4 ∨ k = 5 ∨ k = 6 := by omega
    · exact geoT0 rfl typeC0 S w h
    · exact absurd hk.2 (by decide)
    · exact absurd hk.2 (by decide)
    · exact geoT3 rfl typeC3 S w h
    · exact geoT4 rfl typeC4 S w h
    · exact geoT5 rfl typeC5 S w h
    · exact geoT6 rfl typeC6 S w h
theorem lnTypeK {g : MG} (hk : g.kind = 2) : TypeC 156 g := fun S w h => by
  obtain ⟨d, A, c, ns, rfl⟩ := MG.is_ln hk h
  exact typeC2 S w h
theorem ptTypeK {g : MG} (hk : g.kind = 1) : TypeC 133 g := fun S w h => by
  obtain ⟨d, full, p, rfl⟩ := MG.is_pt hk h
  exact typeC1 S w h
theorem polyTypeK {g : MG} (hk : g.kind = 3) : TypeC 138 g := fun S w h => by
  obtain ⟨d, A, c, kids, rfl⟩ := MG.is_mu (S := S) (w := w) (k := 3) hk (by decide) (by decide) (by decide)
  exact typeC3 S w h

end Go.Proofs.YtbacakdpfiiblaaGreat.geo
