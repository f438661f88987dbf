/-
  Contracts: of which kind a geometry is.
-/
import Derived.Test.YtplphaaeibeheaaGreatGeoL
namespace Go.Proofs.YtplphaaeibeheaaGreat.geo
open Go.ChangeShapes Go.WideShapes Go.ChangeAt Go.RowKit
open Go.Proofs.YtplphaaeibeheaaGreat.mem
set_option linter.unusedVariables false
set_option linter.unusedSimpArgs false

section
set_option maxHeartbeats 4000000
theorem isK0_calls (z : Int) (v : Value) (w : World) : Calls Tryz.prog 34 #[.agg #[.int .i64 z, v]] w (Gives w (.bool (z == 0))) := by
  have hb := (Below.refl w.heap.size w).alloc (Nat.le_refl _) (.cells #[.int .i64 z, v] 39)
  have HB := Lib.hid hb
  clear hb
  go_enter Tryz.func34, Tryz.ntmps34
  go_wp2_with fail
  exact bodyPost_ret (v := .bool (z == 0)) (by simp [results, go_sem]) rfl ⟨rfl, HB.out⟩
theorem isK1_calls (z : Int) (v : Value) (w : World) : Calls Tryz.prog 35 #[.agg #[.int .i64 z, v]] w (Gives w (.bool (z == 1))) := by
  have hb := (Below.refl w.heap.size w).alloc (Nat.le_refl _) (.cells #[.int .i64 z, v] 39)
  have HB := Lib.hid hb
  clear hb
  go_enter Tryz.func35, Tryz.ntmps35
  go_wp2_with fail
  exact bodyPost_ret (v := .bool (z == 1)) (by simp [results, go_sem]) rfl ⟨rfl, HB.out⟩
theorem isK2_calls (z : Int) (v : Value) (w : World) : Calls Tryz.prog 36 #[.agg #[.int .i64 z, v]] w (Gives w (.bool (z == 2))) := by
  have hb := (Below.refl w.heap.size w).alloc (Nat.le_refl _) (.cells #[.int .i64 z, v] 39)
  have HB := Lib.hid hb
  clear hb
  go_enter Tryz.func36, Tryz.ntmps36
  go_wp2_with fail
  exact bodyPost_ret (v := .bool (z == 2)) (by simp [results, go_sem]) rfl ⟨rfl, HB.out⟩
theorem isK3_calls (z : Int) (v : Value) (w : World) : Calls Tryz.prog 37 #[.agg #[.int .i64 z, v]] w (Gives w (.bool (z == 3))) := by
  have hb := (Below.refl w.heap.size w).alloc (Nat.le_refl _) (.cells #[.int .i64 z, v] 39)
  have HB := Lib.hid hb
  clear hb
  go_enter Tryz.func37, Tryz.ntmps37
  go_wp2_with fail
  exact bodyPost_ret (v := .bool (z == 3)) (by simp [results, go_sem]) rfl ⟨rfl, HB.out⟩
theorem isK4_calls (z : Int) (v : Value) (w : World) : Calls Tryz.prog 38 #[.agg #[.int .i64 z, v]] w (Gives w (.bool (z == 4))) := by
  have hb := (Below.refl w.heap.size w).alloc (Nat.le_refl _) (.cells #[.int .i64 z, v] 39)
  have HB := Lib.hid hb
  clear hb
  go_enter Tryz.func38, Tryz.ntmps38
  go_wp2_with fail
  exact bodyPost_ret (v := .bool (z == 4)) (by simp [results, go_sem]) rfl ⟨rfl, HB.out⟩
theorem isK5_calls (z : Int) (v : Value) (w : World) : Calls Tryz.prog 39 #[.agg #[.int .i64 z, v]] w (Gives w (.bool (z == 5))) := by
  have hb := (Below.refl w.heap.size w).alloc (Nat.le_refl _) (.cells #[.int .i64 z, v] 39)
  have HB := Lib.hid hb
  clear hb
  go_enter Tryz.func39, Tryz.ntmps39
  go_wp2_with fail
  exact bodyPost_ret (v := .bool (z == 5)) (by simp [results, go_sem]) rfl ⟨rfl, HB.out⟩
theorem isK6_calls (z : Int) (v : Value) (w : World) : Calls Tryz.prog 40 #[.agg #[.int .i64 z, v]] w (Gives w (.bool (z == 6))) := by
  have hb := (Below.refl w.heap.size w).alloc (Nat.le_refl _) (.cells #[.int .i64 z, v] 39)
  have HB := Lib.hid hb
  clear hb
  go_enter Tryz.func40, Tryz.ntmps40
  go_wp2_with fail
  exact bodyPost_ret (v := .bool (z == 6)) (by simp [results, go_sem]) rfl ⟨rfl, HB.out⟩
end
theorem bx_kind {S : Nat → Prop} {w : World} {a : Nat} {m : MG} (h : (MG.bx a m).In S w) : (MG.bx a m).plain.k = (m.kind : Int) := by
  rw [MG.In] at h
  rw [MG.plain]
  cases m with
  | pt d full p => rfl
  | ln d A c ns => rfl
  | mu k d A c kids => rfl
  | bx b m => exact absurd h.1 (show ¬ (7 : Nat) < 7 by decide)

set_option maxHeartbeats 8000000 in
set_option maxRecDepth 100000 in
theorem isKind_calls (g : IG) (j : Int) (hj : 0 ≤ j ∧ j ≤ 6) {S : Nat → Prop} {w : World} (h : g.In S w) (hs : g.plain.small) : Calls Tryz.prog 16 #[.agg g.enc.toArray, .int .i64 j] w (Gives w (.bool (g.plain.new.k == j))) := by
  obtain ⟨w1, hw1⟩ : ∃ w1, w1 = w.alloc (.cells g.enc.toArray 25) := ⟨_, rfl⟩
  have hb1 : Below w.heap.size w w1 := by rw [hw1]; exact (Below.refl _ _).alloc (Nat.le_refl _) _
  have hX : Blk w1 w.heap.size 25 g.enc.toArray := by rw [hw1]; exact Blk.new _ _ _
  have HG := Lib.hid (geometry_calls g S w1 (IG.up hb1 h) hs)
  obtain ⟨P, hP⟩ : ∃ P, P = g.plain := ⟨_, rfl⟩
  rw [← hP] at HG ⊢
  clear h hs hP
  obtain ⟨k, d, A, ca, ns, B, cb, kids⟩ := g
  rw [show (IG.mk k d A ca ns B cb kids).enc.toArray = #[.int .i64 k, .int .i64 d, .slice A ns.length ca, .slice B kids.length cb] from rfl] at HG hX hw1 ⊢
  obtain ⟨x0, x1, x2, x3, -, -, -, -, xl⟩ := cells4 hX
  have HB1 := Lib.hid hb1
  have HW1 := Lib.hid hw1
  clear hX hb1 hw1
  rcases (show j = 0 ∨ j = 1 ∨ j = 2 ∨ j = 3 ∨ j = 4 ∨ j = 5 ∨ j = 6 by omega) with rfl | rfl | rfl | rfl | rfl | rfl | rfl
  · go_enter Tryz.func16, Tryz.ntmps16
    go_wp2_with fail
    rw [← HW1.out]
    refine HG.out.mono ?_
    rintro e w2 ⟨m, rfl, hin, hk, hp, hb2⟩
    obtain ⟨a, m2, rfl⟩ := MG.is_bx hk hin
    have HK := Lib.hid (bx_kind hin)
    have HP := Lib.hid hp
    have HB2 := Lib.hid (HB1.out.trans (hb2.mono HB1.out.size))
    clear hin hk hp hb2 x0 x1 x2 x3 xl
    rw [show (MG.bx a m2).enc.toArray = #[.int .i64 m2.kind, .iface (pT m2.kind) (.pointer (some ⟨a, 0, none⟩))] from rfl]
    go_wp2_with fail
    refine (isK0_calls _ _ _).mono ?_
    rintro e w3 ⟨rfl, hb3⟩
    have HB3 := Lib.hid ((HB2.out.alloc HB2.out.size _).trans (hb3.mono (HB2.out.alloc HB2.out.size _).size))
    clear hb3
    go_wp2_with fail
    refine bodyPost_ret (v := .bool ((m2.kind : Int) == 0)) (by simp [results, go_sem]) rfl ⟨?_, HB3.out⟩
    rw [← HP.out, HK.out]
  · go_enter Tryz.func16, Tryz.ntmps16
    go_wp2_with fail
    rw [← HW1.out]
    refine HG.out.mono ?_
    rintro e w2 ⟨m, rfl, hin, hk, hp, hb2⟩
    obtain ⟨a, m2, rfl⟩ := MG.is_bx hk hin
    have HK := Lib.hid (bx_kind hin)
    have HP := Lib.hid hp
    have HB2 := Lib.hid (HB1.out.trans (hb2.mono HB1.out.size))
    clear hin hk hp hb2 x0 x1 x2 x3 xl
    rw [show (MG.bx a m2).enc.toArray = #[.int .i64 m2.kind, .iface (pT m2.kind) (.pointer (some ⟨a, 0, none⟩))] from rfl]
    go_wp2_with fail
    refine (isK1_calls _ _ _).mono ?_
    rintro e w3 ⟨rfl, hb3⟩
    have HB3 := Lib.hid ((HB2.out.alloc HB2.out.size _).trans (hb3.mono (HB2.out.alloc HB2.out.size _).size))
    clear hb3
    go_wp2_with fail
    refine bodyPost_ret (v := .bool ((m2.kind : Int) == 1)) (by simp [results, go_sem]) rfl ⟨?_, HB3.out⟩
    rw [← HP.out, HK.out]
  · go_enter Tryz.func16, Tryz.ntmps16
    go_wp2_with fail
    rw [← HW1.out]
    refine HG.out.mono ?_
    rintro e w2 ⟨m, rfl, hin, hk, hp, hb2⟩
    obtain ⟨a, m2, rfl⟩ := MG.is_bx hk hin
    have HK := Lib.hid (bx_kind hin)
    have HP := Lib.hid hp
    have HB2 := Lib.hid (HB1.out.trans (hb2.mono HB1.out.size))
    clear hin hk hp hb2 x0 x1 x2 x3 xl
    rw [show (MG.bx a m2).enc.toArray = #[.int .i64 m2.kind, .iface (pT m2.kind) (.pointer (some ⟨a, 0, none⟩))] from rfl]
    go_wp2_with fail
    refine (isK2_calls _ _ _).mono ?_
    rintro e w3 ⟨rfl, hb3⟩
    have HB3 := Lib.hid ((HB2.out.alloc HB2.out.size _).trans (hb3.mono (HB2.out.alloc HB2.out.size _).size))
    clear hb3
    go_wp2_with fail
    refine bodyPost_ret (v := .bool ((m2.kind : Int) == 2)) (by simp [results, go_sem]) rfl ⟨?_, HB3.out⟩
    rw [← HP.out, HK.out]
  · go_enter Tryz.func16, Tryz.ntmps16
    go_wp2_with fail
    rw [← HW1.out]
    refine HG.out.mono ?_
    rintro e w2 ⟨m, rfl, hin, hk, hp, hb2⟩
    obtain ⟨a, m2, rfl⟩ := MG.is_bx hk hin
    have HK := Lib.hid (bx_kind hin)
    have HP := Lib.hid hp
    have HB2 := Lib.hid (HB1.out.trans (hb2.mono HB1.out.size))
    clear hin hk hp hb2 x0 x1 x2 x3 xl
    rw [show (MG.bx a m2).enc.toArray = #[.int .i64 m2.kind, .iface (pT m2.kind) (.pointer (some ⟨a, 0, none⟩))] from rfl]
    go_wp2_with fail
    refine (isK3_calls _ _ _).mono ?_
    rintro e w3 ⟨rfl, hb3⟩
    have HB3 := Lib.hid ((HB2.out.alloc HB2.out.size _).trans (hb3.mono (HB2.out.alloc HB2.out.size _).size))
    clear hb3
    go_wp2_with fail
    refine bodyPost_ret (v := .bool ((m2.kind : Int) == 3)) (by simp [results, go_sem]) rfl ⟨?_, HB3.out⟩
    rw [← HP.out, HK.out]
  · go_enter Tryz.func16, Tryz.ntmps16
    go_wp2_with fail
    rw [← HW1.out]
    refine HG.out.mono ?_
    rintro e w2 ⟨m, rfl, hin, hk, hp, hb2⟩
    obtain ⟨a, m2, rfl⟩ := MG.is_bx hk hin
    have HK := Lib.hid (bx_kind hin)
    have HP := Lib.hid hp
    have HB2 := Lib.hid (HB1.out.trans (hb2.mono HB1.out.size))
    clear hin hk hp hb2 x0 x1 x2 x3 xl
    rw [show (MG.bx a m2).enc.toArray = #[.int .i64 m2.kind, .iface (pT m2.kind) (.pointer (some ⟨a, 0, none⟩))] from rfl]
    go_wp2_with fail
    refine (isK4_calls _ _ _).mono ?_
    rintro e w3 ⟨rfl, hb3⟩
    have HB3 := Lib.hid ((HB2.out.alloc HB2.out.size _).trans (hb3.mono (HB2.out.alloc HB2.out.size _).size))
    clear hb3
    go_wp2_with fail
    refine bodyPost_ret (v := .bool ((m2.kind : Int) == 4)) (by simp [results, go_sem]) rfl ⟨?_, HB3.out⟩
    rw [← HP.out, HK.out]
  · go_enter Tryz.func16, Tryz.ntmps16
    go_wp2_with fail
    rw [← HW1.out]
    refine HG.out.mono ?_
    rintro e w2 ⟨m, rfl, hin, hk, hp, hb2⟩
    obtain ⟨a, m2, rfl⟩ := MG.is_bx hk hin
    have HK := Lib.hid (bx_kind hin)
    have HP := Lib.hid hp
    have HB2 := Lib.hid (HB1.out.trans (hb2.mono HB1.out.size))
    clear hin hk hp hb2 x0 x1 x2 x3 xl
    rw [show (MG.bx a m2).enc.toArray = #[.int .i64 m2.kind, .iface (pT m2.kind) (.pointer (some ⟨a, 0, none⟩))] from rfl]
    go_wp2_with fail
    refine (isK5_calls _ _ _).mono ?_
    rintro e w3 ⟨rfl, hb3⟩
    have HB3 := Lib.hid ((HB2.out.alloc HB2.out.size _).trans (hb3.mono (HB2.out.alloc HB2.out.size _).size))
    clear hb3
    go_wp2_with fail
    refine bodyPost_ret (v := .bool ((m2.kind : Int) == 5)) (by simp [results, go_sem]) rfl ⟨?_, HB3.out⟩
    rw [← HP.out, HK.out]
  · go_enter Tryz.func16, Tryz.ntmps16
    go_wp2_with fail
    rw [← HW1.out]
    refine HG.out.mono ?_
    rintro e w2 ⟨m, rfl, hin, hk, hp, hb2⟩
    obtain ⟨a, m2, rfl⟩ := MG.is_bx hk hin
    have HK := Lib.hid (bx_kind hin)
    have HP := Lib.hid hp
    have HB2 := Lib.hid (HB1.out.trans (hb2.mono HB1.out.size))
    clear hin hk hp hb2 x0 x1 x2 x3 xl
    rw [show (MG.bx a m2).enc.toArray = #[.int .i64 m2.kind, .iface (pT m2.kind) (.pointer (some ⟨a, 0, none⟩))] from rfl]
    go_wp2_with fail
    refine (isK6_calls _ _ _).mono ?_
    rintro e w3 ⟨rfl, hb3⟩
    have HB3 := Lib.hid ((HB2.out.alloc HB2.out.size _).trans (hb3.mono (HB2.out.alloc HB2.out.size _).size))
    clear hb3
    go_wp2_with fail
    refine bodyPost_ret (v := .bool ((m2.kind : Int) == 6)) (by simp [results, go_sem]) rfl ⟨?_, HB3.out⟩
    rw [← HP.out, HK.out]
end Go.Proofs.YtplphaaeibeheaaGreat.geo
