/-
  Contract: a point, told as plain data.
-/
import Derived.Test.YtpfgdfgifdbijaaDoorFfU
namespace Go.Proofs.YtpfgdfgifdbijaaDoor.pt
open Go.ChangeShapes Go.WideShapes Go.ChangeAt Go.RowKit
open Go.Proofs.YtpfgdfgifdbijaaDoor.mem Go.Proofs.YtpfgdfgifdbijaaDoor.geo
set_option linter.unusedVariables false
set_option linter.unusedSimpArgs false

/-- A point of such numbers, told as plain data, comes back. -/
def IP (W : World) (D : Nat) (fs : List Nat) (e : Ending) (w' : World) : Prop :=
  ∃ A k, e = .returned (.agg #[.int .i64 1, .int .i64 D, .slice A fs.length k, .slice none 0 0]) ∧ Sl w' w'.heap.size A fs.length 1 (FL fs) ∧ (∀ a, A = some a → W.heap.size ≤ a.block) ∧ Below W.heap.size W w'
/-- A row of numbers under way in a struct of plain data, beside a place. -/
structure PS (w0 : World) (g co base : Nat) (K : Int) (D : Nat) (q : Pl) (w : World) (v : Value) (n : Nat) (xs : List Value) : Prop where
  blk : Blk w g 34 #[.int .i64 K, .int .i64 D, v, .slice none 0 0]
  own : w.ownsRow base 22 1 v n xs
  cb : Blk w co 41 #[.float .f64 q.x, .float .f64 q.y, .float .f64 q.z, .float .f64 q.m, .int .u8 D]
  below : Below g w0 w
  sz : base ≤ w.heap.size
  gb : g < base
  gc : g < co
  ne : v.ownBlock ≠ some co
section
variable {w0 w w' : World} {g co base : Nat} {K : Int} {D : Nat} {q : Pl} {v v' : Value} {n n' : Nat} {xs xs' : List Value} {o : Obj}
theorem PS.mid (h : PS w0 g co base K D q w v n xs) (hg : (w.alloc o).grownBy w' v.ownBlock) : Blk w' g 34 #[.int .i64 K, .int .i64 D, v, .slice none 0 0] ∧ Blk w' co 41 #[.float .f64 q.x, .float .f64 q.y, .float .f64 q.z, .float .f64 q.m, .int .u8 D] ∧ Below g w0 w' :=
  ⟨(h.blk.alloc o).grown hg (fun e => by have := (h.own.lt _ e.symm).1; have := h.gb; omega), (h.cb.alloc o).grown hg (fun e => h.ne e.symm), (h.below.alloc (Nat.le_of_lt h.blk.lt) o).grown hg (by have := h.blk.lt; simp; omega) (fun r hr => by have := (h.own.lt r hr).1; have := h.gb; omega)⟩
theorem PS.next (h : PS w0 g co base K D q w v n xs) (hg : (w.alloc o).grownBy w' v.ownBlock) (ho : w'.ownsRow base 22 1 v' n' xs') (ha : v'.ownBlock = v.ownBlock ∨ v'.ownBlock = some (w.alloc o).heap.size) : PS w0 g co base K D q (w'.setCell ⟨g, 2, none⟩ v') v' n' xs' := by
  obtain ⟨m1, m2, -⟩ := h.mid hg
  have hgs := hg.size
  have hcl := h.cb.lt
  refine ⟨?_, ?_, ?_, ?_, ?_, h.gb, h.gc, ?_⟩
  · have := m1.set_ 2 v'
    simpa using this
  · exact ho.kept (grown_set w' ⟨g, 2, none⟩ v') (.inr (fun e => by have h1 := (ho.lt _ e).1; have := h.gb; simp at h1; omega))
  · exact m2.far (p := ⟨g, 2, none⟩) (fun e => by have := h.gc; have e : co = g := e; omega) _
  · exact ((h.below.alloc (Nat.le_of_lt h.blk.lt) o).grown hg (by have := h.blk.lt; simp; omega) (fun r hr => by have := (h.own.lt r hr).1; have := h.gb; omega)).setCell (Nat.le_refl _) _
  · have := h.sz
    simp at hgs ⊢
    omega
  · intro e
    rcases ha with ha | ha
    · exact h.ne (ha ▸ e)
    · rw [ha] at e
      have := Option.some.inj e
      simp at this
      omega
theorem sl_far {w : World} {A : Option Addr} {n c R i : Nat} {xs : List Value} {u : Value} (h : Sl w w.heap.size A n c xs) (hR : ∀ a, A = some a → R ≠ a.block) : Sl (w.setCell ⟨R, i, none⟩ u) (w.setCell ⟨R, i, none⟩ u).heap.size A n c xs := by
  refine ⟨h.1, h.2.1, fun hn => ?_⟩
  obtain ⟨b, off, rfl, hlt, hc⟩ := h.2.2 hn
  have hne : R ≠ b := hR _ rfl
  exact ⟨b, off, rfl, by simpa using hlt, fun j v hj => (World.cell?_setCell_far w ⟨R, i, none⟩ ⟨b, off + j, none⟩ u hne).trans (hc j v hj)⟩
theorem PS.fin {A : Option Addr} {k : Nat} {fs : List Nat} {W : World} {R : Nat} (h : PS w0 g co base 1 D q w (.slice A n k) n (FL fs)) (hn : fs.length = n)
    (hW : Below W.heap.size W w0) (hWR : W.heap.size ≤ R) (hR : R < w0.heap.size) (u0 u1 u2 u3 : Value) (hg0 : g = w0.heap.size := by rfl) :
    IP W D fs (.returned (.agg #[.int .i64 1, .int .i64 D, .slice A n k, .slice none 0 0])) ((((w.setCell ⟨R, 0, none⟩ u0).setCell ⟨R, 1, none⟩ u1).setCell ⟨R, 2, none⟩ u2).setCell ⟨R, 3, none⟩ u3) := by
  subst hg0
  have hgb := h.gb
  have hbw := hW.trans (h.below.mono hW.size)
  have hk : ∀ (w : World) (j : Nat) (u : Value), w.ownsRow base 22 1 (.slice A n k) n (FL fs) → (w.setCell ⟨R, j, none⟩ u).ownsRow base 22 1 (.slice A n k) n (FL fs) := fun w j u ho =>
    ho.kept (grown_set w ⟨R, j, none⟩ u) (.inr (fun e => by have h1 := (ho.lt _ e).1; simp at h1; omega))
  refine ⟨A, k, by rw [hn], ?_, fun a ha => ?_, (((hbw.setCell hWR _).setCell hWR _).setCell hWR _).setCell hWR _⟩
  · rw [hn]
    exact Sl.of_own (hk _ _ _ (hk _ _ _ (hk _ _ _ (hk _ _ _ h.own))))
  · have h1 := (h.own.lt a.block (by rw [ha]; rfl)).1
    have h2 := hW.size
    omega
end
theorem lit_new (w : World) (xs : List Value) (t : TypeId) (b : Nat) (hb : b = w.heap.size) : ∀ j u, xs[j]? = some u → (w.alloc (.cells xs.toArray t)).cell? ((⟨b, 0, none⟩ : Addr).add j) = some u := by
  subst hb
  exact cells_new w xs t
theorem lit_sl {w : World} {xs : List Value} {t : TypeId} {b m : Nat} (hb : b = w.heap.size) (hm : xs.length = m) (hl : m ≤ maxLen) : Sl (w.alloc (.cells xs.toArray t)) (b + 1) (some ⟨b, 0, none⟩) m 1 xs :=
  ⟨by omega, hl, fun _ => ⟨b, 0, rfl, Nat.lt_succ_self b, fun j u hu => by
    have := lit_new w xs t b hb j u hu
    rwa [mem.add_plain] at this⟩⟩
theorem lit_one (fs : List Nat) : ∀ u ∈ FL fs, u.oneCell' = true := FL_one fs
set_option maxHeartbeats 16000000 in
set_option maxRecDepth 100000 in
theorem plainPt0 (q : Pl) (w : World) :
    Calls Tryd.prog 15 #[.agg #[.float .f64 q.x, .float .f64 q.y, .float .f64 q.z, .float .f64 q.m, .int .u8 0, .bool true]] w (IP w 0 (emit 0 q)) := by
  obtain ⟨i0, hi, hz0, hz1, hz2⟩ := info_parts infoF
  obtain ⟨wA, hwA⟩ : ∃ wA, wA = (w.alloc (.cells #[.float .f64 q.x, .float .f64 q.y, .float .f64 q.z, .float .f64 q.m, .int .u8 0, .bool true] 48)).alloc (.cells #[.int .i64 0, .int .i64 0, .slice none 0 0, .slice none 0 0] 34) := ⟨_, rfl⟩
  have hbl : Below w.heap.size w wA := by rw [hwA]; exact ((Below.refl _ _).alloc (Nat.le_refl _) _).alloc (by simp) _
  have hB : Blk wA w.heap.size 48 #[.float .f64 q.x, .float .f64 q.y, .float .f64 q.z, .float .f64 q.m, .int .u8 0, .bool true] := by rw [hwA]; exact (Blk.new _ _ _).alloc _
  have hD : Blk wA (w.heap.size + 1) 34 #[.int .i64 0, .int .i64 0, .slice none 0 0, .slice none 0 0] := by
    rw [hwA]
    have := Blk.new (w.alloc (.cells #[.float .f64 q.x, .float .f64 q.y, .float .f64 q.z, .float .f64 q.m, .int .u8 0, .bool true] 48)) 34 #[.int .i64 0, .int .i64 0, .slice none 0 0, .slice none 0 0]
    simpa using this
  have HB := Lib.hid hB
  have HD := Lib.hid hD
  have HBL := Lib.hid hbl
  have HWA := Lib.hid hwA
  clear hwA hB hD hbl
  go_enter Tryd.func15, Tryd.ntmps15
  go_wp2_with fail
  rw [← HWA.out]
  refine (ctype1 _ _ _ _ _ _ _).mono ?_
  rintro e w1 ⟨rfl, hb1⟩
  have HB1 := Lib.hid (HB.out.below hb1 HB.out.lt)
  have HD1 := Lib.hid (HD.out.below hb1 HD.out.lt)
  have HBL1 := Lib.hid (HBL.out.trans (hb1.mono HBL.out.size))
  clear hb1 HB HD HBL HWA
  obtain ⟨wL, hwL⟩ : ∃ wL, wL = w1.alloc (.cells #[.int .i64 1, .int .i64 0, .slice none 0 0, .slice none 0 0] 34) := ⟨_, rfl⟩
  have hG : Blk wL w1.heap.size 34 #[.int .i64 1, .int .i64 0, .slice none 0 0, .slice none 0 0] := by rw [hwL]; exact Blk.new _ _ _
  have hbL : Below w1.heap.size w1 wL := by rw [hwL]; exact (Below.refl _ _).alloc (Nat.le_refl _) _
  have HWL := Lib.hid hwL
  have HG := Lib.hid hG
  have HBL2 := Lib.hid hbL
  obtain ⟨b0, b1, b2, b3, b4, b5, -, -, -, -, -, -, bl⟩ := cells6 HB1.out
  clear hwL hG hbL
  go_wp2_with fail
  rw [← HWL.out]
  refine (ptCoords_calls _ _ _ _ _ _ _).mono ?_
  rintro e w3 ⟨rfl, hb3⟩
  obtain ⟨base, hbase⟩ : ∃ base, base = w3.heap.size + 1 := ⟨_, rfl⟩
  have hs3 := hb3.size
  have hgw := HG.out.lt
  have P0 := Lib.hid (show PS w1 w1.heap.size w3.heap.size base 1 0 q (w3.alloc (.cells #[.float .f64 q.x, .float .f64 q.y, .float .f64 q.z, .float .f64 q.m, .int .u8 0] 41)) (.slice none 0 0) 0 [] from
    ⟨(HG.out.below hb3 HG.out.lt).alloc _, World.ownsRow_nil _ _ _ _, Blk.new _ _ _, (HBL2.out.trans (hb3.mono HBL2.out.size)).alloc (HBL2.out.trans (hb3.mono HBL2.out.size)).size _, by rw [hbase]; simp, by omega, by omega, fun h => by cases h⟩)
  obtain ⟨x0, x1, x2, x3, y0, y1, y2, y3, xl⟩ := cells4 (HG.out.below hb3 HG.out.lt)
  have hne1 : w1.heap.size ≠ w3.heap.size := by omega
  have hne2 : w3.heap.size ≠ w1.heap.size := by omega
  have hne3 : w.heap.size + 1 ≠ w1.heap.size := by have := HD1.out.lt; omega
  have hne4 : w1.heap.size ≠ w.heap.size + 1 := by omega
  have HBS := Lib.hid hbase
  clear hb3 b0 b1 b2 b3 b4 b5 bl hbase
  go_wp2_with (at_builtin; refine wpList_append_sl _ rfl (.tmp 19) (.tmp 26) 27 rfl base 22 i0 _ 1 8 Tryd.underlying27 hi hz0 hz1 hz2 rfl (by decide) _ (0) _ rfl (P0.out.own.alloc _) (w3.heap.size + 1 + 1) (some ⟨w3.heap.size + 1, 0, none⟩) 2 2 [.float .f64 q.x, .float .f64 q.y] rfl (lit_sl (by simp) rfl (by decide)) (lit_one [q.x, q.y]) (by unfold maxLen; omega) (by omega) (by have := P0.out.sz; simp at this ⊢; omega) ?_; intro A4 k4 w4 hown4 hgrow4 hat4
               have M4 := Lib.hid (P0.out.mid hgrow4)
               obtain ⟨x04, x14, x24, x34, y04, y14, y24, y34, xl4⟩ := cells4 M4.out.1
               obtain ⟨z04, z14, z24, z34, z44, -, -, -, -, -, zl4⟩ := cells5 M4.out.2.1
               have P4 := Lib.hid (P0.out.next hgrow4 hown4 hat4)
               clear x0 x1 x2 x3 y0 y1 y2 y3 xl; obtain ⟨r04, r14, r24, r34, p04, p14, p24, p34, rl4⟩ := cells4 (HD1.out.below M4.out.2.2 HD1.out.lt); clear hown4 hgrow4 hat4)
  refine (is3_calls (show 0 < 4 by decide) _).mono ?_
  rintro e w9 ⟨rfl, h9⟩
  subst h9
  go_wp2_with fail
  refine (isM_calls (show 0 < 4 by decide) _).mono ?_
  rintro e w9 ⟨rfl, h9⟩
  subst h9
  go_wp2_with fail
  exact bodyPost_ret (v := .agg #[.int .i64 1, .int .i64 0, .slice A4 (0 + 2) k4, .slice none 0 0]) (by simp [results, Tryd.results15, go_sem, r04, r14, r24, r34, rl4]) rfl (P4.out.fin (fs := emit 0 q) rfl HBL1.out (Nat.le_add_right _ 1) HD1.out.lt _ _ _ _)
set_option maxHeartbeats 16000000 in
set_option maxRecDepth 100000 in
theorem plainPt1 (q : Pl) (w : World) :
    Calls Tryd.prog 15 #[.agg #[.float .f64 q.x, .float .f64 q.y, .float .f64 q.z, .float .f64 q.m, .int .u8 1, .bool true]] w (IP w 1 (emit 1 q)) := by
  obtain ⟨i0, hi, hz0, hz1, hz2⟩ := info_parts infoF
  obtain ⟨wA, hwA⟩ : ∃ wA, wA = (w.alloc (.cells #[.float .f64 q.x, .float .f64 q.y, .float .f64 q.z, .float .f64 q.m, .int .u8 1, .bool true] 48)).alloc (.cells #[.int .i64 0, .int .i64 0, .slice none 0 0, .slice none 0 0] 34) := ⟨_, rfl⟩
  have hbl : Below w.heap.size w wA := by rw [hwA]; exact ((Below.refl _ _).alloc (Nat.le_refl _) _).alloc (by simp) _
  have hB : Blk wA w.heap.size 48 #[.float .f64 q.x, .float .f64 q.y, .float .f64 q.z, .float .f64 q.m, .int .u8 1, .bool true] := by rw [hwA]; exact (Blk.new _ _ _).alloc _
  have hD : Blk wA (w.heap.size + 1) 34 #[.int .i64 0, .int .i64 0, .slice none 0 0, .slice none 0 0] := by
    rw [hwA]
    have := Blk.new (w.alloc (.cells #[.float .f64 q.x, .float .f64 q.y, .float .f64 q.z, .float .f64 q.m, .int .u8 1, .bool true] 48)) 34 #[.int .i64 0, .int .i64 0, .slice none 0 0, .slice none 0 0]
    simpa using this
  have HB := Lib.hid hB
  have HD := Lib.hid hD
  have HBL := Lib.hid hbl
  have HWA := Lib.hid hwA
  clear hwA hB hD hbl
  go_enter Tryd.func15, Tryd.ntmps15
  go_wp2_with fail
  rw [← HWA.out]
  refine (ctype1 _ _ _ _ _ _ _).mono ?_
  rintro e w1 ⟨rfl, hb1⟩
  have HB1 := Lib.hid (HB.out.below hb1 HB.out.lt)
  have HD1 := Lib.hid (HD.out.below hb1 HD.out.lt)
  have HBL1 := Lib.hid (HBL.out.trans (hb1.mono HBL.out.size))
  clear hb1 HB HD HBL HWA
  obtain ⟨wL, hwL⟩ : ∃ wL, wL = w1.alloc (.cells #[.int .i64 1, .int .i64 1, .slice none 0 0, .slice none 0 0] 34) := ⟨_, rfl⟩
  have hG : Blk wL w1.heap.size 34 #[.int .i64 1, .int .i64 1, .slice none 0 0, .slice none 0 0] := by rw [hwL]; exact Blk.new _ _ _
  have hbL : Below w1.heap.size w1 wL := by rw [hwL]; exact (Below.refl _ _).alloc (Nat.le_refl _) _
  have HWL := Lib.hid hwL
  have HG := Lib.hid hG
  have HBL2 := Lib.hid hbL
  obtain ⟨b0, b1, b2, b3, b4, b5, -, -, -, -, -, -, bl⟩ := cells6 HB1.out
  clear hwL hG hbL
  go_wp2_with fail
  rw [← HWL.out]
  refine (ptCoords_calls _ _ _ _ _ _ _).mono ?_
  rintro e w3 ⟨rfl, hb3⟩
  obtain ⟨base, hbase⟩ : ∃ base, base = w3.heap.size + 1 := ⟨_, rfl⟩
  have hs3 := hb3.size
  have hgw := HG.out.lt
  have P0 := Lib.hid (show PS w1 w1.heap.size w3.heap.size base 1 1 q (w3.alloc (.cells #[.float .f64 q.x, .float .f64 q.y, .float .f64 q.z, .float .f64 q.m, .int .u8 1] 41)) (.slice none 0 0) 0 [] from
    ⟨(HG.out.below hb3 HG.out.lt).alloc _, World.ownsRow_nil _ _ _ _, Blk.new _ _ _, (HBL2.out.trans (hb3.mono HBL2.out.size)).alloc (HBL2.out.trans (hb3.mono HBL2.out.size)).size _, by rw [hbase]; simp, by omega, by omega, fun h => by cases h⟩)
  obtain ⟨x0, x1, x2, x3, y0, y1, y2, y3, xl⟩ := cells4 (HG.out.below hb3 HG.out.lt)
  have hne1 : w1.heap.size ≠ w3.heap.size := by omega
  have hne2 : w3.heap.size ≠ w1.heap.size := by omega
  have hne3 : w.heap.size + 1 ≠ w1.heap.size := by have := HD1.out.lt; omega
  have hne4 : w1.heap.size ≠ w.heap.size + 1 := by omega
  have HBS := Lib.hid hbase
  clear hb3 b0 b1 b2 b3 b4 b5 bl hbase
  go_wp2_with (at_builtin; refine wpList_append_sl _ rfl (.tmp 19) (.tmp 26) 27 rfl base 22 i0 _ 1 8 Tryd.underlying27 hi hz0 hz1 hz2 rfl (by decide) _ (0) _ rfl (P0.out.own.alloc _) (w3.heap.size + 1 + 1) (some ⟨w3.heap.size + 1, 0, none⟩) 2 2 [.float .f64 q.x, .float .f64 q.y] rfl (lit_sl (by simp) rfl (by decide)) (lit_one [q.x, q.y]) (by unfold maxLen; omega) (by omega) (by have := P0.out.sz; simp at this ⊢; omega) ?_; intro A4 k4 w4 hown4 hgrow4 hat4
               have M4 := Lib.hid (P0.out.mid hgrow4)
               obtain ⟨x04, x14, x24, x34, y04, y14, y24, y34, xl4⟩ := cells4 M4.out.1
               obtain ⟨z04, z14, z24, z34, z44, -, -, -, -, -, zl4⟩ := cells5 M4.out.2.1
               have P4 := Lib.hid (P0.out.next hgrow4 hown4 hat4)
               clear x0 x1 x2 x3 y0 y1 y2 y3 xl; obtain ⟨r04, r14, r24, r34, p04, p14, p24, p34, rl4⟩ := cells4 (HD1.out.below M4.out.2.2 HD1.out.lt); clear hown4 hgrow4 hat4)
  refine (is3_calls (show 1 < 4 by decide) _).mono ?_
  rintro e w9 ⟨rfl, h9⟩
  subst h9
  go_wp2_with (at_builtin; refine wpList_append_sl _ rfl (.tmp 33) (.tmp 36) 27 rfl base 22 i0 _ 1 8 Tryd.underlying27 hi hz0 hz1 hz2 rfl (by decide) _ (0 + 2) _ rfl (P4.out.own.alloc _) (w4.heap.size + 1) (some ⟨w4.heap.size, 0, none⟩) 1 1 [.float .f64 q.z] rfl (lit_sl (by simp) rfl (by decide)) (lit_one [q.z]) (by unfold maxLen; omega) (by omega) (by have := P4.out.sz; simp at this ⊢; omega) ?_; intro A5 k5 w5 hown5 hgrow5 hat5
               have M5 := Lib.hid (P4.out.mid hgrow5)
               obtain ⟨x05, x15, x25, x35, y05, y15, y25, y35, xl5⟩ := cells4 M5.out.1
               obtain ⟨z05, z15, z25, z35, z45, -, -, -, -, -, zl5⟩ := cells5 M5.out.2.1
               have P5 := Lib.hid (P4.out.next hgrow5 hown5 hat5)
               clear x04 x14 x24 x34 y04 y14 y24 y34 xl4 z04 z14 z24 z34 z44 zl4 r04 r14 r24 r34 p04 p14 p24 p34 rl4; obtain ⟨r05, r15, r25, r35, p05, p15, p25, p35, rl5⟩ := cells4 (HD1.out.below M5.out.2.2 HD1.out.lt); clear hown5 hgrow5 hat5)
  refine (isM_calls (show 1 < 4 by decide) _).mono ?_
  rintro e w9 ⟨rfl, h9⟩
  subst h9
  go_wp2_with fail
  exact bodyPost_ret (v := .agg #[.int .i64 1, .int .i64 1, .slice A5 (0 + 2 + 1) k5, .slice none 0 0]) (by simp [results, Tryd.results15, go_sem, r05, r15, r25, r35, rl5]) rfl (P5.out.fin (fs := emit 1 q) rfl HBL1.out (Nat.le_add_right _ 1) HD1.out.lt _ _ _ _)
set_option maxHeartbeats 16000000 in
set_option maxRecDepth 100000 in
theorem plainPt2 (q : Pl) (w : World) :
    Calls Tryd.prog 15 #[.agg #[.float .f64 q.x, .float .f64 q.y, .float .f64 q.z, .float .f64 q.m, .int .u8 2, .bool true]] w (IP w 2 (emit 2 q)) := by
  obtain ⟨i0, hi, hz0, hz1, hz2⟩ := info_parts infoF
  obtain ⟨wA, hwA⟩ : ∃ wA, wA = (w.alloc (.cells #[.float .f64 q.x, .float .f64 q.y, .float .f64 q.z, .float .f64 q.m, .int .u8 2, .bool true] 48)).alloc (.cells #[.int .i64 0, .int .i64 0, .slice none 0 0, .slice none 0 0] 34) := ⟨_, rfl⟩
  have hbl : Below w.heap.size w wA := by rw [hwA]; exact ((Below.refl _ _).alloc (Nat.le_refl _) _).alloc (by simp) _
  have hB : Blk wA w.heap.size 48 #[.float .f64 q.x, .float .f64 q.y, .float .f64 q.z, .float .f64 q.m, .int .u8 2, .bool true] := by rw [hwA]; exact (Blk.new _ _ _).alloc _
  have hD : Blk wA (w.heap.size + 1) 34 #[.int .i64 0, .int .i64 0, .slice none 0 0, .slice none 0 0] := by
    rw [hwA]
    have := Blk.new (w.alloc (.cells #[.float .f64 q.x, .float .f64 q.y, .float .f64 q.z, .float .f64 q.m, .int .u8 2, .bool true] 48)) 34 #[.int .i64 0, .int .i64 0, .slice none 0 0, .slice none 0 0]
    simpa using this
  have HB := Lib.hid hB
  have HD := Lib.hid hD
  have HBL := Lib.hid hbl
  have HWA := Lib.hid hwA
  clear hwA hB hD hbl
  go_enter Tryd.func15, Tryd.ntmps15
  go_wp2_with fail
  rw [← HWA.out]
  refine (ctype1 _ _ _ _ _ _ _).mono ?_
  rintro e w1 ⟨rfl, hb1⟩
  have HB1 := Lib.hid (HB.out.below hb1 HB.out.lt)
  have HD1 := Lib.hid (HD.out.below hb1 HD.out.lt)
  have HBL1 := Lib.hid (HBL.out.trans (hb1.mono HBL.out.size))
  clear hb1 HB HD HBL HWA
  obtain ⟨wL, hwL⟩ : ∃ wL, wL = w1.alloc (.cells #[.int .i64 1, .int .i64 2, .slice none 0 0, .slice none 0 0] 34) := ⟨_, rfl⟩
  have hG : Blk wL w1.heap.size 34 #[.int .i64 1, .int .i64 2, .slice none 0 0, .slice none 0 0] := by rw [hwL]; exact Blk.new _ _ _
  have hbL : Below w1.heap.size w1 wL := by rw [hwL]; exact (Below.refl _ _).alloc (Nat.le_refl _) _
  have HWL := Lib.hid hwL
  have HG := Lib.hid hG
  have HBL2 := Lib.hid hbL
  obtain ⟨b0, b1, b2, b3, b4, b5, -, -, -, -, -, -, bl⟩ := cells6 HB1.out
  clear hwL hG hbL
  go_wp2_with fail
  rw [← HWL.out]
  refine (ptCoords_calls _ _ _ _ _ _ _).mono ?_
  rintro e w3 ⟨rfl, hb3⟩
  obtain ⟨base, hbase⟩ : ∃ base, base = w3.heap.size + 1 := ⟨_, rfl⟩
  have hs3 := hb3.size
  have hgw := HG.out.lt
  have P0 := Lib.hid (show PS w1 w1.heap.size w3.heap.size base 1 2 q (w3.alloc (.cells #[.float .f64 q.x, .float .f64 q.y, .float .f64 q.z, .float .f64 q.m, .int .u8 2] 41)) (.slice none 0 0) 0 [] from
    ⟨(HG.out.below hb3 HG.out.lt).alloc _, World.ownsRow_nil _ _ _ _, Blk.new _ _ _, (HBL2.out.trans (hb3.mono HBL2.out.size)).alloc (HBL2.out.trans (hb3.mono HBL2.out.size)).size _, by rw [hbase]; simp, by omega, by omega, fun h => by cases h⟩)
  obtain ⟨x0, x1, x2, x3, y0, y1, y2, y3, xl⟩ := cells4 (HG.out.below hb3 HG.out.lt)
  have hne1 : w1.heap.size ≠ w3.heap.size := by omega
  have hne2 : w3.heap.size ≠ w1.heap.size := by omega
  have hne3 : w.heap.size + 1 ≠ w1.heap.size := by have := HD1.out.lt; omega
  have hne4 : w1.heap.size ≠ w.heap.size + 1 := by omega
  have HBS := Lib.hid hbase
  clear hb3 b0 b1 b2 b3 b4 b5 bl hbase
  go_wp2_with (at_builtin; refine wpList_append_sl _ rfl (.tmp 19) (.tmp 26) 27 rfl base 22 i0 _ 1 8 Tryd.underlying27 hi hz0 hz1 hz2 rfl (by decide) _ (0) _ rfl (P0.out.own.alloc _) (w3.heap.size + 1 + 1) (some ⟨w3.heap.size + 1, 0, none⟩) 2 2 [.float .f64 q.x, .float .f64 q.y] rfl (lit_sl (by simp) rfl (by decide)) (lit_one [q.x, q.y]) (by unfold maxLen; omega) (by omega) (by have := P0.out.sz; simp at this ⊢; omega) ?_; intro A4 k4 w4 hown4 hgrow4 hat4
               have M4 := Lib.hid (P0.out.mid hgrow4)
               obtain ⟨x04, x14, x24, x34, y04, y14, y24, y34, xl4⟩ := cells4 M4.out.1
               obtain ⟨z04, z14, z24, z34, z44, -, -, -, -, -, zl4⟩ := cells5 M4.out.2.1
               have P4 := Lib.hid (P0.out.next hgrow4 hown4 hat4)
               clear x0 x1 x2 x3 y0 y1 y2 y3 xl; obtain ⟨r04, r14, r24, r34, p04, p14, p24, p34, rl4⟩ := cells4 (HD1.out.below M4.out.2.2 HD1.out.lt); clear hown4 hgrow4 hat4)
  refine (is3_calls (show 2 < 4 by decide) _).mono ?_
  rintro e w9 ⟨rfl, h9⟩
  subst h9
  go_wp2_with fail
  refine (isM_calls (show 2 < 4 by decide) _).mono ?_
  rintro e w9 ⟨rfl, h9⟩
  subst h9
  go_wp2_with (at_builtin; refine wpList_append_sl _ rfl (.tmp 43) (.tmp 46) 27 rfl base 22 i0 _ 1 8 Tryd.underlying27 hi hz0 hz1 hz2 rfl (by decide) _ (0 + 2) _ rfl (P4.out.own.alloc _) (w4.heap.size + 1) (some ⟨w4.heap.size, 0, none⟩) 1 1 [.float .f64 q.m] rfl (lit_sl (by simp) rfl (by decide)) (lit_one [q.m]) (by unfold maxLen; omega) (by omega) (by have := P4.out.sz; simp at this ⊢; omega) ?_; intro A6 k6 w6 hown6 hgrow6 hat6
               have M6 := Lib.hid (P4.out.mid hgrow6)
               obtain ⟨x06, x16, x26, x36, y06, y16, y26, y36, xl6⟩ := cells4 M6.out.1
               obtain ⟨z06, z16, z26, z36, z46, -, -, -, -, -, zl6⟩ := cells5 M6.out.2.1
               have P6 := Lib.hid (P4.out.next hgrow6 hown6 hat6)
               clear x04 x14 x24 x34 y04 y14 y24 y34 xl4 z04 z14 z24 z34 z44 zl4 r04 r14 r24 r34 p04 p14 p24 p34 rl4; obtain ⟨r06, r16, r26, r36, p06, p16, p26, p36, rl6⟩ := cells4 (HD1.out.below M6.out.2.2 HD1.out.lt); clear hown6 hgrow6 hat6)
  exact bodyPost_ret (v := .agg #[.int .i64 1, .int .i64 2, .slice A6 (0 + 2 + 1) k6, .slice none 0 0]) (by simp [results, Tryd.results15, go_sem, r06, r16, r26, r36, rl6]) rfl (P6.out.fin (fs := emit 2 q) rfl HBL1.out (Nat.le_add_right _ 1) HD1.out.lt _ _ _ _)
set_option maxHeartbeats 16000000 in
set_option maxRecDepth 100000 in
theorem plainPt3 (q : Pl) (w : World) :
    Calls Tryd.prog 15 #[.agg #[.float .f64 q.x, .float .f64 q.y, .float .f64 q.z, .float .f64 q.m, .int .u8 3, .bool true]] w (IP w 3 (emit 3 q)) := by
  obtain ⟨i0, hi, hz0, hz1, hz2⟩ := info_parts infoF
  obtain ⟨wA, hwA⟩ : ∃ wA, wA = (w.alloc (.cells #[.float .f64 q.x, .float .f64 q.y, .float .f64 q.z, .float .f64 q.m, .int .u8 3, .bool true] 48)).alloc (.cells #[.int .i64 0, .int .i64 0, .slice none 0 0, .slice none 0 0] 34) := ⟨_, rfl⟩
  have hbl : Below w.heap.size w wA := by rw [hwA]; exact ((Below.refl _ _).alloc (Nat.le_refl _) _).alloc (by simp) _
  have hB : Blk wA w.heap.size 48 #[.float .f64 q.x, .float .f64 q.y, .float .f64 q.z, .float .f64 q.m, .int .u8 3, .bool true] := by rw [hwA]; exact (Blk.new _ _ _).alloc _
  have hD : Blk wA (w.heap.size + 1) 34 #[.int .i64 0, .int .i64 0, .slice none 0 0, .slice none 0 0] := by
    rw [hwA]
    have := Blk.new (w.alloc (.cells #[.float .f64 q.x, .float .f64 q.y, .float .f64 q.z, .float .f64 q.m, .int .u8 3, .bool true] 48)) 34 #[.int .i64 0, .int .i64 0, .slice none 0 0, .slice none 0 0]
    simpa using this
  have HB := Lib.hid hB
  have HD := Lib.hid hD
  have HBL := Lib.hid hbl
  have HWA := Lib.hid hwA
  clear hwA hB hD hbl
  go_enter Tryd.func15, Tryd.ntmps15
  go_wp2_with fail
  rw [← HWA.out]
  refine (ctype1 _ _ _ _ _ _ _).mono ?_
  rintro e w1 ⟨rfl, hb1⟩
  have HB1 := Lib.hid (HB.out.below hb1 HB.out.lt)
  have HD1 := Lib.hid (HD.out.below hb1 HD.out.lt)
  have HBL1 := Lib.hid (HBL.out.trans (hb1.mono HBL.out.size))
  clear hb1 HB HD HBL HWA
  obtain ⟨wL, hwL⟩ : ∃ wL, wL = w1.alloc (.cells #[.int .i64 1, .int .i64 3, .slice none 0 0, .slice none 0 0] 34) := ⟨_, rfl⟩
  have hG : Blk wL w1.heap.size 34 #[.int .i64 1, .int .i64 3, .slice none 0 0, .slice none 0 0] := by rw [hwL]; exact Blk.new _ _ _
  have hbL : Below w1.heap.size w1 wL := by rw [hwL]; exact (Below.refl _ _).alloc (Nat.le_refl _) _
  have HWL := Lib.hid hwL
  have HG := Lib.hid hG
  have HBL2 := Lib.hid hbL
  obtain ⟨b0, b1, b2, b3, b4, b5, -, -, -, -, -, -, bl⟩ := cells6 HB1.out
  clear hwL hG hbL
  go_wp2_with fail
  rw [← HWL.out]
  refine (ptCoords_calls _ _ _ _ _ _ _).mono ?_
  rintro e w3 ⟨rfl, hb3⟩
  obtain ⟨base, hbase⟩ : ∃ base, base = w3.heap.size + 1 := ⟨_, rfl⟩
  have hs3 := hb3.size
  have hgw := HG.out.lt
  have P0 := Lib.hid (show PS w1 w1.heap.size w3.heap.size base 1 3 q (w3.alloc (.cells #[.float .f64 q.x, .float .f64 q.y, .float .f64 q.z, .float .f64 q.m, .int .u8 3] 41)) (.slice none 0 0) 0 [] from
    ⟨(HG.out.below hb3 HG.out.lt).alloc _, World.ownsRow_nil _ _ _ _, Blk.new _ _ _, (HBL2.out.trans (hb3.mono HBL2.out.size)).alloc (HBL2.out.trans (hb3.mono HBL2.out.size)).size _, by rw [hbase]; simp, by omega, by omega, fun h => by cases h⟩)
  obtain ⟨x0, x1, x2, x3, y0, y1, y2, y3, xl⟩ := cells4 (HG.out.below hb3 HG.out.lt)
  have hne1 : w1.heap.size ≠ w3.heap.size := by omega
  have hne2 : w3.heap.size ≠ w1.heap.size := by omega
  have hne3 : w.heap.size + 1 ≠ w1.heap.size := by have := HD1.out.lt; omega
  have hne4 : w1.heap.size ≠ w.heap.size + 1 := by omega
  have HBS := Lib.hid hbase
  clear hb3 b0 b1 b2 b3 b4 b5 bl hbase
  go_wp2_with (at_builtin; refine wpList_append_sl _ rfl (.tmp 19) (.tmp 26) 27 rfl base 22 i0 _ 1 8 Tryd.underlying27 hi hz0 hz1 hz2 rfl (by decide) _ (0) _ rfl (P0.out.own.alloc _) (w3.heap.size + 1 + 1) (some ⟨w3.heap.size + 1, 0, none⟩) 2 2 [.float .f64 q.x, .float .f64 q.y] rfl (lit_sl (by simp) rfl (by decide)) (lit_one [q.x, q.y]) (by unfold maxLen; omega) (by omega) (by have := P0.out.sz; simp at this ⊢; omega) ?_; intro A4 k4 w4 hown4 hgrow4 hat4
               have M4 := Lib.hid (P0.out.mid hgrow4)
               obtain ⟨x04, x14, x24, x34, y04, y14, y24, y34, xl4⟩ := cells4 M4.out.1
               obtain ⟨z04, z14, z24, z34, z44, -, -, -, -, -, zl4⟩ := cells5 M4.out.2.1
               have P4 := Lib.hid (P0.out.next hgrow4 hown4 hat4)
               clear x0 x1 x2 x3 y0 y1 y2 y3 xl; obtain ⟨r04, r14, r24, r34, p04, p14, p24, p34, rl4⟩ := cells4 (HD1.out.below M4.out.2.2 HD1.out.lt); clear hown4 hgrow4 hat4)
  refine (is3_calls (show 3 < 4 by decide) _).mono ?_
  rintro e w9 ⟨rfl, h9⟩
  subst h9
  go_wp2_with (at_builtin; refine wpList_append_sl _ rfl (.tmp 33) (.tmp 36) 27 rfl base 22 i0 _ 1 8 Tryd.underlying27 hi hz0 hz1 hz2 rfl (by decide) _ (0 + 2) _ rfl (P4.out.own.alloc _) (w4.heap.size + 1) (some ⟨w4.heap.size, 0, none⟩) 1 1 [.float .f64 q.z] rfl (lit_sl (by simp) rfl (by decide)) (lit_one [q.z]) (by unfold maxLen; omega) (by omega) (by have := P4.out.sz; simp at this ⊢; omega) ?_; intro A5 k5 w5 hown5 hgrow5 hat5
               have M5 := Lib.hid (P4.out.mid hgrow5)
               obtain ⟨x05, x15, x25, x35, y05, y15, y25, y35, xl5⟩ := cells4 M5.out.1
               obtain ⟨z05, z15, z25, z35, z45, -, -, -, -, -, zl5⟩ := cells5 M5.out.2.1
               have P5 := Lib.hid (P4.out.next hgrow5 hown5 hat5)
               clear x04 x14 x24 x34 y04 y14 y24 y34 xl4 z04 z14 z24 z34 z44 zl4 r04 r14 r24 r34 p04 p14 p24 p34 rl4; obtain ⟨r05, r15, r25, r35, p05, p15, p25, p35, rl5⟩ := cells4 (HD1.out.below M5.out.2.2 HD1.out.lt); clear hown5 hgrow5 hat5)
  refine (isM_calls (show 3 < 4 by decide) _).mono ?_
  rintro e w9 ⟨rfl, h9⟩
  subst h9
  go_wp2_with (at_builtin; refine wpList_append_sl _ rfl (.tmp 43) (.tmp 46) 27 rfl base 22 i0 _ 1 8 Tryd.underlying27 hi hz0 hz1 hz2 rfl (by decide) _ (0 + 2 + 1) _ rfl (P5.out.own.alloc _) (w5.heap.size + 1) (some ⟨w5.heap.size, 0, none⟩) 1 1 [.float .f64 q.m] rfl (lit_sl (by simp) rfl (by decide)) (lit_one [q.m]) (by unfold maxLen; omega) (by omega) (by have := P5.out.sz; simp at this ⊢; omega) ?_; intro A6 k6 w6 hown6 hgrow6 hat6
               have M6 := Lib.hid (P5.out.mid hgrow6)
               obtain ⟨x06, x16, x26, x36, y06, y16, y26, y36, xl6⟩ := cells4 M6.out.1
               obtain ⟨z06, z16, z26, z36, z46, -, -, -, -, -, zl6⟩ := cells5 M6.out.2.1
               have P6 := Lib.hid (P5.out.next hgrow6 hown6 hat6)
               clear x05 x15 x25 x35 y05 y15 y25 y35 xl5 z05 z15 z25 z35 z45 zl5 r05 r15 r25 r35 p05 p15 p25 p35 rl5; obtain ⟨r06, r16, r26, r36, p06, p16, p26, p36, rl6⟩ := cells4 (HD1.out.below M6.out.2.2 HD1.out.lt); clear hown6 hgrow6 hat6)
  exact bodyPost_ret (v := .agg #[.int .i64 1, .int .i64 3, .slice A6 (0 + 2 + 1 + 1) k6, .slice none 0 0]) (by simp [results, Tryd.results15, go_sem, r06, r16, r26, r36, rl6]) rfl (P6.out.fin (fs := emit 3 q) rfl HBL1.out (Nat.le_add_right _ 1) HD1.out.lt _ _ _ _)
theorem plainPt_calls {d : Nat} (hd : d < 4) (q : Pl) (w : World) :
    Calls Tryd.prog 15 #[.agg #[.float .f64 q.x, .float .f64 q.y, .float .f64 q.z, .float .f64 q.m, .int .u8 d, .bool true]] w (IP w d (emit d q)) := by
  obtain rfl | rfl | rfl | rfl := four hd
  · exact plainPt0 q w
  · exact plainPt1 q w
  · exact plainPt2 q w
  · exact plainPt3 q w
end Go.Proofs.YtpfgdfgifdbijaaDoor.pt
