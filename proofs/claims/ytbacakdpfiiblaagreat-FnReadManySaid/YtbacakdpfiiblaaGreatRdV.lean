/-
  Contract of the package's reader: what follows a head, kind by kind.
-/
import Derived.Test.YtbacakdpfiiblaaGreatRdQ
namespace Go.Proofs.YtbacakdpfiiblaaGreat.geo
open Go.ChangeShapes Go.WideShapes Go.ChangeAt Go.RowKit
open Go.Proofs.YtbacakdpfiiblaaGreat.mem
set_option linter.unusedVariables false
set_option linter.unusedSimpArgs false

/-- What follows a head was read. -/
def RtPost (S : Nat → Prop) (w : World) (P k : Nat) (o : Option (PG × List Nat)) (e : Ending) (w' : World) : Prop :=
  w.grownBy w' (some P) ∧ match o with
    | none => Bod w' P ∧ ∃ (v : Value) (T : TypeId) (x : Value), (v = .nilIface ∨ ∃ T2 x2, v = .iface T2 x2) ∧ e = .returned (.tuple #[.agg #[.int .i64 k, v], .iface T x])
    | some (p, r) => ∃ a m b, e = .returned (.tuple #[.agg (MG.bx a m).enc.toArray, .nilIface]) ∧ (MG.bx a m).In (fun a => w.heap.size ≤ a) w' ∧ m.kind = k ∧ m.plain = p ∧ WPs S w' P b r
section
variable {S : Nat → Prop} {w : World} {P N d : Nat} {big : Bool} {l : List Nat} {fi : List Nat → Option (PG × List Nat)}
set_option maxHeartbeats 8000000 in
set_option maxRecDepth 100000 in
theorem root1_calls (hd : d < 4) (h : WPs S w P big l) :
    Calls Tryz.prog 150 #[.pointer (some ⟨P, 0, none⟩), .int .i64 1, .int .u8 d] w (RtPost S w P 1 (rdPt d big l)) := by
  obtain ⟨w1, hw1⟩ : ∃ w1, w1 = w.alloc (.cells #[.int .i64 0, .nilIface] 47) := ⟨_, rfl⟩
  have hb1 : Below w.heap.size w w1 := by rw [hw1]; exact (Below.refl _ _).alloc (Nat.le_refl _) _
  have hz1 : Blk w1 w.heap.size 47 #[.int .i64 0, .nilIface] := by rw [hw1]; exact Blk.new _ _ _
  have HC := Lib.hid (parsePt_calls hd (h.below hb1))
  obtain ⟨o, ho⟩ : ∃ o, o = rdPt d big l := ⟨_, rfl⟩
  rw [← ho] at HC ⊢
  have hPw := h.lt
  have HW1 := Lib.hid hw1
  have HB1 := Lib.hid hb1
  have HZ1 := Lib.hid hz1
  clear hw1 hb1 hz1 ho h
  go_enter Tryz.func150, Tryz.ntmps150
  go_upto_region 1 with fail
  rw [← HW1.out]
  go_wp2_with fail
  refine HC.out.mono ?_
  rintro e w2 ⟨m, hmk, hmi, hg, hx⟩
  obtain ⟨d2, full2, p2, rfl⟩ := MG.is_pt hmk hmi
  have hz2 := HZ1.out.grown hg (fun e => by have := Option.some.inj e; omega)
  have HZ2 := Lib.hid hz2
  have HGR := Lib.hid (grown_trans (grown_below HB1.out) hg)
  have HMI := Lib.hid (show (MG.pt d2 full2 p2).In (fun a => w.heap.size < a) w2 from MG.less (fun a ha => by have h1 : w1.heap.size ≤ a := ha; have h2 := HZ1.out.lt; show w.heap.size < a; omega) hmi)
  have hlt2 : w.heap.size < w2.heap.size := HZ2.out.lt
  rw [show (MG.pt d2 full2 p2).enc.toArray = #[.float .f64 p2.x, .float .f64 p2.y, .float .f64 p2.z, .float .f64 p2.m, .int .u8 d2, .bool full2] from rfl] at hx
  clear hz2 hg hmi hmk
  cases o with
  | none =>
    obtain ⟨hbo, T, xe, rfl⟩ := hx
    have HBO := Lib.hid hbo
    clear hbo
    obtain ⟨w3, hw3⟩ : ∃ w3, w3 = w2.alloc (.cells #[.float .f64 p2.x, .float .f64 p2.y, .float .f64 p2.z, .float .f64 p2.m, .int .u8 d2, .bool full2] 77) := ⟨_, rfl⟩
    have hb3 : Below w2.heap.size w2 w3 := by rw [hw3]; exact (Below.refl _ _).alloc (Nat.le_refl _) _
    have hg3 : Blk w3 w2.heap.size 77 #[.float .f64 p2.x, .float .f64 p2.y, .float .f64 p2.z, .float .f64 p2.m, .int .u8 d2, .bool full2] := by rw [hw3]; exact Blk.new _ _ _
    have HW3 := Lib.hid hw3
    have HB3 := Lib.hid hb3
    obtain ⟨q0, q1, q2, q3, q4, q5, -, -, -, -, -, -, ql⟩ := cells6 hg3
    clear hw3 hb3 hg3
    go_upto_region 5 with fail
    rw [← HW3.out]
    go_wp2_with fail
    refine (asGeo1 _ _ _ _ _ _ _).mono ?_
    rintro e w4 ⟨a, rfl, hblk, hae, hb4⟩
    have hb24 := HB3.out.trans (hb4.mono HB3.out.size)
    have HB24 := Lib.hid hb24
    have HBLK := Lib.hid hblk
    have HAE := Lib.hid (show w2.heap.size ≤ a from Nat.le_trans HB3.out.size hae)
    obtain ⟨z0, z1, y0, y1, zl⟩ := cells2 (HZ2.out.below hb24 HZ2.out.lt)
    clear hblk hae hb4 hb24
    go_wp2_with fail
    refine bodyPost_ret (v := .tuple #[.agg #[.int .i64 1, .iface (pT 1) (.pointer (some ⟨a, 0, none⟩))], .iface T xe]) (by simp [results, Tryz.results150, go_sem, z0, z1, zl, pT]) rfl ?_
    exact ⟨far_grown (far_grown (grown_trans HGR.out (grown_below HB24.out)) (Nat.le_refl _) 0 _) (Nat.le_refl _) 1 _, ((HBO.out.below HB24.out).far (i := 0) hPw _).far (i := 1) hPw _, _, _, _, .inr ⟨_, _, rfl⟩, rfl⟩
  | some p =>
    obtain ⟨p, r⟩ := p
    obtain ⟨rfl, hpl, hws⟩ := hx
    have HPL := Lib.hid hpl
    have HWS := Lib.hid hws
    clear hpl hws
    obtain ⟨w3, hw3⟩ : ∃ w3, w3 = w2.alloc (.cells #[.float .f64 p2.x, .float .f64 p2.y, .float .f64 p2.z, .float .f64 p2.m, .int .u8 d2, .bool full2] 77) := ⟨_, rfl⟩
    have hb3 : Below w2.heap.size w2 w3 := by rw [hw3]; exact (Below.refl _ _).alloc (Nat.le_refl _) _
    have hg3 : Blk w3 w2.heap.size 77 #[.float .f64 p2.x, .float .f64 p2.y, .float .f64 p2.z, .float .f64 p2.m, .int .u8 d2, .bool full2] := by rw [hw3]; exact Blk.new _ _ _
    have HW3 := Lib.hid hw3
    have HB3 := Lib.hid hb3
    obtain ⟨q0, q1, q2, q3, q4, q5, -, -, -, -, -, -, ql⟩ := cells6 hg3
    clear hw3 hb3 hg3
    go_upto_region 5 with fail
    rw [← HW3.out]
    go_wp2_with fail
    refine (asGeo1 _ _ _ _ _ _ _).mono ?_
    rintro e w4 ⟨a, rfl, hblk, hae, hb4⟩
    have hb24 := HB3.out.trans (hb4.mono HB3.out.size)
    have HB24 := Lib.hid hb24
    have HBLK := Lib.hid hblk
    have HAE := Lib.hid (show w2.heap.size ≤ a from Nat.le_trans HB3.out.size hae)
    obtain ⟨z0, z1, y0, y1, zl⟩ := cells2 (HZ2.out.below hb24 HZ2.out.lt)
    clear hblk hae hb4 hb24
    go_wp2_with fail
    refine bodyPost_ret (v := .tuple #[.agg #[.int .i64 1, .iface (pT 1) (.pointer (some ⟨a, 0, none⟩))], .nilIface]) (by simp [results, Tryz.results150, go_sem, z0, z1, zl, pT]) rfl ?_
    have hT : ¬ (fun a => w.heap.size < a) w.heap.size := Nat.lt_irrefl _
    have hae := HAE.out
    refine ⟨far_grown (far_grown (grown_trans HGR.out (grown_below HB24.out)) (Nat.le_refl _) 0 _) (Nat.le_refl _) 1 _, a, MG.pt d2 full2 p2, big, rfl, ?_, rfl, HPL.out, ((HWS.out.below HB24.out).far (g := w.heap.size) (i := 0) hPw _).far (g := w.heap.size) (i := 1) hPw _⟩
    rw [MG.In]
    refine ⟨(show (1 : Nat) < 7 by decide), by show w.heap.size ≤ a; omega, ?_, ?_⟩
    · exact (HBLK.out.far (p := ⟨w.heap.size, 0, none⟩) (show a ≠ w.heap.size by omega) _).far (p := ⟨w.heap.size, 1, none⟩) (show a ≠ w.heap.size by omega) _
    · exact MG.less (fun a ha => Nat.le_of_lt ha) (MG.keep (((Keeps.of_below HB24.out).setFar hT _).setFar hT _) HMI.out)
set_option maxHeartbeats 8000000 in
set_option maxRecDepth 100000 in
theorem root2_calls (hd : d < 4) (h : WPs S w P big l) :
    Calls Tryz.prog 150 #[.pointer (some ⟨P, 0, none⟩), .int .i64 2, .int .u8 d] w (RtPost S w P 2 (rdLp d big l)) := by
  obtain ⟨w1, hw1⟩ : ∃ w1, w1 = w.alloc (.cells #[.int .i64 0, .nilIface] 47) := ⟨_, rfl⟩
  have hb1 : Below w.heap.size w w1 := by rw [hw1]; exact (Below.refl _ _).alloc (Nat.le_refl _) _
  have hz1 : Blk w1 w.heap.size 47 #[.int .i64 0, .nilIface] := by rw [hw1]; exact Blk.new _ _ _
  have HC := Lib.hid (parseLn_calls hd (h.below hb1))
  obtain ⟨o, ho⟩ : ∃ o, o = rdLp d big l := ⟨_, rfl⟩
  rw [← ho] at HC ⊢
  have hPw := h.lt
  have HW1 := Lib.hid hw1
  have HB1 := Lib.hid hb1
  have HZ1 := Lib.hid hz1
  clear hw1 hb1 hz1 ho h
  go_enter Tryz.func150, Tryz.ntmps150
  go_upto_region 1 with fail
  rw [← HW1.out]
  go_wp2_with fail
  refine HC.out.mono ?_
  rintro e w2 ⟨m, hmk, hmi, hg, hx⟩
  obtain ⟨d2, A2, c2, ns2, rfl⟩ := MG.is_ln hmk hmi
  have hz2 := HZ1.out.grown hg (fun e => by have := Option.some.inj e; omega)
  have HZ2 := Lib.hid hz2
  have HGR := Lib.hid (grown_trans (grown_below HB1.out) hg)
  have HMI := Lib.hid (show (MG.ln d2 A2 c2 ns2).In (fun a => w.heap.size < a) w2 from MG.less (fun a ha => by have h1 : w1.heap.size ≤ a := ha; have h2 := HZ1.out.lt; show w.heap.size < a; omega) hmi)
  have hlt2 : w.heap.size < w2.heap.size := HZ2.out.lt
  rw [show (MG.ln d2 A2 c2 ns2).enc.toArray = #[.int .u8 d2, .slice A2 ns2.length c2] from rfl] at hx
  clear hz2 hg hmi hmk
  cases o with
  | none =>
    obtain ⟨hbo, T, xe, rfl⟩ := hx
    have HBO := Lib.hid hbo
    clear hbo
    obtain ⟨w3, hw3⟩ : ∃ w3, w3 = w2.alloc (.cells #[.int .u8 d2, .slice A2 ns2.length c2] 83) := ⟨_, rfl⟩
    have hb3 : Below w2.heap.size w2 w3 := by rw [hw3]; exact (Below.refl _ _).alloc (Nat.le_refl _) _
    have hg3 : Blk w3 w2.heap.size 83 #[.int .u8 d2, .slice A2 ns2.length c2] := by rw [hw3]; exact Blk.new _ _ _
    have HW3 := Lib.hid hw3
    have HB3 := Lib.hid hb3
    obtain ⟨q0, q1, -, -, ql⟩ := cells2 hg3
    clear hw3 hb3 hg3
    go_upto_region 8 with fail
    rw [← HW3.out]
    go_wp2_with fail
    refine (asGeo2 _ _ _).mono ?_
    rintro e w4 ⟨a, rfl, hblk, hae, hb4⟩
    have hb24 := HB3.out.trans (hb4.mono HB3.out.size)
    have HB24 := Lib.hid hb24
    have HBLK := Lib.hid hblk
    have HAE := Lib.hid (show w2.heap.size ≤ a from Nat.le_trans HB3.out.size hae)
    obtain ⟨z0, z1, y0, y1, zl⟩ := cells2 (HZ2.out.below hb24 HZ2.out.lt)
    clear hblk hae hb4 hb24
    go_wp2_with fail
    refine bodyPost_ret (v := .tuple #[.agg #[.int .i64 2, .iface (pT 2) (.pointer (some ⟨a, 0, none⟩))], .iface T xe]) (by simp [results, Tryz.results150, go_sem, z0, z1, zl, pT]) rfl ?_
    exact ⟨far_grown (far_grown (grown_trans HGR.out (grown_below HB24.out)) (Nat.le_refl _) 0 _) (Nat.le_refl _) 1 _, ((HBO.out.below HB24.out).far (i := 0) hPw _).far (i := 1) hPw _, _, _, _, .inr ⟨_, _, rfl⟩, rfl⟩
  | some p =>
    obtain ⟨p, r⟩ := p
    obtain ⟨rfl, hpl, hws⟩ := hx
    have HPL := Lib.hid hpl
    have HWS := Lib.hid hws
    clear hpl hws
    obtain ⟨w3, hw3⟩ : ∃ w3, w3 = w2.alloc (.cells #[.int .u8 d2, .slice A2 ns2.length c2] 83) := ⟨_, rfl⟩
    have hb3 : Below w2.heap.size w2 w3 := by rw [hw3]; exact (Below.refl _ _).alloc (Nat.le_refl _) _
    have hg3 : Blk w3 w2.heap.size 83 #[.int .u8 d2, .slice A2 ns2.length c2] := by rw [hw3]; exact Blk.new _ _ _
    have HW3 := Lib.hid hw3
    have HB3 := Lib.hid hb3
    obtain ⟨q0, q1, -, -, ql⟩ := cells2 hg3
    clear hw3 hb3 hg3
    go_upto_region 8 with fail
    rw [← HW3.out]
    go_wp2_with fail
    refine (asGeo2 _ _ _).mono ?_
    rintro e w4 ⟨a, rfl, hblk, hae, hb4⟩
    have hb24 := HB3.out.trans (hb4.mono HB3.out.size)
    have HB24 := Lib.hid hb24
    have HBLK := Lib.hid hblk
    have HAE := Lib.hid (show w2.heap.size ≤ a from Nat.le_trans HB3.out.size hae)
    obtain ⟨z0, z1, y0, y1, zl⟩ := cells2 (HZ2.out.below hb24 HZ2.out.lt)
    clear hblk hae hb4 hb24
    go_wp2_with fail
    refine bodyPost_ret (v := .tuple #[.agg #[.int .i64 2, .iface (pT 2) (.pointer (some ⟨a, 0, none⟩))], .nilIface]) (by simp [results, Tryz.results150, go_sem, z0, z1, zl, pT]) rfl ?_
    have hT : ¬ (fun a => w.heap.size < a) w.heap.size := Nat.lt_irrefl _
    have hae := HAE.out
    refine ⟨far_grown (far_grown (grown_trans HGR.out (grown_below HB24.out)) (Nat.le_refl _) 0 _) (Nat.le_refl _) 1 _, a, MG.ln d2 A2 c2 ns2, big, rfl, ?_, rfl, HPL.out, ((HWS.out.below HB24.out).far (g := w.heap.size) (i := 0) hPw _).far (g := w.heap.size) (i := 1) hPw _⟩
    rw [MG.In]
    refine ⟨(show (2 : Nat) < 7 by decide), by show w.heap.size ≤ a; omega, ?_, ?_⟩
    · exact (HBLK.out.far (p := ⟨w.heap.size, 0, none⟩) (show a ≠ w.heap.size by omega) _).far (p := ⟨w.heap.size, 1, none⟩) (show a ≠ w.heap.size by omega) _
    · exact MG.less (fun a ha => Nat.le_of_lt ha) (MG.keep (((Keeps.of_below HB24.out).setFar hT _).setFar hT _) HMI.out)
set_option maxHeartbeats 8000000 in
set_option maxRecDepth 100000 in
theorem root3_calls (hd : d < 4) (h : WPs S w P big l) :
    Calls Tryz.prog 150 #[.pointer (some ⟨P, 0, none⟩), .int .i64 3, .int .u8 d] w (RtPost S w P 3 (rdMp (rdLp d big) 3 d big l)) := by
  obtain ⟨w1, hw1⟩ : ∃ w1, w1 = w.alloc (.cells #[.int .i64 0, .nilIface] 47) := ⟨_, rfl⟩
  have hb1 : Below w.heap.size w w1 := by rw [hw1]; exact (Below.refl _ _).alloc (Nat.le_refl _) _
  have hz1 : Blk w1 w.heap.size 47 #[.int .i64 0, .nilIface] := by rw [hw1]; exact Blk.new _ _ _
  have HC := Lib.hid (parsePoly_calls hd (h.below hb1))
  obtain ⟨o, ho⟩ : ∃ o, o = rdMp (rdLp d big) 3 d big l := ⟨_, rfl⟩
  rw [← ho] at HC ⊢
  have hPw := h.lt
  have HW1 := Lib.hid hw1
  have HB1 := Lib.hid hb1
  have HZ1 := Lib.hid hz1
  clear hw1 hb1 hz1 ho h
  go_enter Tryz.func150, Tryz.ntmps150
  go_upto_region 1 with fail
  rw [← HW1.out]
  go_wp2_with fail
  refine HC.out.mono ?_
  rintro e w2 ⟨m, hmk, hmi, hg, hx⟩
  obtain ⟨d2, A2, c2, ks2, rfl⟩ := MG.is_mu (S := S) (w := w) (k := 3) hmk (by decide) (by decide) (by decide)
  have hz2 := HZ1.out.grown hg (fun e => by have := Option.some.inj e; omega)
  have HZ2 := Lib.hid hz2
  have HGR := Lib.hid (grown_trans (grown_below HB1.out) hg)
  have HMI := Lib.hid (show (MG.mu 3 d2 A2 c2 ks2).In (fun a => w.heap.size < a) w2 from MG.less (fun a ha => by have h1 : w1.heap.size ≤ a := ha; have h2 := HZ1.out.lt; show w.heap.size < a; omega) hmi)
  have hlt2 : w.heap.size < w2.heap.size := HZ2.out.lt
  rw [show (MG.mu 3 d2 A2 c2 ks2).enc.toArray = #[.slice A2 ks2.length c2, .int .u8 d2] from rfl] at hx
  clear hz2 hg hmi hmk
  cases o with
  | none =>
    obtain ⟨hbo, T, xe, rfl⟩ := hx
    have HBO := Lib.hid hbo
    clear hbo
    obtain ⟨w3, hw3⟩ : ∃ w3, w3 = w2.alloc (.cells #[.slice A2 ks2.length c2, .int .u8 d2] 87) := ⟨_, rfl⟩
    have hb3 : Below w2.heap.size w2 w3 := by rw [hw3]; exact (Below.refl _ _).alloc (Nat.le_refl _) _
    have hg3 : Blk w3 w2.heap.size 87 #[.slice A2 ks2.length c2, .int .u8 d2] := by rw [hw3]; exact Blk.new _ _ _
    have HW3 := Lib.hid hw3
    have HB3 := Lib.hid hb3
    obtain ⟨q0, q1, -, -, ql⟩ := cells2 hg3
    clear hw3 hb3 hg3
    go_upto_region 11 with fail
    rw [← HW3.out]
    go_wp2_with fail
    refine (asGeo3 _ _ _).mono ?_
    rintro e w4 ⟨a, rfl, hblk, hae, hb4⟩
    have hb24 := HB3.out.trans (hb4.mono HB3.out.size)
    have HB24 := Lib.hid hb24
    have HBLK := Lib.hid hblk
    have HAE := Lib.hid (show w2.heap.size ≤ a from Nat.le_trans HB3.out.size hae)
    obtain ⟨z0, z1, y0, y1, zl⟩ := cells2 (HZ2.out.below hb24 HZ2.out.lt)
    clear hblk hae hb4 hb24
    go_wp2_with fail
    refine bodyPost_ret (v := .tuple #[.agg #[.int .i64 3, .iface (pT 3) (.pointer (some ⟨a, 0, none⟩))], .iface T xe]) (by simp [results, Tryz.results150, go_sem, z0, z1, zl, pT]) rfl ?_
    exact ⟨far_grown (far_grown (grown_trans HGR.out (grown_below HB24.out)) (Nat.le_refl _) 0 _) (Nat.le_refl _) 1 _, ((HBO.out.below HB24.out).far (i := 0) hPw _).far (i := 1) hPw _, _, _, _, .inr ⟨_, _, rfl⟩, rfl⟩
  | some p =>
    obtain ⟨p, r⟩ := p
    obtain ⟨rfl, hpl, hws⟩ := hx
    have HPL := Lib.hid hpl
    have HWS := Lib.hid hws
    clear hpl hws
    obtain ⟨w3, hw3⟩ : ∃ w3, w3 = w2.alloc (.cells #[.slice A2 ks2.length c2, .int .u8 d2] 87) := ⟨_, rfl⟩
    have hb3 : Below w2.heap.size w2 w3 := by rw [hw3]; exact (Below.refl _ _).alloc (Nat.le_refl _) _
    have hg3 : Blk w3 w2.heap.size 87 #[.slice A2 ks2.length c2, .int .u8 d2] := by rw [hw3]; exact Blk.new _ _ _
    have HW3 := Lib.hid hw3
    have HB3 := Lib.hid hb3
    obtain ⟨q0, q1, -, -, ql⟩ := cells2 hg3
    clear hw3 hb3 hg3
    go_upto_region 11 with fail
    rw [← HW3.out]
    go_wp2_with fail
    refine (asGeo3 _ _ _).mono ?_
    rintro e w4 ⟨a, rfl, hblk, hae, hb4⟩
    have hb24 := HB3.out.trans (hb4.mono HB3.out.size)
    have HB24 := Lib.hid hb24
    have HBLK := Lib.hid hblk
    have HAE := Lib.hid (show w2.heap.size ≤ a from Nat.le_trans HB3.out.size hae)
    obtain ⟨z0, z1, y0, y1, zl⟩ := cells2 (HZ2.out.below hb24 HZ2.out.lt)
    clear hblk hae hb4 hb24
    go_wp2_with fail
    refine bodyPost_ret (v := .tuple #[.agg #[.int .i64 3, .iface (pT 3) (.pointer (some ⟨a, 0, none⟩))], .nilIface]) (by simp [results, Tryz.results150, go_sem, z0, z1, zl, pT]) rfl ?_
    have hT : ¬ (fun a => w.heap.size < a) w.heap.size := Nat.lt_irrefl _
    have hae := HAE.out
    refine ⟨far_grown (far_grown (grown_trans HGR.out (grown_below HB24.out)) (Nat.le_refl _) 0 _) (Nat.le_refl _) 1 _, a, MG.mu 3 d2 A2 c2 ks2, big, rfl, ?_, rfl, HPL.out, ((HWS.out.below HB24.out).far (g := w.heap.size) (i := 0) hPw _).far (g := w.heap.size) (i := 1) hPw _⟩
    rw [MG.In]
    refine ⟨(show (3 : Nat) < 7 by decide), by show w.heap.size ≤ a; omega, ?_, ?_⟩
    · exact (HBLK.out.far (p := ⟨w.heap.size, 0, none⟩) (show a ≠ w.heap.size by omega) _).far (p := ⟨w.heap.size, 1, none⟩) (show a ≠ w.heap.size by omega) _
    · exact MG.less (fun a ha => Nat.le_of_lt ha) (MG.keep (((Keeps.of_below HB24.out).setFar hT _).setFar hT _) HMI.out)
set_option maxHeartbeats 8000000 in
set_option maxRecDepth 100000 in
theorem root4_calls (hrun : ∀ (w : World) (P : Nat) (b : Bool) (l : List Nat), WPs S w P b l → l.length ≤ N → Calls Tryz.prog 104 #[.pointer (some ⟨P, 0, none⟩)] w (PGPost S w P (fi l)))
    (hlen : ∀ bs p r, fi bs = some (p, r) → r.length ≤ bs.length) (hN : l.length ≤ N) (hd : d < 4) (h : WPs S w P big l) :
    Calls Tryz.prog 150 #[.pointer (some ⟨P, 0, none⟩), .int .i64 4, .int .u8 d] w (RtPost S w P 4 (rdMp (fItem fi 1) 4 d big l)) := by
  obtain ⟨w1, hw1⟩ : ∃ w1, w1 = w.alloc (.cells #[.int .i64 0, .nilIface] 47) := ⟨_, rfl⟩
  have hb1 : Below w.heap.size w w1 := by rw [hw1]; exact (Below.refl _ _).alloc (Nat.le_refl _) _
  have hz1 : Blk w1 w.heap.size 47 #[.int .i64 0, .nilIface] := by rw [hw1]; exact Blk.new _ _ _
  have HC := Lib.hid (parseM4_calls hrun hlen hd (h.below hb1) hN)
  obtain ⟨o, ho⟩ : ∃ o, o = rdMp (fItem fi 1) 4 d big l := ⟨_, rfl⟩
  rw [← ho] at HC ⊢
  have hPw := h.lt
  have HW1 := Lib.hid hw1
  have HB1 := Lib.hid hb1
  have HZ1 := Lib.hid hz1
  clear hw1 hb1 hz1 ho h hrun hlen
  go_enter Tryz.func150, Tryz.ntmps150
  go_upto_region 1 with fail
  rw [← HW1.out]
  go_wp2_with fail
  refine HC.out.mono ?_
  rintro e w2 ⟨m, hmk, hmi, hg, hx⟩
  obtain ⟨d2, A2, c2, ks2, rfl⟩ := MG.is_mu (S := S) (w := w) (k := 4) hmk (by decide) (by decide) (by decide)
  have hz2 := HZ1.out.grown hg (fun e => by have := Option.some.inj e; omega)
  have HZ2 := Lib.hid hz2
  have HGR := Lib.hid (grown_trans (grown_below HB1.out) hg)
  have HMI := Lib.hid (show (MG.mu 4 d2 A2 c2 ks2).In (fun a => w.heap.size < a) w2 from MG.less (fun a ha => by have h1 : w1.heap.size ≤ a := ha; have h2 := HZ1.out.lt; show w.heap.size < a; omega) hmi)
  have hlt2 : w.heap.size < w2.heap.size := HZ2.out.lt
  rw [show (MG.mu 4 d2 A2 c2 ks2).enc.toArray = #[.slice A2 ks2.length c2, .int .u8 d2] from rfl] at hx
  clear hz2 hg hmi hmk
  cases o with
  | none =>
    obtain ⟨hbo, T, xe, rfl⟩ := hx
    have HBO := Lib.hid hbo
    clear hbo
    obtain ⟨w3, hw3⟩ : ∃ w3, w3 = w2.alloc (.cells #[.slice A2 ks2.length c2, .int .u8 d2] 91) := ⟨_, rfl⟩
    have hb3 : Below w2.heap.size w2 w3 := by rw [hw3]; exact (Below.refl _ _).alloc (Nat.le_refl _) _
    have hg3 : Blk w3 w2.heap.size 91 #[.slice A2 ks2.length c2, .int .u8 d2] := by rw [hw3]; exact Blk.new _ _ _
    have HW3 := Lib.hid hw3
    have HB3 := Lib.hid hb3
    obtain ⟨q0, q1, -, -, ql⟩ := cells2 hg3
    clear hw3 hb3 hg3
    go_upto_region 14 with fail
    rw [← HW3.out]
    go_wp2_with fail
    refine (asGeo4 _ _ _).mono ?_
    rintro e w4 ⟨a, rfl, hblk, hae, hb4⟩
    have hb24 := HB3.out.trans (hb4.mono HB3.out.size)
    have HB24 := Lib.hid hb24
    have HBLK := Lib.hid hblk
    have HAE := Lib.hid (show w2.heap.size ≤ a from Nat.le_trans HB3.out.size hae)
    obtain ⟨z0, z1, y0, y1, zl⟩ := cells2 (HZ2.out.below hb24 HZ2.out.lt)
    clear hblk hae hb4 hb24
    go_wp2_with fail
    refine bodyPost_ret (v := .tuple #[.agg #[.int .i64 4, .iface (pT 4) (.pointer (some ⟨a, 0, none⟩))], .iface T xe]) (by simp [results, Tryz.results150, go_sem, z0, z1, zl, pT]) rfl ?_
    exact ⟨far_grown (far_grown (grown_trans HGR.out (grown_below HB24.out)) (Nat.le_refl _) 0 _) (Nat.le_refl _) 1 _, ((HBO.out.below HB24.out).far (i := 0) hPw _).far (i := 1) hPw _, _, _, _, .inr ⟨_, _, rfl⟩, rfl⟩
  | some p =>
    obtain ⟨p, r⟩ := p
    obtain ⟨rfl, hpl, hws⟩ := hx
    have HPL := Lib.hid hpl
    have HWS := Lib.hid hws
    clear hpl hws
    obtain ⟨w3, hw3⟩ : ∃ w3, w3 = w2.alloc (.cells #[.slice A2 ks2.length c2, .int .u8 d2] 91) := ⟨_, rfl⟩
    have hb3 : Below w2.heap.size w2 w3 := by rw [hw3]; exact (Below.refl _ _).alloc (Nat.le_refl _) _
    have hg3 : Blk w3 w2.heap.size 91 #[.slice A2 ks2.length c2, .int .u8 d2] := by rw [hw3]; exact Blk.new _ _ _
    have HW3 := Lib.hid hw3
    have HB3 := Lib.hid hb3
    obtain ⟨q0, q1, -, -, ql⟩ := cells2 hg3
    clear hw3 hb3 hg3
    go_upto_region 14 with fail
    rw [← HW3.out]
    go_wp2_with fail
    refine (asGeo4 _ _ _).mono ?_
    rintro e w4 ⟨a, rfl, hblk, hae, hb4⟩
    have hb24 := HB3.out.trans (hb4.mono HB3.out.size)
    have HB24 := Lib.hid hb24
    have HBLK := Lib.hid hblk
    have HAE := Lib.hid (show w2.heap.size ≤ a from Nat.le_trans HB3.out.size hae)
    obtain ⟨z0, z1, y0, y1, zl⟩ := cells2 (HZ2.out.below hb24 HZ2.out.lt)
    clear hblk hae hb4 hb24
    go_wp2_with fail
    refine bodyPost_ret (v := .tuple #[.agg #[.int .i64 4, .iface (pT 4) (.pointer (some ⟨a, 0, none⟩))], .nilIface]) (by simp [results, Tryz.results150, go_sem, z0, z1, zl, pT]) rfl ?_
    have hT : ¬ (fun a => w.heap.size < a) w.heap.size := Nat.lt_irrefl _
    have hae := HAE.out
    refine ⟨far_grown (far_grown (grown_trans HGR.out (grown_below HB24.out)) (Nat.le_refl _) 0 _) (Nat.le_refl _) 1 _, a, MG.mu 4 d2 A2 c2 ks2, big, rfl, ?_, rfl, HPL.out, ((HWS.out.below HB24.out).far (g := w.heap.size) (i := 0) hPw _).far (g := w.heap.size) (i := 1) hPw _⟩
    rw [MG.In]
    refine ⟨(show (4 : Nat) < 7 by decide), by show w.heap.size ≤ a; omega, ?_, ?_⟩
    · exact (HBLK.out.far (p := ⟨w.heap.size, 0, none⟩) (show a ≠ w.heap.size by omega) _).far (p := ⟨w.heap.size, 1, none⟩) (show a ≠ w.heap.size by omega) _
    · exact MG.less (fun a ha => Nat.le_of_lt ha) (MG.keep (((Keeps.of_below HB24.out).setFar hT _).setFar hT _) HMI.out)
set_option maxHeartbeats 8000000 in
set_option maxRecDepth 100000 in
theorem root5_calls (hrun : ∀ (w : World) (P : Nat) (b : Bool) (l : List Nat), WPs S w P b l → l.length ≤ N → Calls Tryz.prog 104 #[.pointer (some ⟨P, 0, none⟩)] w (PGPost S w P (fi l)))
    (hlen : ∀ bs p r, fi bs = some (p, r) → r.length ≤ bs.length) (hN : l.length ≤ N) (hd : d < 4) (h : WPs S w P big l) :
    Calls Tryz.prog 150 #[.pointer (some ⟨P, 0, none⟩), .int .i64 5, .int .u8 d] w (RtPost S w P 5 (rdMp (fItem fi 2) 5 d big l)) := by
  obtain ⟨w1, hw1⟩ : ∃ w1, w1 = w.alloc (.cells #[.int .i64 0, .nilIface] 47) := ⟨_, rfl⟩
  have hb1 : Below w.heap.size w w1 := by rw [hw1]; exact (Below.refl _ _).alloc (Nat.le_refl _) _
  have hz1 : Blk w1 w.heap.size 47 #[.int .i64 0, .nilIface] := by rw [hw1]; exact Blk.new _ _ _
  have HC := Lib.hid (parseM5_calls hrun hlen hd (h.below hb1) hN)
  obtain ⟨o, ho⟩ : ∃ o, o = rdMp (fItem fi 2) 5 d big l := ⟨_, rfl⟩
  rw [← ho] at HC ⊢
  have hPw := h.lt
  have HW1 := Lib.hid hw1
  have HB1 := Lib.hid hb1
  have HZ1 := Lib.hid hz1
  clear hw1 hb1 hz1 ho h hrun hlen
  go_enter Tryz.func150, Tryz.ntmps150
  go_upto_region 1 with fail
  rw [← HW1.out]
  go_wp2_with fail
  refine HC.out.mono ?_
  rintro e w2 ⟨m, hmk, hmi, hg, hx⟩
  obtain ⟨d2, A2, c2, ks2, rfl⟩ := MG.is_mu (S := S) (w := w) (k := 5) hmk (by decide) (by decide) (by decide)
  have hz2 := HZ1.out.grown hg (fun e => by have := Option.some.inj e; omega)
  have HZ2 := Lib.hid hz2
  have HGR := Lib.hid (grown_trans (grown_below HB1.out) hg)
  have HMI := Lib.hid (show (MG.mu 5 d2 A2 c2 ks2).In (fun a => w.heap.size < a) w2 from MG.less (fun a ha => by have h1 : w1.heap.size ≤ a := ha; have h2 := HZ1.out.lt; show w.heap.size < a; omega) hmi)
  have hlt2 : w.heap.size < w2.heap.size := HZ2.out.lt
  rw [show (MG.mu 5 d2 A2 c2 ks2).enc.toArray = #[.slice A2 ks2.length c2, .int .u8 d2] from rfl] at hx
  clear hz2 hg hmi hmk
  cases o with
  | none =>
    obtain ⟨hbo, T, xe, rfl⟩ := hx
    have HBO := Lib.hid hbo
    clear hbo
    obtain ⟨w3, hw3⟩ : ∃ w3, w3 = w2.alloc (.cells #[.slice A2 ks2.length c2, .int .u8 d2] 94) := ⟨_, rfl⟩
    have hb3 : Below w2.heap.size w2 w3 := by rw [hw3]; exact (Below.refl _ _).alloc (Nat.le_refl _) _
    have hg3 : Blk w3 w2.heap.size 94 #[.slice A2 ks2.length c2, .int .u8 d2] := by rw [hw3]; exact Blk.new _ _ _
    have HW3 := Lib.hid hw3
    have HB3 := Lib.hid hb3
    obtain ⟨q0, q1, -, -, ql⟩ := cells2 hg3
    clear hw3 hb3 hg3
    go_upto_region 17 with fail
    rw [← HW3.out]
    go_wp2_with fail
    refine (asGeo5 _ _ _).mono ?_
    rintro e w4 ⟨a, rfl, hblk, hae, hb4⟩
    have hb24 := HB3.out.trans (hb4.mono HB3.out.size)
    have HB24 := Lib.hid hb24
    have HBLK := Lib.hid hblk
    have HAE := Lib.hid (show w2.heap.size ≤ a from Nat.le_trans HB3.out.size hae)
    obtain ⟨z0, z1, y0, y1, zl⟩ := cells2 (HZ2.out.below hb24 HZ2.out.lt)
    clear hblk hae hb4 hb24
    go_wp2_with fail
    refine bodyPost_ret (v := .tuple #[.agg #[.int .i64 5, .iface (pT 5) (.pointer (some ⟨a, 0, none⟩))], .iface T xe]) (by simp [results, Tryz.results150, go_sem, z0, z1, zl, pT]) rfl ?_
    exact ⟨far_grown (far_grown (grown_trans HGR.out (grown_below HB24.out)) (Nat.le_refl _) 0 _) (Nat.le_refl _) 1 _, ((HBO.out.below HB24.out).far (i := 0) hPw _).far (i := 1) hPw _, _, _, _, .inr ⟨_, _, rfl⟩, rfl⟩
  | some p =>
    obtain ⟨p, r⟩ := p
    obtain ⟨rfl, hpl, hws⟩ := hx
    have HPL := Lib.hid hpl
    have HWS := Lib.hid hws
    clear hpl hws
    obtain ⟨w3, hw3⟩ : ∃ w3, w3 = w2.alloc (.cells #[.slice A2 ks2.length c2, .int .u8 d2] 94) := ⟨_, rfl⟩
    have hb3 : Below w2.heap.size w2 w3 := by rw [hw3]; exact (Below.refl _ _).alloc (Nat.le_refl _) _
    have hg3 : Blk w3 w2.heap.size 94 #[.slice A2 ks2.length c2, .int .u8 d2] := by rw [hw3]; exact Blk.new _ _ _
    have HW3 := Lib.hid hw3
    have HB3 := Lib.hid hb3
    obtain ⟨q0, q1, -, -, ql⟩ := cells2 hg3
    clear hw3 hb3 hg3
    go_upto_region 17 with fail
    rw [← HW3.out]
    go_wp2_with fail
    refine (asGeo5 _ _ _).mono ?_
    rintro e w4 ⟨a, rfl, hblk, hae, hb4⟩
    have hb24 := HB3.out.trans (hb4.mono HB3.out.size)
    have HB24 := Lib.hid hb24
    have HBLK := Lib.hid hblk
    have HAE := Lib.hid (show w2.heap.size ≤ a from Nat.le_trans HB3.out.size hae)
    obtain ⟨z0, z1, y0, y1, zl⟩ := cells2 (HZ2.out.below hb24 HZ2.out.lt)
    clear hblk hae hb4 hb24
    go_wp2_with fail
    refine bodyPost_ret (v := .tuple #[.agg #[.int .i64 5, .iface (pT 5) (.pointer (some ⟨a, 0, none⟩))], .nilIface]) (by simp [results, Tryz.results150, go_sem, z0, z1, zl, pT]) rfl ?_
    have hT : ¬ (fun a => w.heap.size < a) w.heap.size := Nat.lt_irrefl _
    have hae := HAE.out
    refine ⟨far_grown (far_grown (grown_trans HGR.out (grown_below HB24.out)) (Nat.le_refl _) 0 _) (Nat.le_refl _) 1 _, a, MG.mu 5 d2 A2 c2 ks2, big, rfl, ?_, rfl, HPL.out, ((HWS.out.below HB24.out).far (g := w.heap.size) (i := 0) hPw _).far (g := w.heap.size) (i := 1) hPw _⟩
    rw [MG.In]
    refine ⟨(show (5 : Nat) < 7 by decide), by show w.heap.size ≤ a; omega, ?_, ?_⟩
    · exact (HBLK.out.far (p := ⟨w.heap.size, 0, none⟩) (show a ≠ w.heap.size by omega) _).far (p := ⟨w.heap.size, 1, none⟩) (show a ≠ w.heap.size by omega) _
    · exact MG.less (fun a ha => Nat.le_of_lt ha) (MG.keep (((Keeps.of_below HB24.out).setFar hT _).setFar hT _) HMI.out)
set_option maxHeartbeats 8000000 in
set_option maxRecDepth 100000 in
theorem root6_calls (hrun : ∀ (w : World) (P : Nat) (b : Bool) (l : List Nat), WPs S w P b l → l.length ≤ N → Calls Tryz.prog 104 #[.pointer (some ⟨P, 0, none⟩)] w (PGPost S w P (fi l)))
    (hlen : ∀ bs p r, fi bs = some (p, r) → r.length ≤ bs.length) (hN : l.length ≤ N) (hd : d < 4) (h : WPs S w P big l) :
    Calls Tryz.prog 150 #[.pointer (some ⟨P, 0, none⟩), .int .i64 6, .int .u8 d] w (RtPost S w P 6 (rdMp (fItem fi 3) 6 d big l)) := by
  obtain ⟨w1, hw1⟩ : ∃ w1, w1 = w.alloc (.cells #[.int .i64 0, .nilIface] 47) := ⟨_, rfl⟩
  have hb1 : Below w.heap.size w w1 := by rw [hw1]; exact (Below.refl _ _).alloc (Nat.le_refl _) _
  have hz1 : Blk w1 w.heap.size 47 #[.int .i64 0, .nilIface] := by rw [hw1]; exact Blk.new _ _ _
  have HC := Lib.hid (parseM6_calls hrun hlen hd (h.below hb1) hN)
  obtain ⟨o, ho⟩ : ∃ o, o = rdMp (fItem fi 3) 6 d big l := ⟨_, rfl⟩
  rw [← ho] at HC ⊢
  have hPw := h.lt
  have HW1 := Lib.hid hw1
  have HB1 := Lib.hid hb1
  have HZ1 := Lib.hid hz1
  clear hw1 hb1 hz1 ho h hrun hlen
  go_enter Tryz.func150, Tryz.ntmps150
  go_upto_region 1 with fail
  rw [← HW1.out]
  go_wp2_with fail
  refine HC.out.mono ?_
  rintro e w2 ⟨m, hmk, hmi, hg, hx⟩
  obtain ⟨d2, A2, c2, ks2, rfl⟩ := MG.is_mu (S := S) (w := w) (k := 6) hmk (by decide) (by decide) (by decide)
  have hz2 := HZ1.out.grown hg (fun e => by have := Option.some.inj e; omega)
  have HZ2 := Lib.hid hz2
  have HGR := Lib.hid (grown_trans (grown_below HB1.out) hg)
  have HMI := Lib.hid (show (MG.mu 6 d2 A2 c2 ks2).In (fun a => w.heap.size < a) w2 from MG.less (fun a ha => by have h1 : w1.heap.size ≤ a := ha; have h2 := HZ1.out.lt; show w.heap.size < a; omega) hmi)
  have hlt2 : w.heap.size < w2.heap.size := HZ2.out.lt
  rw [show (MG.mu 6 d2 A2 c2 ks2).enc.toArray = #[.slice A2 ks2.length c2, .int .u8 d2] from rfl] at hx
  clear hz2 hg hmi hmk
  cases o with
  | none =>
    obtain ⟨hbo, T, xe, rfl⟩ := hx
    have HBO := Lib.hid hbo
    clear hbo
    obtain ⟨w3, hw3⟩ : ∃ w3, w3 = w2.alloc (.cells #[.slice A2 ks2.length c2, .int .u8 d2] 98) := ⟨_, rfl⟩
    have hb3 : Below w2.heap.size w2 w3 := by rw [hw3]; exact (Below.refl _ _).alloc (Nat.le_refl _) _
    have hg3 : Blk w3 w2.heap.size 98 #[.slice A2 ks2.length c2, .int .u8 d2] := by rw [hw3]; exact Blk.new _ _ _
    have HW3 := Lib.hid hw3
    have HB3 := Lib.hid hb3
    obtain ⟨q0, q1, -, -, ql⟩ := cells2 hg3
    clear hw3 hb3 hg3
    go_upto_region 20 with fail
    rw [← HW3.out]
    go_wp2_with fail
    refine (asGeo6 _ _ _).mono ?_
    rintro e w4 ⟨a, rfl, hblk, hae, hb4⟩
    have hb24 := HB3.out.trans (hb4.mono HB3.out.size)
    have HB24 := Lib.hid hb24
    have HBLK := Lib.hid hblk
    have HAE := Lib.hid (show w2.heap.size ≤ a from Nat.le_trans HB3.out.size hae)
    obtain ⟨z0, z1, y0, y1, zl⟩ := cells2 (HZ2.out.below hb24 HZ2.out.lt)
    clear hblk hae hb4 hb24
    go_wp2_with fail
    refine bodyPost_ret (v := .tuple #[.agg #[.int .i64 6, .iface (pT 6) (.pointer (some ⟨a, 0, none⟩))], .iface T xe]) (by simp [results, Tryz.results150, go_sem, z0, z1, zl, pT]) rfl ?_
    exact ⟨far_grown (far_grown (grown_trans HGR.out (grown_below HB24.out)) (Nat.le_refl _) 0 _) (Nat.le_refl _) 1 _, ((HBO.out.below HB24.out).far (i := 0) hPw _).far (i := 1) hPw _, _, _, _, .inr ⟨_, _, rfl⟩, rfl⟩
  | some p =>
    obtain ⟨p, r⟩ := p
    obtain ⟨rfl, hpl, hws⟩ := hx
    have HPL := Lib.hid hpl
    have HWS := Lib.hid hws
    clear hpl hws
    obtain ⟨w3, hw3⟩ : ∃ w3, w3 = w2.alloc (.cells #[.slice A2 ks2.length c2, .int .u8 d2] 98) := ⟨_, rfl⟩
    have hb3 : Below w2.heap.size w2 w3 := by rw [hw3]; exact (Below.refl _ _).alloc (Nat.le_refl _) _
    have hg3 : Blk w3 w2.heap.size 98 #[.slice A2 ks2.length c2, .int .u8 d2] := by rw [hw3]; exact Blk.new _ _ _
    have HW3 := Lib.hid hw3
    have HB3 := Lib.hid hb3
    obtain ⟨q0, q1, -, -, ql⟩ := cells2 hg3
    clear hw3 hb3 hg3
    go_upto_region 20 with fail
    rw [← HW3.out]
    go_wp2_with fail
    refine (asGeo6 _ _ _).mono ?_
    rintro e w4 ⟨a, rfl, hblk, hae, hb4⟩
    have hb24 := HB3.out.trans (hb4.mono HB3.out.size)
    have HB24 := Lib.hid hb24
    have HBLK := Lib.hid hblk
    have HAE := Lib.hid (show w2.heap.size ≤ a from Nat.le_trans HB3.out.size hae)
    obtain ⟨z0, z1, y0, y1, zl⟩ := cells2 (HZ2.out.below hb24 HZ2.out.lt)
    clear hblk hae hb4 hb24
    go_wp2_with fail
    refine bodyPost_ret (v := .tuple #[.agg #[.int .i64 6, .iface (pT 6) (.pointer (some ⟨a, 0, none⟩))], .nilIface]) (by simp [results, Tryz.results150, go_sem, z0, z1, zl, pT]) rfl ?_
    have hT : ¬ (fun a => w.heap.size < a) w.heap.size := Nat.lt_irrefl _
    have hae := HAE.out
    refine ⟨far_grown (far_grown (grown_trans HGR.out (grown_below HB24.out)) (Nat.le_refl _) 0 _) (Nat.le_refl _) 1 _, a, MG.mu 6 d2 A2 c2 ks2, big, rfl, ?_, rfl, HPL.out, ((HWS.out.below HB24.out).far (g := w.heap.size) (i := 0) hPw _).far (g := w.heap.size) (i := 1) hPw _⟩
    rw [MG.In]
    refine ⟨(show (6 : Nat) < 7 by decide), by show w.heap.size ≤ a; omega, ?_, ?_⟩
    · exact (HBLK.out.far (p := ⟨w.heap.size, 0, none⟩) (show a ≠ w.heap.size by omega) _).far (p := ⟨w.heap.size, 1, none⟩) (show a ≠ w.heap.size by omega) _
    · exact MG.less (fun a ha => Nat.le_of_lt ha) (MG.keep (((Keeps.of_below HB24.out).setFar hT _).setFar hT _) HMI.out)
set_option maxHeartbeats 8000000 in
set_option maxRecDepth 100000 in
theorem root0_calls (hrun : ∀ (w : World) (P : Nat) (b : Bool) (l : List Nat), WPs S w P b l → l.length ≤ N → Calls Tryz.prog 104 #[.pointer (some ⟨P, 0, none⟩)] w (PGPost S w P (fi l)))
    (hlen : ∀ bs p r, fi bs = some (p, r) → r.length ≤ bs.length) (hN : l.length ≤ N) (hd : d < 4) (h : WPs S w P big l) :
    Calls Tryz.prog 150 #[.pointer (some ⟨P, 0, none⟩), .int .i64 0, .int .u8 d] w (RtPost S w P 0 (rdMp (fItem fi (-1)) 0 d big l)) := by
  obtain ⟨w1, hw1⟩ : ∃ w1, w1 = w.alloc (.cells #[.int .i64 0, .nilIface] 47) := ⟨_, rfl⟩
  have hb1 : Below w.heap.size w w1 := by rw [hw1]; exact (Below.refl _ _).alloc (Nat.le_refl _) _
  have hz1 : Blk w1 w.heap.size 47 #[.int .i64 0, .nilIface] := by rw [hw1]; exact Blk.new _ _ _
  have HC := Lib.hid (parseM0_calls hrun hlen hd (h.below hb1) hN)
  obtain ⟨o, ho⟩ : ∃ o, o = rdMp (fItem fi (-1)) 0 d big l := ⟨_, rfl⟩
  rw [← ho] at HC ⊢
  have hPw := h.lt
  have HW1 := Lib.hid hw1
  have HB1 := Lib.hid hb1
  have HZ1 := Lib.hid hz1
  clear hw1 hb1 hz1 ho h hrun hlen
  go_enter Tryz.func150, Tryz.ntmps150
  go_upto_region 1 with fail
  rw [← HW1.out]
  go_wp2_with fail
  refine HC.out.mono ?_
  rintro e w2 ⟨m, hmk, hmi, hg, hx⟩
  obtain ⟨d2, A2, c2, ks2, rfl⟩ := MG.is_mu (S := S) (w := w) (k := 0) hmk (by decide) (by decide) (by decide)
  have hz2 := HZ1.out.grown hg (fun e => by have := Option.some.inj e; omega)
  have HZ2 := Lib.hid hz2
  have HGR := Lib.hid (grown_trans (grown_below HB1.out) hg)
  have HMI := Lib.hid (show (MG.mu 0 d2 A2 c2 ks2).In (fun a => w.heap.size < a) w2 from MG.less (fun a ha => by have h1 : w1.heap.size ≤ a := ha; have h2 := HZ1.out.lt; show w.heap.size < a; omega) hmi)
  have hlt2 : w.heap.size < w2.heap.size := HZ2.out.lt
  rw [show (MG.mu 0 d2 A2 c2 ks2).enc.toArray = #[.slice A2 ks2.length c2, .int .u8 d2] from rfl] at hx
  clear hz2 hg hmi hmk
  cases o with
  | none =>
    obtain ⟨hbo, T, xe, rfl⟩ := hx
    have HBO := Lib.hid hbo
    clear hbo
    obtain ⟨w3, hw3⟩ : ∃ w3, w3 = w2.alloc (.cells #[.slice A2 ks2.length c2, .int .u8 d2] 102) := ⟨_, rfl⟩
    have hb3 : Below w2.heap.size w2 w3 := by rw [hw3]; exact (Below.refl _ _).alloc (Nat.le_refl _) _
    have hg3 : Blk w3 w2.heap.size 102 #[.slice A2 ks2.length c2, .int .u8 d2] := by rw [hw3]; exact Blk.new _ _ _
    have HW3 := Lib.hid hw3
    have HB3 := Lib.hid hb3
    obtain ⟨q0, q1, -, -, ql⟩ := cells2 hg3
    clear hw3 hb3 hg3
    go_upto_region 23 with fail
    rw [← HW3.out]
    go_wp2_with fail
    refine (asGeo0 _ _ _).mono ?_
    rintro e w4 ⟨a, rfl, hblk, hae, hb4⟩
    have hb24 := HB3.out.trans (hb4.mono HB3.out.size)
    have HB24 := Lib.hid hb24
    have HBLK := Lib.hid hblk
    have HAE := Lib.hid (show w2.heap.size ≤ a from Nat.le_trans HB3.out.size hae)
    obtain ⟨z0, z1, y0, y1, zl⟩ := cells2 (HZ2.out.below hb24 HZ2.out.lt)
    clear hblk hae hb4 hb24
    go_wp2_with fail
    refine bodyPost_ret (v := .tuple #[.agg #[.int .i64 0, .iface (pT 0) (.pointer (some ⟨a, 0, none⟩))], .iface T xe]) (by simp [results, Tryz.results150, go_sem, z0, z1, zl, pT]) rfl ?_
    exact ⟨far_grown (far_grown (grown_trans HGR.out (grown_below HB24.out)) (Nat.le_refl _) 0 _) (Nat.le_refl _) 1 _, ((HBO.out.below HB24.out).far (i := 0) hPw _).far (i := 1) hPw _, _, _, _, .inr ⟨_, _, rfl⟩, rfl⟩
  | some p =>
    obtain ⟨p, r⟩ := p
    obtain ⟨rfl, hpl, hws⟩ := hx
    have HPL := Lib.hid hpl
    have HWS := Lib.hid hws
    clear hpl hws
    obtain ⟨w3, hw3⟩ : ∃ w3, w3 = w2.alloc (.cells #[.slice A2 ks2.length c2, .int .u8 d2] 102) := ⟨_, rfl⟩
    have hb3 : Below w2.heap.size w2 w3 := by rw [hw3]; exact (Below.refl _ _).alloc (Nat.le_refl _) _
    have hg3 : Blk w3 w2.heap.size 102 #[.slice A2 ks2.length c2, .int .u8 d2] := by rw [hw3]; exact Blk.new _ _ _
    have HW3 := Lib.hid hw3
    have HB3 := Lib.hid hb3
    obtain ⟨q0, q1, -, -, ql⟩ := cells2 hg3
    clear hw3 hb3 hg3
    go_upto_region 23 with fail
    rw [← HW3.out]
    go_wp2_with fail
    refine (asGeo0 _ _ _).mono ?_
    rintro e w4 ⟨a, rfl, hblk, hae, hb4⟩
    have hb24 := HB3.out.trans (hb4.mono HB3.out.size)
    have HB24 := Lib.hid hb24
    have HBLK := Lib.hid hblk
    have HAE := Lib.hid (show w2.heap.size ≤ a from Nat.le_trans HB3.out.size hae)
    obtain ⟨z0, z1, y0, y1, zl⟩ := cells2 (HZ2.out.below hb24 HZ2.out.lt)
    clear hblk hae hb4 hb24
    go_wp2_with fail
    refine bodyPost_ret (v := .tuple #[.agg #[.int .i64 0, .iface (pT 0) (.pointer (some ⟨a, 0, none⟩))], .nilIface]) (by simp [results, Tryz.results150, go_sem, z0, z1, zl, pT]) rfl ?_
    have hT : ¬ (fun a => w.heap.size < a) w.heap.size := Nat.lt_irrefl _
    have hae := HAE.out
    refine ⟨far_grown (far_grown (grown_trans HGR.out (grown_below HB24.out)) (Nat.le_refl _) 0 _) (Nat.le_refl _) 1 _, a, MG.mu 0 d2 A2 c2 ks2, big, rfl, ?_, rfl, HPL.out, ((HWS.out.below HB24.out).far (g := w.heap.size) (i := 0) hPw _).far (g := w.heap.size) (i := 1) hPw _⟩
    rw [MG.In]
    refine ⟨(show (0 : Nat) < 7 by decide), by show w.heap.size ≤ a; omega, ?_, ?_⟩
    · exact (HBLK.out.far (p := ⟨w.heap.size, 0, none⟩) (show a ≠ w.heap.size by omega) _).far (p := ⟨w.heap.size, 1, none⟩) (show a ≠ w.heap.size by omega) _
    · exact MG.less (fun a ha => Nat.le_of_lt ha) (MG.keep (((Keeps.of_below HB24.out).setFar hT _).setFar hT _) HMI.out)
end
end Go.Proofs.YtbacakdpfiiblaaGreat.geo
