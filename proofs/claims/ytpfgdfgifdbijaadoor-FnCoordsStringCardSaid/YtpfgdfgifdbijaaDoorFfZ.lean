/-
  The law's walk: the call returns true in every world that has the tables.
-/
import Derived.Test.YtpfgdfgifdbijaaDoorFfY
namespace Go.Proofs.YtpfgdfgifdbijaaDoor.pt
open Go.ChangeShapes Go.WideShapes Go.ChangeAt Go.RowKit
open Go.Proofs.YtpfgdfgifdbijaaDoor.mem Go.Proofs.YtpfgdfgifdbijaaDoor.geo
set_option linter.unusedVariables false
set_option linter.unusedSimpArgs false

def headB : ByteArray := ⟨#[67, 111, 111, 114, 100, 105, 110, 97, 116, 101, 115, 91]⟩
/-- The text that is wanted, as far as i numbers. -/
def want (FT : Nat → List Nat) (d : Nat) (fs : List Nat) : ByteArray := fs.foldl (fun s x => s ++ (⟨#[32]⟩ ++ ff.strN (FT x))) ((headB ++ ff.tyS d) ++ ⟨#[93]⟩)
theorem want_next (FT : Nat → List Nat) (d : Nat) (fs : List Nat) (i : Nat) (x : Nat) (h : fs[i]? = some x) : want FT d (fs.take (i + 1)) = want FT d (fs.take i) ++ (⟨#[32]⟩ ++ ff.strN (FT x)) := by
  rw [List.take_add_one, h]
  unfold want
  rw [List.foldl_append]
  rfl
theorem ba_ext {a b : ByteArray} (h : a.data.toList = b.data.toList) : a = b := by
  obtain ⟨⟨a⟩⟩ := a
  obtain ⟨⟨b⟩⟩ := b
  simp at h
  rw [h]
theorem ba_app (a b : ByteArray) : (a ++ b).data.toList = a.data.toList ++ b.data.toList := by
  rw [ByteArray.data_append, Array.toList_append]
theorem want_all (FT : Nat → List Nat) {d : Nat} (hd : d < 4) (q : Pl) : want FT d (emit d q) = ⟨(ff.cS FT d q.x q.y q.z q.m).toArray⟩ := by
  refine ba_ext ?_
  obtain rfl | rfl | rfl | rfl := four hd
  all_goals simp [want, emit, hz, hm, ff.cS, ba_app, headB, List.append_assoc]

theorem ba_size (a b : ByteArray) : (a ++ b).size = a.size + b.size := ByteArray.size_append
theorem want_size {FT : Nat → List Nat} (hFT : ∀ x, (FT x).length ≤ 1000) (d : Nat) (fs : List Nat) : (want FT d fs).size ≤ 17 + 1001 * fs.length := by
  have key : ∀ (fs : List Nat) (s : ByteArray), (fs.foldl (fun s x => s ++ (⟨#[32]⟩ ++ ff.strN (FT x))) s).size ≤ s.size + 1001 * fs.length := by
    intro fs
    induction fs with
    | nil => intro s; simp
    | cons x fs ih =>
      intro s
      have h1 := ih (s ++ (⟨#[32]⟩ ++ ff.strN (FT x)))
      have h2 := hFT x
      rw [ba_size, ba_size, ff.strN_size, show (⟨#[32]⟩ : ByteArray).size = 1 from rfl] at h1
      rw [List.foldl_cons, List.length_cons]
      omega
  have h1 := key fs ((headB ++ ff.tyS d) ++ ⟨#[93]⟩)
  rw [ba_size, ba_size, show headB.size = 12 from rfl, show (⟨#[93]⟩ : ByteArray).size = 1 from rfl] at h1
  have := ff.tyS_size d
  unfold want
  omega

set_option maxHeartbeats 16000000 in
set_option maxRecDepth 100000 in
theorem law_calls {T : Nat → Int} {FT : Nat → List Nat} (hff : FFC T FT) (q : Pl) (D : Int) (w : World) (hT : ff.Tab T w) (hP : ff.P10 w) :
    Calls Tryd.prog 3 #[.agg #[.float .f64 q.x, .float .f64 q.y, .float .f64 q.z, .float .f64 q.m, .int .i64 D]] w (Gives w (.bool true)) := by
  obtain ⟨w1, hw1⟩ : ∃ w1, w1 = w.alloc (.cells #[.float .f64 q.x, .float .f64 q.y, .float .f64 q.z, .float .f64 q.m, .int .i64 D] 24) := ⟨_, rfl⟩
  have hX : Blk w1 w.heap.size 24 #[.float .f64 q.x, .float .f64 q.y, .float .f64 q.z, .float .f64 q.m, .int .i64 D] := by rw [hw1]; exact Blk.new _ _ _
  have hbl : Below w.heap.size w w1 := by rw [hw1]; exact (Below.refl _ _).alloc (Nat.le_refl _) _
  have HTB := Lib.hid (show ∀ w', Below w1.heap.size w1 w' → ff.Tab T w' ∧ ff.P10 w' from fun w' hb => by
    have h1 := hbl.trans (hb.mono hbl.size)
    exact ⟨hT.below h1 hT.lt, ff.p10_below hP h1⟩)
  have HX := Lib.hid (show ∀ w', Below w1.heap.size w1 w' → _ from fun w' hb => cells5 (hX.below hb hX.lt))
  have HBL := Lib.hid hbl
  have HW1 := Lib.hid hw1
  have HFF := Lib.hid hff
  obtain ⟨x0, x1, x2, x3, x4, -, -, -, -, -, xl⟩ := cells5 hX
  clear hw1 hX hbl hT hP hff
  go_enter Tryd.func3, Tryd.ntmps3
  go_upto_region 1 with fail
  rw [← HW1.out]
  go_wp2_with fail
  refine (kCoords_calls q D w1).mono ?_
  rintro e w2 ⟨b, rfl, hD, hb2⟩
  have HB2 := Lib.hid hb2
  cases b with
  | false =>
    clear hb2 hD
    go_wp2_with fail
    exact bodyPost_ret (v := .bool true) (by simp [results, go_sem]) rfl ⟨rfl, HBL.out.trans (HB2.out.mono HBL.out.size)⟩
  | true =>
    obtain ⟨d, rfl⟩ : ∃ d : Nat, D = d := ⟨D.toNat, by have := hD rfl; omega⟩
    have hd : d < 4 := by have := hD rfl; omega
    have hltI : (d : Int) < 4 := by omega
    clear hD x0 x1 x2 x3 x4 xl
    obtain ⟨w3, hw3⟩ : ∃ w3, w3 = w2.alloc (.cells #[.string ⟨#[88, 89]⟩, .string ⟨#[88, 89, 90]⟩, .string ⟨#[88, 89, 77]⟩, .string ⟨#[88, 89, 90, 77]⟩] 9) := ⟨_, rfl⟩
    have hb3 : Below w1.heap.size w1 w3 := by rw [hw3]; exact hb2.alloc hb2.size _
    have hY : Blk w3 w2.heap.size 9 #[.string ⟨#[88, 89]⟩, .string ⟨#[88, 89, 90]⟩, .string ⟨#[88, 89, 77]⟩, .string ⟨#[88, 89, 90, 77]⟩] := by rw [hw3]; exact Blk.new _ _ _
    have c0 : w3.cell? ⟨w2.heap.size, d, none⟩ = some (.string (ff.tyS d)) := by
      rw [hY.cell d]
      obtain rfl | rfl | rfl | rfl := four hd <;> rfl
    have yl := hY.lt
    obtain ⟨x0, x1, x2, x3, x4, -, -, -, -, -, xl⟩ := HX.out w3 hb3
    have HB3 := Lib.hid hb3
    have HW3 := Lib.hid hw3
    have HD := Lib.hid hd
    clear hb2 hb3 hY hw3 hd
    have y0 : (w2.alloc (.cells #[.string ⟨#[88, 89]⟩, .string ⟨#[88, 89, 90]⟩, .string ⟨#[88, 89, 77]⟩, .string ⟨#[88, 89, 90, 77]⟩] 9)).cell? ⟨w2.heap.size, d, none⟩ = some (.string (ff.tyS d)) := by rw [← HW3.out]; exact c0
    have y4 : (w2.alloc (.cells #[.string ⟨#[88, 89]⟩, .string ⟨#[88, 89, 90]⟩, .string ⟨#[88, 89, 77]⟩, .string ⟨#[88, 89, 90, 77]⟩] 9)).cell? ⟨w.heap.size, 4, none⟩ = some (.int .i64 d) := by rw [← HW3.out]; exact x4
    have hsz1 : ¬ 9223372036854775807 < 12 + (ff.tyS d).size := by have := ff.tyS_size d; omega
    have hsz2 : ¬ 9223372036854775807 < 12 + (ff.tyS d).size + 1 := by have := ff.tyS_size d; omega
    go_upto_region 4 with fail
    rw [← HW3.out]
    obtain ⟨s0, hs0⟩ : ∃ s0 : ByteArray, s0 = (⟨#[67, 111, 111, 114, 100, 105, 110, 97, 116, 101, 115, 91]⟩ : ByteArray) ++ ff.tyS d ++ ⟨#[93]⟩ := ⟨_, rfl⟩
    rw [← hs0]
    have HS0 := Lib.hid (show s0 = want FT d [] from hs0)
    clear hs0 hsz1 hsz2 y0 y4 c0
    go_wp2_with fail
    refine (kNums_calls HD.out q w3).mono ?_
    rintro e w4 ⟨A, k, rfl, hA, hb4⟩
    obtain ⟨n, hn⟩ : ∃ n, n = (emit d q).length := ⟨_, rfl⟩
    have hn4 : n ≤ 4 := by rw [hn, emit_len HD.out]; exact (wd_two d).2
    rw [← hn] at hA ⊢
    have HN := Lib.hid hn
    have HA := Lib.hid hA
    have HB4 := Lib.hid (HB3.out.trans (hb4.mono HB3.out.size))
    clear hA hb4 hn x0 x1 x2 x3 x4 xl yl
    go_wp2_with fail
    go_loopg [3, 19] n (fun m sv ci wr => ∃ (i : Nat) (s : ByteArray), i + m = n ∧ ci = .int .i64 (i : Nat) ∧ sv = .string s ∧ s = want FT d ((emit d q).take i) ∧ Below w4.heap.size w4 wr)
    case atStart => exact ⟨0, s0, by omega, by go_num, rfl, by rw [List.take_zero]; exact HS0.out, Below.refl _ _⟩
    case round =>
      obtain ⟨i, s, hi', rfl, rfl, hs, hb5⟩ := hrel
      have HI := Lib.hid hi'
      have HS := Lib.hid hs
      have HB5 := Lib.hid hb5
      have hin : i ≤ n := by omega
      clear hi' hs hb5
      by_cases hlt : i < n
      · obtain ⟨b, off, hAe, hbo, hcell⟩ := HA.out.2.2 (by omega)
        subst hAe
        have hln : i < (emit d q).length := by rw [← HN.out]; exact hlt
        obtain ⟨x, hx⟩ : ∃ x, (emit d q)[i]? = some x := ⟨(emit d q)[i], List.getElem?_eq_getElem hln⟩
        have c0 : wr.cell? ⟨b, off + i, none⟩ = some (.float .f64 x) := (HB5.out.cell (p := ⟨b, off + i, none⟩) hbo).trans (hcell i _ (by unfold FL; rw [List.getElem?_map, hx]; rfl))
        have hltI : (i : Int) < (n : Int) := by omega
        have HXX := Lib.hid hx
        have hz1 : ¬ 9223372036854775807 < 1 + (ff.strN (FT x)).size := by have := (HFF.out.1 x).1; rw [ff.strN_size]; omega
        have hz2 : ¬ 9223372036854775807 < s.size + (1 + (ff.strN (FT x)).size) := by
          have h1 := (HFF.out.1 x).1
          have h2 := want_size (fun x => (HFF.out.1 x).1) d ((emit d q).take i)
          rw [← HS.out, List.length_take] at h2
          rw [ff.strN_size]
          omega
        clear hcell hx hln
        go_wp2_with fail
        refine (wnum_calls HFF.out x wr (HTB.out wr (HB4.out.trans (HB5.out.mono HB4.out.size))).1 (HTB.out wr (HB4.out.trans (HB5.out.mono HB4.out.size))).2).mono ?_
        rintro e w5 ⟨rfl, hb6⟩
        have HB6 := Lib.hid (HB5.out.trans (hb6.mono HB5.out.size))
        clear hb6
        go_wp2_with fail
        go_roundg (n - (i + 1))
        case measure => have := HI.out; omega
        case rel => exact ⟨i + 1, _, by omega, by go_num, rfl, by rw [want_next FT d _ i x HXX.out, ← HS.out], HB6.out⟩
      · obtain rfl : i = n := by omega
        have hs : s = ⟨(ff.cS FT d q.x q.y q.z q.m).toArray⟩ := by
          rw [HS.out, List.take_of_length_le (by rw [HN.out]; exact Nat.le_refl _)]
          exact want_all FT HD.out q
        have hltI : (i : Int) ≤ (i : Int) := Int.le_refl _
        have hbr := HB4.out.trans (HB5.out.mono HB4.out.size)
        have hbrd := hbr.drew
        have HCS := Lib.hid (show ∀ w', Below w1.heap.size w1 w' → Calls Tryd.prog 7 #[.agg #[.float .f64 q.x, .float .f64 q.y, .float .f64 q.z, .float .f64 q.m, .int .i64 d]] w' (fun e w'' => e = .returned (.string s) ∧ Below w1.heap.size w1 w'') from fun w' hb => by
          refine (istr_calls HFF.out HD.out q w' (HTB.out w' hb).1 (HTB.out w' hb).2).mono ?_
          rintro e w'' ⟨rfl, hb2⟩
          exact ⟨by rw [hs], hb.trans (hb2.mono hb.size)⟩)
        obtain ⟨fs, hfs⟩ : ∃ fs, fs = emit d q := ⟨_, rfl⟩
        have HPT := Lib.hid (show ∀ w', Below w1.heap.size w1 w' → Calls Tryd.prog 9 #[.agg #[.float .f64 q.x, .float .f64 q.y, .float .f64 q.z, .float .f64 q.m, .int .i64 d]] w' (fun e w'' => ∃ A k, e = .returned (.agg #[.int .i64 1, .int .i64 d, .slice A i k, .slice none 0 0]) ∧ Sl w'' w''.heap.size A i 1 (FL fs) ∧ Below w1.heap.size w1 w'' ∧ Below w'.heap.size w' w'') from fun w' hb => by
          refine (ipt_calls HD.out q w').mono ?_
          rintro e w'' ⟨A, k, rfl, h1, -, hb2⟩
          rw [← HN.out, ← hfs] at h1
          exact ⟨A, k, by rw [← HN.out], h1, hb.trans (hb2.mono hb.size), hb2⟩)
        have HNU := Lib.hid (show ∀ w', Below w1.heap.size w1 w' → Calls Tryd.prog 5 #[.agg #[.float .f64 q.x, .float .f64 q.y, .float .f64 q.z, .float .f64 q.m, .int .i64 d]] w' (fun e w'' => ∃ A k, e = .returned (.slice A i k) ∧ Sl w'' w''.heap.size A i 1 (FL fs) ∧ Below w1.heap.size w1 w'' ∧ Below w'.heap.size w' w'') from fun w' hb => by
          refine (kNums_calls HD.out q w').mono ?_
          rintro e w'' ⟨A, k, rfl, h1, hb2⟩
          rw [← HN.out, ← hfs] at h1
          exact ⟨A, k, by rw [← HN.out], h1, hb.trans (hb2.mono hb.size), hb2⟩)
        obtain ⟨x0, x1, x2, x3, x4, -, -, -, -, -, xl⟩ := HX.out wr hbr
        have x0d : wr.drew.cell? ⟨w.heap.size, 0, none⟩ = some (.float .f64 q.x) := x0
        have x1d : wr.drew.cell? ⟨w.heap.size, 1, none⟩ = some (.float .f64 q.y) := x1
        have x2d : wr.drew.cell? ⟨w.heap.size, 2, none⟩ = some (.float .f64 q.z) := x2
        have x3d : wr.drew.cell? ⟨w.heap.size, 3, none⟩ = some (.float .f64 q.m) := x3
        have x4d : wr.drew.cell? ⟨w.heap.size, 4, none⟩ = some (.int .i64 d) := x4
        clear hs hfs
        go_upto_region 9 with fail
        go_region_law (first
          | (go_simp; go_at_call 7; refine (HCS.out _ (by assumption)).mono ?_
             rintro e3 w5 ⟨rfl, hb5⟩
             obtain ⟨x0, x1, x2, x3, x4, -, -, -, -, -, xl⟩ := HX.out w5 hb5)
          | (go_simp; go_at_call 9; refine (HPT.out _ (by assumption)).mono ?_
             rintro e4 w6 ⟨A6, k6, rfl, h6, hb6, hs6⟩
             obtain ⟨x0, x1, x2, x3, x4, -, -, -, -, -, xl⟩ := HX.out w6 hb6)
          | (go_simp; go_at_call 5; refine (HNU.out _ (by assumption)).mono ?_
             rintro e5 w7 ⟨A7, k7, rfl, h7, hb7, hs7⟩
             obtain ⟨x0, x1, x2, x3, x4, -, -, -, -, -, xl⟩ := HX.out w7 hb7)
          | (go_simp; go_at_call 8; refine (samePt_calls d A6 A7 i k6 k7 fs _ (by first | exact h6 | exact h6.up hs7) (by first | exact h7 | exact h7.up hs6)).mono ?_
             rintro e8 w8 ⟨rfl, hb8⟩
             have hb9 : Below w1.heap.size w1 w8 := Below.trans (show Below w1.heap.size w1 _ by first | exact hb6 | exact hb7) (hb8.mono (Below.size (by first | exact hb6 | exact hb7)))))
        all_goals
          go_wp2_with fail
          exact bodyPost_ret (v := .bool true) (by simp [results, go_sem]) rfl ⟨rfl, HBL.out.trans (hb9.mono HBL.out.size)⟩
end Go.Proofs.YtpfgdfgifdbijaaDoor.pt
