/-
  The walk of the law of kinds.
-/
import Derived.Test.YtplphaaeibeheaaGreatGeoAS
import Derived.Test.YtplphaaeibeheaaGreatGeoAQ
namespace Go.Proofs.YtplphaaeibeheaaGreat.geo
open Go.ChangeShapes Go.WideShapes Go.ChangeAt Go.RowKit
open Go.Proofs.YtplphaaeibeheaaGreat.mem
set_option linter.unusedVariables false
set_option linter.unusedSimpArgs false
set_option maxRecDepth 100000

theorem zero_new : (PG.mk 0 0 [] []).new = .mk 0 0 [] [] := by rw [new_eq]; rfl
theorem zero_small : (PG.mk 0 0 [] []).small := by rw [PG.small]; exact ⟨⟨by simp, by simp⟩, trivial⟩

set_option maxHeartbeats 16000000 in
theorem law_kind (g : IG) (n : Int) (S : Nat → Prop) (w : World) (h : g.In S w) : Calls Tryz.prog 5 #[.agg g.enc.toArray, .int .i64 n] w (Gives w (.bool true)) := by
  obtain ⟨P, hP⟩ : ∃ P, P = g.plain := ⟨_, rfl⟩
  obtain ⟨w1, hw1⟩ : ∃ w1, w1 = w.alloc (.cells g.enc.toArray 25) := ⟨_, rfl⟩
  have hb1 : Below w.heap.size w w1 := by rw [hw1]; exact (Below.refl _ _).alloc (Nat.le_refl _) _
  have hX : Blk w1 w.heap.size 25 g.enc.toArray := by rw [hw1]; exact Blk.new _ _ _
  have h1 := IG.up hb1 h
  have HFC := Lib.hid (fits_calls g S w1 h1)
  have HKC := Lib.hid (fun w' (hb : Below w1.heap.size w1 w') => kany_calls g S w' (IG.up hb h1))
  have HNC := Lib.hid (fun (hk : kOk P) w' (hb : Below w1.heap.size w1 w') => snew_calls g S w' (IG.up hb h1) (by rw [← hP]; exact fit_small (tot_small hk.2.1)))
  have HIA := Lib.hid (fun (hk : kOk P) (hb : 0 ≤ n ∧ n ≤ 6) w' (hbw : Below w1.heap.size w1 w') => iAsKind_calls g S w' (IG.up hbw h1) (by rw [← hP]; exact tot_small hk.2.1) n hb)
  have HIM := Lib.hid (fun (hk : kOk P) (hb : 0 ≤ n ∧ n ≤ 6) w' (hbw : Below w1.heap.size w1 w') => iMustAs_calls g S w' (IG.up hbw h1) (by rw [← hP]; exact tot_small hk.2.1) n hb)
  have HII := Lib.hid (fun (hk : kOk P) (hb : 0 ≤ n ∧ n ≤ 6) w' (hbw : Below w1.heap.size w1 w') => isKind_calls g n hb (IG.up hbw h1) (by rw [← hP]; exact tot_small hk.2.1))
  rw [← hP] at HKC HNC HIA HIM HII
  clear h h1 hP
  obtain ⟨k, d, A, ca, ns, B, cb, kids⟩ := g
  rw [show (IG.mk k d A ca ns B cb kids).enc.toArray = #[.int .i64 k, .int .i64 d, .slice A ns.length ca, .slice B kids.length cb] from rfl] at HFC HKC HNC HIA HIM HII hX hw1 ⊢
  obtain ⟨x0, x1, x2, x3, -, -, -, -, xl⟩ := cells4 hX
  have HX := Lib.hid (fun w' (hb : Below w1.heap.size w1 w') => cells4 (hX.below hb hX.lt))
  have HB1 := Lib.hid hb1
  have HW1 := Lib.hid hw1
  clear hX hb1 hw1
  have hfd := fieldKind
  go_enter Tryz.func5, Tryz.ntmps5
  go_wp2_with fail
  rw [← HW1.out]
  refine HFC.out.mono ?_
  rintro e w2 ⟨b, rfl, hb2⟩
  have HB2 := Lib.hid hb2
  clear x0 x1 x2 x3 xl
  cases b with
  | false =>
    clear hb2
    go_wp2_with fail
    exact bodyPost_ret (v := .bool true) (by simp [results, go_sem]) rfl ⟨rfl, HB1.out.trans (HB2.out.mono HB1.out.size)⟩
  | true =>
    obtain ⟨x0, x1, x2, x3, -, -, -, -, xl⟩ := HX.out w2 hb2
    clear hb2
    go_wp2_with fail
    refine (HKC.out w2 HB2.out).mono ?_
    rintro e w3 ⟨b, rfl, hbk, hb3⟩
    have HB3 := Lib.hid (HB2.out.trans (hb3.mono HB2.out.size))
    have HBK := Lib.hid hbk
    clear x0 x1 x2 x3 xl hb3 hbk
    cases b with
    | false =>
      go_wp2_with fail
      exact bodyPost_ret (v := .bool true) (by simp [results, go_sem]) rfl ⟨rfl, HB1.out.trans (HB3.out.mono HB1.out.size)⟩
    | true =>
      have HKO := Lib.hid (HBK.out.1 rfl)
      by_cases hlo : n < 0
      · go_wp2_with fail
        exact bodyPost_ret (v := .bool true) (by simp [results, go_sem]) rfl ⟨rfl, HB1.out.trans (HB3.out.mono HB1.out.size)⟩
      · by_cases hhi : 6 < n
        · go_wp2_with fail
          exact bodyPost_ret (v := .bool true) (by simp [results, go_sem]) rfl ⟨rfl, HB1.out.trans (HB3.out.mono HB1.out.size)⟩
        · have HNB := Lib.hid (show 0 ≤ n ∧ n ≤ 6 from by omega)
          have HIA2 := Lib.hid (HIA.out HKO.out HNB.out)
          have HIM2 := Lib.hid (HIM.out HKO.out HNB.out)
          have HII2 := Lib.hid (HII.out HKO.out HNB.out)
          have HNC2 := Lib.hid (HNC.out HKO.out)
          obtain ⟨o, ho⟩ : ∃ o, o = ofKind P.new n := ⟨_, rfl⟩
          rw [← ho] at HIA2 HIM2
          have HO := Lib.hid ho
          obtain ⟨x0, x1, x2, x3, -, -, -, -, xl⟩ := HX.out w3 HB3.out
          clear HIA HIM HII HNC HFC HKC ho
          go_wp2_with fail
          refine (HNC2.out w3 HB3.out).mono ?_
          rintro e w4 ⟨g4, rfl, h4, hp4, hb4⟩
          obtain ⟨d4, A4, ca4, ns4, B4, cb4, ks4, he4⟩ := plain_k g4
          obtain ⟨K, hK⟩ : ∃ K, K = P.new.k := ⟨_, rfl⟩
          rw [hp4, ← hK] at he4
          subst he4
          rw [← hK] at HII2
          have HB4 := Lib.hid (HB3.out.trans (hb4.mono HB3.out.size))
          have H4 := Lib.hid (IG.less (T := fun _ => True) (fun _ _ => trivial) h4)
          have HP4 := Lib.hid hp4
          have HK := Lib.hid hK
          rw [show (IG.mk K d4 A4 ca4 ns4 B4 cb4 ks4).enc.toArray = #[.int .i64 K, .int .i64 d4, .slice A4 ns4.length ca4, .slice B4 ks4.length cb4] from rfl]
          obtain ⟨wN, hwN⟩ : ∃ wN, wN = w4.alloc (.cells #[.int .i64 K, .int .i64 d4, .slice A4 ns4.length ca4, .slice B4 ks4.length cb4] 25) := ⟨_, rfl⟩
          have hbN : Below w4.heap.size w4 wN := by rw [hwN]; exact (Below.refl _ _).alloc (Nat.le_refl _) _
          have hN : Blk wN w4.heap.size 25 #[.int .i64 K, .int .i64 d4, .slice A4 ns4.length ca4, .slice B4 ks4.length cb4] := by rw [hwN]; exact Blk.new _ _ _
          have HN := Lib.hid hN
          have HWN := Lib.hid hwN
          have HBN := Lib.hid (HB4.out.trans (hbN.mono HB4.out.size))
          have H4N := Lib.hid (IG.up hbN H4.out)
          obtain ⟨x0, x1, x2, x3, -, -, -, -, xl⟩ := HX.out w4 HB4.out
          clear h4 hp4 hb4 hK hwN hbN hN
          obtain ⟨is, his⟩ : ∃ is, is = (K == n) := ⟨_, rfl⟩
          rw [← his] at HII2
          have HIS := Lib.hid his
          have hoi : o.isSome = is := by rw [HO.out, ofKind_is, ← HK.out, ← HIS.out]
          have HOI := Lib.hid hoi
          replace his := his.symm
          clear hoi
          go_wp2_with fail
          rw [← HWN.out]
          refine (HIA2.out wN HBN.out).mono ?_
          rintro e w7 ⟨⟨k7, d7, A7, ca7, ns7, B7, cb7, ks7⟩, rfl, h7, hp7, hb7⟩
          rw [HOI.out, show (IG.mk k7 d7 A7 ca7 ns7 B7 cb7 ks7).enc.toArray = #[.int .i64 k7, .int .i64 d7, .slice A7 ns7.length ca7, .slice B7 ks7.length cb7] from rfl]
          have HB7 := Lib.hid (HBN.out.trans (hb7.mono HBN.out.size))
          have HN7 := Lib.hid (HN.out.below hb7 HN.out.lt)
          have H47 := Lib.hid (IG.up hb7 H4N.out)
          have H7 := Lib.hid (IG.less (T := fun _ => True) (fun _ _ => trivial) h7)
          have HP7 := Lib.hid hp7
          obtain ⟨wH, hwH⟩ : ∃ wH, wH = w7.alloc (.cells #[.int .i64 k7, .int .i64 d7, .slice A7 ns7.length ca7, .slice B7 ks7.length cb7] 25) := ⟨_, rfl⟩
          have hbH : Below w7.heap.size w7 wH := by rw [hwH]; exact (Below.refl _ _).alloc (Nat.le_refl _) _
          have hH : Blk wH w7.heap.size 25 #[.int .i64 k7, .int .i64 d7, .slice A7 ns7.length ca7, .slice B7 ks7.length cb7] := by rw [hwH]; exact Blk.new _ _ _
          have HH := Lib.hid hH
          have HWH := Lib.hid hwH
          have HBH := Lib.hid (HB7.out.trans (hbH.mono HB7.out.size))
          have HNH := Lib.hid (HN7.out.below hbH HN7.out.lt)
          have H4H := Lib.hid (IG.up hbH H47.out)
          have H7H := Lib.hid (IG.up hbH H7.out)
          obtain ⟨x0, x1, x2, x3, -, -, -, -, xl⟩ := HX.out w7 HB7.out
          clear hb7 h7 hp7 hwH hbH hH
          go_wp2_with fail
          rw [← HWH.out]
          refine (HIM2.out wH HBH.out).mono ?_
          rintro e w9 ⟨⟨k9, d9, A9, ca9, ns9, B9, cb9, ks9⟩, rfl, h9, hp9, hb9⟩
          rw [HOI.out, show (IG.mk k9 d9 A9 ca9 ns9 B9 cb9 ks9).enc.toArray = #[.int .i64 k9, .int .i64 d9, .slice A9 ns9.length ca9, .slice B9 ks9.length cb9] from rfl]
          have HB9 := Lib.hid (HBH.out.trans (hb9.mono HBH.out.size))
          have HN9 := Lib.hid (HNH.out.below hb9 HNH.out.lt)
          have HH9 := Lib.hid (HH.out.below hb9 HH.out.lt)
          have H49 := Lib.hid (IG.up hb9 H4H.out)
          have H79 := Lib.hid (IG.up hb9 H7H.out)
          have H9 := Lib.hid (IG.less (T := fun _ => True) (fun _ _ => trivial) h9)
          have HP9 := Lib.hid hp9
          obtain ⟨wM, hwM⟩ : ∃ wM, wM = w9.alloc (.cells #[.int .i64 k9, .int .i64 d9, .slice A9 ns9.length ca9, .slice B9 ks9.length cb9] 25) := ⟨_, rfl⟩
          have hbM : Below w9.heap.size w9 wM := by rw [hwM]; exact (Below.refl _ _).alloc (Nat.le_refl _) _
          have hM : Blk wM w9.heap.size 25 #[.int .i64 k9, .int .i64 d9, .slice A9 ns9.length ca9, .slice B9 ks9.length cb9] := by rw [hwM]; exact Blk.new _ _ _
          have HM := Lib.hid hM
          have HWM := Lib.hid hwM
          have HBM := Lib.hid (HB9.out.trans (hbM.mono HB9.out.size))
          have HNM := Lib.hid (HN9.out.below hbM HN9.out.lt)
          have HHM := Lib.hid (HH9.out.below hbM HH9.out.lt)
          have H4M := Lib.hid (IG.up hbM H49.out)
          have H7M := Lib.hid (IG.up hbM H79.out)
          have H9M := Lib.hid (IG.up hbM H9.out)
          clear hb9 h9 hp9 hwM hbM hM x0 x1 x2 x3 xl
          have HZC := Lib.hid (show Calls Tryz.prog 15 #[.agg #[.int .i64 0, .int .i64 0, .slice none 0 0, .slice none 0 0], .int .i64 0] wM (PartPost (fun _ => True) wM (some (.mk 0 0 [] []))) from by
            have h := iMustAs_calls _ _ wM (IG.zero_in (fun _ => True) wM) (by rw [IG.plain_eq]; exact zero_small) 0 ⟨by decide, by decide⟩
            rw [IG.plain_eq, show ([] : List IG).map IG.plain = [] from rfl, zero_new] at h
            exact h)
          go_wp2_with fail
          rw [← HWM.out]
          refine HZC.out.mono ?_
          rintro e w11 ⟨⟨kZ, dZ, AZ, caZ, nsZ, BZ, cbZ, ksZ⟩, rfl, hZ, hpZ, hbZ⟩
          rw [show (IG.mk kZ dZ AZ caZ nsZ BZ cbZ ksZ).enc.toArray = #[.int .i64 kZ, .int .i64 dZ, .slice AZ nsZ.length caZ, .slice BZ ksZ.length cbZ] from rfl]
          obtain ⟨wZ, hwZ⟩ : ∃ wZ, wZ = w11.alloc (.cells #[.int .i64 kZ, .int .i64 dZ, .slice AZ nsZ.length caZ, .slice BZ ksZ.length cbZ] 25) := ⟨_, rfl⟩
          have hbZ2 : Below w11.heap.size w11 wZ := by rw [hwZ]; exact (Below.refl _ _).alloc (Nat.le_refl _) _
          have HB11 := Lib.hid (HBM.out.trans (hbZ.mono HBM.out.size))
          have hbMZ := hbZ.trans (hbZ2.mono hbZ.size)
          have HBZ := Lib.hid (HBM.out.trans (hbMZ.mono HBM.out.size))
          have HWZ := Lib.hid hwZ
          have HZ := Lib.hid (IG.up hbZ2 (IG.less (T := fun _ => True) (fun _ _ => trivial) hZ))
          have HPZ := Lib.hid (hpZ _ rfl)
          have HNZ := Lib.hid (HNM.out.below hbMZ HNM.out.lt)
          have HHZ := Lib.hid (HHM.out.below hbMZ HHM.out.lt)
          have HMZ := Lib.hid (HM.out.below hbMZ HM.out.lt)
          have H4Z := Lib.hid (IG.up hbMZ H4M.out)
          have H7Z := Lib.hid (IG.up hbMZ H7M.out)
          have H9Z := Lib.hid (IG.up hbMZ H9M.out)
          have HALZ := Lib.hid (show ∀ w', Below wZ.heap.size wZ w' → Calls Tryz.prog 13 #[.agg #[.int .i64 kZ, .int .i64 dZ, .slice AZ nsZ.length caZ, .slice BZ ksZ.length cbZ], .agg #[.int .i64 0, .int .i64 0, .slice none 0 0, .slice none 0 0]] w' (Gives w' (.bool true)) from fun w' hb =>
            alike_same (.mk kZ dZ AZ caZ nsZ BZ cbZ ksZ) (.mk 0 0 none 0 [] none 0 []) (fun _ => True) w' (IG.up hb HZ.out) (IG.zero_in _ _) (by rw [HPZ.out]; rfl) (by rw [HPZ.out, PG.fit]; exact ⟨⟨by simp, by simp⟩, trivial⟩) (by rw [HPZ.out]; intro x hx; cases hx))
          obtain ⟨x0, x1, x2, x3, -, -, -, -, xl⟩ := HX.out w11 HB11.out
          clear hZ hpZ hbZ hwZ hbZ2 hbMZ
          go_wp2_with fail
          rw [← HWZ.out]
          refine (HALZ.out wZ (Below.refl _ _)).mono ?_
          rintro e w12 ⟨rfl, hb12⟩
          have HB12 := Lib.hid hb12
          have HB12a := Lib.hid (HBZ.out.trans (hb12.mono HBZ.out.size))
          obtain ⟨x0, x1, x2, x3, -, -, -, -, xl⟩ := HX.out w12 HB12a.out
          clear hb12
          cases is with
          | false =>
            go_wp2_with fail
            refine (HII2.out w12 HB12a.out).mono ?_
            rintro e w13 ⟨rfl, hb13⟩
            have HB13 := Lib.hid (HB12a.out.trans (hb13.mono HB12a.out.size))
            clear hb13 x0 x1 x2 x3 xl
            go_wp2_with fail
            exact bodyPost_ret (v := .bool true) (by simp [results, go_sem]) rfl ⟨rfl, HB1.out.trans (HB13.out.mono HB1.out.size)⟩
          | true =>
            have hosome : o = some P.new := by
              rw [HO.out]
              unfold ofKind
              rw [if_pos (by rw [← HK.out]; exact beq_iff_eq.1 his)]
            have hfit := new_fit (fit_small (tot_small HKO.out.2.1))
            have hnum := allNum_new HKO.out.2.2
            have HAL7 := Lib.hid (show ∀ w', Below wZ.heap.size wZ w' → Calls Tryz.prog 13 #[.agg #[.int .i64 k7, .int .i64 d7, .slice A7 ns7.length ca7, .slice B7 ks7.length cb7], .agg #[.int .i64 K, .int .i64 d4, .slice A4 ns4.length ca4, .slice B4 ks4.length cb4]] w' (Gives w' (.bool true)) from fun w' hb =>
              alike_same (.mk k7 d7 A7 ca7 ns7 B7 cb7 ks7) (.mk K d4 A4 ca4 ns4 B4 cb4 ks4) (fun _ => True) w' (IG.up hb H7Z.out) (IG.up hb H4Z.out) (by rw [HP7.out _ hosome, HP4.out]) (by rw [HP7.out _ hosome]; exact hfit) (by rw [HP7.out _ hosome]; exact hnum))
            have HAL9 := Lib.hid (show ∀ w', Below wZ.heap.size wZ w' → Calls Tryz.prog 13 #[.agg #[.int .i64 k9, .int .i64 d9, .slice A9 ns9.length ca9, .slice B9 ks9.length cb9], .agg #[.int .i64 K, .int .i64 d4, .slice A4 ns4.length ca4, .slice B4 ks4.length cb4]] w' (Gives w' (.bool true)) from fun w' hb =>
              alike_same (.mk k9 d9 A9 ca9 ns9 B9 cb9 ks9) (.mk K d4 A4 ca4 ns4 B4 cb4 ks4) (fun _ => True) w' (IG.up hb H9Z.out) (IG.up hb H4Z.out) (by rw [HP9.out _ hosome, HP4.out]) (by rw [HP9.out _ hosome]; exact hfit) (by rw [HP9.out _ hosome]; exact hnum))
            clear hosome hfit hnum
            go_wp2_with fail
            refine (HII2.out w12 HB12a.out).mono ?_
            rintro e w13 ⟨rfl, hb13⟩
            have HB13 := Lib.hid (HB12.out.trans (hb13.mono HB12.out.size))
            obtain ⟨n0, n1, n2, n3, -, -, -, -, nl⟩ := cells4 (HNZ.out.below HB13.out HNZ.out.lt)
            obtain ⟨q0, q1, q2, q3, -, -, -, -, ql⟩ := cells4 (HHZ.out.below HB13.out HHZ.out.lt)
            clear hb13 x0 x1 x2 x3 xl
            go_wp2_with fail
            refine (HAL7.out w13 HB13.out).mono ?_
            rintro e w14 ⟨rfl, hb14⟩
            have HB14 := Lib.hid (HB13.out.trans (hb14.mono HB13.out.size))
            obtain ⟨n0, n1, n2, n3, -, -, -, -, nl⟩ := cells4 (HNZ.out.below HB14.out HNZ.out.lt)
            obtain ⟨q0, q1, q2, q3, -, -, -, -, ql⟩ := cells4 (HMZ.out.below HB14.out HMZ.out.lt)
            clear hb14
            go_wp2_with fail
            refine (HAL9.out w14 HB14.out).mono ?_
            rintro e w15 ⟨rfl, hb15⟩
            have HB15 := Lib.hid (HBZ.out.trans ((HB14.out.trans (hb15.mono HB14.out.size)).mono HBZ.out.size))
            clear hb15
            go_wp2_with fail
            exact bodyPost_ret (v := .bool true) (by simp [results, go_sem]) rfl ⟨rfl, HB1.out.trans (HB15.out.mono HB1.out.size)⟩
end Go.Proofs.YtplphaaeibeheaaGreat.geo
