/-
  Plain laws on parts; the walk of the law of parts.
-/
import Derived.Test.YtplphaaeibeheaaGreatGeoAP
import Derived.Test.YtplphaaeibeheaaGreatGeoAB
import Derived.Test.YtplphaaeibeheaaGreatGeoU
namespace Go.Proofs.YtplphaaeibeheaaGreat.geo
open Go.ChangeShapes Go.WideShapes Go.ChangeAt Go.RowKit
open Go.Proofs.YtplphaaeibeheaaGreat.mem
set_option linter.unusedVariables false
set_option linter.unusedSimpArgs false
set_option maxRecDepth 100000

theorem isNum_zero : isNum 0 := by unfold isNum; decide +kernel
/-- Numbers alone. -/
def AllNum (p : PG) : Prop := ∀ x ∈ p.alln, isNum x
theorem allnL_iff : ∀ {l : List PG} {x : Nat}, x ∈ PG.allnL l ↔ ∃ g ∈ l, x ∈ g.alln
  | [], x => by simp [PG.allnL]
  | g :: l, x => by rw [PG.allnL, List.mem_append, allnL_iff (l := l)]; simp
theorem allNum_iff {k d : Int} {ns : List Nat} {kids : List PG} : AllNum (.mk k d ns kids) ↔ (∀ x ∈ ns, isNum x) ∧ ∀ g ∈ kids, AllNum g := by
  unfold AllNum
  rw [PG.alln]
  constructor
  · intro h
    exact ⟨fun x hx => h x (List.mem_append_left _ hx), fun g hg x hx => h x (List.mem_append_right _ (allnL_iff.2 ⟨g, hg, hx⟩))⟩
  · rintro ⟨h1, h2⟩ x hx
    rcases List.mem_append.1 hx with h | h
    · exact h1 x h
    · obtain ⟨g, hg, hx⟩ := allnL_iff.1 h
      exact h2 g hg x hx
theorem getD_num {ns : List Nat} (h : ∀ x ∈ ns, isNum x) (i : Nat) : isNum (ns.getD i 0) := by
  rw [List.getD_eq_getElem?_getD]
  cases e : ns[i]? with
  | none => exact isNum_zero
  | some x => exact h x (List.mem_of_getElem? e)
theorem plAt_num {d : Nat} {ns : List Nat} (h : ∀ x ∈ ns, isNum x) (i d' : Nat) : ∀ x ∈ emit d' (plAt d ns i), isNum x := by
  intro x hx
  have hz : isNum (plAt d ns i).z := by unfold plAt; simp only; split; exact getD_num h _; exact isNum_zero
  have hm : isNum (plAt d ns i).m := by unfold plAt; simp only; split; exact getD_num h _; exact isNum_zero
  unfold emit at hx
  simp only [List.mem_cons, List.mem_append] at hx
  rcases hx with rfl | rfl | h1 | h1
  · exact getD_num h _
  · exact getD_num h _
  · split at h1
    · simp at h1; rw [h1]; exact hz
    · simp at h1
  · split at h1
    · simp at h1; rw [h1]; exact hm
    · simp at h1
theorem frcN_num {d d' : Nat} {ns : List Nat} (h : ∀ x ∈ ns, isNum x) : ∀ x ∈ frcN d d' ns, isNum x := by
  intro x hx
  unfold frcN plc at hx
  obtain ⟨p, hp, hx⟩ := List.mem_flatMap.1 hx
  obtain ⟨i, -, rfl⟩ := List.mem_map.1 hp
  exact plAt_num h i d' x hx
theorem allNum_frc {d : Nat} : ∀ {g : PG}, AllNum g → AllNum (g.frc d) := by
  intro g
  induction g using PG.ind with
  | h k d0 ns kids ih =>
    intro h
    rw [allNum_iff] at h
    rw [frc_eq, allNum_iff]
    refine ⟨frcN_num h.1, fun g hg => ?_⟩
    obtain ⟨g', hg', rfl⟩ := List.mem_map.1 hg
    exact ih g' hg' (h.2 g' hg')
theorem allNum_join {k : Int} {d0 : Nat} {ks : List PG} (h : ∀ g ∈ ks, AllNum g) : AllNum (joinG k d0 ks) := by
  unfold joinG
  split
  · rw [allNum_iff]; simp
  · rw [allNum_iff]
    refine ⟨by simp, fun g hg => ?_⟩
    obtain ⟨g', hg', rfl⟩ := List.mem_map.1 hg
    exact allNum_frc (h g' hg')
theorem allNum_new : ∀ {g : PG}, AllNum g → AllNum g.new := by
  intro g
  induction g using PG.ind with
  | h k d ns kids ih =>
    intro h
    rw [allNum_iff] at h
    rw [new_eq]
    have ht : ∀ m, ∀ x ∈ ns.take m, isNum x := fun m x hx => h.1 x (List.mem_of_mem_take hx)
    split
    · rw [allNum_iff]; exact ⟨ht _, by simp⟩
    · split
      · rw [allNum_iff]; exact ⟨ht _, by simp⟩
      · refine allNum_join (fun g hg => ?_)
        obtain ⟨g', hg', rfl⟩ := List.mem_map.1 (List.mem_filter.1 hg).1
        exact ih g' hg' (h.2 g' hg')
theorem part_ok {g q : PG} {n : Int} (hf : g.fit) (hn : AllNum g) (h : g.part n = some q) : q.fit ∧ AllNum q := by
  obtain ⟨k, d, ns, kids⟩ := g
  rw [PG.fit] at hf
  rw [allNum_iff] at hn
  unfold PG.part at h
  rw [show (PG.mk k d ns kids).k = k from rfl, show (PG.mk k d ns kids).d = d from rfl, show (PG.mk k d ns kids).ns = ns from rfl, show (PG.mk k d ns kids).kids = kids from rfl] at h
  split at h
  · split at h
    · have := (Option.some.inj h).symm
      subst this
      have h2 := wd_two (dm d)
      constructor
      · rw [PG.fit, emit_len (dm_lt d), Nat.div_self (by omega)]
        exact ⟨⟨by decide, by simp⟩, trivial⟩
      · rw [allNum_iff]
        exact ⟨plAt_num hn.1 _ _, by simp⟩
    · cases h
  · split at h
    · have := (Option.some.inj h).symm
      subst this
      constructor
      · rw [PG.fit]; exact ⟨⟨by simp, by simp⟩, trivial⟩
      · rw [allNum_iff]; simp
    · split at h
      · exact ⟨fitL_iff.1 hf.2 _ (List.mem_of_getElem? h), hn.2 _ (List.mem_of_getElem? h)⟩
      · cases h

/-- The constant line of the law. -/
theorem one_new : (PG.mk 2 0 [4607182418800017408, 4611686018427387904] []).new = .mk 2 0 [4607182418800017408, 4611686018427387904] [] := by
  rw [new_eq]; rfl
theorem one_part : (PG.mk 2 0 [4607182418800017408, 4611686018427387904] []).new.part 0 = some (.mk 1 0 [4607182418800017408, 4611686018427387904] []) := by
  rw [one_new]; rfl
theorem one_small : (PG.mk 2 0 [4607182418800017408, 4611686018427387904] []).small := by rw [PG.small]; exact ⟨⟨by simp, by simp⟩, trivial⟩
theorem plain_k : ∀ i : IG, ∃ d A ca ns B cb kids, i = .mk i.plain.k d A ca ns B cb kids
  | .mk k d A ca ns B cb kids => ⟨d, A, ca, ns, B, cb, kids, by rw [IG.plain_eq]; rfl⟩
theorem fieldKind (k d : Int) (u v : Value) (w : World) : (Instr.field 25 (.agg #[.int .i64 k, .int .i64 d, u, v]) 0).run Tryz.prog w = .ok (.int .i64 k) w := by kernel_rfl

set_option maxHeartbeats 16000000 in
theorem law_part (g : IG) (n : Int) (S : Nat → Prop) (w : World) (h : g.In S w) : Calls Tryz.prog 4 #[.agg g.enc.toArray, .int .i64 n] w (Gives w (.bool true)) := by
  obtain ⟨P, hP⟩ : ∃ P, P = g.plain := ⟨_, rfl⟩
  obtain ⟨w1, hw1⟩ : ∃ w1, w1 = w.alloc (.cells g.enc.toArray 25) := ⟨_, rfl⟩
  have hb1 : Below w.heap.size w w1 := by rw [hw1]; exact (Below.refl _ _).alloc (Nat.le_refl _) _
  have hX : Blk w1 w.heap.size 25 g.enc.toArray := by rw [hw1]; exact Blk.new _ _ _
  have h1 := IG.up hb1 h
  have HFC := Lib.hid (fits_calls g S w1 h1)
  have HKC := Lib.hid (fun w' (hb : Below w1.heap.size w1 w') => kany_calls g S w' (IG.up hb h1))
  have HNC := Lib.hid (fun (hk : kOk P) w' (hb : Below w1.heap.size w1 w') => snew_calls g S w' (IG.up hb h1) (by rw [← hP]; exact fit_small (tot_small hk.2.1)))
  have HIP := Lib.hid (fun (hk : kOk P) (hne : P.new.k ≠ 1) (hb : -2147483648 ≤ n ∧ n ≤ 2147483648) w' (hbw : Below w1.heap.size w1 w') => iPartOf_calls g S w' (IG.up hbw h1) (by rw [← hP]; exact tot_small hk.2.1) (by rw [← hP]; exact hne) n hb)
  rw [← hP] at HKC HNC HIP
  clear h h1 hP
  obtain ⟨k, d, A, ca, ns, B, cb, kids⟩ := g
  rw [show (IG.mk k d A ca ns B cb kids).enc.toArray = #[.int .i64 k, .int .i64 d, .slice A ns.length ca, .slice B kids.length cb] from rfl] at HFC HKC HNC HIP hX hw1 ⊢
  obtain ⟨x0, x1, x2, x3, -, -, -, -, xl⟩ := cells4 hX
  have HX := Lib.hid (fun w' (hb : Below w1.heap.size w1 w') => cells4 (hX.below hb hX.lt))
  have HB1 := Lib.hid hb1
  have HW1 := Lib.hid hw1
  clear hX hb1 hw1
  have hfd := fieldKind
  go_enter Tryz.func4, Tryz.ntmps4
  go_wp2_with fail
  rw [← HW1.out]
  refine HFC.out.mono ?_
  rintro e w2 ⟨b, rfl, hb2⟩
  have HB2 := Lib.hid hb2
  clear x0 x1 x2 x3 xl
  cases b with
  | false =>
    clear hb2
    go_wp2_with fail
    exact bodyPost_ret (v := .bool true) (by simp [results, go_sem]) rfl ⟨rfl, HB1.out.trans (HB2.out.mono HB1.out.size)⟩
  | true =>
    obtain ⟨x0, x1, x2, x3, -, -, -, -, xl⟩ := HX.out w2 hb2
    clear hb2
    go_wp2_with fail
    refine (HKC.out w2 HB2.out).mono ?_
    rintro e w3 ⟨b, rfl, hbk, hb3⟩
    have HB3 := Lib.hid (HB2.out.trans (hb3.mono HB2.out.size))
    have HBK := Lib.hid hbk
    clear x0 x1 x2 x3 xl hb3 hbk
    cases b with
    | false =>
      go_wp2_with fail
      exact bodyPost_ret (v := .bool true) (by simp [results, go_sem]) rfl ⟨rfl, HB1.out.trans (HB3.out.mono HB1.out.size)⟩
    | true =>
      have HKO := Lib.hid (HBK.out.1 rfl)
      obtain ⟨x0, x1, x2, x3, -, -, -, -, xl⟩ := HX.out w3 HB3.out
      go_wp2_with fail
      refine (HNC.out HKO.out w3 HB3.out).mono ?_
      rintro e w4 ⟨g4, rfl, -, hp4, hb4⟩
      obtain ⟨d4, A4, ca4, ns4, B4, cb4, ks4, he4⟩ := plain_k g4
      rw [hp4] at he4
      have HB4 := Lib.hid (HB3.out.trans (hb4.mono HB3.out.size))
      obtain ⟨K, hK⟩ : ∃ K, K = P.new.k := ⟨_, rfl⟩
      rw [← hK] at he4
      rw [he4, show (IG.mk K d4 A4 ca4 ns4 B4 cb4 ks4).enc.toArray = #[.int .i64 K, .int .i64 d4, .slice A4 ns4.length ca4, .slice B4 ks4.length cb4] from rfl]
      have HK := Lib.hid hK
      clear hb4 hp4 he4 hK x0 x1 x2 x3 xl
      by_cases hK1 : K = 1
      · have e1 : (K == 1) = true := beq_iff_eq.2 hK1
        go_wp2_with fail
        exact bodyPost_ret (v := .bool true) (by simp [results, go_sem]) rfl ⟨rfl, HB1.out.trans (HB4.out.mono HB1.out.size)⟩
      · have e1 : (K == 1) = false := beq_eq_false_iff_ne.2 hK1
        by_cases hlo : n < -2147483648
        · go_wp2_with fail
          exact bodyPost_ret (v := .bool true) (by simp [results, go_sem]) rfl ⟨rfl, HB1.out.trans (HB4.out.mono HB1.out.size)⟩
        · by_cases hhi : 2147483648 < n
          · go_wp2_with fail
            exact bodyPost_ret (v := .bool true) (by simp [results, go_sem]) rfl ⟨rfl, HB1.out.trans (HB4.out.mono HB1.out.size)⟩
          · have HNB := Lib.hid (show -2147483648 ≤ n ∧ n ≤ 2147483648 from by omega)
            have HNE := Lib.hid (show P.new.k ≠ 1 from by rw [← HK.out]; exact hK1)
            obtain ⟨x0, x1, x2, x3, -, -, -, -, xl⟩ := HX.out w4 HB4.out
            go_wp2_with fail
            refine (HNC.out HKO.out w4 HB4.out).mono ?_
            rintro e w5 ⟨g5, rfl, h5, hp5, hb5⟩
            have HB5 := Lib.hid (HB4.out.trans (hb5.mono HB4.out.size))
            have HSP := Lib.hid (sPartOf_calls g5 _ w5 h5 (by rw [hp5]; exact new_good) (by rw [hp5]; exact new_fit (fit_small (tot_small HKO.out.2.1))) (by rw [hp5]; exact HNE.out) n HNB.out)
            rw [hp5] at HSP
            obtain ⟨v5, hv5⟩ : ∃ v5, v5 = g5.enc.toArray := ⟨_, rfl⟩
            rw [← hv5] at HSP ⊢
            obtain ⟨o, ho⟩ : ∃ o, o = P.new.part n := ⟨_, rfl⟩
            rw [← ho] at HSP
            have HIP2 := Lib.hid (HIP.out HKO.out HNE.out HNB.out)
            rw [← ho] at HIP2
            have HOK := Lib.hid (show ∀ q, o = some q → q.fit ∧ AllNum q from fun q hq => part_ok (new_fit (fit_small (tot_small HKO.out.2.1))) (allNum_new HKO.out.2.2) (ho ▸ hq))
            clear hb5 hp5 h5 hv5 ho x0 x1 x2 x3 xl
            go_wp2_with fail
            refine HSP.out.mono ?_
            rintro e w6 ⟨i6, rfl, h6, hp6, hb6⟩
            have HB6 := Lib.hid (HB5.out.trans (hb6.mono HB5.out.size))
            have H6 := Lib.hid (IG.less (T := fun _ => True) (fun _ _ => trivial) h6)
            have HP6 := Lib.hid hp6
            obtain ⟨k6, d6, A6, ca6, ns6, B6, cb6, ks6⟩ := i6
            rw [show (IG.mk k6 d6 A6 ca6 ns6 B6 cb6 ks6).enc.toArray = #[.int .i64 k6, .int .i64 d6, .slice A6 ns6.length ca6, .slice B6 ks6.length cb6] from rfl]
            obtain ⟨wW, hwW⟩ : ∃ wW, wW = w6.alloc (.cells #[.int .i64 k6, .int .i64 d6, .slice A6 ns6.length ca6, .slice B6 ks6.length cb6] 25) := ⟨_, rfl⟩
            have hbW : Below w6.heap.size w6 wW := by rw [hwW]; exact (Below.refl _ _).alloc (Nat.le_refl _) _
            have hW6 : Blk wW w6.heap.size 25 #[.int .i64 k6, .int .i64 d6, .slice A6 ns6.length ca6, .slice B6 ks6.length cb6] := by rw [hwW]; exact Blk.new _ _ _
            have HW6 := Lib.hid hW6
            have HWW := Lib.hid hwW
            have HBW := Lib.hid (HB6.out.trans (hbW.mono HB6.out.size))
            have H6W := Lib.hid (IG.up hbW H6.out)
            obtain ⟨x0, x1, x2, x3, -, -, -, -, xl⟩ := HX.out w6 HB6.out
            clear hb6 h6 hp6 hwW hbW hW6
            go_wp2_with fail
            rw [← HWW.out]
            refine (HIP2.out wW HBW.out).mono ?_
            rintro e w7 ⟨i7, rfl, h7, hp7, hb7⟩
            have HB7 := Lib.hid (HBW.out.trans (hb7.mono HBW.out.size))
            have H7 := Lib.hid (IG.less (T := fun _ => True) (fun _ _ => trivial) h7)
            have HP7 := Lib.hid hp7
            have HW7 := Lib.hid (HW6.out.below hb7 HW6.out.lt)
            have H67 := Lib.hid (IG.up hb7 H6W.out)
            obtain ⟨k7, d7, A7, ca7, ns7, B7, cb7, ks7⟩ := i7
            rw [show (IG.mk k7 d7 A7 ca7 ns7 B7 cb7 ks7).enc.toArray = #[.int .i64 k7, .int .i64 d7, .slice A7 ns7.length ca7, .slice B7 ks7.length cb7] from rfl]
            obtain ⟨wP, hwP⟩ : ∃ wP, wP = (w7.alloc (.cells #[.int .i64 k7, .int .i64 d7, .slice A7 ns7.length ca7, .slice B7 ks7.length cb7] 25)).alloc (.cells #[.float .f64 4607182418800017408, .float .f64 4611686018427387904] 31) := ⟨_, rfl⟩
            have hbP : Below w7.heap.size w7 wP := by rw [hwP]; exact ((Below.refl _ _).alloc (Nat.le_refl _) _).alloc (by simp) _
            have hW7 : Blk wP w7.heap.size 25 #[.int .i64 k7, .int .i64 d7, .slice A7 ns7.length ca7, .slice B7 ks7.length cb7] := by rw [hwP]; exact (Blk.new _ _ _).alloc _
            have hLit : Blk wP (w7.heap.size + 1) 31 #[.float .f64 4607182418800017408, .float .f64 4611686018427387904] := by
              rw [hwP]
              have := Blk.new (w7.alloc (.cells #[.int .i64 k7, .int .i64 d7, .slice A7 ns7.length ca7, .slice B7 ks7.length cb7] 25)) 31 #[.float .f64 4607182418800017408, .float .f64 4611686018427387904]
              simpa using this
            have hone : (IG.mk 2 0 (some ⟨w7.heap.size + 1, 0, none⟩) 2 [4607182418800017408, 4611686018427387904] none 0 []).In (fun _ => True) wP := by
              rw [IG.In]
              refine ⟨⟨by decide, by decide⟩, ⟨by decide, by decide⟩, ⟨by simp, by simp⟩, ⟨⟨rfl, by decide, fun _ => ⟨_, _, rfl, hLit.lt, fun j v hj => ?_⟩⟩, fun _ _ _ => trivial⟩, ⟨by simp [Sl], fun h => absurd h (by simp)⟩, trivial⟩
              rw [Nat.zero_add, hLit.cell j]
              simpa [FL] using hj
            have HONE := Lib.hid (iPartOf_calls _ _ wP hone one_small (by rw [IG.plain_eq, show ([] : List IG).map IG.plain = [] from rfl, one_new]; decide) 0 ⟨by decide, by decide⟩)
            rw [IG.plain_eq, show ([] : List IG).map IG.plain = [] from rfl, one_part] at HONE
            have HONE := Lib.hid (show Calls Tryz.prog 12 #[.agg #[.int .i64 2, .int .i64 0, .slice (some ⟨w7.heap.size + 1, 0, none⟩) 2 2, .slice none 0 0], .int .i64 0] wP (PartPost (fun _ => True) wP (some (.mk 1 0 [4607182418800017408, 4611686018427387904] []))) from HONE.out)
            have HW7P := Lib.hid hW7
            have HW6P := Lib.hid (HW7.out.below hbP HW7.out.lt)
            have HWP := Lib.hid hwP
            have HBP := Lib.hid (HB7.out.trans (hbP.mono HB7.out.size))
            have H6P := Lib.hid (IG.up hbP H67.out)
            have H7P := Lib.hid (IG.up hbP H7.out)
            clear hb7 h7 hp7 hwP hbP hW7 hLit hone x0 x1 x2 x3 xl
            go_wp2_with fail
            rw [← HWP.out]
            refine HONE.out.mono ?_
            rintro e w8 ⟨i8, rfl, -, hp8, hb8⟩
            obtain ⟨d8, A8, ca8, ns8, B8, cb8, ks8, he8⟩ := plain_k i8
            rw [hp8 _ rfl, show (PG.mk 1 0 [4607182418800017408, 4611686018427387904] []).k = 1 from rfl] at he8
            rw [he8, show (IG.mk 1 d8 A8 ca8 ns8 B8 cb8 ks8).enc.toArray = #[.int .i64 1, .int .i64 d8, .slice A8 ns8.length ca8, .slice B8 ks8.length cb8] from rfl]
            have HB8 := Lib.hid (HBP.out.trans (hb8.mono HBP.out.size))
            obtain ⟨q0, q1, q2, q3, -, -, -, -, ql⟩ := cells4 (HW7P.out.below hb8 HW7P.out.lt)
            obtain ⟨r0, r1, r2, r3, -, -, -, -, rl⟩ := cells4 (HW6P.out.below hb8 HW6P.out.lt)
            have H68 := Lib.hid (IG.up hb8 H6P.out)
            have H78 := Lib.hid (IG.up hb8 H7P.out)
            clear hb8 hp8 he8
            cases o with
            | none =>
              go_wp2_with fail
              exact bodyPost_ret (v := .bool true) (by simp [results, go_sem]) rfl ⟨rfl, HB1.out.trans ((HB8.out.alloc HB8.out.size _).mono HB1.out.size)⟩
            | some q =>
              have HAL := Lib.hid (fun w' (hb : Below w8.heap.size w8 w') => alike_same _ _ _ w' (IG.up hb H78.out) (IG.up hb H68.out) (by rw [HP7.out q rfl, HP6.out q rfl]) (by rw [HP7.out q rfl]; exact (HOK.out q rfl).1) (by rw [HP7.out q rfl]; exact (HOK.out q rfl).2))
              have HAL := Lib.hid (show ∀ w', Below w8.heap.size w8 w' → Calls Tryz.prog 13 #[.agg #[.int .i64 k7, .int .i64 d7, .slice A7 ns7.length ca7, .slice B7 ks7.length cb7], .agg #[.int .i64 k6, .int .i64 d6, .slice A6 ns6.length ca6, .slice B6 ks6.length cb6]] w' (Gives w' (.bool true)) from HAL.out)
              go_wp2_with fail
              refine (HAL.out _ ((Below.refl _ _).alloc (Nat.le_refl _) _)).mono ?_
              rintro e w9 ⟨rfl, hb9⟩
              have HB9 := Lib.hid (HB8.out.trans (((Below.refl w8.heap.size w8).alloc (Nat.le_refl _) _ |>.trans (hb9.mono (by simp))).mono HB8.out.size))
              clear hb9
              go_wp2_with fail
              exact bodyPost_ret (v := .bool true) (by simp [results, go_sem]) rfl ⟨rfl, HB1.out.trans (HB9.out.mono HB1.out.size)⟩
end Go.Proofs.YtplphaaeibeheaaGreat.geo
