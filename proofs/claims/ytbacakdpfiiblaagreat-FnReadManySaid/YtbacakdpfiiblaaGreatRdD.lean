/-
  Contracts of the reader of the reference: counts, numbers.
-/
import Derived.Test.YtbacakdpfiiblaaGreatRdC
import Derived.Test.YtbacakdpfiiblaaGreatRdB
import Derived.Test.YtbacakdpfiiblaaGreatGeoC
namespace Go.Proofs.YtbacakdpfiiblaaGreat.geo
open Go.ChangeShapes Go.WideShapes Go.ChangeAt Go.RowKit
open Go.Proofs.YtbacakdpfiiblaaGreat.mem
set_option linter.unusedVariables false
set_option linter.unusedSimpArgs false

/-- A count was read. -/
def CPost (S : Nat → Prop) (w : World) (R : Nat) (any : Bool) (o : Option (Nat × List Nat)) (e : Ending) (w' : World) : Prop :=
  ∃ x, e = .returned (.int .i64 (x : Nat)) ∧ x ≤ 4096 ∧ w.grownBy w' (some R) ∧ match o with
    | none => x = 0 ∧ RS S w' R any none
    | some (y, r) => x = y ∧ RS S w' R any (some r)
theorem rdU_lt {n : Nat} {big : Bool} {bs r : List Nat} {x : Nat} (hb : Byt bs) (h : rdU n big bs = some (x, r)) : x < 256 ^ n := by
  rw [(rdU_len h).2.2]
  exact bV_take_lt hb n
theorem RS.byt {S : Nat → Prop} {w : World} {R : Nat} {any : Bool} {l : List Nat} (h : RS S w R any (some l)) : Byt l ∧ l.length ≤ 2000 := by
  obtain ⟨h0, A, n, c, l', gr, h1, h2, h3, h4, h5, h6, h7⟩ := h
  obtain rfl := h7 l rfl
  exact ⟨h5, by omega⟩
set_option maxHeartbeats 4000000 in
set_option maxRecDepth 100000 in
theorem count_calls {S : Nat → Prop} {w : World} {R : Nat} {any : Bool} {st : Option (List Nat)} (h : RS S w R any st) (big : Bool) :
    Calls Tryz.prog 103 #[.pointer (some ⟨R, 0, none⟩), .bool big] w (CPost S w R any (st.bind (rdC big))) := by
  have HU := Lib.hid (uint_calls h 4 (by omega) big)
  have hx4 : ∀ y r, st.bind (rdU 4 big) = some (y, r) → y < 4294967296 := fun y r e => by
    cases st with
    | none => cases e
    | some l => exact rdU_lt h.byt.1 e
  have hrc : st.bind (rdC big) = (st.bind (rdU 4 big)).bind fun p => if 4096 < p.1 then none else some p := by
    cases st with
    | none => rfl
    | some l =>
      show rdC big l = _
      unfold rdC
      show _ = (rdU 4 big l).bind _
      cases rdU 4 big l with
      | none => rfl
      | some p => rfl
  rw [hrc]
  obtain ⟨o, ho⟩ : ∃ o, o = st.bind (rdU 4 big) := ⟨_, rfl⟩
  rw [← ho] at HU hx4 ⊢
  obtain ⟨o2, ho2⟩ : ∃ o2, o2 = o.bind fun p => if 4096 < p.1 then none else some p := ⟨_, rfl⟩
  rw [← ho2]
  have HO2 := Lib.hid ho2
  clear ho hrc h ho2
  go_enter Tryz.func103, Tryz.ntmps103
  go_wp2_with fail
  refine HU.out.mono ?_
  rintro e w1 ⟨x, rfl, hg, hx⟩
  have HG := Lib.hid hg
  clear hg HU
  cases o with
  | none =>
    obtain ⟨rfl, hR⟩ := hx
    clear hx4
    obtain rfl : o2 = none := HO2.out
    go_wp2_with fail
    exact bodyPost_ret (v := .int .i64 0) (by simp [results, go_sem]) rfl ⟨0, rfl, by omega, HG.out, rfl, hR⟩
  | some p =>
    obtain ⟨y, r⟩ := p
    obtain ⟨rfl, hR⟩ := hx
    have hx := hx4 x r rfl
    obtain ⟨hSR, A, m, c, l, gr, hB, hlen, hc, h2000, hbyt, hA, hst⟩ := hR
    obtain ⟨c0, c1, c2, c3, f0, f1, f2, f3, hlt⟩ := cells4 hB
    have HB := Lib.hid hB
    have HA := Lib.hid hA
    have HST := Lib.hid hst
    clear hx4 hB hA hst
    by_cases hb : 4096 < x
    · have hbI : (4096 : Int) < (x : Int) := by omega
      obtain rfl : o2 = none := HO2.out.trans (if_pos hb)
      go_wp2_with fail
      refine bodyPost_ret (v := .int .i64 0) (by simp [results, go_sem]) rfl ⟨0, rfl, by omega, grown_trans HG.out (grown_trans (grown_set _ ⟨R, 2, none⟩ _) (grown_set _ ⟨R, 3, none⟩ _)), rfl, hSR, A, m, c, l, true, ?_, hlen, hc, h2000, hbyt, ?_, fun _ h => by cases h⟩
      · have := (HB.out.set_ 2 (.bool true)).set_ 3 (.bool true)
        simpa using this
      · have hn : ¬ S R := fun h => Nat.lt_irrefl _ (hSR R h)
        exact HA.out.keep ((Keeps.set (p := ⟨R, 2, none⟩) hn _).trans (Keeps.set (p := ⟨R, 3, none⟩) hn _))
    · have hbI : ¬ (4096 : Int) < (x : Int) := by omega
      obtain rfl : o2 = some (x, r) := HO2.out.trans (if_neg hb)
      go_wp2_with fail
      refine bodyPost_ret (v := .int .i64 x) (by simp [results, go_sem]; try omega) rfl ⟨x, rfl, by omega, HG.out, rfl, hSR, A, m, c, l, gr, HB.out, hlen, hc, h2000, hbyt, HA.out, HST.out⟩
/-- Numbers were read. -/
def NsPost (S : Nat → Prop) (w : World) (R : Nat) (any : Bool) (n : Nat) (o : Option (List Nat × List Nat)) (e : Ending) (w' : World) : Prop :=
  ∃ A c fs, e = .returned (.slice A fs.length c) ∧ SlS (fun a => w.heap.size ≤ a) w' A fs.length 1 (FL fs) ∧ fs.length ≤ n ∧ fs.length ≤ c ∧ w.grownBy w' (some R) ∧ match o with
    | none => RS S w' R any none
    | some (ns, r) => fs = ns ∧ RS S w' R any (some r)
theorem own_capR {w : World} {base n c k : Nat} {e : TypeId} {A : Option Addr} {xs : List Value} (h : w.ownsRow base e c (.slice A n k) n xs) : n ≤ k := by
  rcases h.2 with ⟨hv, hn0⟩ | ⟨g, cap, cur, hv, _, _, hnc, _⟩
  · cases hv; omega
  · cases hv; exact hnc
theorem own_sls {w : World} {base n c k : Nat} {e : TypeId} {A : Option Addr} {xs : List Value} (h : w.ownsRow base e c (.slice A n k) n xs) : SlS (fun a => base ≤ a) w A n c xs :=
  ⟨Sl.of_own h, fun _ a ha => (h.lt a.block (by rw [ha]; rfl)).1⟩
/-- How far the numbers are read. -/
def NSt (st : Option (List Nat)) (big : Bool) (n i : Nat) (fs : List Nat) (st' : Option (List Nat)) : Prop := match st' with
  | none => st.bind (rdN big n) = none
  | some r => ∃ l, st = some l ∧ 8 * i ≤ l.length ∧ r = l.drop (8 * i) ∧ fs = numsB big i l
theorem NSt.next {st : Option (List Nat)} {big : Bool} {n i x : Nat} {fs r r2 : List Nat} (h : NSt st big n i fs (some r)) (hu : rdU 8 big r = some (x, r2)) : NSt st big n (i + 1) (fs ++ [x]) (some r2) := by
  obtain ⟨l, h1, h2, rfl, rfl⟩ := h
  have h3 := rdU_len hu
  rw [List.length_drop] at h3
  refine ⟨l, h1, by omega, by rw [h3.2.1, List.drop_drop, show 8 * i + 8 = 8 * (i + 1) by omega], ?_⟩
  rw [numsB_snoc, h3.2.2]
theorem NSt.dead {st : Option (List Nat)} {big : Bool} {n i : Nat} {fs r fs' : List Nat} {i' : Nat} (h : NSt st big n i fs (some r)) (hi : i < n) (hu : rdU 8 big r = none) : NSt st big n i' fs' none := by
  obtain ⟨l, h1, h2, rfl, rfl⟩ := h
  show st.bind (rdN big n) = none
  rw [h1]
  show rdN big n l = none
  rw [rdN_eq, if_pos]
  unfold rdU at hu
  split at hu
  · rename_i h; rw [List.length_drop] at h; omega
  · cases hu
theorem NSt.fin {st : Option (List Nat)} {big : Bool} {n : Nat} {fs r : List Nat} (h : NSt st big n n fs (some r)) : st.bind (rdN big n) = some (fs, r) := by
  obtain ⟨l, h1, h2, rfl, rfl⟩ := h
  rw [h1]
  show rdN big n l = _
  rw [rdN_eq, if_neg (by omega)]
set_option maxHeartbeats 8000000 in
set_option maxRecDepth 100000 in
theorem nums_calls2 {S : Nat → Prop} {w : World} {R : Nat} {any : Bool} {st : Option (List Nat)} (h : RS S w R any st) (n : Nat) (hn : n ≤ 16384) (big : Bool) :
    Calls Tryz.prog 102 #[.pointer (some ⟨R, 0, none⟩), .int .i64 n, .bool big] w (NsPost S w R any n (st.bind (rdN big n))) := by
  obtain ⟨i1, hi1, hz01, hz11, hz21⟩ := info_parts infoF
  have hfb := run_frombits
  have HR0 := Lib.hid h
  clear h
  go_enter Tryz.func102, Tryz.ntmps102
  go_wp2_with fail
  go_loopg [7, 8] n (fun q sv ci wr => ∃ (i : Nat) (fs : List Nat) (A1 : Option Addr) (c1 : Nat) (st' : Option (List Nat)), i + q = n ∧ ci = .int .i64 (i : Nat) ∧ sv = .slice A1 i c1 ∧ fs.length = i ∧ wr.ownsRow w.heap.size 31 1 (.slice A1 i c1) i (FL fs) ∧ w.grownBy wr (some R) ∧ RS S wr R any st' ∧ NSt st big n i fs st')
  case atStart =>
    refine ⟨0, [], none, 0, st, by omega, by go_num, rfl, rfl, World.ownsRow_nil _ _ _ _, World.grownBy.refl w _, HR0.out, ?_⟩
    cases st with
    | none => rfl
    | some l => exact ⟨l, rfl, by omega, rfl, rfl⟩
  case round =>
    obtain ⟨i, fs, A1, c1, st', hi', rfl, rfl, hfl, hown, hgr, hR, hns⟩ := hrel
    have HOWN := Lib.hid hown
    have HGR := Lib.hid hgr
    have HR := Lib.hid hR
    have HNS := Lib.hid hns
    have HFL := Lib.hid hfl
    have hRw := hR.lt
    have hRw0 := HR0.out.lt
    obtain ⟨hSR, A, m, c, l, gr, hB, hlen, hc, h2000, hbyt, hA, hst⟩ := hR
    obtain ⟨c0, c1', c2, c3, f0, f1, f2, f3, hlt⟩ := cells4 hB
    have hsz := hgr.size
    clear hown hgr hns hB hA hst hlen hfl hbyt
    by_cases hlt2 : i < n
    · have hiI : (i : Int) < (n : Int) := by omega
      cases st' with
      | none =>
        have c2' : wr.cell? ⟨R, 2, none⟩ = some (.bool true) := c2
        clear c2
        go_wp2_with fail
        refine bodyPost_ret (v := .slice A1 i c1) (by simp [results, go_sem]) rfl ⟨A1, c1, fs, by rw [HFL.out], by rw [HFL.out]; exact own_sls HOWN.out, by rw [HFL.out]; omega, by rw [HFL.out]; exact own_capR HOWN.out, HGR.out, ?_⟩
        rw [show st.bind (rdN big n) = none from HNS.out]
        exact HR.out
      | some r =>
        have c2' : wr.cell? ⟨R, 2, none⟩ = some (.bool false) := c2
        clear c2
        have HU := Lib.hid (uint_calls HR.out 8 (by omega) big)
        go_wp2_with fail
        refine HU.out.mono ?_
        rintro e w2 ⟨x, rfl, hg2, hx⟩
        have HG2 := Lib.hid hg2
        have HX := Lib.hid hx
        have hsz2 := hg2.size
        have HO2 := Lib.hid (HOWN.out.kept hg2 (.inr (fun e => by have := (HOWN.out.lt R e).1; omega)))
        clear hg2 hx c0 c1' c2' c3 f0 f1 f2 f3
        go_wp2_with (at_builtin; refine wpList_append_sl _ rfl (.tmp 21) (.tmp 26) 22 rfl w.heap.size 31 i1 _ 1 8 Tryz.underlying22 hi1 hz01 hz11 hz21 rfl (by decide) (.slice A1 i c1) i (FL fs) rfl (HO2.out.alloc _)
                       _ (some ⟨w2.heap.size, 0, none⟩) 1 1 [.float .f64 x] rfl (slBlk (n := 1) (c := 1) (heap_alloc_new w2 _) rfl (by unfold maxLen; omega)) (FL_one [x]) (by unfold maxLen; omega) (by omega) (by simp; omega) ?_; intro A6 c6 w6 ho6 hg6 ha6
                     have HO6 := Lib.hid ho6
                     have HG6 := Lib.hid hg6
                     clear ho6 hg6 ha6)
        go_roundg (n - (i + 1))
        case measure => omega
        case rel =>
          have hb2 : w2.grownBy (w2.alloc (.cells #[.float .f64 x] 31)) (none : Option Nat) := grown_below ((Below.refl _ _).alloc (Nat.le_refl _) _)
          have hown6 : ∀ q, (Value.slice A1 i c1).ownBlock = some q → w.heap.size ≤ q := fun q hq => (HOWN.out.lt q hq).1
          have hgrow : w.grownBy w6 (some R) := by
            refine ⟨HG6.out.os.trans (HG2.out.os.trans HGR.out.os), HG6.out.tape.trans (HG2.out.tape.trans HGR.out.tape), HG6.out.output.trans (HG2.out.output.trans HGR.out.output), ?_, fun j hj hne => ?_⟩
            · have := HG6.out.size; simp at this; omega
            · rw [HG6.out.block j (by simp; omega) (fun e => by have := hown6 j e.symm; omega), Below.heap_alloc w2 _ j (by omega), HG2.out.block j (by omega) hne, HGR.out.block j hj hne]
          have hR6 : ∀ st2, RS S w2 R any st2 → RS S w6 R any st2 := fun st2 h => (h.below ((Below.refl _ _).alloc (Nat.le_refl _) _)).grown HG6.out (fun q hq => by have := hown6 q hq; omega)
          cases hu : rdU 8 big r with
          | none =>
            have hx := HX.out
            rw [show (some r).bind (rdU 8 big) = none from hu] at hx
            exact ⟨i + 1, fs ++ [x], A6, c6, none, by omega, by go_num, rfl, by simp [HFL.out], by rw [FL_app]; exact HO6.out, hgrow, hR6 _ hx.2, HNS.out.dead hlt2 hu⟩
          | some p =>
            obtain ⟨y, r2⟩ := p
            have hx := HX.out
            rw [show (some r).bind (rdU 8 big) = some (y, r2) from hu] at hx
            obtain ⟨rfl, hx⟩ := hx
            exact ⟨i + 1, fs ++ [x], A6, c6, some r2, by omega, by go_num, rfl, by simp [HFL.out], by rw [FL_app]; exact HO6.out, hgrow, hR6 _ hx, HNS.out.next hu⟩
    · obtain rfl : i = n := by omega
      have hiI : (i : Int) ≤ (i : Int) := Int.le_refl _
      go_wp2_with fail
      refine bodyPost_ret (v := .slice A1 i c1) (by simp [results, go_sem]) rfl ⟨A1, c1, fs, by rw [HFL.out], by rw [HFL.out]; exact own_sls HOWN.out, by rw [HFL.out]; omega, by rw [HFL.out]; exact own_capR HOWN.out, HGR.out, ?_⟩
      cases st' with
      | none =>
        rw [show st.bind (rdN big i) = none from HNS.out]
        exact HR.out
      | some r =>
        rw [HNS.out.fin]
        exact ⟨rfl, HR.out⟩
end Go.Proofs.YtbacakdpfiiblaaGreat.geo
