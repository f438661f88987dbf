/-
  Contracts: lines put together as a ring: RingOf.
-/
import Derived.Test.YtmmlhbhnnhopdaaRingG
import Derived.Deep.AppendLies
namespace Go.Proofs.Ytmmlhbhnnhopdaa.ring
open Go.ChangeShapes Go.WideShapes Go.ChangeAt Go.RowKit
open Go.Proofs.Ytmmlhbhnnhopdaa.mem
set_option linter.unusedVariables false
set_option linter.unusedSimpArgs false

theorem catch_idle (p q : Addr) (w : World) :
    CallsD Try.prog 13 #[.pointer (some p), .pointer (some q)] .returning w fun e u' w' => e = .returned (.tuple #[]) ∧ u' = .returning ∧ w = w' := by
  refine callsD_of_wpS Try.func13 rfl fun c₀ cs hu => ?_
  apply wpS_seq
  apply wpS_region
  simp [wpOpsS, go_sem, recoverD, hu, Try.ntmps13, Exit.thenS]
  refine wpS_cond (t := false) (by simp [Act.eval, Array.replicate]) ?_
  simp only [Bool.false_eq_true, if_false]
  refine wpS_of_wp (wp_skip ?_)
  cases c₀
  simp_all [bodyPostS, results, Try.results13]

def lx (P : List (Option Addr × Nat × List Nat)) (i : Nat) : Option Addr × Nat × List Nat := P.getD i (none, 0, [])
theorem lx_mem {P : List (Option Addr × Nat × List Nat)} {i : Nat} (h : i < P.length) : lx P i ∈ P := by
  unfold lx
  rw [List.getD_eq_getElem?_getD, List.getElem?_eq_getElem h]
  exact List.getElem_mem h

theorem sl_line {w : World} {B n : Nat} {A : Option Addr} {P : List (Option Addr × Nat × List Nat)} (h : Sl w B A n 4 (P.flatMap lineC)) {k : Nat} (hk : k < n) :
    ∃ b off, A = some ⟨b, off, none⟩ ∧ b < B ∧ w.cell? ⟨b, off + k * 4, none⟩ = some (.int .i64 2) ∧ w.cell? ⟨b, off + k * 4 + 1, none⟩ = some (.int .i64 0) ∧
      w.cell? ⟨b, off + k * 4 + 2, none⟩ = some (.slice (lx P k).1 (lx P k).2.2.length (lx P k).2.1) ∧ w.cell? ⟨b, off + k * 4 + 3, none⟩ = some (.slice none 0 0) := by
  obtain ⟨b, off, e, hb, hc⟩ := h.2.2 (by omega)
  have hl : k < P.length := by have := h.1; rw [flatMap_len lineC 4 lineC_len] at this; omega
  have e0 := flatMap_get lineC 4 lineC_len P k 0 (by omega)
  have e1 := flatMap_get lineC 4 lineC_len P k 1 (by omega)
  have e2 := flatMap_get lineC 4 lineC_len P k 2 (by omega)
  have e3 := flatMap_get lineC 4 lineC_len P k 3 (by omega)
  rw [List.getElem?_eq_getElem hl] at e0 e1 e2 e3
  have hq : lx P k = P[k] := by unfold lx; rw [List.getD_eq_getElem?_getD, List.getElem?_eq_getElem hl]; rfl
  rw [hq]
  exact ⟨b, off, e, hb, hc _ _ e0, hc _ _ e1, hc _ _ e2, hc _ _ e3⟩

def GoodP (P : List (Option Addr × Nat × List Nat)) : Prop := ∀ p ∈ P, 4 ≤ p.2.2.length ∧ p.2.2.length ≤ 200 ∧ p.2.2.length % 2 = 0

theorem sl_grown {w w' : World} {g n c : Nat} {xs : List Value} {row : Option Nat} (h : Sl w w.heap.size (some ⟨g, 0, none⟩) n c xs) (hb : w.grownBy w' row) (hne : some g ≠ row) : Sl w' w'.heap.size (some ⟨g, 0, none⟩) n c xs := by
  refine ⟨h.1, h.2.1, fun hn => ?_⟩
  obtain ⟨b, off, e, hlt, hc⟩ := h.2.2 hn
  simp only [Option.some.injEq, Addr.mk.injEq, and_true] at e
  obtain ⟨rfl, rfl⟩ := e
  refine ⟨_, _, rfl, Nat.lt_of_lt_of_le hlt hb.size, fun j v hj => ?_⟩
  have hh := hb.block g hlt hne
  have := hc j v hj
  unfold World.cell? at this ⊢
  simp only at this ⊢
  rw [hh]; exact this

theorem qx_lt {Q R : List (Nat × List Nat)} {j : Nat} (h : j < Q.length) : qx (Q ++ R) j = qx Q j := by
  unfold qx
  rw [List.getD_eq_getElem?_getD, List.getD_eq_getElem?_getD, List.getElem?_append_left h]
theorem qx_eq (Q : List (Nat × List Nat)) (a : Nat × List Nat) : qx (Q ++ [a]) Q.length = a := by
  unfold qx
  rw [List.getD_eq_getElem?_getD, List.getElem?_append_right (Nat.le_refl _)]
  simp

theorem sl_lt {w : World} {B g n c : Nat} {xs : List Value} (h : Sl w B (some ⟨g, 0, none⟩) n c xs) (hn : 0 < n) : g < B := by
  obtain ⟨b, off, e, hlt, _⟩ := h.2.2 hn
  simp only [Option.some.injEq, Addr.mk.injEq, and_true] at e
  omega

theorem seq_new (w : World) (q : Nat × List Nat) (t : TypeId) : ∀ j u, (seqC q)[j]? = some u → (w.alloc (.cells #[.int .u8 0, .slice (some ⟨q.1, 0, none⟩) q.2.length q.2.length] t)).cell? ((⟨w.heap.size, 0, none⟩ : Addr).add j) = some u :=
  cells_new w (seqC q) t
theorem seq_one (q : Nat × List Nat) : ∀ u ∈ seqC q, u.oneCell' = true := by
  intro u hu; simp [seqC] at hu; rcases hu with rfl | rfl <;> rfl

def RingPost (w : World) (k : Nat) (P : List (Option Addr × Nat × List Nat)) (e : Ending) (w' : World) : Prop :=
  ∃ (Q : List (Nat × List Nat)) (A : Option Addr) (c : Nat), Q.length = k ∧ (∀ j, j < k → (qx Q j).2 = (lx P j).2.2) ∧
    e = .returned (.tuple #[.agg #[.int .i64 2, .int .i64 0, .slice A (tot Q k - 2 * k + 2) c, .slice none 0 0], .bool true]) ∧ Sl w' w'.heap.size A (tot Q k - 2 * k + 2) 1 (FL (ringL Q k)) ∧ Below w.heap.size w w' ∧ (∀ a, A = some a → w.heap.size ≤ a.block)

theorem sl_off {w : World} {B n c : Nat} {A : Option Addr} {xs : List Value} (h : Sl w B A n c xs) {p : Addr} (hp : ∀ a, A = some a → a.block ≠ p.block) (u : Value) : Sl (w.setCell p u) B A n c xs := by
  refine ⟨h.1, h.2.1, fun hn => ?_⟩
  obtain ⟨b, off', e, hlt, hc⟩ := h.2.2 hn
  refine ⟨b, off', e, hlt, fun j v hj => ?_⟩
  have hh : (w.setCell p u).heap[b]? = w.heap[b]? := Below.heap_setCell w p u b (hp _ e)
  have := hc j v hj
  unfold World.cell? at this ⊢
  simp only at this ⊢
  rw [hh]; exact this

set_option maxHeartbeats 8000000 in
theorem ringOf_calls (A : Option Addr) (k sc : Nat) (P : List (Option Addr × Nat × List Nat)) (hk : 1 ≤ k ∧ k ≤ 50) (hP : GoodP P) (w : World) (hA : Sl w w.heap.size A k 4 (P.flatMap lineC)) (hS : ∀ p ∈ P, Sl w w.heap.size p.1 p.2.2.length 1 (FL p.2.2)) :
    Calls Try.prog 7 #[.slice A k sc] w (RingPost w k P) := by
  have hPl : P.length = k := by have := hA.1; rw [flatMap_len lineC 4 lineC_len] at this; omega
  obtain ⟨wA, hwA⟩ : ∃ wA, wA = (w.alloc (.cells #[.int .i64 0, .int .i64 0, .slice none 0 0, .slice none 0 0] 25)).alloc (.cells #[.bool false] 4) := ⟨_, rfl⟩
  have hbl : Below w.heap.size w wA := by rw [hwA]; exact ((Below.refl _ _).alloc (Nat.le_refl _) _).alloc (by simp) _
  have hD : Blk wA w.heap.size 25 #[.int .i64 0, .int .i64 0, .slice none 0 0, .slice none 0 0] := by rw [hwA]; exact (Blk.new _ _ _).alloc _
  have hE : Blk wA (w.heap.size + 1) 4 #[.bool false] := by
    rw [hwA]
    have := Blk.new (w.alloc (.cells #[.int .i64 0, .int .i64 0, .slice none 0 0, .slice none 0 0] 25)) 4 #[.bool false]
    simpa using this
  have HD := Lib.hid hD
  have HE := Lib.hid hE
  clear hD hE
  have HWA := Lib.hid hwA
  have HBL := Lib.hid hbl
  have HAA := Lib.hid (hA.up hbl)
  have HSS := Lib.hid (fun p hp => (hS p hp).up hbl)
  have HP := Lib.hid hP
  have HPL := Lib.hid hPl
  obtain ⟨i0, hi0, hz0, hz1, hz2⟩ := info_parts infoSeq
  clear hA hS hP hPl hwA hbl
  go_enter_defers Try.func7, Try.ntmps7
  go_wp2_with fail
  rw [← HWA.out]
  go_loopg [4, 10] k (fun q v cc wr => ∃ i Q, i + q = k ∧ cc = .int .i64 i ∧ Q.length = i ∧ (∀ j, j < i → (qx Q j).2 = (lx P j).2.2) ∧ wr.ownsRow wA.heap.size 45 2 v i (Q.flatMap seqC) ∧
      (∀ q ∈ Q, Sl wr wr.heap.size (some ⟨q.1, 0, none⟩) q.2.length 1 (FL q.2) ∧ v.ownBlock ≠ some q.1 ∧ q.1 < wr.heap.size) ∧ Below wA.heap.size wA wr)
  case atStart => exact ⟨0, [], by omega, by go_num, rfl, fun j hj => absurd hj (Nat.not_lt_zero j), World.ownsRow_nil _ _ _ _, fun q hq => absurd hq (List.not_mem_nil), Below.refl _ _⟩
  case round =>
    obtain ⟨i, Q, hi', rfl, hql, hqe, ho, hqs, hb⟩ := hrel
    obtain ⟨A0, k0, rfl⟩ := own_slice ho
    have HI := Lib.hid hi'
    have HQL := Lib.hid hql
    have HQE := Lib.hid hqe
    have HO := Lib.hid ho
    have HQS := Lib.hid hqs
    have HB := Lib.hid hb
    have hin : i ≤ k := by omega
    clear hi' hql hqe ho hqs hb
    by_cases hlt : i < k
    · obtain ⟨b, off, rfl, hb, c0, c1, c2, c3⟩ := sl_line HAA.out hlt
      have d0 := (HB.out.cell (p := ⟨b, off + i * 4, none⟩) hb).trans c0
      have d1 := (HB.out.cell (p := ⟨b, off + i * 4 + 1, none⟩) hb).trans c1
      have d2 := (HB.out.cell (p := ⟨b, off + i * 4 + 2, none⟩) hb).trans c2
      have d3 := (HB.out.cell (p := ⟨b, off + i * 4 + 3, none⟩) hb).trans c3
      clear c0 c1 c2 c3
      go_wp2_with fail
      have hmem := lx_mem (P := P) (i := i) (by rw [HPL.out]; exact hlt)
      have hp := HP.out _ hmem
      have hs0 := (HSS.out _ hmem).up HB.out
      have hs1 := hs0.up ((Below.refl wr.heap.size wr).alloc (Nat.le_refl _) (.cells #[.int .i64 2, .int .i64 0, .slice (lx P i).1 (lx P i).2.2.length (lx P i).2.1, .slice none 0 0] 25))
      have HMEM := Lib.hid hp
      have HLC := Lib.hid (line_calls _ _ (lx P i).2.1 (lx P i).2.2 (by omega) (by omega) hp.2.2 _ hs1)
      clear d0 d1 d2 d3 hmem hp hs0 hs1
      refine HLC.out.mono ?_
      rintro e w2 ⟨g, rfl, hg, hs2, hb2⟩
      have HG := Lib.hid hg
      have HS2 := Lib.hid hs2
      have HB2 := Lib.hid hb2
      clear hg hs2 hb2
      go_wp2_with fail
      refine (coords_calls _ _ _ _).mono ?_
      rintro e w3 ⟨rfl, hb3⟩
      have hb03 : Below wr.heap.size wr w3 := ((((Below.refl wr.heap.size wr).alloc (Nat.le_refl _) (.cells #[.int .i64 2, .int .i64 0, .slice (lx P i).1 (lx P i).2.2.length (lx P i).2.1, .slice none 0 0] 25)).trans (HB2.out.mono (by simp)))).trans (hb3.mono (by have := HB2.out.size; simp at this; omega))
      have HB03 := Lib.hid hb03
      have HS3 := Lib.hid (HS2.out.up hb3)
      have HO3 := Lib.hid (HO.out.kept (grown_below (row := none) hb03) (own_row _))
      have hsz3 : w2.heap.size ≤ w3.heap.size := hb3.size
      have HSZ3 := Lib.hid hsz3
      have HN := Lib.hid (seq_new w3 (g, (lx P i).2.2) 45)
      have hbase : wA.heap.size ≤ (w3.alloc (.cells #[.int .u8 0, .slice (some ⟨g, 0, none⟩) (lx P i).2.2.length (lx P i).2.2.length] 45)).heap.size := by simp; have h1 := HB.out.size; have h2 := HB03.out.size; omega
      have HBASE := Lib.hid hbase
      clear hb3 hb03 hsz3 hbase
      go_wp2_with (at_builtin; refine wpList_append_lies _ rfl (.tmp 14) (.tmp 18) 42 rfl wA.heap.size 45 i0 _ 2 32 Try.underlying42 hi0 hz0 hz1 hz2 rfl (by decide) _ i _ rfl (HO3.out.alloc _) ⟨w3.heap.size, 0, none⟩ 1 1 (seqC (g, (lx P i).2.2)) rfl rfl HN.out (seq_one _) (by omega) (by unfold maxLen; omega) (by omega) HBASE.out _ rfl ?_; intro gg cap w4 hown hgrow hat hlt4
                   have HO4 := Lib.hid hown
                   have HG4 := Lib.hid hgrow
                   have HAT := Lib.hid hat
                   clear hown hgrow hat)
      have hglt : g < w2.heap.size := sl_lt HS2.out (by have := HMEM.out.1; omega)
      have hgge : wr.heap.size < g := by have := HG.out; simp at this; omega
      go_roundg (k - (i + 1))
      case measure => have := HI.out; omega
      case rel =>
        have hown : ∀ q, (Value.slice A0 i k0).ownBlock = some q → q < wr.heap.size := fun q hq => (HO.out.lt q hq).2
        have hal : Below w3.heap.size w3 (w3.alloc (.cells #[.int .u8 0, .slice (some ⟨g, 0, none⟩) (lx P i).2.2.length (lx P i).2.2.length] 45)) := (Below.refl _ _).alloc (Nat.le_refl _) _
        have hszz : w3.heap.size < (w3.alloc (.cells #[.int .u8 0, .slice (some ⟨g, 0, none⟩) (lx P i).2.2.length (lx P i).2.2.length] 45)).heap.size := by simp
        have hsz4 := HG4.out.size
        have hwr3 := HB03.out.size
        have hw23 := HSZ3.out
        refine ⟨i + 1, Q ++ [(g, (lx P i).2.2)], by omega, by go_num, by simp [HQL.out], ?_, ?_, ?_, ?_⟩
        · intro j hj
          by_cases e : j = i
          · subst e
            have := qx_eq Q (g, (lx P j).2.2)
            rw [HQL.out] at this
            rw [this]
          · rw [qx_lt (by rw [HQL.out]; omega)]
            exact HQE.out j (by omega)
        · rw [List.flatMap_append]
          simpa using HO4.out
        · intro q hq
          rcases List.mem_append.1 hq with h | h
          · obtain ⟨h1, h2, h3⟩ := HQS.out q h
            refine ⟨sl_grown ((h1.up HB03.out).up hal) HG4.out (fun e => h2 e.symm), fun e => ?_, by omega⟩
            have e1 : gg = q.1 := Option.some.inj e
            rcases HAT.out with h4 | h4
            · exact h2 (h4.trans (congrArg some e1))
            · omega
          · obtain rfl := List.mem_singleton.1 h
            refine ⟨sl_grown (HS3.out.up hal) HG4.out (fun e => ?_), fun e => ?_, by show g < _; omega⟩
            · have := hown g e.symm
              omega
            · have e1 : gg = g := Option.some.inj e
              rcases HAT.out with h4 | h4
              · have := hown gg h4
                omega
              · omega
        · have hb3' : Below wA.heap.size wA w3 := HB.out.trans (HB03.out.mono HB.out.size)
          exact (hb3'.alloc hb3'.size _).grown HG4.out HBASE.out (fun q hq => (HO.out.lt q hq).1)
    · obtain rfl : i = k := by omega
      have hgood : GoodQ Q := by
        intro q hq
        obtain ⟨j, hj, rfl⟩ := List.getElem_of_mem hq
        have e : qx Q j = Q[j] := by unfold qx; rw [List.getD_eq_getElem?_getD, List.getElem?_eq_getElem hj]; rfl
        rw [← e, HQE.out j (by rw [← HQL.out]; exact hj)]
        exact HP.out _ (lx_mem (by rw [HPL.out, ← HQL.out]; exact hj))
      have HGOOD := Lib.hid hgood
      have HDOOR := Lib.hid (door_calls A0 i k0 Q hk hgood wr (Sl.of_own HO.out) (fun q hq => (HQS.out q hq).1))
      have htot := tot_ge (fun q hq => (hgood q hq).1) i (by rw [HQL.out]; exact Nat.le_refl _)
      have htot2 := tot_le (fun q hq => (hgood q hq).2.1) i (by rw [HQL.out]; exact Nat.le_refl _)
      have hev := tot_even (fun q hq => (hgood q hq).2.2) i (by rw [HQL.out]; exact Nat.le_refl _)
      clear hgood
      go_wp2_with fail
      refine HDOOR.out.mono ?_
      rintro e w2 ⟨g, rfl, hg, hs2, hb2⟩
      have HPLAIN := Lib.hid (plain_calls _ _ (tot Q i - 2 * i + 2) (ringL Q i) (by omega) (by omega) (by omega) w2 hs2)
      have HB2 := Lib.hid hb2
      clear hg hs2 hb2
      go_wp2_with fail
      refine HPLAIN.out.mono ?_
      rintro e w3 ⟨A3, cp, rfl, hfr, hs3, hb3⟩
      have HFR := Lib.hid hfr
      clear hfr
      have hA2 : Below wA.heap.size wA w2 := HB.out.trans (HB2.out.mono HB.out.size)
      have hA3 : Below wA.heap.size wA w3 := hA2.trans (hb3.mono hA2.size)
      have hw3 : Below w.heap.size w w3 := HBL.out.trans (hA3.mono HBL.out.size)
      obtain ⟨c0, c1, c2, c3, f0, f1, f2, f3, cl⟩ := cells4 (HD.out.below hA3 HD.out.lt)
      have hE3 := HE.out.below hA3 HE.out.lt
      have e0 : w3.cell? ⟨w.heap.size + 1, 0, none⟩ = some (.bool false) := hE3.cell 0
      have g0 : w3.frozen? ⟨w.heap.size + 1, 0, none⟩ = false := hE3.frozen 0 (show 0 < 1 by omega)
      have el := hE3.lt
      have HW3 := Lib.hid hw3
      have HS3 := Lib.hid hs3
      clear hA2 hA3 hw3 hE3 hs3 hb3
      go_wp2_with fail
      refine leaves_cons (f := 13) (args := #[.pointer (some ⟨w.heap.size, 0, none⟩), .pointer (some ⟨w.heap.size + 1, 0, none⟩)]) (by simp) (by simp [go_sem]) ?_
      refine (catch_idle _ _ _).mono ?_
      rintro e u' w'' ⟨rfl, rfl, rfl⟩
      have hx0 : w.heap.size ≤ w.heap.size + 1 := by omega
      have hbz := (((((HW3.out.setCell (p := ⟨w.heap.size, 0, none⟩) (Nat.le_refl _) (.int .i64 2)).setCell (p := ⟨w.heap.size, 1, none⟩) (Nat.le_refl _) (.int .i64 0)).setCell (p := ⟨w.heap.size, 2, none⟩) (Nat.le_refl _) (.slice A3 (tot Q i - 2 * i + 2) cp)).setCell (p := ⟨w.heap.size, 3, none⟩) (Nat.le_refl _) (.slice none 0 0)).setCell (p := ⟨w.heap.size + 1, 0, none⟩) hx0 (.bool true))
      have hn1 : ∀ a, A3 = some a → a.block ≠ w.heap.size := fun a ha h => by have h1 := HFR.out a ha; have h2 := HE.out.lt; have h3 := HB.out.size; have h4 := HB2.out.size; omega
      have hn2 : ∀ a, A3 = some a → a.block ≠ w.heap.size + 1 := fun a ha h => by have h1 := HFR.out a ha; have h2 := HE.out.lt; have h3 := HB.out.size; have h4 := HB2.out.size; omega
      have hsz := sl_off (sl_off (sl_off (sl_off (sl_off HS3.out (p := ⟨w.heap.size, 0, none⟩) hn1 (.int .i64 2)) (p := ⟨w.heap.size, 1, none⟩) hn1 (.int .i64 0)) (p := ⟨w.heap.size, 2, none⟩) hn1 (.slice A3 (tot Q i - 2 * i + 2) cp)) (p := ⟨w.heap.size, 3, none⟩) hn1 (.slice none 0 0)) (p := ⟨w.heap.size + 1, 0, none⟩) hn2 (.bool true)
      have HBZ := Lib.hid hbz
      have HSZ := Lib.hid hsz
      clear hbz hsz hn1 hn2
      simp [Leaves, settle, results, Try.results7, go_sem, c0, c1, c2, c3, e0, cl, el]
      exact ⟨Q, A3, cp, HQL.out, HQE.out, rfl, by simpa using HSZ.out, HBZ.out, fun a ha => by have h1 := HFR.out a ha; have h2 := HE.out.lt; have h3 := HB.out.size; have h4 := HB2.out.size; omega⟩
end Go.Proofs.Ytmmlhbhnnhopdaa.ring
