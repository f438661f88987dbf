/-
  Contracts: spec.PartOf; impl.PartOf, with the panic caught.
-/
import Derived.Test.YtplphaaeibeheaaGreatGeoAN
namespace Go.Proofs.YtplphaaeibeheaaGreat.geo
open Go.ChangeShapes Go.WideShapes Go.ChangeAt Go.RowKit
open Go.Proofs.YtplphaaeibeheaaGreat.mem
set_option linter.unusedVariables false
set_option linter.unusedSimpArgs false
set_option maxRecDepth 100000

theorem Fresh.up {S : Nat → Prop} {w w1 : World} (h : w.heap.size ≤ w1.heap.size) : ∀ a, Fresh S w1 a → Fresh S w a := fun a ha => by
  rcases ha with ha | ha
  · exact .inl ha
  · exact .inr (Nat.le_trans h ha)
/-- Four cells of a result of one's own are written. -/
theorem keeps4 {T : Nat → Prop} {w : World} {R : Nat} (hR : ¬ T R) (u0 u1 u2 u3 : Value) : Keeps T w ((((w.setCell ⟨R, 0, none⟩ u0).setCell ⟨R, 1, none⟩ u1).setCell ⟨R, 2, none⟩ u2).setCell ⟨R, 3, none⟩ u3) :=
  (((Keeps.set (p := ⟨R, 0, none⟩) hR u0).trans (.set (p := ⟨R, 1, none⟩) hR u1)).trans (.set (p := ⟨R, 2, none⟩) hR u2)).trans (.set (p := ⟨R, 3, none⟩) hR u3)
theorem Blk.set4 {w : World} {R : Nat} {t : TypeId} {a b c d : Value} (h : Blk w R t #[a, b, c, d]) (u0 u1 u2 u3 : Value) : Blk ((((w.setCell ⟨R, 0, none⟩ u0).setCell ⟨R, 1, none⟩ u1).setCell ⟨R, 2, none⟩ u2).setCell ⟨R, 3, none⟩ u3) R t #[u0, u1, u2, u3] := by
  have := (((h.set_ 0 u0).set_ 1 u1).set_ 2 u2).set_ 3 u3
  simpa using this
theorem PartPost.store {S : Nat → Prop} {w w' : World} {o : Option PG} {i : IG} {R : Nat} {b : Bool} (hin : i.In (fun a => (S a ∧ a < w.heap.size) ∨ R < a) w') (hp : ∀ q, o = some q → i.plain = q) (hb : b = o.isSome) (hbw : Below w.heap.size w w') (hR : w.heap.size ≤ R) (u0 u1 u2 u3 : Value) :
    PartPost S w o (.returned (.tuple #[.agg i.enc.toArray, .bool b])) ((((w'.setCell ⟨R, 0, none⟩ u0).setCell ⟨R, 1, none⟩ u1).setCell ⟨R, 2, none⟩ u2).setCell ⟨R, 3, none⟩ u3) := by
  subst hb
  have hno : ¬ (fun a => (S a ∧ a < w.heap.size) ∨ R < a) R := fun h => by
    rcases h with h | h
    · exact absurd h.2 (by omega)
    · exact Nat.lt_irrefl _ h
  refine ⟨i, rfl, IG.less (fun b h => ?_) (IG.keep (keeps4 hno u0 u1 u2 u3) hin), hp, (((hbw.setCell hR _).setCell hR _).setCell hR _).setCell hR _⟩
  rcases h with h | h
  · exact .inl h.1
  · exact .inr (by omega)

set_option maxHeartbeats 8000000 in
theorem sPartOf_calls (g : IG) (S : Nat → Prop) (w : World) (h : g.In S w) (hgood : g.plain.good) (hfit : g.plain.fit) (h1 : g.plain.k ≠ 1) (n : Int) (hb : -2147483648 ≤ n ∧ n ≤ 2147483648) :
    Calls Tryz.prog 11 #[.agg g.enc.toArray, .int .i64 n] w (PartPost S w (g.plain.part n)) := by
  have hC := fun w' (hbw : Below w.heap.size w w') => spart_calls g (Old S w) w' (IG.up hbw (IG.old h)) hgood hfit h1 n hb
  obtain ⟨o, ho⟩ : ∃ o, o = g.plain.part n := ⟨_, rfl⟩
  rw [← ho] at hC ⊢
  have hk1 : g.plain.k ≠ 1 := h1
  clear hgood hfit h1 ho h
  obtain ⟨k, d, A, ca, ns, B, cb, kids⟩ := g
  have hk1 : k ≠ 1 := by rw [IG.plain_eq] at hk1; exact hk1
  have e1 : (k == 1) = false := beq_eq_false_iff_ne.2 hk1
  rw [show (IG.mk k d A ca ns B cb kids).enc.toArray = #[.int .i64 k, .int .i64 d, .slice A ns.length ca, .slice B kids.length cb] from rfl] at hC ⊢
  obtain ⟨wA, hwA⟩ : ∃ wA, wA = (w.alloc (.cells #[.int .i64 k, .int .i64 d, .slice A ns.length ca, .slice B kids.length cb] 25)).alloc (.cells #[.int .i64 0, .int .i64 0, .slice none 0 0, .slice none 0 0] 25) := ⟨_, rfl⟩
  have hbl : Below w.heap.size w wA := by rw [hwA]; exact ((Below.refl _ _).alloc (Nat.le_refl _) _).alloc (by simp) _
  have hX : Blk wA w.heap.size 25 #[.int .i64 k, .int .i64 d, .slice A ns.length ca, .slice B kids.length cb] := by rw [hwA]; exact (Blk.new _ _ _).alloc _
  have hR : Blk wA (w.heap.size + 1) 25 #[.int .i64 0, .int .i64 0, .slice none 0 0, .slice none 0 0] := by
    rw [hwA]
    have := Blk.new (w.alloc (.cells #[.int .i64 k, .int .i64 d, .slice A ns.length ca, .slice B kids.length cb] 25)) 25 #[.int .i64 0, .int .i64 0, .slice none 0 0, .slice none 0 0]
    simpa using this
  obtain ⟨x0, x1, x2, x3, -, -, -, -, xl⟩ := cells4 hX
  have HC := Lib.hid hC
  have HR := Lib.hid hR
  have HBL := Lib.hid hbl
  have HWA := Lib.hid hwA
  clear hC hwA hbl hX hR hk1 hb
  go_enter Tryz.func11, Tryz.ntmps11
  go_wp2_with fail
  rw [← HWA.out]
  refine (HC.out wA HBL.out).mono ?_
  rintro e w1 ⟨⟨k2, d2, A2, ca2, ns2, B2, cb2, ks2⟩, rfl, h2, hp2, hb2⟩
  obtain ⟨r0, r1, r2, r3, p0, p1, p2, p3, rl⟩ := cells4 (HR.out.below hb2 HR.out.lt)
  have hr := HR.out.lt
  have HB2 := Lib.hid (HBL.out.trans (hb2.mono HBL.out.size))
  have H2 := Lib.hid (IG.less (T := fun a => (S a ∧ a < w.heap.size) ∨ w.heap.size + 1 < a) (fun a ha => by
    rcases ha with ha | ha
    · exact .inl ha
    · exact .inr (by omega)) h2)
  have HP2 := Lib.hid hp2
  have HR1 := Lib.hid (HR.out.below hb2 HR.out.lt)
  rw [show (IG.mk k2 d2 A2 ca2 ns2 B2 cb2 ks2).enc.toArray = #[.int .i64 k2, .int .i64 d2, .slice A2 ns2.length ca2, .slice B2 ks2.length cb2] from rfl]
  obtain ⟨b, hbo⟩ : ∃ b, b = o.isSome := ⟨_, rfl⟩
  rw [← hbo]
  have HBO := Lib.hid hbo
  clear hb2 h2 hp2 hbo x0 x1 x2 x3 xl
  go_wp2_with fail
  have hB8 := Blk.set4 (Blk.set4 HR1.out (.int .i64 k2) (.int .i64 d2) (.slice A2 ns2.length ca2) (.slice B2 ks2.length cb2)) (.int .i64 k2) (.int .i64 d2) (.slice A2 ns2.length ca2) (.slice B2 ks2.length cb2)
  have hno : ¬ (fun a => (S a ∧ a < w.heap.size) ∨ w.heap.size + 1 < a) (w.heap.size + 1) := fun h => by
    rcases h with h | h
    · exact absurd h.2 (by omega)
    · exact Nat.lt_irrefl _ h
  have hbw := ((((HB2.out.setCell (p := ⟨w.heap.size + 1, 0, none⟩) (Nat.le_add_right _ 1) (.int .i64 k2)).setCell (p := ⟨w.heap.size + 1, 1, none⟩) (Nat.le_add_right _ 1) (.int .i64 d2)).setCell (p := ⟨w.heap.size + 1, 2, none⟩) (Nat.le_add_right _ 1) (.slice A2 ns2.length ca2)).setCell (p := ⟨w.heap.size + 1, 3, none⟩) (Nat.le_add_right _ 1) (.slice B2 ks2.length cb2))
  have hfin := PartPost.store (i := .mk k2 d2 A2 ca2 ns2 B2 cb2 ks2) (IG.keep (keeps4 hno (.int .i64 k2) (.int .i64 d2) (.slice A2 ns2.length ca2) (.slice B2 ks2.length cb2)) H2.out) HP2.out HBO.out hbw (Nat.le_add_right _ 1) (.int .i64 k2) (.int .i64 d2) (.slice A2 ns2.length ca2) (.slice B2 ks2.length cb2)
  obtain ⟨w8, hw8⟩ : ∃ w8, w8 = ((((((((w1.setCell ⟨w.heap.size + 1, 0, none⟩ (.int .i64 k2)).setCell ⟨w.heap.size + 1, 1, none⟩ (.int .i64 d2)).setCell ⟨w.heap.size + 1, 2, none⟩ (.slice A2 ns2.length ca2)).setCell ⟨w.heap.size + 1, 3, none⟩ (.slice B2 ks2.length cb2)).setCell ⟨w.heap.size + 1, 0, none⟩ (.int .i64 k2)).setCell ⟨w.heap.size + 1, 1, none⟩ (.int .i64 d2)).setCell ⟨w.heap.size + 1, 2, none⟩ (.slice A2 ns2.length ca2)).setCell ⟨w.heap.size + 1, 3, none⟩ (.slice B2 ks2.length cb2)) := ⟨_, rfl⟩
  rw [← hw8] at hB8 hfin ⊢
  obtain ⟨q0, q1, q2, q3, -, -, -, -, ql⟩ := cells4 hB8
  exact bodyPost_ret (v := .tuple #[.agg #[.int .i64 k2, .int .i64 d2, .slice A2 ns2.length ca2, .slice B2 ks2.length cb2], .bool b]) (by simp [results, Tryz.results11, go_sem, q0, q1, q2, q3]) rfl hfin
end Go.Proofs.YtplphaaeibeheaaGreat.geo
