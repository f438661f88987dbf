/-
  Contracts of the package's reader: a head: the order of bytes, the kind, the type.
-/
import Derived.Test.YtbacakdpfiiblaaGreatRdF
import Derived.Deep.DeepCutAuto
namespace Go.Proofs.YtbacakdpfiiblaaGreat.geo
open Go.ChangeShapes Go.WideShapes Go.ChangeAt Go.RowKit
open Go.Proofs.YtbacakdpfiiblaaGreat.mem
set_option linter.unusedVariables false
set_option linter.unusedSimpArgs false

/-- The order of bytes was read. -/
def BOPost (S : Nat → Prop) (w : World) (P : Nat) (o : Option (Nat × List Nat)) (e : Ending) (w' : World) : Prop :=
  w.grownBy w' (some P) ∧ match o with
    | none => Bod w' P ∧ ∃ T x, e = .returned (.iface T x)
    | some (y, r) => (1 < y ∧ Bod w' P ∧ ∃ T x, e = .returned (.iface T x)) ∨ (y ≤ 1 ∧ e = .returned .nilIface ∧ WPs S w' P (y == 0) r)
theorem WPs.order {S : Nat → Prop} {w : World} {P : Nat} {b b' : Bool} {l : List Nat} (h : WPs S w P b l) : WPs S ((w.setCell ⟨P, 1, none⟩ (.int .u8 (if b' then 0 else 1))).setCell ⟨P, 2, none⟩ (.bool (!b'))) P b' l := by
  obtain ⟨h0, A, n, c, h1, h2, h3, h4, h5, h6⟩ := h
  have hn : ¬ S P := fun h => Nat.lt_irrefl _ (h0 P h)
  refine ⟨h0, A, n, c, ?_, h2, h3, h4, h5, h6.keep ((Keeps.set (p := ⟨P, 1, none⟩) hn _).trans (Keeps.set (p := ⟨P, 2, none⟩) hn _))⟩
  have := (h1.set_ 1 (.int .u8 (if b' then 0 else 1))).set_ 2 (.bool (!b'))
  simpa using this
theorem WPs.cells {S : Nat → Prop} {w : World} {P : Nat} {b : Bool} {l : List Nat} (h : WPs S w P b l) : ∃ A c, w.cell? ⟨P, 0, none⟩ = some (.slice A l.length c) ∧ w.cell? ⟨P, 1, none⟩ = some (.int .u8 (if b then 0 else 1)) ∧ w.cell? ⟨P, 2, none⟩ = some (.bool (!b)) ∧
    w.frozen? ⟨P, 0, none⟩ = false ∧ w.frozen? ⟨P, 1, none⟩ = false ∧ w.frozen? ⟨P, 2, none⟩ = false ∧ P < w.heap.size := by
  obtain ⟨h0, A, n, c, h1, h2, _⟩ := h
  subst h2
  exact ⟨A, c, cells3 h1⟩
set_option maxHeartbeats 4000000 in
set_option maxRecDepth 100000 in
theorem order_calls {S : Nat → Prop} {w : World} {P : Nat} {b : Bool} {l : List Nat} (h : WPs S w P b l) :
    Calls Tryz.prog 148 #[.pointer (some ⟨P, 0, none⟩)] w (BOPost S w P (rdU 1 false l)) := by
  have HR := Lib.hid (readByte_calls h)
  have hlt0 : ∀ y r, rdU 1 false l = some (y, r) → y < 256 := fun y r e => by have := rdU_lt1 h.byt.1 e; simpa using this
  obtain ⟨o, ho⟩ : ∃ o, o = rdU 1 false l := ⟨_, rfl⟩
  rw [← ho] at HR hlt0 ⊢
  clear ho h
  go_enter Tryz.func148, Tryz.ntmps148
  go_wp2_with fail
  refine HR.out.mono ?_
  rintro e w1 ⟨hg, hx⟩
  have HG := Lib.hid hg
  clear hg HR
  cases o with
  | none =>
    obtain ⟨hbo, T, x, rfl⟩ := hx
    have HBO := Lib.hid hbo
    clear hbo
    go_wp2_with fail
    exact bodyPost_ret (v := .iface T x) (by simp [results, go_sem]) rfl ⟨HG.out, HBO.out, T, x, rfl⟩
  | some p =>
    obtain ⟨y, r⟩ := p
    obtain ⟨rfl, hW⟩ := hx
    have hy := hlt0 y r rfl
    obtain ⟨A, c, c0, c1, c2, f0, f1, f2, hlt⟩ := hW.cells
    have HW := Lib.hid hW
    clear hW
    by_cases h0 : y = 0
    · subst h0
      go_wp2_with fail
      refine bodyPost_ret (v := .nilIface) (by simp [results, go_sem]) rfl ⟨grown_trans HG.out (grown_trans (grown_set _ ⟨P, 1, none⟩ _) (grown_set _ ⟨P, 2, none⟩ _)), .inr ⟨by omega, rfl, ?_⟩⟩
      exact HW.out.order (b' := true)
    · have n0 : ((y : Int) == 0) = false := beq_eq_false_iff_ne.2 (by omega)
      by_cases h1 : y = 1
      · subst h1
        go_wp2_with fail
        refine bodyPost_ret (v := .nilIface) (by simp [results, go_sem]) rfl ⟨grown_trans HG.out (grown_trans (grown_set _ ⟨P, 1, none⟩ _) (grown_set _ ⟨P, 2, none⟩ _)), .inr ⟨by omega, rfl, ?_⟩⟩
        exact HW.out.order (b' := false)
      · have n1 : ((y : Int) == 1) = false := beq_eq_false_iff_ne.2 (by omega)
        go_wp2_with fail
        refine bodyPost_ret (v := .iface 207 ?_) (by simp [results, go_sem]; rfl) rfl ⟨grown_trans HG.out (grown_set _ ⟨P, 1, none⟩ _), .inl ⟨by omega, HW.out.bod.set1 _, _, _, rfl⟩⟩
/-- A kind and a type were read. -/
def GTPost (S : Nat → Prop) (w : World) (P : Nat) (big : Bool) (o : Option (Nat × List Nat)) (e : Ending) (w' : World) : Prop :=
  w.grownBy w' (some P) ∧ match o with
    | none => Bod w' P ∧ ∃ u v T x, e = .returned (.tuple #[u, v, .iface T x])
    | some (c, r) => ((c % 1000 < 1 ∨ 7 < c % 1000 ∨ 3 < c / 1000) ∧ Bod w' P ∧ ∃ u v T x, e = .returned (.tuple #[u, v, .iface T x])) ∨ (¬ (c % 1000 < 1 ∨ 7 < c % 1000 ∨ 3 < c / 1000) ∧ e = .returned (.tuple #[.int .i64 (kdOf (c % 1000) : Nat), .int .u8 (c / 1000 : Nat), .nilIface]) ∧ WPs S w' P big r)
set_option maxHeartbeats 8000000 in
set_option maxRecDepth 100000 in
theorem gtype_reads {S : Nat → Prop} {w : World} {P : Nat} {big : Bool} {l : List Nat} (h : WPs S w P big l) :
    Calls Tryz.prog 149 #[.pointer (some ⟨P, 0, none⟩)] w (GTPost S w P big (rdU 4 big l)) := by
  have HR := Lib.hid (parse32_calls h)
  have hlt0 : ∀ y r, rdU 4 big l = some (y, r) → y < 4294967296 := fun y r e => by have := rdU_lt1 h.byt.1 e; simpa using this
  obtain ⟨o, ho⟩ : ∃ o, o = rdU 4 big l := ⟨_, rfl⟩
  rw [← ho] at HR hlt0 ⊢
  clear ho h
  go_enter Tryz.func149, Tryz.ntmps149
  go_wp2_with fail
  refine HR.out.mono ?_
  rintro e w1 ⟨hg, hx⟩
  have HG := Lib.hid hg
  clear hg HR
  cases o with
  | none =>
    obtain ⟨hbo, T, x, rfl⟩ := hx
    have HBO := Lib.hid hbo
    clear hbo
    go_wp2_with fail
    exact bodyPost_ret (v := .tuple #[.int .i64 0, .int .u8 0, .iface T x]) (by simp [results, go_sem]) rfl ⟨HG.out, HBO.out, _, _, T, x, rfl⟩
  | some p =>
    obtain ⟨y, r⟩ := p
    obtain ⟨rfl, hW⟩ := hx
    have hy := hlt0 y r rfl
    have HW := Lib.hid hW
    clear hW hlt0
    obtain ⟨C, hC⟩ : ∃ C, C = y % 1000 := ⟨_, rfl⟩
    obtain ⟨D, hD⟩ : ∃ D, D = y / 1000 := ⟨_, rfl⟩
    have eC : (y : Int) % 1000 = (C : Int) := by omega
    have eD : (y : Int) / 1000 = (D : Int) := by omega
    have eDw : IntKind.u32.wrap ((y : Int) / 1000) = (D : Int) := by rw [eD, u32_wrap_id _ (by omega) (by omega)]
    have eDt : IntKind.u32.wrap (Int.tdiv (y : Int) 1000) = (D : Int) := by rw [Int.tdiv_eq_ediv_of_nonneg (by omega), eDw]
    have hCC := Lib.hid hC
    have hDD := Lib.hid hD
    have HG2 := Lib.hid (show GTPost S w P big (some (y, r)) = fun e w' => w.grownBy w' (some P) ∧ (((C < 1 ∨ 7 < C ∨ 3 < D) ∧ Bod w' P ∧ ∃ u v T x, e = .returned (.tuple #[u, v, .iface T x])) ∨ (¬ (C < 1 ∨ 7 < C ∨ 3 < D) ∧ e = .returned (.tuple #[.int .i64 (kdOf C : Nat), .int .u8 (D : Nat), .nilIface]) ∧ WPs S w' P big r)) from by
      rw [hC, hD]; rfl)
    have hCb : C < 1000 := by omega
    have hDb : D < 4294968 := by omega
    clear hC hD
    have hok : ∀ (k : Nat), kdOf C = k → ¬ (C < 1 ∨ 7 < C ∨ 3 < D) → GTPost S w P big (some (y, r)) (.returned (.tuple #[.int .i64 (k : Nat), .int .u8 (D : Nat), .nilIface])) w1 := fun k hk h => by
      rw [HG2.out, ← hk]
      exact ⟨HG.out, .inr ⟨h, rfl, HW.out⟩⟩
    have hbad : ∀ u v T x, (C < 1 ∨ 7 < C ∨ 3 < D) → GTPost S w P big (some (y, r)) (.returned (.tuple #[u, v, .iface T x])) w1 := fun u v T x h => by
      rw [HG2.out]
      exact ⟨HG.out, .inl ⟨h, HW.out.bod, _, _, _, _, rfl⟩⟩
    have HOK := Lib.hid hok
    have HBAD := Lib.hid hbad
    clear hok hbad HG2
    have hcs : C = 1 ∨ C = 2 ∨ C = 3 ∨ C = 4 ∨ C = 5 ∨ C = 6 ∨ C = 7 ∨ (C < 1 ∨ 7 < C) := by omega
    have hds : D = 0 ∨ D = 1 ∨ D = 2 ∨ D = 3 ∨ 3 < D := by omega
    by_cases hc : C < 1 ∨ 7 < C
    · have n1 : ((C : Int) == 1) = false := beq_eq_false_iff_ne.2 (by omega)
      have n2 : ((C : Int) == 2) = false := beq_eq_false_iff_ne.2 (by omega)
      have n3 : ((C : Int) == 3) = false := beq_eq_false_iff_ne.2 (by omega)
      have n4 : ((C : Int) == 4) = false := beq_eq_false_iff_ne.2 (by omega)
      have n5 : ((C : Int) == 5) = false := beq_eq_false_iff_ne.2 (by omega)
      have n6 : ((C : Int) == 6) = false := beq_eq_false_iff_ne.2 (by omega)
      have n7 : ((C : Int) == 7) = false := beq_eq_false_iff_ne.2 (by omega)
      clear hcs hds
      go_wp2_with fail
      refine bodyPost_ret (v := .tuple #[.int .i64 0, .int .u8 0, .iface 207 ?_]) (by simp [results, go_sem]; rfl) rfl ?_
      exact HBAD.out _ _ _ _ (by omega)
    · have hcs : C = 1 ∨ C = 2 ∨ C = 3 ∨ C = 4 ∨ C = 5 ∨ C = 6 ∨ C = 7 := by omega
      clear hds
      by_cases hd : 3 < D
      · have m0 : ((D : Int) == 0) = false := beq_eq_false_iff_ne.2 (by omega)
        have m1 : ((D : Int) == 1) = false := beq_eq_false_iff_ne.2 (by omega)
        have m2 : ((D : Int) == 2) = false := beq_eq_false_iff_ne.2 (by omega)
        have m3 : ((D : Int) == 3) = false := beq_eq_false_iff_ne.2 (by omega)
        rcases hcs with rfl | rfl | rfl | rfl | rfl | rfl | rfl
        all_goals
          go_wp2_with fail
          refine bodyPost_ret (v := .tuple #[.int .i64 0, .int .u8 0, .iface 207 ?_]) (by simp [results, go_sem]; rfl) rfl ?_
          exact HBAD.out _ _ _ _ (.inr (.inr hd))
      · have hds : D = 0 ∨ D = 1 ∨ D = 2 ∨ D = 3 := by omega
        rcases hcs with rfl | rfl | rfl | rfl | rfl | rfl | rfl
        all_goals
          rcases hds with rfl | rfl | rfl | rfl
          all_goals
            go_wp2_with fail
            refine bodyPost_ret (v := .tuple #[.int .i64 _, .int .u8 _, .nilIface]) (by simp [results, go_sem]; exact ⟨rfl, rfl⟩) rfl ?_
            exact HOK.out _ rfl (by omega)
end Go.Proofs.YtbacakdpfiiblaaGreat.geo
