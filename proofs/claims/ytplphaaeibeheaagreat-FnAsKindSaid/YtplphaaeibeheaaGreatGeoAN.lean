/-
  Contracts: a part of a geometry, with the panic caught; the reference's part.
-/
import Derived.Test.YtplphaaeibeheaaGreatGeoAM
import Derived.Test.YtplphaaeibeheaaGreatGeoAC
import Derived.Recover
namespace Go.Proofs.YtplphaaeibeheaaGreat.geo
open Go.ChangeShapes Go.WideShapes Go.ChangeAt Go.RowKit
open Go.Proofs.YtplphaaeibeheaaGreat.mem
set_option linter.unusedVariables false
set_option linter.unusedSimpArgs false
set_option maxRecDepth 100000

theorem good_dim {k d : Int} {ns : List Nat} {kids : List PG} (h : (PG.mk k d ns kids).good) : ∃ D : Nat, D < 4 ∧ d = (D : Int) := by
  rw [PG.good] at h
  exact ⟨dm d, dm_lt d, h.1⟩
theorem spart_calls (g : IG) (S : Nat → Prop) (w : World) (h : g.In S w) (hgood : g.plain.good) (hfit : g.plain.fit) (h1 : g.plain.k ≠ 1) (n : Int) (hb : -2147483648 ≤ n ∧ n ≤ 2147483648) :
    Calls Tryz.prog 26 #[.agg g.enc.toArray, .int .i64 n] w (Part3Post S w (g.plain.part n)) := by
  obtain ⟨k, d, A, ca, ns, B, cb, kids⟩ := g
  rw [IG.plain_eq] at hgood hfit h1 ⊢
  obtain ⟨D, hD, rfl⟩ := good_dim hgood
  have h1 : k ≠ 1 := h1
  show Calls Tryz.prog 26 #[.agg #[.int .i64 k, .int .i64 D, .slice A ns.length ca, .slice B kids.length cb], .int .i64 n] w _
  have hdm := dm_nat hD
  rw [PG.fit, hdm] at hfit
  unfold PG.part
  rw [show (PG.mk k D ns (kids.map IG.plain)).k = k from rfl, show (PG.mk k D ns (kids.map IG.plain)).d = D from rfl, show (PG.mk k D ns (kids.map IG.plain)).ns = ns from rfl, show (PG.mk k D ns (kids.map IG.plain)).kids = kids.map IG.plain from rfl, hdm]
  by_cases h2 : k = 2
  · subst h2
    rw [if_pos rfl]
    by_cases hn : 0 ≤ n ∧ n < ((ns.length / wd D : Nat) : Int)
    · rw [if_pos hn]
      obtain ⟨i, rfl⟩ : ∃ i : Nat, n = i := ⟨n.toNat, by omega⟩
      exact spart_line_in hD hfit.1.1 (by omega) h
    · rw [if_neg hn]
      exact spart_line_out hD hfit.1.1 hb (by omega) h
  · rw [if_neg h2]
    by_cases h3 : k = 3 ∧ kids.map IG.plain = [] ∧ n = 0
    · rw [if_pos h3]
      obtain ⟨rfl, h4, rfl⟩ := h3
      obtain rfl : kids = [] := by simpa using h4
      exact spart_none hD h
    · rw [if_neg h3]
      have h3' : ¬ (k = 3 ∧ kids = [] ∧ n = 0) := fun h => h3 ⟨h.1, by rw [h.2.1]; rfl, h.2.2⟩
      by_cases hn : 0 ≤ n
      · rw [if_pos hn]
        obtain ⟨i, rfl⟩ : ∃ i : Nat, n = i := ⟨n.toNat, by omega⟩
        rw [Int.toNat_natCast, List.getElem?_map]
        cases hi : kids[i]? with
        | none => exact spart_out h1 h2 h3' hb (.inr (by have := List.getElem?_eq_none_iff.1 hi; omega)) h
        | some g => exact spart_in h1 h2 hi hb.2 h
      · rw [if_neg hn]
        exact spart_out h1 h2 h3' hb (.inl (by omega)) h

/-- The contract of a part. -/
def PartC (S : Nat → Prop) (w : World) (o : Option PG) (e : Ending) (w' : World) : Prop := match o with
  | some q => PartOk S w q e w'
  | none => Dies w e w'
theorem part_calls {a : Nat} {m : MG} (S : Nat → Prop) (w : World) (h : (MG.bx a m).In S w) (h1 : m.kind ≠ 1) (n : Int) (hb : -2147483648 ≤ n ∧ n ≤ 2147483648) :
    Calls Tryz.prog 28 #[.agg (MG.bx a m).enc.toArray, .int .i64 n] w (PartC S w (m.plain.part n)) := by
  have h' := h
  rw [MG.In] at h'
  obtain ⟨h7, -, -, hin⟩ := h'
  cases m with
  | pt d full p => exact absurd rfl h1
  | bx a g => exact absurd h7 (by show ¬ (7 : Nat) < 7; omega)
  | ln d A c ns =>
    rw [MG.In] at hin
    have hd := hin.1
    rw [MG.plain]
    unfold PG.part
    rw [if_pos (show (PG.mk 2 d ns []).k = 2 from rfl), show (PG.mk 2 d ns []).d = d from rfl, show (PG.mk 2 d ns []).ns = ns from rfl, dm_nat hd]
    by_cases hn : 0 ≤ n ∧ n < ((ns.length / wd d : Nat) : Int)
    · rw [if_pos hn]
      obtain ⟨i, rfl⟩ : ∃ i : Nat, n = i := ⟨n.toNat, by omega⟩
      exact part2_in (by omega) S w h
    · rw [if_neg hn]
      exact part2_out (by omega) hb S w h
  | mu k d A c kids =>
    rw [MG.In] at hin
    have hk : k < 7 ∧ pk k < 8 := ⟨h7, hin.2.1⟩
    rw [MG.plain_mu]
    unfold PG.part
    rw [show (PG.mk k d [] (kids.map MG.plain)).k = k from rfl, show (PG.mk k d [] (kids.map MG.plain)).d = d from rfl, show (PG.mk k d [] (kids.map MG.plain)).kids = kids.map MG.plain from rfl]
    have hk2 : k ≠ 2 := fun e => by subst e; exact absurd hk.2 (by decide)
    have hk1 : k ≠ 1 := fun e => by subst e; exact absurd hk.2 (by decide)
    rw [if_neg (show ¬ ((k : Int) = 2) by omega)]
    by_cases h3 : (k : Int) = 3 ∧ kids.map MG.plain = [] ∧ n = 0
    · rw [if_pos h3]
      obtain ⟨h4, h5, rfl⟩ := h3
      obtain rfl : k = 3 := by omega
      obtain rfl : kids = [] := by simpa using h5
      exact part3_none rfl S w h
    · rw [if_neg h3]
      by_cases hn : 0 ≤ n
      · rw [if_pos hn]
        obtain ⟨i, rfl⟩ : ∃ i : Nat, n = i := ⟨n.toNat, by omega⟩
        rw [Int.toNat_natCast, List.getElem?_map]
        cases hi : kids[i]? with
        | none =>
          have ho : (i : Int) < 0 ∨ (kids.length : Int) ≤ i := .inr (by have := List.getElem?_eq_none_iff.1 hi; omega)
          obtain rfl | rfl | rfl | rfl | rfl : k = 0 ∨ k = 3 ∨ k = 4 ∨ k = 5 ∨ k = 6 := by omega
          · exact part0_out ho S w h
          · refine part3_out ho (fun e => h3 ⟨rfl, ?_, e⟩) hb S w h
            have : kids.length = 0 := by omega
            rw [List.eq_nil_of_length_eq_zero this]; rfl
          · exact part4_out ho S w h
          · exact part5_out ho S w h
          · exact part6_out ho S w h
        | some g =>
          obtain rfl | rfl | rfl | rfl | rfl : k = 0 ∨ k = 3 ∨ k = 4 ∨ k = 5 ∨ k = 6 := by omega
          · exact part0_in hi S w h
          · by_cases h0 : i = 0
            · subst h0
              exact part3_outer hi S w h
            · exact part3_inner hi h0 S w h
          · exact part4_in hi S w h
          · exact part5_in hi S w h
          · exact part6_in hi S w h
      · rw [if_neg hn]
        have ho : n < 0 ∨ (kids.length : Int) ≤ n := .inl (by omega)
        obtain rfl | rfl | rfl | rfl | rfl : k = 0 ∨ k = 3 ∨ k = 4 ∨ k = 5 ∨ k = 6 := by omega
        · exact part0_out ho S w h
        · exact part3_out ho (by omega) hb S w h
        · exact part4_out ho S w h
        · exact part5_out ho S w h
        · exact part6_out ho S w h
end Go.Proofs.YtplphaaeibeheaaGreat.geo
