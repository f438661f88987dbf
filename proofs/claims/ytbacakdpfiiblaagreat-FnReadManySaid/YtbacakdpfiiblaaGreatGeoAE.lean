/-
  Contracts: how many parts a multi has, and a part of it.
-/
import Derived.Test.YtbacakdpfiiblaaGreatGeoAD
namespace Go.Proofs.YtbacakdpfiiblaaGreat.geo
open Go.ChangeShapes Go.WideShapes Go.ChangeAt Go.RowKit
open Go.Proofs.YtbacakdpfiiblaaGreat.mem
set_option linter.unusedVariables false
set_option linter.unusedSimpArgs false

theorem cut2e {l : List Value} (h : l.length = 2) : ∃ u0 u1, l = [u0, u1] := by
  match l, h with
  | [a, b], _ => exact ⟨a, b, rfl⟩
theorem cut6e {l : List Value} (h : l.length = 6) : ∃ u0 u1 u2 u3 u4 u5, l = [u0, u1, u2, u3, u4, u5] := by
  match l, h with
  | [a, b, c, d, e, f], _ => exact ⟨a, b, c, d, e, f, rfl⟩

theorem num4 (n c : Nat) (A : Option Addr) (d : Value) (w : World) : Calls Tryz.prog 109 #[.agg #[.slice A n c, d]] w (Gives w (.int .i64 n)) := by
  go_enter Tryz.func109, Tryz.ntmps109
  go_wp2_with fail
  exact bodyPost_ret (v := .int .i64 n) (by simp [results, go_sem]) rfl ⟨rfl, (Below.refl _ _).alloc (Nat.le_refl _) _⟩

theorem num5 (n c : Nat) (A : Option Addr) (d : Value) (w : World) : Calls Tryz.prog 142 #[.agg #[.slice A n c, d]] w (Gives w (.int .i64 n)) := by
  go_enter Tryz.func142, Tryz.ntmps142
  go_wp2_with fail
  exact bodyPost_ret (v := .int .i64 n) (by simp [results, go_sem]) rfl ⟨rfl, (Below.refl _ _).alloc (Nat.le_refl _) _⟩

theorem num6 (n c : Nat) (A : Option Addr) (d : Value) (w : World) : Calls Tryz.prog 144 #[.agg #[.slice A n c, d]] w (Gives w (.int .i64 n)) := by
  go_enter Tryz.func144, Tryz.ntmps144
  go_wp2_with fail
  exact bodyPost_ret (v := .int .i64 n) (by simp [results, go_sem]) rfl ⟨rfl, (Below.refl _ _).alloc (Nat.le_refl _) _⟩

theorem num0 (n c : Nat) (A : Option Addr) (d : Value) (w : World) : Calls Tryz.prog 146 #[.agg #[.slice A n c, d]] w (Gives w (.int .i64 n)) := by
  go_enter Tryz.func146, Tryz.ntmps146
  go_wp2_with fail
  exact bodyPost_ret (v := .int .i64 n) (by simp [results, go_sem]) rfl ⟨rfl, (Below.refl _ _).alloc (Nat.le_refl _) _⟩


set_option maxHeartbeats 4000000 in
theorem nth4 {kids : List MG} {A : Option Addr} {c : Nat} {d : Value} {w : World} (h : Sl w w.heap.size A kids.length 6 (kids.flatMap MG.enc)) (hE : ∀ g ∈ kids, g.enc.length = 6) (hkb : kids.length ≤ kbig) {i : Nat} {g : MG} (hi : kids[i]? = some g) {S : Nat → Prop} {w0 : World} (hk : g.kind = 1) (hin : g.In S w0) :
    Calls Tryz.prog 79 #[.agg #[.slice A kids.length c, d], .int .i64 i] w (Gives w (.agg g.enc.toArray)) := by
  have hil := (List.getElem?_eq_some_iff.1 hi).1
  obtain ⟨b, off, rfl, hb, hc⟩ := sl_part h hE (by omega)
  obtain ⟨d1, full, q, rfl⟩ := MG.is_pt hk hin
  have e0 := hc i _ hi 0 _ rfl
  rw [Nat.add_zero] at e0
  have e1 := hc i _ hi 1 _ rfl
  rw [← Nat.add_assoc] at e1
  have e2 := hc i _ hi 2 _ rfl
  rw [← Nat.add_assoc] at e2
  have e3 := hc i _ hi 3 _ rfl
  rw [← Nat.add_assoc] at e3
  have e4 := hc i _ hi 4 _ rfl
  rw [← Nat.add_assoc] at e4
  have e5 := hc i _ hi 5 _ rfl
  rw [← Nat.add_assoc] at e5
  obtain ⟨n, hn⟩ : ∃ n, n = kids.length := ⟨_, rfl⟩
  show Calls Tryz.prog 79 #[.agg #[.slice (some ⟨b, off, none⟩) kids.length c, d], .int .i64 i] w (Gives w (.agg #[.float .f64 q.x, .float .f64 q.y, .float .f64 q.z, .float .f64 q.m, .int .u8 d1, .bool full]))
  rw [← hn] at hil hkb ⊢
  have hltI : (i : Int) < (n : Int) := by omega
  have hlt2 : b < w.heap.size := hb
  clear hn hi hc h hE hk hin
  go_enter Tryz.func79, Tryz.ntmps79
  go_wp2_with fail
  exact bodyPost_ret (v := .agg #[.float .f64 q.x, .float .f64 q.y, .float .f64 q.z, .float .f64 q.m, .int .u8 d1, .bool full]) (by simp [results, Tryz.results79, go_sem]) rfl ⟨rfl, ((Below.refl _ _).alloc (Nat.le_refl _) _).alloc (by simp) _⟩


set_option maxHeartbeats 4000000 in
theorem nth5 {kids : List MG} {A : Option Addr} {c : Nat} {d : Value} {w : World} (h : Sl w w.heap.size A kids.length 2 (kids.flatMap MG.enc)) (hE : ∀ g ∈ kids, g.enc.length = 2) (hkb : kids.length ≤ kbig) {i : Nat} {g : MG} (hi : kids[i]? = some g) {S : Nat → Prop} {w0 : World} (hk : g.kind = 2) (hin : g.In S w0) :
    Calls Tryz.prog 81 #[.agg #[.slice A kids.length c, d], .int .i64 i] w (Gives w (.agg g.enc.toArray)) := by
  have hil := (List.getElem?_eq_some_iff.1 hi).1
  obtain ⟨b, off, rfl, hb, hc⟩ := sl_part h hE (by omega)
  obtain ⟨d1, A1, c1, ns, rfl⟩ := MG.is_ln hk hin
  have e0 := hc i _ hi 0 _ rfl
  rw [Nat.add_zero] at e0
  have e1 := hc i _ hi 1 _ rfl
  rw [← Nat.add_assoc] at e1
  obtain ⟨n, hn⟩ : ∃ n, n = kids.length := ⟨_, rfl⟩
  show Calls Tryz.prog 81 #[.agg #[.slice (some ⟨b, off, none⟩) kids.length c, d], .int .i64 i] w (Gives w (.agg #[.int .u8 d1, .slice A1 ns.length c1]))
  rw [← hn] at hil hkb ⊢
  have hltI : (i : Int) < (n : Int) := by omega
  have hlt2 : b < w.heap.size := hb
  clear hn hi hc h hE hk hin
  go_enter Tryz.func81, Tryz.ntmps81
  go_wp2_with fail
  exact bodyPost_ret (v := .agg #[.int .u8 d1, .slice A1 ns.length c1]) (by simp [results, Tryz.results81, go_sem]) rfl ⟨rfl, ((Below.refl _ _).alloc (Nat.le_refl _) _).alloc (by simp) _⟩


set_option maxHeartbeats 4000000 in
theorem nth6 {kids : List MG} {A : Option Addr} {c : Nat} {d : Value} {w : World} (h : Sl w w.heap.size A kids.length 2 (kids.flatMap MG.enc)) (hE : ∀ g ∈ kids, g.enc.length = 2) (hkb : kids.length ≤ kbig) {i : Nat} {g : MG} (hi : kids[i]? = some g) {S : Nat → Prop} {w0 : World} (hk : g.kind = 3) (hin : g.In S w0) :
    Calls Tryz.prog 83 #[.agg #[.slice A kids.length c, d], .int .i64 i] w (Gives w (.agg g.enc.toArray)) := by
  have hil := (List.getElem?_eq_some_iff.1 hi).1
  obtain ⟨b, off, rfl, hb, hc⟩ := sl_part h hE (by omega)
  obtain ⟨d1, A1, c1, ks, rfl⟩ := MG.is_mu (S := S) (w := w0) (k := 3) hk (by decide) (by decide) (by decide)
  have e0 := hc i _ hi 0 _ rfl
  rw [Nat.add_zero] at e0
  have e1 := hc i _ hi 1 _ rfl
  rw [← Nat.add_assoc] at e1
  obtain ⟨n, hn⟩ : ∃ n, n = kids.length := ⟨_, rfl⟩
  show Calls Tryz.prog 83 #[.agg #[.slice (some ⟨b, off, none⟩) kids.length c, d], .int .i64 i] w (Gives w (.agg #[.slice A1 ks.length c1, .int .u8 d1]))
  rw [← hn] at hil hkb ⊢
  have hltI : (i : Int) < (n : Int) := by omega
  have hlt2 : b < w.heap.size := hb
  clear hn hi hc h hE hk hin
  go_enter Tryz.func83, Tryz.ntmps83
  go_wp2_with fail
  exact bodyPost_ret (v := .agg #[.slice A1 ks.length c1, .int .u8 d1]) (by simp [results, Tryz.results83, go_sem]) rfl ⟨rfl, ((Below.refl _ _).alloc (Nat.le_refl _) _).alloc (by simp) _⟩


set_option maxHeartbeats 4000000 in
theorem nth0 {kids : List MG} {A : Option Addr} {c : Nat} {d : Value} {w : World} (h : Sl w w.heap.size A kids.length 2 (kids.flatMap MG.enc)) (hE : ∀ g ∈ kids, g.enc.length = 2) (hkb : kids.length ≤ kbig) {i : Nat} {g : MG} (hi : kids[i]? = some g) {S : Nat → Prop} {w0 : World} (hk : g.kind = 7) (hin : g.In S w0) :
    Calls Tryz.prog 85 #[.agg #[.slice A kids.length c, d], .int .i64 i] w (Gives w (.agg g.enc.toArray)) := by
  have hil := (List.getElem?_eq_some_iff.1 hi).1
  obtain ⟨b, off, rfl, hb, hc⟩ := sl_part h hE (by omega)
  obtain ⟨a1, m, rfl⟩ := MG.is_bx hk hin
  have e0 := hc i _ hi 0 _ rfl
  rw [Nat.add_zero] at e0
  have e1 := hc i _ hi 1 _ rfl
  rw [← Nat.add_assoc] at e1
  obtain ⟨n, hn⟩ : ∃ n, n = kids.length := ⟨_, rfl⟩
  show Calls Tryz.prog 85 #[.agg #[.slice (some ⟨b, off, none⟩) kids.length c, d], .int .i64 i] w (Gives w (.agg #[.int .i64 m.kind, .iface (pT m.kind) (.pointer (some ⟨a1, 0, none⟩))]))
  rw [← hn] at hil hkb ⊢
  have hltI : (i : Int) < (n : Int) := by omega
  have hlt2 : b < w.heap.size := hb
  clear hn hi hc h hE hk hin
  go_enter Tryz.func85, Tryz.ntmps85
  go_wp2_with fail
  exact bodyPost_ret (v := .agg #[.int .i64 m.kind, .iface (pT m.kind) (.pointer (some ⟨a1, 0, none⟩))]) (by simp [results, Tryz.results85, go_sem]) rfl ⟨rfl, ((Below.refl _ _).alloc (Nat.le_refl _) _).alloc (by simp) _⟩

end Go.Proofs.YtbacakdpfiiblaaGreat.geo
