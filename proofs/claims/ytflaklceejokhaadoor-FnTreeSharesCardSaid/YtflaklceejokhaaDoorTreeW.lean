/-
  The callback of a question to a tree: it notes the number, and answers with an error at the call that the question names.
-/
import Derived.Test.YtflaklceejokhaaDoorTreeQ
import Derived.Deep.AppendLies
namespace Go.Proofs.YtflaklceejokhaaDoor.tree
open Go.ChangeShapes Go.WideShapes Go.ChangeAt Go.RowKit
open Go.Proofs.YtflaklceejokhaaDoor.mem Go.Proofs.YtflaklceejokhaaDoor.flt Ieee
set_option linter.unusedVariables false
set_option linter.unusedSimpArgs false

/-- What a callback may answer: nothing, the error that stops, one that wraps it, another one, one that wraps that. -/
inductive Er where
  | none | stop | wstop | own | wown
def Er.v (S : Addr) : Er → Value
  | .none => .nilIface
  | .stop => .iface 129 (.pointer (some S))
  | .wstop => .iface 60 (.agg #[.iface 129 (.pointer (some S))])
  | .own => .iface 62 (.agg #[])
  | .wown => .iface 60 (.agg #[.iface 62 (.agg #[])])
def erOf (how : Int) : Er := if how = 0 then .stop else if how = 1 then .wstop else if how = 2 then .own else .wown
def ansT (stop how : Int) (l : List Int) : Er := if (l.length : Int) = stop then erOf how else .none

/-- The package's variable Stop holds the error at S. -/
def GV (w : World) (S : Addr) : Prop := w.cell? ⟨0, 0, none⟩ = some (.iface 129 (.pointer (some S)))

/-- A question. -/
structure Ask where
  (act : Int) (b : Bx) (stop how : Int)
def askA (a : Ask) : Array Value := #[.int .i64 a.act, .float .f64 a.b.x0, .float .f64 a.b.y0, .float .f64 a.b.x1, .float .f64 a.b.y1, .int .i64 a.stop, .int .i64 a.how]
def toldA (v : Value) : Array Value := #[v, .bool false, .bool false, .bool false, .int .i64 0, .float .f64 0, .float .f64 0, .float .f64 0, .float .f64 0, .int .i64 0]
def idVs (l : List Int) : List Value := l.map (Value.int .i64)

/-- The answer stands in block ob with the numbers l so far, the question in block ab. -/
structure TS (B : Nat) (S : Addr) (ob ab : Nat) (a : Ask) (w : World) (l : List Int) (F : Nat → Prop) : Prop where
  ex : ∃ v, Blk w ob 38 (toldA v) ∧ w.ownsRow B 3 1 v l.length (idVs l) ∧ v.ownBlock ≠ some ob ∧ v.ownBlock ≠ some ab ∧ ∀ b, F b ↔ b = ob ∨ b = ab ∨ some b = v.ownBlock
  ask : Blk w ab 34 (askA a)
  gv : GV w S
  ne : ob ≠ ab
  g0 : 0 < B
  ob0 : B ≤ ob
  ab0 : B ≤ ab

theorem infoI : (Tryd.prog.info? 3).map (fun i => (i.zero, i.size, i.bytes)) = some (some (.int .i64 0), 1, 8) := by kernel_rfl

theorem TS.put {B ob ab : Nat} {S : Addr} {a : Ask} {w w8 : World} {l : List Int} {F : Nat → Prop} {id : Int} (h : TS B S ob ab a w l F) {v v' : Value} (hB : Blk w ob 38 (toldA v)) (ap1 : v.ownBlock ≠ some ob) (ap2 : v.ownBlock ≠ some ab) (hF : ∀ b, F b ↔ b = ob ∨ b = ab ∨ some b = v.ownBlock) (hO : w.ownsRow B 3 1 v l.length (idVs l))
    (hr : w8.ownsRow B 3 1 v' (l.length + 1) (idVs l ++ [.int .i64 id])) (hg : w.grownBy w8 v.ownBlock) (hat : v'.ownBlock = v.ownBlock ∨ ∃ k, w.heap.size ≤ k ∧ v'.ownBlock = some k) :
    ∃ F', TS B S ob ab a (w8.setCell ⟨ob, 0, none⟩ v') (l ++ [id]) F' ∧ Fr F w (w8.setCell ⟨ob, 0, none⟩ v') ∧ ∀ b, F' b → F b ∨ w.heap.size ≤ b := by
  have lo := hB.lt
  have la := h.ask.lt
  have ap1' : v'.ownBlock ≠ some ob := by
    rcases hat with hat | ⟨k, h1, h2⟩
    · rw [hat]; exact ap1
    · rw [h2]; intro e; have := Option.some.inj e; omega
  have ap2' : v'.ownBlock ≠ some ab := by
    rcases hat with hat | ⟨k, h1, h2⟩
    · rw [hat]; exact ap2
    · rw [h2]; intro e; have := Option.some.inj e; omega
  have hvl : ∀ k, v.ownBlock = some k → B ≤ k := fun k hk => (hO.lt k hk).1
  have g0 := h.g0
  have ho0 := h.ob0
  refine ⟨fun b => b = ob ∨ b = ab ∨ some b = v'.ownBlock, ⟨⟨v', ?_, ?_, ap1', ap2', fun b => Iff.rfl⟩, (h.ask.grown hg (fun e => ap2 e.symm)).far (by show ab ≠ ob; exact fun e => h.ne e.symm) _, ?_, h.ne, h.g0, h.ob0, h.ab0⟩, ⟨hg.os, hg.tape, hg.output, by simpa using hg.size, fun b hb hf => ?_⟩, ?_⟩
  · have := (hB.grown hg (fun e => ap1 e.symm)).set_ 0 v'
    simpa [toldA] using this
  · have e : idVs l ++ [.int .i64 id] = idVs (l ++ [id]) := by simp [idVs]
    rw [e] at hr
    have e2 : l.length + 1 = (l ++ [id]).length := by simp
    rw [e2] at hr
    exact hr.kept (grown_set w8 ⟨ob, 0, none⟩ v') (by cases hv : v'.ownBlock with
      | none => exact .inl rfl
      | some k => exact .inr (fun e => ap1' (by rw [hv]; exact e)))
  · have gv := h.gv
    unfold GV at gv ⊢
    rw [World.cell?_setCell_other w8 _ _ _ (fun e => by have : ob = 0 := congrArg Addr.block e; omega), hg.cell_far _ (by show 0 < _; omega) (fun e => by have : B ≤ 0 := hvl _ e.symm; omega)]
    exact gv
  · have nf := fun h => hf ((hF b).2 h)
    exact (Below.heap_setCell w8 ⟨ob, 0, none⟩ v' b (fun e => nf (.inl e))).trans (hg.block b hb (fun e => nf (.inr (.inr e))))
  · intro b hb
    rcases hb with rfl | rfl | hb
    · exact .inl ((hF _).2 (.inl rfl))
    · exact .inl ((hF _).2 (.inr (.inl rfl)))
    · rcases hat with hat | ⟨k, h1, h2⟩
      · exact .inl ((hF b).2 (.inr (.inr (hb.trans hat))))
      · rw [h2] at hb
        have := Option.some.inj hb
        exact .inr (by omega)

set_option maxRecDepth 100000 in
set_option maxHeartbeats 8000000 in
theorem told1_calls {B ob ab : Nat} {S : Addr} {a : Ask} {w : World} {l : List Int} {F : Nat → Prop} (id : Int) (hl : l.length ≤ 100000) (h : TS B S ob ab a w l F) :
    Calls Tryd.prog 18 #[.int .i64 id, .pointer (some ⟨ob, 0, none⟩), .pointer (some ⟨ab, 0, none⟩)] w fun e w' =>
      e = .returned ((ansT a.stop a.how (l ++ [id])).v S) ∧ ∃ F', TS B S ob ab a w' (l ++ [id]) F' ∧ Fr F w w' ∧ ∀ b, F' b → F b ∨ w.heap.size ≤ b := by
  obtain ⟨i0, hi0, hz0, hz1, hz2⟩ := info_parts infoI
  obtain ⟨v, hB, hO, ap1, ap2, hF⟩ := h.ex
  obtain ⟨A, k, hv⟩ := own_slice hO
  have HV := Lib.hid hv
  have c0 : w.cell? ⟨ob, 0, none⟩ = some (.slice A l.length k) := by rw [← hv]; exact hB.cell 0
  have k0 : w.frozen? ⟨ob, 0, none⟩ = false := hB.frozen 0 (show 0 < 10 by omega)
  have lo := hB.lt
  have hBw : B ≤ w.heap.size := by have := h.ob0; omega
  have HH := Lib.hid h
  have HB := Lib.hid hB
  have HO := Lib.hid hO
  have HF := Lib.hid hF
  have AP1 := Lib.hid ap1
  have AP2 := Lib.hid ap2
  have hO2 := hO
  rw [hv] at hO2
  have HO2 := Lib.hid hO2
  have hone : ∀ u ∈ [Value.int .i64 id], u.oneCell' = true := by intro u hu; simp at hu; rw [hu]; rfl
  have HONE := Lib.hid hone
  have hnews := World.news_of_block (cs := #[.int .i64 id]) (t := 3) (fr := (0, 0)) (heap_alloc_new w (.cells #[.int .i64 id] 3))
  have HNEWS := Lib.hid hnews
  clear h hB hO hF hv ap1 ap2 hO2 hone hnews
  go_enter Tryd.func18, Tryd.ntmps18
  go_wp2_with (at_builtin; refine wpList_append_lies _ rfl (.tmp 6) (.tmp 8) 36 rfl B 3 i0 _ 1 8 Tryd.underlying36 hi0 hz0 hz1 hz2 rfl (by decide) (.slice A l.length k) l.length (idVs l) rfl (HO2.out.alloc _) ⟨w.heap.size, 0, none⟩ 1 1 [.int .i64 id] rfl rfl HNEWS.out HONE.out (by omega) (by unfold maxLen; omega) (by omega) (by simp; omega) (w.heap.size + 1) (by simp) ?_; intro gg cap w8 hown' hgrow hat hlt'
               have hbX : Below w.heap.size w (w.alloc (.cells #[.int .i64 id] 3)) := (Below.refl w.heap.size w).alloc (Nat.le_refl _) (.cells #[.int .i64 id] 3)
               have hgw : w.grownBy w8 v.ownBlock := by rw [HV.out]; exact grown_trans ⟨hbX.os, hbX.tape, hbX.output, hbX.size, fun i hi _ => hbX.block i hi⟩ hgrow
               have hatw : (Value.slice (some ⟨gg, 0, none⟩) (l.length + 1) cap).ownBlock = v.ownBlock ∨ ∃ k, w.heap.size ≤ k ∧ (Value.slice (some ⟨gg, 0, none⟩) (l.length + 1) cap).ownBlock = some k := by
                 rw [HV.out]
                 rcases hat with h | h
                 · exact .inl h.symm
                 · exact .inr ⟨gg, by omega, rfl⟩
               have hend := HH.out.put HB.out AP1.out AP2.out HF.out HO.out hown' hgw hatw
               have x0 := (HB.out.grown hgw (fun e => AP1.out e.symm)).cell 0
               have y0 : w8.cell? ⟨ob, 0, none⟩ = some v := x0
               have y1 : w8.frozen? ⟨ob, 0, none⟩ = false := (HB.out.grown hgw (fun e => AP1.out e.symm)).frozen 0 (show 0 < 10 by omega)
               obtain ⟨F', hts, hfr, hf'⟩ := hend
               have z5 : (w8.setCell ⟨ob, 0, none⟩ (.slice (some ⟨gg, 0, none⟩) (l.length + 1) cap)).cell? ⟨ab, 5, none⟩ = some (.int .i64 a.stop) := hts.ask.cell 5
               have z6 : (w8.setCell ⟨ob, 0, none⟩ (.slice (some ⟨gg, 0, none⟩) (l.length + 1) cap)).cell? ⟨ab, 6, none⟩ = some (.int .i64 a.how) := hts.ask.cell 6
               have z7 : (w8.setCell ⟨ob, 0, none⟩ (.slice (some ⟨gg, 0, none⟩) (l.length + 1) cap)).cell? ⟨0, 0, none⟩ = some (.iface 129 (.pointer (some S))) := hts.gv
               have HEND : Hid (∃ F', TS B S ob ab a (w8.setCell ⟨ob, 0, none⟩ (.slice (some ⟨gg, 0, none⟩) (l.length + 1) cap)) (l ++ [id]) F' ∧ Fr F w (w8.setCell ⟨ob, 0, none⟩ (.slice (some ⟨gg, 0, none⟩) (l.length + 1) cap)) ∧ ∀ b, F' b → F b ∨ w.heap.size ≤ b) := Lib.hid ⟨F', hts, hfr, hf'⟩
               clear hbX hgw hatw hts hfr hf' x0 c0 k0)
  · have e : ansT a.stop a.how (l ++ [id]) = .none := by
      have h0 : ((l.length : Int) + 1 != a.stop) = true := by assumption
      simp at h0
      simp [ansT, erOf, h0]
    have HE := Lib.hid e
    clear e
    exact bodyPost_ret (v := Er.v S .none) (by simp [results, Tryd.results18, go_sem, Er.v]) rfl ⟨by rw [HE.out], HEND.out⟩
  · have e : ansT a.stop a.how (l ++ [id]) = .stop := by
      have h0 : ((l.length : Int) + 1 != a.stop) = false := by assumption
      have h1 : (a.how == 0) = true := by assumption
      simp at h0 h1
      simp [ansT, erOf, h0, h1]
    have HE := Lib.hid e
    clear e
    exact bodyPost_ret (v := Er.v S .stop) (by simp [results, Tryd.results18, go_sem, Er.v]) rfl ⟨by rw [HE.out], HEND.out⟩
  · have e : ansT a.stop a.how (l ++ [id]) = .wstop := by
      have h0 : ((l.length : Int) + 1 != a.stop) = false := by assumption
      have h1 : (a.how == 0) = false := by assumption
      have h2 : (a.how == 1) = true := by assumption
      simp at h0 h1 h2
      simp [ansT, erOf, h0, h1, h2]
    have HE := Lib.hid e
    clear e
    exact bodyPost_ret (v := Er.v S .wstop) (by simp [results, Tryd.results18, go_sem, Er.v]) rfl ⟨by rw [HE.out], HEND.out⟩
  · have e : ansT a.stop a.how (l ++ [id]) = .own := by
      have h0 : ((l.length : Int) + 1 != a.stop) = false := by assumption
      have h1 : (a.how == 0) = false := by assumption
      have h2 : (a.how == 1) = false := by assumption
      have h3 : (a.how == 2) = true := by assumption
      simp at h0 h1 h2 h3
      simp [ansT, erOf, h0, h1, h2, h3]
    have HE := Lib.hid e
    clear e
    exact bodyPost_ret (v := Er.v S .own) (by simp [results, Tryd.results18, go_sem, Er.v]) rfl ⟨by rw [HE.out], HEND.out⟩
  · have e : ansT a.stop a.how (l ++ [id]) = .wown := by
      have h0 : ((l.length : Int) + 1 != a.stop) = false := by assumption
      have h1 : (a.how == 0) = false := by assumption
      have h2 : (a.how == 1) = false := by assumption
      have h3 : (a.how == 2) = false := by assumption
      simp at h0 h1 h2 h3
      simp [ansT, erOf, h0, h1, h2, h3]
    have HE := Lib.hid e
    clear e
    exact bodyPost_ret (v := Er.v S .wown) (by simp [results, Tryd.results18, go_sem, Er.v]) rfl ⟨by rw [HE.out], HEND.out⟩
end Go.Proofs.YtflaklceejokhaaDoor.tree
