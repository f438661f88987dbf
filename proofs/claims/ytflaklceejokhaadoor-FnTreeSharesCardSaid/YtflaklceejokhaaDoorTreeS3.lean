/-
  A search by distance: the walk of PrioritySearch.
-/
import Derived.Test.YtflaklceejokhaaDoorTreeS1
import Derived.Test.YtflaklceejokhaaDoorTreeS2
namespace Go.Proofs.YtflaklceejokhaaDoor.tree
open Go.ChangeShapes Go.WideShapes Go.ChangeAt Go.RowKit
open Go.Proofs.YtflaklceejokhaaDoor.mem Go.Proofs.YtflaklceejokhaaDoor.flt Ieee
set_option linter.unusedVariables false
set_option linter.unusedSimpArgs false

/-- Where a search by distance stands. -/
structure PS (L : Nat) (w0 w wr : World) (St : World → List Int → (Nat → Prop) → Prop) (q : Nat) (o : Bx) (n : Nat) (f : Nat → En) (l : List Int) (F F0 : Nat → Prop) : Prop where
  ex : ∃ v, HW L w0 wr q o n f v ∧ (∀ x, F x → some x ≠ v.ownBlock) ∧ (∀ k, v.ownBlock = some k → w.heap.size ≤ k)
  st : St wr l F
  ne : ∀ x, F x → x ≠ q
  fr : Fr F0 w wr
  sub : ∀ b, F b → F0 b ∨ w.heap.size ≤ b
  qw : w.heap.size ≤ q

section
variable {L fn : Nat} {p1 p2 : Value} {S : Addr} {ans : List Int → Er} {St : World → List Int → (Nat → Prop) → Prop} {w0 w wr w' : World} {q : Nat} {o : Bx} {n n' : Nat} {f f' : Nat → En} {l l' : List Int} {F F' F0 : Nat → Prop}
theorem HW.uniq {v v' : Value} (h : HW L w0 wr q o n f v) (h' : HW L w0 wr q o n' f' v') : v = v' := by
  have e1 : wr.cell? ⟨q, 0, none⟩ = some v := h.blk.cell 0
  have e2 : wr.cell? ⟨q, 0, none⟩ = some v' := h'.blk.cell 0
  rw [e1] at e2
  exact Option.some.inj e2
/-- The queue has turned. -/
theorem PS.queue (C : Cb w0.heap.size fn p1 p2 S ans St) (h : PS L w0 w wr St q o n f l F F0) {v : Value} (h1 : HW L w0 wr q o n f v) (hg : GrPost L w0 wr q o n' f' v w') : PS L w0 w w' St q o n' f' l F F0 := by
  obtain ⟨v0, h0, h2, h3⟩ := h.ex
  have hvv := h0.uniq h1
  subst hvv
  obtain ⟨v', g1, g2, g3⟩ := hg
  have hl := C.lt wr l F
  have hsz := h.fr.size
  have hv : ∀ k, v0.ownBlock = some k → w0.heap.size ≤ k := fun k hk => (h1.row.lt k hk).1
  refine ⟨⟨v', g1, fun x hx e => ?_, fun k hk => ?_⟩, C.keep wr w' l F _ h.st g3 (fun b hb => ?_) (fun b hb hc => ?_), h.ne, h.fr.trans g3 fun x hx hc => ?_, h.sub, h.qw⟩
  · rcases g2 with g2 | ⟨k, k1, k2⟩
    · exact h2 x hx (e.trans g2)
    · rw [k2] at e
      have := Option.some.inj e
      have := (hl x h.st hx).2
      omega
  · rcases g2 with g2 | ⟨j, k1, k2⟩
    · exact h3 k (g2.symm.trans hk)
    · rw [k2] at hk
      have := Option.some.inj hk
      omega
  · rcases hb with rfl | hb
    · exact h1.qge
    · exact hv b hb.symm
  · rcases hc with rfl | hc
    · exact h.ne _ hb rfl
    · exact h2 b hb hc
  · rcases hc with rfl | hc
    · have := h.qw; omega
    · have := h3 x hc.symm; omega
/-- The callback has been called. -/
theorem PS.called (C : Cb w0.heap.size fn p1 p2 S ans St) (h : PS L w0 w wr St q o n f l F F0) (hs : St w' l' F') (hf : Fr F wr w') (hF : ∀ b, F' b → F b ∨ wr.heap.size ≤ b) : PS L w0 w w' St q o n f l' F' F0 := by
  obtain ⟨v, h1, h2, h3⟩ := h.ex
  have hl := C.lt wr l F
  have hq := h1.blk.lt
  have hsz := h.fr.size
  have hv := h1.row.lt
  refine ⟨⟨v, h1.later hf fun b hb => ⟨(hl b h.st hb).1, h.ne b hb, h2 b hb⟩, fun x hx e => ?_, h3⟩, hs, fun x hx e => ?_, h.fr.trans hf fun x hx hb => ?_, fun b hb => ?_, h.qw⟩
  · rcases hF x hx with h4 | h4
    · exact h2 x h4 e
    · have := (hv x e.symm).2; omega
  · subst e
    rcases hF x hx with h4 | h4
    · exact h.ne x h4 rfl
    · omega
  · rcases h.sub x hb with h4 | h4
    · exact h4
    · omega
  · rcases hF b hb with h4 | h4
    · exact h.sub b h4
    · exact .inr (by omega)
theorem PS.below (C : Cb w0.heap.size fn p1 p2 S ans St) (h : PS L w0 w wr St q o n f l F F0) (hb : Below wr.heap.size wr w') : PS L w0 w w' St q o n f l F F0 := by
  have hs : St w' l F := C.keep wr w' l F (fun _ => False) h.st (Fr.of_below hb) (fun _ h => h.elim) (fun _ _ h => h)
  exact h.called C hs ((Fr.of_below (F := fun _ => False) hb).mono fun _ _ h => h.elim) fun _ h => .inl h
theorem PS.post (h : PS L w0 w wr St q o n f l F F0) : ∃ F', St wr l F' ∧ Fr F0 w wr ∧ ∀ b, F' b → F0 b ∨ w.heap.size ≤ b := ⟨F, h.st, h.fr, h.sub⟩
end

/-- psQ, as the walk goes on with it. -/
def Goes (o : Bx) (ans : List Int → Er) (n : Nat) (f : Nat → En) (l : List Int) (R : List Int × Er) (u : Nat) : Prop :=
  psQ o ans u n (fun k => (f k).q) l = R ∧ sumF (fun k => (f k).q.rounds) n = u
theorem Goes.item {o : Bx} {ans : List Int → Er} {n : Nat} {f : Nat → En} {l : List Int} {R : List Int × Er} {u : Nat} (h : Goes o ans (n + 1) f l R u) {p : It} (hp : (popG (nearB o) (n + 1) f n).q = .item p) :
    (if (ans (l ++ [p.id])).isNone = true then Goes o ans n (popG (nearB o) (n + 1) f) (l ++ [p.id]) R (u - 1) else R = (l ++ [p.id], if (ans (l ++ [p.id])).isStop = true then .none else ans (l ++ [p.id]))) ∧ 0 < u := by
  obtain ⟨h1, h2⟩ := h
  have hs := sumF_pop (fun e : En => e.q.rounds) (nearB o) n f
  have hu : 0 < u := by
    have := sumF_pos (g := fun k => (f k).q.rounds) (fun i => Q.rounds_pos _) (n + 1)
    omega
  have hm := popG_map (fun e : En => e.q) (lt := nearB o) (lt' := nearQ o) (fun a b => rfl) (n + 1) f
  have hm2 : (popG (nearB o) (n + 1) f n).q = popG (nearQ o) (n + 1) (fun k => (f k).q) n := congrFun hm n
  rw [hp] at hm2
  refine ⟨?_, hu⟩
  obtain ⟨u, rfl⟩ : ∃ v, u = v + 1 := ⟨u - 1, by omega⟩
  unfold psQ at h1
  rw [if_neg (by omega), Nat.add_sub_cancel, ← hm2] at h1
  simp only at h1
  rw [hp] at hs
  have hr : (Q.item p).rounds = 1 := by unfold Q.rounds; rfl
  split
  · rename_i hn
    rw [if_pos hn, ← hm] at h1
    exact ⟨h1, by omega⟩
  · rename_i hn
    rw [if_neg hn] at h1
    exact h1.symm
theorem Goes.sub {o : Bx} {ans : List Int → Er} {n : Nat} {f : Nat → En} {l : List Int} {R : List Int × Er} {u : Nat} (h : Goes o ans (n + 1) f l R u) {k : Nat} {e : Nat → Q} (hp : (popG (nearB o) (n + 1) f n).q = .sub k e) (c : Nat) :
    Goes o ans (n + k) (pushN (nearB o) n (popG (nearB o) (n + 1) f) (fun i => ⟨c, i * 6, e i⟩) k) l R (u - 1) ∧ 0 < u := by
  obtain ⟨h1, h2⟩ := h
  have hs := sumF_pop (fun e : En => e.q.rounds) (nearB o) n f
  have hu : 0 < u := by
    have := sumF_pos (g := fun k => (f k).q.rounds) (fun i => Q.rounds_pos _) (n + 1)
    omega
  have hm := popG_map (fun e : En => e.q) (lt := nearB o) (lt' := nearQ o) (fun a b => rfl) (n + 1) f
  have hm2 : (popG (nearB o) (n + 1) f n).q = popG (nearQ o) (n + 1) (fun k => (f k).q) n := congrFun hm n
  rw [hp] at hm2
  refine ⟨?_, hu⟩
  obtain ⟨u, rfl⟩ : ∃ v, u = v + 1 := ⟨u - 1, by omega⟩
  unfold psQ at h1
  rw [if_neg (by omega), Nat.add_sub_cancel, ← hm2] at h1
  simp only at h1
  rw [hp] at hs
  have hr : (Q.sub k e).rounds = 1 + sumF (fun i => (e i).rounds) k := by rw [Q.rounds]
  have hpn := pushN_map (fun e : En => e.q) (lt := nearB o) (lt' := nearQ o) (fun a b => rfl) n (popG (nearB o) (n + 1) f) (fun i => ⟨c, i * 6, e i⟩) k
  have hsn := sumF_pushN (fun e : En => e.q.rounds) (nearB o) n (popG (nearB o) (n + 1) f) (fun i => ⟨c, i * 6, e i⟩) k
  refine ⟨?_, ?_⟩
  · rw [Nat.add_sub_cancel, hpn, hm]
    exact h1
  · rw [hsn]
    show _ + sumF (fun k => (e k).rounds) k = _
    omega
end Go.Proofs.YtflaklceejokhaaDoor.tree
