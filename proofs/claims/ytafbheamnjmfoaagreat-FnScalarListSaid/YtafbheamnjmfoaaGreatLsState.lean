/-
  The reference's script of a list: what stands between two steps.
-/
import Derived.Test.YtafbheamnjmfoaaGreatLsRunKit
import Derived.Test.YtafbheamnjmfoaaGreatLsScript
namespace Go.Proofs.YtafbheamnjmfoaaGreat.Ls
open Go.RowKit Go.WideShapes Go.Proofs.YtafbheamnjmfoaaGreat.Sc Go.Proofs.YtafbheamnjmfoaaGreat.VRow
set_option linter.unusedVariables false

/-- the list (block bl, row vl), the guard (block bg), the steps, the answers, the first list's row -/
structure Rs (w : World) (l1 : List Sc) (v9 : Value) (bl bg : Nat) (vl va u o : Value) (st : St) (S : List Sp) (A : List An) (W : World) : Prop where
  l : Rl W w.heap.size bl vl st.l
  g : Gd W w.heap.size bg va st
  s : Steps W w.heap.size u S
  a : Anss vl.ownBlock W w.heap.size o A
  f : Vals W w.heap.size v9 l1
  ne : ∀ b, v9.ownBlock = some b → vl.ownBlock ≠ some b
  below : Below w.heap.size w W
section
variable {w W W2 : World} {l1 : List Sc} {v9 : Value} {bl bg bs : Nat} {vl va u o : Value} {st st' : St} {S : List Sp} {A : List An} {p : Sp} {an : An} {e : Ending}
theorem Rs.later (h : Rs w l1 v9 bl bg vl va u o st S A W) (hb : Below W.heap.size W W2) : Rs w l1 v9 bl bg vl va u o st S A W2 :=
  ⟨h.l.later hb, h.g.later hb, h.s.kept (KeptT.of_below (S := fun _ _ => True) hb) (Kept.of_below hb) (fun _ _ => trivial), h.a.kept (KeptT.of_below (S := fun _ _ => True) hb) (KeptT.of_below hb) (fun _ _ => trivial) (fun g h => .inl h), h.f.later hb, h.ne, h.below.trans (hb.mono h.below.size)⟩
/-- a step done, its answer not yet told -/
structure Done (w : World) (l1 : List Sc) (v9 : Value) (bl bg bs : Nat) (u o : Value) (S : List Sp) (A : List An) (p : Sp) (an : An) (st : St) (y : V6) (W : World) : Prop where
  some_ : ∃ ys vl va k i j m a, p.fits k i j m a ∧ IsSc W ys a ∧ Box.Holds W bs 62 (stepCs k i j m ys) ∧ IsAv vl.ownBlock W y an.v ∧ Rs w l1 v9 bl bg vl va u o st S A W
theorem Done.later {y : V6} (h : Done w l1 v9 bl bg bs u o S A p an st y W) (hb : Below W.heap.size W W2) : Done w l1 v9 bl bg bs u o S A p an st y W2 := by
  obtain ⟨ys, vl, va, k, i, j, m, a, hp, hys, hs, hy, hrs⟩ := h.some_
  exact ⟨ys, vl, va, k, i, j, m, a, hp, hys.kept (Kept.of_below hb), hs.later hb, hy.kept (KeptT.of_below hb) (fun g h => .inl h), hrs.later hb⟩
theorem Rs.walked {j m : Int} (h : Rs w l1 v9 bl bg vl va u o st S A W) (hw : Walked W w.heap.size bg bs j m st st' p an e W2) (hl : st'.l = st.l) (hsc : ∃ s, an.v = .sc s) (hub : ∀ b, u.ownBlock = some b → b ≠ bs) :
    ∃ y, e = .returned (.tuple #[.agg (ansCs an.ok an.is_ an.n y), .bool true]) ∧ IsAv none W2 y an.v ∧ Done w l1 v9 bl bg bs u o S A p an st' y W2 := by
  obtain ⟨y, va', k, i, he, hp, hs, hg, hy, hf⟩ := hw
  have hkn : Kept W W2 := hf.kept.kept fun g t hn => ⟨num_ne hn _ rfl, num_ne hn _ rfl, fun e => absurd e (num_ne hn _ rfl)⟩
  have hkx : ∀ x, KeptX x W W2 := fun x => hf.kept.mono fun g t _ hn => by
    rcases hn with hn | ⟨rfl, _⟩
    · exact ⟨num_ne hn _ rfl, num_ne hn _ rfl, fun e => absurd e (num_ne hn _ rfl)⟩
    · exact ⟨by decide, by decide, fun e => absurd e (by decide)⟩
  refine ⟨y, he, hy, ⟨nil6, vl, va', k, i, j, m, .none, hp, nil6_sc _, hs, ?_, ⟨⟨hf.kept.holds h.l.hold ⟨by decide, by decide, fun e => absurd e (by decide)⟩, ?_, h.l.ge⟩, hg, ?_, ?_, ?_, h.ne, h.below.trans hf.below⟩⟩⟩
  · obtain ⟨s, hs⟩ := hsc
    rw [hs] at hy ⊢
    exact hy
  · rw [hl]
    exact vals_kept h.l.row (hkx none) fun b _ e => by cases e
  · exact h.s.kept hf.kept hkn fun b hb => ⟨by decide, by decide, fun _ => hub b hb⟩
  · exact h.a.kept hf.kept (hkx _) (fun b _ => ⟨by decide, by decide, fun e => absurd e (by decide)⟩) (fun g h => .inl h)
  · exact vals_kept h.f (hkx none) fun b _ e => by cases e
theorem Rs.stepped (h : Rs w l1 v9 bl bg vl va u o st S A W) (hw : Stepped W w.heap.size bl bs vl.ownBlock st.l st'.l p an e W2) (hfz : st'.fz = st.fz) (hat : st'.at_ = st.at_) (hub : ∀ b, u.ownBlock = some b → b ≠ bs) :
    ∃ y, e = .returned (.agg (ansCs an.ok an.is_ an.n y)) ∧ Done w l1 v9 bl bg bs u o S A p an st' y W2 ∧ KeptT (SS bs vl.ownBlock) W W2 := by
  obtain ⟨y, ys, vl', k, i, j, m, a, he, hp, hys, hs, hl, hy, hf, hx⟩ := hw
  have hkn : Kept W W2 := hf.kept.kept fun g t hn => ⟨num_ne hn _ rfl, fun e => absurd e (num_ne hn _ rfl), fun e => absurd e (num_ne hn _ rfl)⟩
  have hkx : KeptX vl.ownBlock W W2 := hf.kept.mono fun g t _ hn => by
    rcases hn with hn | ⟨rfl, hg⟩
    · exact ⟨num_ne hn _ rfl, fun e => absurd e (num_ne hn _ rfl), fun e => absurd e (num_ne hn _ rfl)⟩
    · exact ⟨by decide, fun _ => hg, fun e => absurd e (by decide)⟩
  have hg : Gd W2 w.heap.size bg va st := h.g.kept hf.kept (fun _ => ⟨by decide, fun e => absurd e (by decide), fun e => absurd e (by decide)⟩) (fun _ => ⟨by decide, fun e => absurd e (by decide), fun e => absurd e (by decide)⟩)
  refine ⟨y, he, ⟨ys, vl', va, k, i, j, m, a, hp, hys, hs, hy, ⟨hl, ⟨?_, ?_, hg.ge⟩, ?_, ?_, ?_, fun b hb e => ?_, h.below.trans hf.below⟩⟩, hf.kept⟩
  · rw [hfz, hat]; exact hg.hold
  · rw [hat]; exact hg.row
  · exact h.s.kept hf.kept hkn fun b hb => ⟨by decide, fun e => absurd e (by decide), fun _ => hub b hb⟩
  · exact h.a.kept hf.kept hkx (fun b _ => ⟨by decide, fun e => absurd e (by decide), fun e => absurd e (by decide)⟩) hx
  · exact vals_kept h.f hkx h.ne
  · rcases hx b e with e' | e'
    · exact h.ne b hb e'
    · obtain ⟨L, h1, _⟩ := h.f
      have := (World.ownsRow.lt h1 b hb).2
      omega
theorem Rs.grown_step {u' : Value} {S' : List Sp} (h : Rs w l1 v9 bl bg vl va u o st S A W) (hg : W.grownBy W2 u.ownBlock) (hs : Steps W2 w.heap.size u' S') : Rs w l1 v9 bl bg vl va u' o st S' A W2 ∧ KeptT (fun _ t => t ≠ 62) W W2 := by
  have hk : KeptT (fun _ t => t ≠ 62) W W2 := by
    obtain ⟨L, h1, _⟩ := h.s
    exact KeptT.grown h1.1 (fun _ _ h => h rfl) hg
  have hkx : ∀ x, KeptX x W W2 := fun x => hk.mono fun g t _ hn => by
    rcases hn with hn | ⟨rfl, hg⟩
    · exact num_ne hn _ rfl
    · decide
  exact ⟨⟨h.l.kept hk (fun _ _ h => num_ne h _ rfl) (by decide) (fun _ _ => by decide), h.g.kept hk (fun _ => by decide) (fun _ => by decide), hs, h.a.kept hk (hkx _) (fun _ _ => by decide) (fun g h => .inl h), vals_kept h.f (hkx none) (fun b _ e => by cases e), h.ne, h.below.grown hg h.below.size fun k hk => (h.s.lt k hk).1⟩, hk⟩
theorem Rs.grown_ans {o' : Value} {A' : List An} (h : Rs w l1 v9 bl bg vl va u o st S A W) (hg : W.grownBy W2 o.ownBlock) (ha : Anss vl.ownBlock W2 w.heap.size o' A') : Rs w l1 v9 bl bg vl va u o' st S A' W2 := by
  have hk : KeptT (fun _ t => t ≠ 64) W W2 := by
    obtain ⟨L, h1, _⟩ := h.a
    exact KeptT.grown h1.1 (fun _ _ h => h rfl) hg
  have hkx : ∀ x, KeptX x W W2 := fun x => hk.mono fun g t _ hn => by
    rcases hn with hn | ⟨rfl, hg⟩
    · exact num_ne hn _ rfl
    · decide
  exact ⟨h.l.kept hk (fun _ _ h => num_ne h _ rfl) (by decide) (fun _ _ => by decide), h.g.kept hk (fun _ => by decide) (fun _ => by decide), h.s.kept hk (hkx none).kept (fun _ _ => by decide), ha, vals_kept h.f (hkx none) (fun b _ e => by cases e), h.ne, h.below.grown hg h.below.size fun k hk => (h.a.lt k hk).1⟩
/-- an answer stored into its variable -/
theorem Rs.put {ga : Nat} {x0 x1 x2 x3 x4 x5 x6 x7 x8 x9 : Value} {c : Array Value} (h : Rs w l1 v9 bl bg vl va u o st S A W) (hga : Box.Holds W ga 64 #[x0, x1, x2, x3, x4, x5, x6, x7, x8, x9]) (hB : w.heap.size ≤ ga) (hno : ∀ b, o.ownBlock = some b → b ≠ ga) (ok is_ : Bool) (n : Int) (y : V6) (hs : Box.Holds W bs 62 c) (hy : IsAv vl.ownBlock W y an.v) :
    Rs w l1 v9 bl bg vl va u o st S A (putAns W ga ok is_ n y) ∧ Box.Holds (putAns W ga ok is_ n y) ga 64 (ansCs ok is_ n y) ∧ Box.Holds (putAns W ga ok is_ n y) bs 62 c ∧ IsAv vl.ownBlock (putAns W ga ok is_ n y) y an.v ∧ Kept W (putAns W ga ok is_ n y) := by
  obtain ⟨hf, hh⟩ := putAns_fr (Fr.refl w.heap.size (fun g t => t = 64 → g ≠ ga) W) hga hB (fun _ h => h rfl rfl) ok is_ n y
  have hk := hf.kept
  have hkx : ∀ x, KeptX x W (putAns W ga ok is_ n y) := fun x => hk.mono fun g t _ hn e => by
    subst e
    rcases hn with hn | ⟨hn, hg⟩
    · cases hn
    · cases hn
  exact ⟨⟨h.l.kept hk (fun _ _ h e => absurd e (num_ne h _ rfl)) (fun e => absurd e (by decide)) (fun _ _ e => absurd e (by decide)), h.g.kept hk (fun _ e => absurd e (by decide)) (fun _ e => absurd e (by decide)), h.s.kept hk (hkx none).kept (fun _ _ e => absurd e (by decide)), h.a.kept hk (hkx _) (fun b hb _ => hno b hb) (fun g h => .inl h), vals_kept h.f (hkx none) (fun b _ e => by cases e), h.ne, h.below.trans hf.below⟩, hh, hk.holds hs (fun e => absurd e (by decide)), hy.kept (hkx _) (fun g h => .inl h), (hkx none).kept⟩
theorem Done.put {y : V6} {ga : Nat} {x0 x1 x2 x3 x4 x5 x6 x7 x8 x9 : Value} (h : Done w l1 v9 bl bg bs u o S A p an st y W) (hga : Box.Holds W ga 64 #[x0, x1, x2, x3, x4, x5, x6, x7, x8, x9]) (hB : w.heap.size ≤ ga) (hno : ∀ b, o.ownBlock = some b → b ≠ ga) :
    Done w l1 v9 bl bg bs u o S A p an st y (putAns W ga an.ok an.is_ an.n y) ∧ Box.Holds (putAns W ga an.ok an.is_ an.n y) ga 64 (ansCs an.ok an.is_ an.n y) := by
  obtain ⟨ys, vl, va, k, i, j, m, a, hp, hys, hs, hy, hrs⟩ := h.some_
  obtain ⟨h1, h2, h3, h4, h5⟩ := hrs.put hga hB hno an.ok an.is_ an.n y hs hy
  exact ⟨⟨ys, vl, va, k, i, j, m, a, hp, hys.kept h5, h3, h4, h1⟩, h2⟩
theorem Done.av {y : V6} (h : Done w l1 v9 bl bg bs u o S A p an st y W) : ∃ (k : Int) (neg : Bool) (a : Option Addr) (n c : Nat) (b : Int) (t : ByteArray) (ka : Option Addr) (kn kc : Nat), y = ⟨.int .i64 k, .bool neg, .slice a n c, .int .u64 b, .string t, .slice ka kn kc⟩ := by
  obtain ⟨ys, vl, va, k, i, j, m, a, hp, hys, hs, hy, hrs⟩ := h.some_
  exact hy.form
end
/-- a step of the list's own kinds, whatever the order: f, what has come up -/
structure I16 (w w2 : World) (l1 : List Sc) (v9 : Value) (bl bg bs ga sb j : Nat) (u o u1 : Value) (st : St) (S : List Sp) (A : List An) (r : Rw) (y z : V6) (f : Nat → Bool) (V : Nat → Value) (W : World) : Prop where
  m0 : f 6 = false → W = w2.drew
  m6 : f 6 = true → ∃ yy p an st', V 6 = .agg (ansCs an.ok an.is_ an.n yy) ∧ Step st p st' an ∧ Done w l1 v9 bl bg bs u o S A p an st' yy W ∧ (f 7 = true → Box.Holds W ga 64 (ansCs an.ok an.is_ an.n yy)) ∧ (f 7 = false → Box.Holds W ga 64 (ansCs false false 0 nil6))
  p0 : f 0 = true → V 0 = u1
  p1 : f 1 = true → V 1 = .int .i64 j
  p2 : f 2 = true → V 2 = .pointer (some ⟨sb, j * 17, none⟩)
  p3 : f 3 = true → V 3 = .agg (rawCs r.k r.i r.j r.m y z)
  p4 : f 4 = true → V 4 = .pointer (some ⟨bg, 0, none⟩)
  p5 : f 5 = true → V 5 = .bool st.fixed
end Go.Proofs.YtafbheamnjmfoaaGreat.Ls
