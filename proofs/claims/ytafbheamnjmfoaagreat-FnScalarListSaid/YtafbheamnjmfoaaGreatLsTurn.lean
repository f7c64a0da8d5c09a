/-
  The reference's step over a list: its blocks; clear, any other.
-/
import Derived.Test.YtafbheamnjmfoaaGreatLsWalk2
import Derived.Test.YtafbheamnjmfoaaGreatLsLists
namespace Go.Proofs.YtafbheamnjmfoaaGreat.Ls
open Go.RowKit Go.WideShapes Go.Proofs.YtafbheamnjmfoaaGreat.Sc Go.Proofs.YtafbheamnjmfoaaGreat.VRow
set_option linter.unusedVariables false

theorem holdB {w : World} {g : Nat} {t : TypeId} {x y z : Value} {r : List Value} (h : Box.Holds w g t ⟨x :: y :: z :: r⟩) : w.cell? ⟨g, 2, none⟩ = some z := by
  have := h.cell 2
  simpa using this
theorem holdC {w : World} {g : Nat} {t : TypeId} {x y z u : Value} {r : List Value} (h : Box.Holds w g t ⟨x :: y :: z :: u :: r⟩) : w.cell? ⟨g, 3, none⟩ = some u := by
  have := h.cell 3
  simpa using this
/-- a step as it came: two values, no row -/
def rawCs (k i j m : Int) (y z : V6) : Array Value := #[.int .i64 k, .int .i64 i, .int .i64 j, .int .i64 m, y.k, y.n, y.m, y.b, y.t, y.s, z.k, z.n, z.m, z.b, z.t, z.s, .slice none 0 0]
/-- the three blocks of a step: what came, its answer, what it gathers -/
structure Three (w W : World) (c : Array Value) : Prop where
  below : Below w.heap.size w W
  size : W.heap.size = w.heap.size + 1 + 1 + 1
  raw : Box.Holds W w.heap.size 62 c
  res : Box.Holds W (w.heap.size + 1) 64 #[.bool false, .bool false, .int .i64 0, .int .i64 0, .bool false, .slice none 0 0, .int .u64 0, .string ⟨#[]⟩, .slice none 0 0, .slice none 0 0]
  out : Box.Holds W (w.heap.size + 2) 64 #[.bool true, .bool false, .int .i64 0, .int .i64 0, .bool false, .slice none 0 0, .int .u64 0, .string ⟨#[]⟩, .slice none 0 0, .slice none 0 0]
theorem three (w : World) (c : Array Value) : Three w (((w.alloc (.cells c 62)).alloc (.cells #[.bool false, .bool false, .int .i64 0, .int .i64 0, .bool false, .slice none 0 0, .int .u64 0, .string ⟨#[]⟩, .slice none 0 0, .slice none 0 0] 64)).alloc (.cells #[.bool true, .bool false, .int .i64 0, .int .i64 0, .bool false, .slice none 0 0, .int .u64 0, .string ⟨#[]⟩, .slice none 0 0, .slice none 0 0] 64)) c := by
  refine ⟨((Ref.below_one' _ (Nat.le_refl _)).alloc (by simp) _).alloc (by simp; omega) _, by simp, ((Box.Holds.made w _ _).alloc _).alloc _, ?_, ?_⟩
  · have := (Box.Holds.made (w.alloc (.cells c 62)) 64 #[.bool false, .bool false, .int .i64 0, .int .i64 0, .bool false, .slice none 0 0, .int .u64 0, .string ⟨#[]⟩, .slice none 0 0, .slice none 0 0]).alloc (.cells #[.bool true, .bool false, .int .i64 0, .int .i64 0, .bool false, .slice none 0 0, .int .u64 0, .string ⟨#[]⟩, .slice none 0 0, .slice none 0 0] 64)
    rwa [World.size_alloc] at this
  · have := Box.Holds.made ((w.alloc (.cells c 62)).alloc (.cells #[.bool false, .bool false, .int .i64 0, .int .i64 0, .bool false, .slice none 0 0, .int .u64 0, .string ⟨#[]⟩, .slice none 0 0, .slice none 0 0] 64)) 64 #[.bool true, .bool false, .int .i64 0, .int .i64 0, .bool false, .slice none 0 0, .int .u64 0, .string ⟨#[]⟩, .slice none 0 0, .slice none 0 0]
    rwa [World.size_alloc, World.size_alloc] at this
/-- the reference's list: the variable that holds it, its row -/
structure Rl (w : World) (B bl : Nat) (v : Value) (S : List Sc) : Prop where
  hold : Box.Holds w bl 26 #[v]
  row : Vals w B v S
  ge : B ≤ bl
theorem Rl.later {w w' : World} {B bl : Nat} {v : Value} {S : List Sc} (h : Rl w B bl v S) (hb : Below w.heap.size w w') : Rl w' B bl v S := ⟨h.hold.later hb, h.row.later hb, h.ge⟩
theorem Rl.kept {P : Nat → TypeId → Prop} {w w' : World} {B bl : Nat} {v : Value} {S : List Sc} (h : Rl w B bl v S) (hk : KeptT P w w') (h0 : ∀ g t, numT t = true → P g t) (h1 : P bl 26) (h2 : ∀ b, v.ownBlock = some b → P b 28) : Rl w' B bl v S := by
  refine ⟨hk.holds h.hold h1, ?_, h.ge⟩
  obtain ⟨L, a, b⟩ := h.row
  exact ⟨L, hk.own a h2, b.mono fun x y hxy => hxy.kept (hk.kept h0)⟩
/-- all but the list, its row, one step -/
def SS (bs : Nat) (x : Option Nat) (g : Nat) (t : TypeId) : Prop := t ≠ 26 ∧ (t = 28 → some g ≠ x) ∧ (t = 62 → g ≠ bs)
/-- a step over the list: the list's new row lies where the elder lay, or is new -/
def Stepped (w : World) (B bl bs : Nat) (x : Option Nat) (S S' : List Sc) (p : Sp) (an : An) (e : Ending) (w' : World) : Prop :=
  ∃ (y ys : V6) (v : Value) (k i j m : Int) (a : Sc), e = .returned (.agg (ansCs an.ok an.is_ an.n y)) ∧ p.fits k i j m a ∧ IsSc w' ys a ∧ Box.Holds w' bs 62 (stepCs k i j m ys) ∧ Rl w' B bl v S' ∧ IsAv v.ownBlock w' y an.v ∧ Fr B (SS bs x) w w' ∧ ∀ b, v.ownBlock = some b → x = some b ∨ w.heap.size ≤ b

theorem stepped_end {w w1 : World} {B bl bs : Nat} {x : Option Nat} {v : Value} {k i j m : Int} {a : Sc} {S S' : List Sc} {p : Sp} {an : An} {y ys : V6} (hp : p.fits k i j m a) (hys : IsSc w1 ys a) (hs : Box.Holds w1 bs 62 (stepCs k i j m ys)) (hl : Rl w1 B bl v S') (hy : IsAv v.ownBlock w1 y an.v) (hf : Fr B (SS bs x) w w1) (hB : B ≤ w.heap.size)
    (hx : ∀ b, v.ownBlock = some b → x = some b ∨ w.heap.size ≤ b) (hr : Box.Holds w1 (w.heap.size + 1) 64 #[.bool false, .bool false, .int .i64 0, .int .i64 0, .bool false, .slice none 0 0, .int .u64 0, .string ⟨#[]⟩, .slice none 0 0, .slice none 0 0]) :
    Hid (Box.Holds (putAns w1 (w.heap.size + 1) an.ok an.is_ an.n y) (w.heap.size + 1) 64 (ansCs an.ok an.is_ an.n y)) ∧ Hid (Stepped w B bl bs x S S' p an (.returned (.agg (ansCs an.ok an.is_ an.n y))) (putAns w1 (w.heap.size + 1) an.ok an.is_ an.n y)) := by
  obtain ⟨f, h⟩ := putAns_fr hf hr (by omega) (fun h => by omega) an.ok an.is_ an.n y
  have hk := (putAns_fr (Fr.refl B (fun _ t => t ≠ 64) w1) hr (by omega) (fun _ h => h rfl) an.ok an.is_ an.n y).1.kept
  exact ⟨Lib.hid h, Lib.hid ⟨y, ys, v, k, i, j, m, a, rfl, hp, hys.kept (hk.kept fun _ _ h => num_ne h _ rfl), hk.holds hs (by decide), hl.kept hk (fun _ _ h => num_ne h _ rfl) (by decide) (fun _ _ => by decide), hy.kept (put_kept hr _ _ _ _) (fun g h => .inl h), f, hx⟩⟩
theorem holds_ne {w : World} {g g' : Nat} {t t' : TypeId} {c c' : Array Value} (h : Box.Holds w g t c) (h' : Box.Holds w g' t' c') (ht : t ≠ t') : g ≠ g' := fun e => by
  subst e
  have h1 : w.heap[g]? = _ := h
  have h2 : w.heap[g]? = _ := h'
  rw [h1] at h2
  simp only [Option.some.injEq, Obj.cells.injEq] at h2
  exact ht h2.2.1
/-- stores into what is gathered alone -/
theorem three_out {w W W1 : World} {B bl bs : Nat} {x : Option Nat} {v : Value} {S : List Sc} {c cs : Array Value} (h3 : Three w W c) (hl : Rl W B bl v S) (hs : Box.Holds W bs 62 cs) (hbw : bl < w.heap.size) (hsw : bs < w.heap.size) (hx : ∀ b, v.ownBlock = some b → b < w.heap.size) (hf : Fr B (SS bs x) w W) (hk : KeptT (fun g _ => g ≠ w.heap.size + 2) W W1) (hb : Below (w.heap.size + 2) W W1) (hB : B ≤ w.heap.size) :
    Rl W1 B bl v S ∧ Box.Holds W1 bs 62 cs ∧ Box.Holds W1 (w.heap.size + 1) 64 #[.bool false, .bool false, .int .i64 0, .int .i64 0, .bool false, .slice none 0 0, .int .u64 0, .string ⟨#[]⟩, .slice none 0 0, .slice none 0 0] ∧ Box.Holds W1 w.heap.size 62 c ∧ Fr B (SS bs x) w W1 ∧ Kept W W1 := by
  have hkn : Kept W W1 := fun g cs t fz hn hh => hk g cs t fz (fun e => by
    subst e
    have h1 : W.heap[w.heap.size + 2]? = _ := h3.out
    rw [h1] at hh
    cases hh
    cases hn) hh
  refine ⟨⟨hk.holds hl.hold (by omega), ?_, hl.ge⟩, hk.holds hs (by omega), hk.holds h3.res (by omega), hk.holds h3.raw (by omega), ?_, hkn⟩
  · obtain ⟨L, a, b⟩ := hl.row
    exact ⟨L, hk.own a (fun b hb' => by have := hx b hb'; omega), b.mono fun x y hxy => hxy.kept hkn⟩
  · refine ⟨hf.below.trans (hb.mono (by omega)), fun g cs t fz hn hh => ?_⟩
    have := (Array.getElem?_eq_some_iff.1 hh).1
    exact hk g cs t fz (by omega) (hf.kept g cs t fz hn hh)

/-- a step under way: the list, the step, the blocks -/
structure Bd (w W : World) (B bl bs : Nat) (x : Option Nat) (v : Value) (S : List Sc) (cs craw o : Array Value) : Prop where
  l : Rl W B bl v S
  s : Box.Holds W bs 62 cs
  res : Box.Holds W (w.heap.size + 1) 64 #[.bool false, .bool false, .int .i64 0, .int .i64 0, .bool false, .slice none 0 0, .int .u64 0, .string ⟨#[]⟩, .slice none 0 0, .slice none 0 0]
  raw : Box.Holds W w.heap.size 62 craw
  out : Box.Holds W (w.heap.size + 2) 64 o
  fr : Fr B (SS bs x) w W
  hv : ∀ b, v.ownBlock = some b → x = some b ∨ w.heap.size ≤ b
  hbs : bs < w.heap.size
  hB : B ≤ w.heap.size
  hBs : B ≤ bs
section
variable {w W : World} {B bl bs : Nat} {x : Option Nat} {v : Value} {S : List Sc} {cs craw o : Array Value}
theorem Bd.own {W : World} {v : Value} {S : List Sc} {g : Nat} {t : TypeId} {c : Array Value} (h : Vals W B v S) (hg : Box.Holds W g t c) (ht : t ≠ 28) : ∀ b, v.ownBlock = some b → b ≠ g := fun b hb e => by
  obtain ⟨L, hL, _⟩ := h
  exact own_ne hL hg ht (by rw [hb, e])
theorem Bd.out_put (h : Bd w W B bl bs x v S cs craw o) (i : Nat) (u : Value) : Bd w (W.setCell ⟨w.heap.size + 2, i, none⟩ u) B bl bs x v S cs craw (o.setIfInBounds i u) := by
  have hk : KeptT (fun g _ => g ≠ w.heap.size + 2) W (W.setCell ⟨w.heap.size + 2, i, none⟩ u) := KeptT.setCell (p := ⟨w.heap.size + 2, i, none⟩) h.out (fun h => h rfl) u
  have hkn : Kept W (W.setCell ⟨w.heap.size + 2, i, none⟩ u) := Kept.setCell (p := ⟨w.heap.size + 2, i, none⟩) h.out rfl u
  refine ⟨⟨hk.holds h.l.hold (holds_ne h.l.hold h.out (by decide)), ?_, h.l.ge⟩, hk.holds h.s (holds_ne h.s h.out (by decide)), hk.holds h.res (by omega), hk.holds h.raw (by omega), h.out.put i u, h.fr.setCell (p := ⟨w.heap.size + 2, i, none⟩) h.out (by have := h.hB; show B ≤ w.heap.size + 2; omega) (fun e => absurd e (by show ¬ w.heap.size + 2 < w.heap.size; omega)) u, h.hv, h.hbs, h.hB, h.hBs⟩
  obtain ⟨L, a, b⟩ := h.l.row
  exact ⟨L, hk.own a (Bd.own h.l.row h.out (by decide)), b.mono fun x y hxy => hxy.kept hkn⟩
theorem Bd.out_kept (h : Bd w W B bl bs x v S cs craw o) (i : Nat) (u : Value) : Kept W (W.setCell ⟨w.heap.size + 2, i, none⟩ u) := Kept.setCell (p := ⟨w.heap.size + 2, i, none⟩) h.out rfl u
theorem Bd.step_put (h : Bd w W B bl bs x v S cs craw o) (i : Nat) (u : Value) : Bd w (W.setCell ⟨bs, i, none⟩ u) B bl bs x v S (cs.setIfInBounds i u) craw o := by
  have hk : KeptT (fun g _ => g ≠ bs) W (W.setCell ⟨bs, i, none⟩ u) := KeptT.setCell (p := ⟨bs, i, none⟩) h.s (fun h => h rfl) u
  have hkn : Kept W (W.setCell ⟨bs, i, none⟩ u) := Kept.setCell (p := ⟨bs, i, none⟩) h.s rfl u
  refine ⟨⟨hk.holds h.l.hold (holds_ne h.l.hold h.s (by decide)), ?_, h.l.ge⟩, h.s.put i u, hk.holds h.res (holds_ne h.res h.s (by decide)), hk.holds h.raw (by have := h.hbs; omega), hk.holds h.out (holds_ne h.out h.s (by decide)), h.fr.setCell (p := ⟨bs, i, none⟩) h.s h.hBs (fun _ hn => hn.2.2 rfl rfl) u, h.hv, h.hbs, h.hB, h.hBs⟩
  obtain ⟨L, a, b⟩ := h.l.row
  exact ⟨L, hk.own a (Bd.own h.l.row h.s (by decide)), b.mono fun x y hxy => hxy.kept hkn⟩
theorem Bd.step_kept (h : Bd w W B bl bs x v S cs craw o) (i : Nat) (u : Value) : Kept W (W.setCell ⟨bs, i, none⟩ u) := Kept.setCell (p := ⟨bs, i, none⟩) h.s rfl u
theorem Bd.list_put (h : Bd w W B bl bs x v S cs craw o) {v' : Value} {S' : List Sc} (hv : Vals W B v' S') (hx : ∀ b, v'.ownBlock = some b → x = some b ∨ w.heap.size ≤ b) : Bd w (W.setCell ⟨bl, 0, none⟩ v') B bl bs x v' S' cs craw o := by
  have hk : KeptT (fun g _ => g ≠ bl) W (W.setCell ⟨bl, 0, none⟩ v') := KeptT.setCell (p := ⟨bl, 0, none⟩) h.l.hold (fun h => h rfl) v'
  have hkn : Kept W (W.setCell ⟨bl, 0, none⟩ v') := Kept.setCell (p := ⟨bl, 0, none⟩) h.l.hold rfl v'
  have ho := Bd.own hv h.l.hold (by decide)
  refine ⟨⟨h.l.hold.put 0 v', ?_, h.l.ge⟩, hk.holds h.s (holds_ne h.s h.l.hold (by decide)), hk.holds h.res (holds_ne h.res h.l.hold (by decide)), hk.holds h.raw (holds_ne h.raw h.l.hold (by decide)), hk.holds h.out (holds_ne h.out h.l.hold (by decide)), h.fr.setCell (p := ⟨bl, 0, none⟩) h.l.hold h.l.ge (fun _ hn => hn.1 rfl) v', hx, h.hbs, h.hB, h.hBs⟩
  obtain ⟨L, a, b⟩ := hv
  exact ⟨L, hk.own a ho, b.mono fun x y hxy => hxy.kept hkn⟩
theorem Bd.later {W' : World} (h : Bd w W B bl bs x v S cs craw o) (hb : Below W.heap.size W W') : Bd w W' B bl bs x v S cs craw o := ⟨h.l.later hb, h.s.later hb, h.res.later hb, h.raw.later hb, h.out.later hb, h.fr.later hb h.hB, h.hv, h.hbs, h.hB, h.hBs⟩
theorem Bd.drawn (h : Bd w W B bl bs x v S cs craw o) (q : Nat) : Bd w (W.drewN q) B bl bs x v S cs craw o := h.later (Box.below_drawn (Below.refl _ _) q)
theorem Bd.end_ {ok is_ : Bool} {n : Nat} {k i j m : Int} {a : Sc} {S0 : List Sc} {p : Sp} {av : Av} {y ys : V6} (h : Bd w W B bl bs x v S (stepCs k i j m ys) craw (ansCs ok is_ n y)) (hp : p.fits k i j m a) (hys : IsSc W ys a) (hy : IsAv v.ownBlock W y av) :
    Box.Holds W (w.heap.size + 1) 64 #[.bool false, .bool false, .int .i64 0, .int .i64 0, .bool false, .slice none 0 0, .int .u64 0, .string ⟨#[]⟩, .slice none 0 0, .slice none 0 0] ∧ Hid (Box.Holds W (w.heap.size + 2) 64 (ansCs ok is_ n y)) ∧ Hid (Box.Holds (putAns W (w.heap.size + 1) ok is_ n y) (w.heap.size + 1) 64 (ansCs ok is_ n y)) ∧ Hid (Stepped w B bl bs x S0 S p ⟨ok, is_, n, av⟩ (.returned (.agg (ansCs ok is_ n y))) (putAns W (w.heap.size + 1) ok is_ n y)) := by
  obtain ⟨e1, e2⟩ := stepped_end (S := S0) (p := p) (an := ⟨ok, is_, n, av⟩) hp hys h.s h.l hy h.fr h.hB h.hv h.res
  exact ⟨h.res, Lib.hid h.out, e1, e2⟩
end
set_option maxHeartbeats 2000000 in
set_option maxRecDepth 100000 in
theorem turn_clear_no (B bl bs : Nat) (i : Int) (j m : Int) (y z : V6) (a b : Sc) (k0 i0 j0 m0 : Int) (v : Value) (S : List Sc) (w : World) (h : Rl w B bl v S) (hs : Box.Holds w bs 62 (stepCs 3 i j m nil6)) (hy : IsSc w y a) (hz : IsSc w z b) (ha : a.ok) (hBs : B ≤ bs) (hl : S.length ≤ 400) :
    Calls Tryz.prog 31 #[.pointer (some ⟨bs, 0, none⟩), .agg (rawCs k0 i0 j0 m0 y z), .pointer (some ⟨bl, 0, none⟩), .bool true] w (Stepped w B bl bs v.ownBlock S S .clear .no) := by
  obtain ⟨yn, ya, yl, yc, yb, yt, rfl⟩ := hy.form
  obtain ⟨zn, za, zl, zc, zb, zt, rfl⟩ := hz.form
  have h3 := three w (rawCs k0 i0 j0 m0 ⟨.int .i64 a.kind, .bool yn, .slice ya yl yc, .int .u64 yb, .string yt, .slice none 0 0⟩ ⟨.int .i64 b.kind, .bool zn, .slice za zl zc, .int .u64 zb, .string zt, .slice none 0 0⟩)
  obtain ⟨W, hW⟩ : ∃ W, ((w.alloc (.cells (rawCs k0 i0 j0 m0 ⟨.int .i64 a.kind, .bool yn, .slice ya yl yc, .int .u64 yb, .string yt, .slice none 0 0⟩ ⟨.int .i64 b.kind, .bool zn, .slice za zl zc, .int .u64 zb, .string zt, .slice none 0 0⟩) 62)).alloc (.cells #[.bool false, .bool false, .int .i64 0, .int .i64 0, .bool false, .slice none 0 0, .int .u64 0, .string ⟨#[]⟩, .slice none 0 0, .slice none 0 0] 64)).alloc (.cells #[.bool true, .bool false, .int .i64 0, .int .i64 0, .bool false, .slice none 0 0, .int .u64 0, .string ⟨#[]⟩, .slice none 0 0, .slice none 0 0] 64) = W := ⟨_, rfl⟩
  rw [hW] at h3
  have hB : B ≤ w.heap.size := Nat.le_trans h.ge (Nat.le_of_lt h.hold.lt)
  have hl1 := h.later h3.below
  have hs1 := hs.later h3.below
  have hy1 := hy.kept (Kept.of_below h3.below)
  have hbw := h.hold.lt
  have hsw := hs.lt
  have hvw : ∀ b, v.ownBlock = some b → b < w.heap.size := fun b hb => by obtain ⟨L, hL, _⟩ := h.row; exact (World.ownsRow.lt hL b hb).2
  have hls : bl ≠ bs := holds_ne h.hold hs (by decide)
  obtain ⟨A0, c0, rfl⟩ := h.row.shape
  have s0 := hold0 hs1
  have s1 := hold1 hs1
  have s2 := holdB hs1
  have s3 := holdC hs1
  have sl := hs1.lt
  have sf0 := hs1.free 0
  have sf1 := hs1.free 1
  have sf2 := hs1.free 2
  have sf3 := hs1.free 3
  have l0 := hold0 hl1.hold
  have ll := hl1.hold.lt
  have lf := hl1.hold.free 0
  have hfW : Fr B (SS bs (Value.slice A0 S.length c0).ownBlock) w W := Fr.of_below h3.below hB
  obtain ⟨o0, o1, o2, o3, o4, o5, o6, o7, o8, o9, ol, of0, of1, of2, of3, of4, of5, of6, of7, of8, of9⟩ := ans_facts h3.out
  have hno1 : bs ≠ w.heap.size + 2 := by omega
  have hno2 : bl ≠ w.heap.size + 2 := by omega
  have hno3 : bs ≠ w.heap.size + 1 := by omega
  have hno4 : bl ≠ w.heap.size + 1 := by omega
  have hbd : Bd w W B bl bs (Value.slice A0 S.length c0).ownBlock (.slice A0 S.length c0) S _ _ _ := ⟨hl1, hs1, h3.res, h3.raw, h3.out, hfW, fun b hb => .inl hb, hsw, hB, hBs⟩
  have hbd' := Lib.hid hbd
  have hy1' := Lib.hid hy1
  clear h h3 hs hl1 hs1 hy hz hfW hvw hbd hy1
  obtain ⟨W1, hW1⟩ : ∃ W1, (W.setCell ⟨w.heap.size + 2, 0, none⟩ (.bool false)) = W1 := ⟨_, rfl⟩
  have hb1 := hbd'.out.out_put 0 (.bool false)
  rw [hW1] at hb1
  obtain ⟨hres, hout, hae, hfi⟩ := hb1.end_ (S0 := S) (p := .clear) (a := .none) (ys := nil6) (y := nil6) (ok := false) (is_ := false) (n := 0) ⟨rfl, rfl⟩ (nil6_sc _) (nil6_av _ _)
  obtain ⟨r0, r1, r2, r3, r4, r5, r6, r7, r8, r9, rl, q0, q1, q2, q3, q4, q5, q6, q7, q8, q9⟩ := ans_facts hres
  have hW1' := Lib.hid hW1
  clear hW1 hres hb1 hbd'
  unfold ansCs at hout
  try unfold nil6 at hout
  dsimp only at hout
  have hW' := Lib.hid hW
  clear hW
  unfold rawCs at hW'
  dsimp only at hW'
  unfold rawCs
  dsimp only
  go_enter Tryz.func31, Tryz.ntmps31
  go_upto_region 2 with fail
  rw [hW'.out]
  clear hW'
  go_upto_region 32 with fail
  rw [hW1'.out]
  go_wp2_with (refine wpList_load_row rfl 64 _ rfl (w.heap.size + 2) rfl 64 _ (0, 0) _ hout.out Tryz.underlying64 rfl (by kernel_rfl) ?_)
  exact bodyPost_ret (v := .agg (ansCs false false 0 nil6)) (results_cell_row rfl _ _ (w.heap.size + 1) 64 _ (0, 0) _ rfl hae.out rfl rfl rfl) rfl hfi.out
set_option maxHeartbeats 2000000 in
set_option maxRecDepth 100000 in
theorem turn_clear (B bl bs : Nat) (i : Int) (j m : Int) (y z : V6) (a b : Sc) (k0 i0 j0 m0 : Int) (v : Value) (S : List Sc) (w : World) (h : Rl w B bl v S) (hs : Box.Holds w bs 62 (stepCs 3 i j m nil6)) (hy : IsSc w y a) (hz : IsSc w z b) (ha : a.ok) (hBs : B ≤ bs) (hl : S.length ≤ 400) :
    Calls Tryz.prog 31 #[.pointer (some ⟨bs, 0, none⟩), .agg (rawCs k0 i0 j0 m0 y z), .pointer (some ⟨bl, 0, none⟩), .bool false] w (Stepped w B bl bs v.ownBlock S [] .clear .yes) := by
  obtain ⟨yn, ya, yl, yc, yb, yt, rfl⟩ := hy.form
  obtain ⟨zn, za, zl, zc, zb, zt, rfl⟩ := hz.form
  have h3 := three w (rawCs k0 i0 j0 m0 ⟨.int .i64 a.kind, .bool yn, .slice ya yl yc, .int .u64 yb, .string yt, .slice none 0 0⟩ ⟨.int .i64 b.kind, .bool zn, .slice za zl zc, .int .u64 zb, .string zt, .slice none 0 0⟩)
  obtain ⟨W, hW⟩ : ∃ W, ((w.alloc (.cells (rawCs k0 i0 j0 m0 ⟨.int .i64 a.kind, .bool yn, .slice ya yl yc, .int .u64 yb, .string yt, .slice none 0 0⟩ ⟨.int .i64 b.kind, .bool zn, .slice za zl zc, .int .u64 zb, .string zt, .slice none 0 0⟩) 62)).alloc (.cells #[.bool false, .bool false, .int .i64 0, .int .i64 0, .bool false, .slice none 0 0, .int .u64 0, .string ⟨#[]⟩, .slice none 0 0, .slice none 0 0] 64)).alloc (.cells #[.bool true, .bool false, .int .i64 0, .int .i64 0, .bool false, .slice none 0 0, .int .u64 0, .string ⟨#[]⟩, .slice none 0 0, .slice none 0 0] 64) = W := ⟨_, rfl⟩
  rw [hW] at h3
  have hB : B ≤ w.heap.size := Nat.le_trans h.ge (Nat.le_of_lt h.hold.lt)
  have hl1 := h.later h3.below
  have hs1 := hs.later h3.below
  have hy1 := hy.kept (Kept.of_below h3.below)
  have hbw := h.hold.lt
  have hsw := hs.lt
  have hvw : ∀ b, v.ownBlock = some b → b < w.heap.size := fun b hb => by obtain ⟨L, hL, _⟩ := h.row; exact (World.ownsRow.lt hL b hb).2
  have hls : bl ≠ bs := holds_ne h.hold hs (by decide)
  obtain ⟨A0, c0, rfl⟩ := h.row.shape
  have s0 := hold0 hs1
  have s1 := hold1 hs1
  have s2 := holdB hs1
  have s3 := holdC hs1
  have sl := hs1.lt
  have sf0 := hs1.free 0
  have sf1 := hs1.free 1
  have sf2 := hs1.free 2
  have sf3 := hs1.free 3
  have l0 := hold0 hl1.hold
  have ll := hl1.hold.lt
  have lf := hl1.hold.free 0
  have hfW : Fr B (SS bs (Value.slice A0 S.length c0).ownBlock) w W := Fr.of_below h3.below hB
  obtain ⟨o0, o1, o2, o3, o4, o5, o6, o7, o8, o9, ol, of0, of1, of2, of3, of4, of5, of6, of7, of8, of9⟩ := ans_facts h3.out
  have hno1 : bs ≠ w.heap.size + 2 := by omega
  have hno2 : bl ≠ w.heap.size + 2 := by omega
  have hno3 : bs ≠ w.heap.size + 1 := by omega
  have hno4 : bl ≠ w.heap.size + 1 := by omega
  have hbd : Bd w W B bl bs (Value.slice A0 S.length c0).ownBlock (.slice A0 S.length c0) S _ _ _ := ⟨hl1, hs1, h3.res, h3.raw, h3.out, hfW, fun b hb => .inl hb, hsw, hB, hBs⟩
  have hbd' := Lib.hid hbd
  have hy1' := Lib.hid hy1
  clear h h3 hs hl1 hs1 hy hz hfW hvw hbd hy1
  obtain ⟨W1, hW1⟩ : ∃ W1, ((W.setCell ⟨w.heap.size + 2, 0, none⟩ (.bool true)).setCell ⟨bl, 0, none⟩ (.slice none 0 0)) = W1 := ⟨_, rfl⟩
  have hb1 := (hbd'.out.out_put 0 (.bool true)).list_put (v' := .slice none 0 0) (S' := []) (Vals.nil _ _) (fun b hb => by cases hb)
  rw [hW1] at hb1
  obtain ⟨hres, hout, hae, hfi⟩ := hb1.end_ (S0 := S) (p := .clear) (a := .none) (ys := nil6) (y := nil6) (ok := true) (is_ := false) (n := 0) ⟨rfl, rfl⟩ (nil6_sc _) (nil6_av _ _)
  obtain ⟨r0, r1, r2, r3, r4, r5, r6, r7, r8, r9, rl, q0, q1, q2, q3, q4, q5, q6, q7, q8, q9⟩ := ans_facts hres
  have hW1' := Lib.hid hW1
  clear hW1 hres hb1 hbd'
  unfold ansCs at hout
  try unfold nil6 at hout
  dsimp only at hout
  have hW' := Lib.hid hW
  clear hW
  unfold rawCs at hW'
  dsimp only at hW'
  unfold rawCs
  dsimp only
  go_enter Tryz.func31, Tryz.ntmps31
  go_upto_region 2 with fail
  rw [hW'.out]
  clear hW'
  go_upto_region 32 with fail
  rw [hW1'.out]
  go_wp2_with (refine wpList_load_row rfl 64 _ rfl (w.heap.size + 2) rfl 64 _ (0, 0) _ hout.out Tryz.underlying64 rfl (by kernel_rfl) ?_)
  exact bodyPost_ret (v := .agg (ansCs true false 0 nil6)) (results_cell_row rfl _ _ (w.heap.size + 1) 64 _ (0, 0) _ rfl hae.out rfl rfl rfl) rfl hfi.out
set_option maxHeartbeats 2000000 in
set_option maxRecDepth 100000 in
theorem turn_len (B bl bs : Nat) (k i : Int) (fx : Bool) (j m : Int) (y z : V6) (a b : Sc) (k0 i0 j0 m0 : Int) (v : Value) (S : List Sc) (w : World) (h : Rl w B bl v S) (hs : Box.Holds w bs 62 (stepCs k i j m nil6)) (hy : IsSc w y a) (hz : IsSc w z b) (ha : a.ok) (hBs : B ≤ bs) (hl : S.length ≤ 400) (hk : k = 1 ∨ k = 2) (h0 : S.length = 0) :
    Calls Tryz.prog 31 #[.pointer (some ⟨bs, 0, none⟩), .agg (rawCs k0 i0 j0 m0 y z), .pointer (some ⟨bl, 0, none⟩), .bool fx] w (Stepped w B bl bs v.ownBlock S S .len ⟨true, false, 0, .sc .none⟩) := by
  obtain ⟨yn, ya, yl, yc, yb, yt, rfl⟩ := hy.form
  obtain ⟨zn, za, zl, zc, zb, zt, rfl⟩ := hz.form
  have h3 := three w (rawCs k0 i0 j0 m0 ⟨.int .i64 a.kind, .bool yn, .slice ya yl yc, .int .u64 yb, .string yt, .slice none 0 0⟩ ⟨.int .i64 b.kind, .bool zn, .slice za zl zc, .int .u64 zb, .string zt, .slice none 0 0⟩)
  obtain ⟨W, hW⟩ : ∃ W, ((w.alloc (.cells (rawCs k0 i0 j0 m0 ⟨.int .i64 a.kind, .bool yn, .slice ya yl yc, .int .u64 yb, .string yt, .slice none 0 0⟩ ⟨.int .i64 b.kind, .bool zn, .slice za zl zc, .int .u64 zb, .string zt, .slice none 0 0⟩) 62)).alloc (.cells #[.bool false, .bool false, .int .i64 0, .int .i64 0, .bool false, .slice none 0 0, .int .u64 0, .string ⟨#[]⟩, .slice none 0 0, .slice none 0 0] 64)).alloc (.cells #[.bool true, .bool false, .int .i64 0, .int .i64 0, .bool false, .slice none 0 0, .int .u64 0, .string ⟨#[]⟩, .slice none 0 0, .slice none 0 0] 64) = W := ⟨_, rfl⟩
  rw [hW] at h3
  have hB : B ≤ w.heap.size := Nat.le_trans h.ge (Nat.le_of_lt h.hold.lt)
  have hl1 := h.later h3.below
  have hs1 := hs.later h3.below
  have hy1 := hy.kept (Kept.of_below h3.below)
  have hbw := h.hold.lt
  have hsw := hs.lt
  have hvw : ∀ b, v.ownBlock = some b → b < w.heap.size := fun b hb => by obtain ⟨L, hL, _⟩ := h.row; exact (World.ownsRow.lt hL b hb).2
  have hls : bl ≠ bs := holds_ne h.hold hs (by decide)
  obtain ⟨A0, c0, rfl⟩ := h.row.shape
  have s0 := hold0 hs1
  have s1 := hold1 hs1
  have s2 := holdB hs1
  have s3 := holdC hs1
  have sl := hs1.lt
  have sf0 := hs1.free 0
  have sf1 := hs1.free 1
  have sf2 := hs1.free 2
  have sf3 := hs1.free 3
  have l0 := hold0 hl1.hold
  have ll := hl1.hold.lt
  have lf := hl1.hold.free 0
  have hfW : Fr B (SS bs (Value.slice A0 S.length c0).ownBlock) w W := Fr.of_below h3.below hB
  obtain ⟨o0, o1, o2, o3, o4, o5, o6, o7, o8, o9, ol, of0, of1, of2, of3, of4, of5, of6, of7, of8, of9⟩ := ans_facts h3.out
  have hno1 : bs ≠ w.heap.size + 2 := by omega
  have hno2 : bl ≠ w.heap.size + 2 := by omega
  have hno3 : bs ≠ w.heap.size + 1 := by omega
  have hno4 : bl ≠ w.heap.size + 1 := by omega
  have hbd : Bd w W B bl bs (Value.slice A0 S.length c0).ownBlock (.slice A0 S.length c0) S _ _ _ := ⟨hl1, hs1, h3.res, h3.raw, h3.out, hfW, fun b hb => .inl hb, hsw, hB, hBs⟩
  have hbd' := Lib.hid hbd
  have hy1' := Lib.hid hy1
  clear h h3 hs hl1 hs1 hy hz hfW hvw hbd hy1
  obtain ⟨W1, hW1⟩ : ∃ W1, ((W.setCell ⟨bs, 0, none⟩ (.int .i64 4)).setCell ⟨w.heap.size + 2, 2, none⟩ (.int .i64 0)) = W1 := ⟨_, rfl⟩
  have hb1 := (hbd'.out.step_put 0 (.int .i64 4)).out_put 2 (.int .i64 0)
  rw [hW1] at hb1
  obtain ⟨hres, hout, hae, hfi⟩ := hb1.end_ (S0 := S) (p := .len) (a := .none) (ys := nil6) (y := nil6) (ok := true) (is_ := false) (n := 0) ⟨rfl, rfl⟩ (nil6_sc _) (nil6_av _ _)
  obtain ⟨r0, r1, r2, r3, r4, r5, r6, r7, r8, r9, rl, q0, q1, q2, q3, q4, q5, q6, q7, q8, q9⟩ := ans_facts hres
  have hW1' := Lib.hid hW1
  clear hW1 hres hb1 hbd'
  unfold ansCs at hout
  try unfold nil6 at hout
  dsimp only at hout
  rcases hk with rfl | rfl
  all_goals
    have hW' := Lib.hid hW
    clear hW
    unfold rawCs at hW'
    dsimp only at hW'
    unfold rawCs
    dsimp only
    go_enter Tryz.func31, Tryz.ntmps31
    go_upto_region 2 with fail
    rw [hW'.out]
    clear hW'
    go_upto_region 32 with fail
    rw [hW1'.out]
    go_wp2_with (refine wpList_load_row rfl 64 _ rfl (w.heap.size + 2) rfl 64 _ (0, 0) _ hout.out Tryz.underlying64 rfl (by kernel_rfl) ?_)
    exact bodyPost_ret (v := .agg (ansCs true false 0 nil6)) (results_cell_row rfl _ _ (w.heap.size + 1) 64 _ (0, 0) _ rfl hae.out rfl rfl rfl) rfl hfi.out
end Go.Proofs.YtafbheamnjmfoaaGreat.Ls
