/-
  A script over a list of values without parts, by the program: each step's answer.
-/
import Derived.Test.YtafbheamnjmfoaaGreatLsOns
import Derived.Deep.MidRow
namespace Go.Proofs.YtafbheamnjmfoaaGreat.Ls
open Go.RowKit Go.WideShapes Go.Proofs.YtafbheamnjmfoaaGreat.Sc Go.Proofs.YtafbheamnjmfoaaGreat.VRow
set_option linter.unusedVariables false

theorem on_any {B g p n : Nat} {v vi : Value} {its : List (Option (Nat × Nat))} {st st' : St} {sp : Sp} {an : An} {w : World} {k i j m : Int} {y : V6} {a : Sc} (h : Im w B g p v vi n its st) (hy : IsSc w y a) (hp : sp.fits k i j m a) (hs : Step st sp st' an) (hin : st.In 400) :
    Calls Tryz.prog 40 #[.pointer (some ⟨g, 0, none⟩), .pointer (some ⟨p, 0, none⟩), .agg (stepCs k i j m y)] w (Answered w B g p st' an) := by
  obtain ⟨hok, hlen, hits', hpl⟩ := hin
  have hits : its.length ≤ 1000 := by
    have := congrArg List.length h.at_
    simp at this
    omega
  have hn : n ≤ 1000 := Nat.le_trans h.bd hits
  cases hs with
  | append ha hf =>
    obtain ⟨rfl, rfl⟩ := hp
    exact on_append B g p n i j m y _ v vi its st w h hlen hits hn hok ha hy hf
  | append_no ha hf =>
    obtain ⟨rfl, rfl⟩ := hp
    exact on_append_no B g p n i j m y _ v vi its st w h hlen hits hn hok ha hy hf
  | set ha hi hf =>
    obtain ⟨rfl, rfl, rfl⟩ := hp
    exact on_set B g p n _ j m y _ v vi its st w h hlen hits hn hok ha hy hi hf
  | set_no ha hi hf =>
    obtain ⟨rfl, rfl, rfl⟩ := hp
    exact on_set_no B g p n _ j m y _ v vi its st w h hlen hits hn hok ha hy hi hf
  | index hi =>
    obtain ⟨rfl, rfl, rfl⟩ := hp
    obtain rfl : y = nil6 := hy
    exact on_index B g p n _ j m v vi its st w h hlen hits hn hok hi
  | clear hf =>
    obtain ⟨rfl, rfl⟩ := hp
    obtain rfl : y = nil6 := hy
    exact on_clear B g p n i j m v vi its st w h hlen hits hn hok hf
  | clear_no hf =>
    obtain ⟨rfl, rfl⟩ := hp
    obtain rfl : y = nil6 := hy
    exact on_clear_no B g p n i j m v vi its st w h hlen hits hn hok hf
  | len =>
    obtain ⟨rfl, rfl⟩ := hp
    obtain rfl : y = nil6 := hy
    exact on_len B g p n i j m v vi its st w h hlen hits hn hok
  | open_ =>
    obtain ⟨rfl, rfl⟩ := hp
    obtain rfl : y = nil6 := hy
    exact on_open B g p n i j m v vi its st w h hlen hits hn hok
  | next hi hk =>
    obtain ⟨rfl, rfl, rfl⟩ := hp
    obtain rfl : y = nil6 := hy
    exact on_next B g p n _ j m _ v vi its st w h hlen hits hn hok hi hk
  | next_no hi hk =>
    obtain ⟨rfl, rfl, rfl⟩ := hp
    obtain rfl : y = nil6 := hy
    exact on_over B g p n _ j m _ v vi its st w h hlen hits hn hok hi hk (by have := hpl _ _ hi; omega)
  | done hi =>
    obtain ⟨rfl, rfl, rfl⟩ := hp
    obtain rfl : y = nil6 := hy
    exact on_done B g p n _ j m _ v vi its st w h hlen hits hn hok hi
  | freeze =>
    obtain ⟨rfl, rfl⟩ := hp
    obtain rfl : y = nil6 := hy
    cases hf : st.fz with
    | false => exact on_freeze B g p n i j m v vi its st w h hlen hits hn hok hf
    | true =>
      have e : ({ st with fz := true } : St) = st := by cases st; simp_all
      rw [e]
      exact on_freeze_old B g p n i j m v vi its st w h hlen hits hn hok hf
  | truth =>
    obtain ⟨rfl, rfl⟩ := hp
    obtain rfl : y = nil6 := hy
    exact on_truth B g p n i j m v vi its st w h hlen hits hn hok
  | slice hf h1 h2 hv hx =>
    obtain ⟨rfl, rfl, rfl, rfl, rfl⟩ := hp
    obtain rfl : y = nil6 := hy
    exact on_slice B g p n _ _ _ _ _ v vi its st w h hlen hits hn hok hf h1 h2 hv hx

theorem IsAv.form {x : Option Nat} {w : World} {y : V6} {v : Av} (h : IsAv x w y v) : ∃ (k : Int) (neg : Bool) (a : Option Addr) (n c : Nat) (b : Int) (t : ByteArray) (ka : Option Addr) (kn kc : Nat), y = ⟨.int .i64 k, .bool neg, .slice a n c, .int .u64 b, .string t, .slice ka kn kc⟩ := by
  cases v with
  | sc s =>
    obtain ⟨neg, a, n, c, b, t, rfl⟩ := IsSc.form h
    exact ⟨_, _, _, _, _, _, _, _, _, _, rfl⟩
  | list l =>
    obtain ⟨u, rfl, h2, _⟩ := h
    obtain ⟨A, cap, rfl⟩ := h2.shape
    exact ⟨_, _, _, _, _, 0, _, _, _, _, rfl⟩
/-- a step in its row -/
theorem steps_at {w : World} {B : Nat} {u : Value} {S : List Sp} (h : Steps w B u S) {j : Nat} (hj : j < S.length) : ∃ b cap k i jj m y a, u = .slice (some ⟨b, 0, none⟩) S.length cap ∧ b < w.heap.size ∧ S.length ≤ cap ∧ IsSc w y a ∧ S[j].fits k i jj m a ∧
    w.rangeAt b (j * 17) (stepCs k i jj m y).toList := by
  obtain ⟨L, h1, h2⟩ := h
  obtain ⟨hj', k, i, jj, m, y, a, hc, hy, hp⟩ := h2.get hj
  rcases h1.forms with ⟨_, rfl⟩ | ⟨b, cap, rfl, hb, hB, hcap, _, hcs⟩
  · simp at hj'
  · refine ⟨b, cap, k, i, jj, m, y, a, by rw [h2.1], hb, by rw [← h2.1]; exact hcap, hy, hp, fun q v hq => ?_⟩
    rw [hcs j hj' q (by have := (List.getElem?_eq_some_iff.1 hq).1; simpa [stepCs] using this), hc]
    exact hq
def Scripted (w : World) (A : List An) (e : Ending) (w' : World) : Prop := (∃ o, e = .returned o ∧ Anss none w' w.heap.size o A) ∧ Below w.heap.size w w'
theorem im_start {w1 : World} {B : Nat} {v : Value} {l : List Sc} (hv : Pvals w1 B v l) (hB : B ≤ w1.heap.size) : Im ((w1.alloc (.cells #[v, .bool false, .int .u32 0] 128)).alloc (.cells #[.slice none 0 0] 82)) B w1.heap.size (w1.heap.size + 1) v (.slice none 0 0) 0 [] ⟨l, false, []⟩ := by
  have hb : Below w1.heap.size w1 ((w1.alloc (.cells #[v, .bool false, .int .u32 0] 128)).alloc (.cells #[.slice none 0 0] 82)) := (Ref.below_one' _ (Nat.le_refl _)).alloc (by simp) _
  refine ⟨⟨(Box.Holds.made w1 _ _).alloc _, hv.later hb, hB⟩, ⟨?_, World.ownsRow_nil _ _ _ _, fun i b k h => by simp at h, fun i j b k k' h => by simp at h, by omega⟩, rfl, fun _ => rfl, Nat.le_refl _⟩
  have := Box.Holds.made (w1.alloc (.cells #[v, .bool false, .int .u32 0] 128)) 82 #[.slice none 0 0]
  rwa [World.size_alloc] at this
/-- behind a step and the append of its answer -/
theorem script_step {w wr w2 : World} {B g p n : Nat} {v vi o : Value} {its : List (Option (Nat × Nat))} {st : St} {A : List An} {c : Array Value} (hA : Anss none wr B o A) (hb : Below B w wr) (hB : B ≤ w.heap.size)
    (him : Im w2 B g p v vi n its st) (hfr : Fr B SM (wr.alloc (.cells c 62)) w2) : Anss none w2 B o A ∧ Below B w w2 := by
  have hf : Fr B SM wr w2 := ((Fr.refl B SM wr).alloc (Nat.le_trans hB hb.size) (.cells c 62)).trans hfr fun _ _ _ h => h
  refine ⟨hA.kept hf.kept (hf.kept.mono fun g t _ h => ?_) (fun b _ => ⟨by decide, by decide, by decide, by decide, by decide⟩) (fun g h => by cases h), hb.trans hf.below⟩
  rcases h with h | h
  · exact ⟨num_ne h _ rfl, num_ne h _ rfl, num_ne h _ rfl, num_ne h _ rfl, num_ne h _ rfl⟩
  · rw [h.1]; exact ⟨by decide, by decide, by decide, by decide, by decide⟩
theorem anss_grown {w2 w4 : World} {B g p n : Nat} {v vi o : Value} {its : List (Option (Nat × Nat))} {st : St} {A : List An} {x : Option Nat} (hA : Anss x w2 B o A) (him : Im w2 B g p v vi n its st) (hg : w2.grownBy w4 o.ownBlock) (hB : B ≤ w2.heap.size) : Im w4 B g p v vi n its st ∧ Below B w2 w4 := by
  obtain ⟨L, h1, h2⟩ := hA
  have hk : KeptT (fun _ t => t ≠ 64) w2 w4 := KeptT.grown h1.1 (fun _ _ h => h rfl) hg
  exact ⟨him.kept hk (fun _ _ h => num_ne h _ rfl) (fun _ => by decide) (fun _ => by decide) (fun _ => by decide) (fun _ => by decide) (fun _ => by decide), (Below.refl _ _).grown hg hB fun k hk => (h1.lt k hk).1⟩
set_option maxHeartbeats 2000000 in
set_option maxRecDepth 100000 in
theorem script_any (v0 u : Value) (l0 : List Sc) (S : List Sp) (A : List An) (T : Nat → St) (B0 B1 : Nat) (w : World) (hv : Vals w B0 v0 l0) (hu : Steps w B1 u S) (hR : Run T S A) (h0 : T 0 = ⟨l0, false, []⟩) (hl : l0.length ≤ 100) (hS : S.length ≤ 100) (hok : ∀ s ∈ l0, s.ok) :
    Calls Tryz.prog 15 #[v0, u] w (Scripted w A) := by
  have hin : ∀ j, j ≤ S.length → (T j).In 400 := fun j hj => by
    have h := hR.in_ (n := 100) (by rw [h0]; exact ⟨hok, hl, Nat.zero_le _, fun i p h => by simp at h⟩) j hj
    exact ⟨h.ok, by have := h.len; omega, by have := h.its; omega, fun i p hp => by have := h.pl i p hp; omega⟩
  have h1 := Lib.hid (scalars_any v0 l0 B0 w hv (by omega) hok)
  have hnl := Lib.hid fun a n c W => newlist_any a n c W
  obtain ⟨A0, c0, rfl⟩ := hv.shape
  obtain ⟨Au, cu, rfl⟩ := hu.shape
  have hu' := Lib.hid hu
  have hin' := Lib.hid hin
  have hR' := Lib.hid hR
  have hAS := hR.len
  clear hv hu hin hR hok
  go_enter Tryz.func15, Tryz.ntmps15
  go_wp2_with fail
  refine h1.out.mono ?_
  rintro e w1 ⟨⟨u1, rfl, hp1⟩, hb1⟩
  obtain ⟨A1, c1, rfl⟩ := hp1.shape
  have hws := hb1.size
  have him := Lib.hid (im_start hp1 hws)
  rw [← h0] at him
  have hbm := Lib.hid (show Below w.heap.size w ((w1.alloc (.cells #[.slice A1 l0.length c1, .bool false, .int .u32 0] 128)).alloc (.cells #[.slice none 0 0] 82)) from (hb1.alloc (by omega) _).alloc (by simp; omega) _)
  clear hp1 hb1
  go_wp2_with fail
  refine (hnl.out _ _ _ _).mono ?_
  rintro e w2 ⟨rfl, rfl⟩
  go_wp2_with fail
  go_loopw [9, 24] (fun o i wr => ∃ (j n : Nat) (v vi : Value) (its : List (Option (Nat × Nat))), i = .int .i64 j ∧ j ≤ S.length ∧ Hid (Im wr w.heap.size w1.heap.size (w1.heap.size + 1) v vi n its (T j)) ∧ Hid (Anss none wr w.heap.size o (A.take j)) ∧ Hid (Below w.heap.size w wr)) (fun _ i _ => S.length - (intOf i).toNat)
  case atStart => exact ⟨0, 0, _, _, _, rfl, Nat.zero_le _, him, Lib.hid (Anss.nil _ _ _), hbm⟩
  case round =>
    clear him hbm
    obtain ⟨j, n, v, vi, its, rfl, hj, him, hA, hb⟩ := hrel
    obtain ⟨Ao, co, hoe⟩ := hA.out.shape
    rw [show (A.take j).length = j by simp; omega] at hoe
    subst hoe
    by_cases hlt : j < S.length
    · obtain ⟨b, cap, k, i, jj, m, y, a, he, hbl, hcap, hy, hp, hcs⟩ := steps_at hu'.out hlt
      simp only [Value.slice.injEq, true_and] at he
      obtain ⟨rfl, rfl⟩ := he
      have hcs' := Lib.hid (show wr.rangeAt b (j * 17) (stepCs k i jj m y).toList from fun q v hq => (hb.out.cell (p := ⟨b, j * 17 + q, none⟩) hbl).trans (hcs q v hq))
      obtain ⟨yn, ya, yl, yc, yb, yt, rfl⟩ := hy.form
      obtain ⟨an, han⟩ : ∃ an, A[j]? = some an := ⟨_, List.getElem?_eq_getElem (by omega)⟩
      have hstep := hR'.out.at_ j _ _ (List.getElem?_eq_getElem hlt) han
      have hal : Below wr.heap.size wr (wr.alloc (.cells (stepCs k i jj m ⟨.int .i64 a.kind, .bool yn, .slice ya yl yc, .int .u64 yb, .string yt, .slice none 0 0⟩) 62)) := Ref.below_one' _ (Nat.le_refl _)
      have hcall := Lib.hid (on_any (him.out.later hal) (hy.kept ((Kept.of_below hb.out).trans (Kept.of_below hal))) hp hstep (hin'.out j (by omega)))
      have htk := Lib.hid (show A.take j ++ [an] = A.take (j + 1) by rw [List.take_add_one, han]; rfl)
      have hln : (A.take j).length ≤ 1000000 := by simp; omega
      have hbl1 := Nat.lt_of_lt_of_le hbl hb.out.size
      clear hcs hy hp hstep hal him
      unfold stepCs at hcall hcs'
      go_wp2_with (first | refine wpList_load_mid rfl 62 _ rfl b (j * 17) rfl [.int .i64 k, .int .i64 i, .int .i64 jj, .int .i64 m, .int .i64 a.kind, .bool yn, .slice ya yl yc, .int .u64 yb, .string yt, .slice none 0 0, .int .i64 0, .bool false, .slice none 0 0, .int .u64 0, .string ⟨#[]⟩, .slice none 0 0, .slice none 0 0] _ hcs'.out Tryz.underlying62 rfl (by kernel_rfl) ?_ | refine wpList_load_row rfl 62 _ rfl wr.heap.size rfl 62 _ (0, 0) _ (heap_alloc_new wr _) Tryz.underlying62 rfl (by kernel_rfl) ?_)
      refine hcall.out.mono ?_
      rintro e w2 ⟨y2, v2, vi2, n2, its2, rfl, hy2, him2, hfr2⟩
      obtain ⟨hA2, hb2⟩ := script_step hA.out hb.out (Nat.le_refl _) him2 hfr2
      have hBw2 : w.heap.size ≤ w2.heap.size := hb2.size
      obtain ⟨xk, xn, xa, xl, xc, xb, xt, xka, xkn, xkc, rfl⟩ := hy2.form
      have hA2' := Lib.hid hA2
      have hb2' := Lib.hid hb2
      have hy2' := Lib.hid hy2
      have him2' := Lib.hid him2
      clear hA hb hcs' hcall hA2 hb2 hy2 him2 hfr2
      unfold ansCs
      go_wp2_with (at_builtin; refine wpList_ans (B := w.heap.size) (ex := none) (y := ⟨.int .i64 xk, .bool xn, .slice xa xl xc, .int .u64 xb, .string xt, .slice xka xkn xkc⟩) (p := an) rfl _ _ rfl _ (A.take j) rfl hA2'.out hBw2 hy2'.out rfl hln ?_; intro v4 w4 hv4 hg4 ho4; have hA4 := Lib.hid (htk.out ▸ hv4); obtain ⟨him4, hb4⟩ := anss_grown hA2'.out him2'.out hg4 hBw2; have him5 := Lib.hid him4; have hb5 := Lib.hid (hb2'.out.trans hb4); clear hv4 hg4 ho4 him4 hb4)
      go_roundw
      case rel => exact ⟨j + 1, _, _, _, _, by go_num, by omega, him5, hA4, hb5⟩
      case measure => simp [intOf]; omega
    · obtain rfl : j = S.length := by omega
      have hA' := Lib.hid (show Anss none wr w.heap.size (.slice Ao S.length co) A from by have := hA.out; rwa [List.take_of_length_le (by omega)] at this)
      clear hA him
      go_wp2
      go_ret
      exact ⟨⟨_, rfl, hA'.out⟩, hb.out⟩
end Go.Proofs.YtafbheamnjmfoaaGreat.Ls
