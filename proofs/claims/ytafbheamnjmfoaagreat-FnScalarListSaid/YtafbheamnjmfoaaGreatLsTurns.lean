/-
  The reference's step over a list, its walk: any kind that a list has.
-/
import Derived.Test.YtafbheamnjmfoaaGreatLsWalk3
import Derived.Test.YtafbheamnjmfoaaGreatLsTurnF
namespace Go.Proofs.YtafbheamnjmfoaaGreat.Ls
open Go.RowKit Go.WideShapes Go.Proofs.YtafbheamnjmfoaaGreat.Sc Go.Proofs.YtafbheamnjmfoaaGreat.VRow
set_option linter.unusedVariables false

/-- any step of the walk's kinds -/
theorem walk_any (B bg bs nn : Nat) (A0 : Option Addr) (c0 : Nat) (k i j m : Int) (hk : k = 4 ∨ k = 5 ∨ k = 6 ∨ k = 7 ∨ k = 8 ∨ k = 11) (va : Value) (st : St) (w : World) (h : Gd w B bg va st) (hs : Box.Holds w bs 62 (stepCs k i j m nil6)) (hBs : B ≤ bs) (hits : st.at_.length ≤ 900) (hnn : nn ≤ 400) (hl : nn = st.l.length) (B2 : Nat) (hv : Vals w B2 (.slice A0 nn c0) st.l) (hpl0 : ∀ (i p : Nat), st.at_[i]? = some (some p) → p ≤ 900) :
    Calls Tryz.prog 30 #[.pointer (some ⟨bg, 0, none⟩), .pointer (some ⟨bs, 0, none⟩), .slice A0 nn c0] w (fun e w' => ∃ p st' an, Step st p st' an ∧ st'.l = st.l ∧ (∃ s, an.v = .sc s) ∧ Walked w B bg bs j m st st' p an e w') := by
  have hne : ∀ b, (Value.slice A0 nn c0).ownBlock = some b → b ≠ bs := fun b hb e => by
    obtain ⟨L, hL, _⟩ := hv
    exact own_ne hL hs (by decide) (by rw [hb, e])
  rcases hk with rfl | rfl | rfl | rfl | rfl | rfl
  · refine (walk_len B bg bs nn A0 c0 i j m va st w h hs hBs hits hnn).mono fun e w' hw => ⟨_, _, _, ?_, rfl, ⟨_, rfl⟩, hw⟩
    rw [hl]
    exact Step.len
  · exact (walk_open B bg bs nn A0 c0 i j m va st w h hs hBs hits hnn).mono fun e w' hw => ⟨_, _, _, Step.open_, rfl, ⟨_, rfl⟩, hw⟩
  · exact (walk_next B bg bs nn A0 c0 i j m va st w h hs hBs hits hnn hl B2 hv hne hpl0).mono fun e w' hw => hw
  · exact (walk_done B bg bs nn A0 c0 i j m va st w h hs hBs hits hnn hl).mono fun e w' hw => hw
  · exact (walk_freeze B bg bs nn A0 c0 i j m va st w h hs hBs hits hnn).mono fun e w' hw => ⟨_, _, _, Step.freeze, rfl, ⟨_, rfl⟩, hw⟩
  · exact (walk_truth B bg bs nn A0 c0 i j m _ va st w h hs hBs hits hnn rfl).mono fun e w' hw => ⟨_, _, _, by rw [hl]; exact Step.truth, rfl, ⟨_, rfl⟩, hw⟩

/-- any step of the list's own kinds -/
theorem turn_step (B bl bs : Nat) (k i j m : Int) (hk : k = 0 ∨ k = 1 ∨ k = 2 ∨ k = 3 ∨ k = 27) (y z : V6) (a b : Sc) (k0 i0 j0 m0 : Int) (v : Value) (st : St) (w : World) (h : Rl w B bl v st.l) (hs : Box.Holds w bs 62 (stepCs k i j m nil6)) (hy : IsSc w y a) (hz : IsSc w z b) (ha : a.ok) (hBs : B ≤ bs) (hl : st.l.length ≤ 400) (hm1 : -9223372036854775808 ≤ m) (hm2 : m ≤ 9223372036854775807) :
    Calls Tryz.prog 31 #[.pointer (some ⟨bs, 0, none⟩), .agg (rawCs k0 i0 j0 m0 y z), .pointer (some ⟨bl, 0, none⟩), .bool st.fixed] w (fun e w' => ∃ p st' an, Step st p st' an ∧ st'.fz = st.fz ∧ st'.at_ = st.at_ ∧ Stepped w B bl bs v.ownBlock st.l st'.l p an e w') := by
  by_cases hS : 0 < st.l.length
  · rcases hk with rfl | rfl | rfl | rfl | rfl
    · cases hf : st.fixed with
      | true => exact (turn_append_no B bl bs i j m y z a b k0 i0 j0 m0 v st.l w h hs hy hz ha hBs hl).mono fun e w' hw => ⟨_, st, _, Step.append_no ha hf, rfl, rfl, hw⟩
      | false => exact (turn_append B bl bs i j m y z a b k0 i0 j0 m0 v st.l w h hs hy hz ha hBs hl).mono fun e w' hw => ⟨_, { st with l := st.l ++ [a] }, _, Step.append ha hf, rfl, rfl, hw⟩
    · cases hf : st.fixed with
      | true => exact (turn_set_no B bl bs i j m y z a b k0 i0 j0 m0 v st.l w h hs hy hz ha hBs hl hS).mono fun e w' ⟨q, hq, hw⟩ => ⟨_, st, _, Step.set_no ha hq hf, rfl, rfl, hw⟩
      | false => exact (turn_set B bl bs i j m y z a b k0 i0 j0 m0 v st.l w h hs hy hz ha hBs hl hS).mono fun e w' ⟨q, hq, hw⟩ => ⟨_, { st with l := st.l.set q a }, _, Step.set ha hq hf, rfl, rfl, hw⟩
    · exact (turn_index B bl bs i st.fixed j m y z a b k0 i0 j0 m0 v st.l w h hs hy hz ha hBs hl hS).mono fun e w' ⟨q, hq, hw⟩ => ⟨_, st, _, Step.index hq, rfl, rfl, hw⟩
    · cases hf : st.fixed with
      | true => exact (turn_clear_no B bl bs i j m y z a b k0 i0 j0 m0 v st.l w h hs hy hz ha hBs hl).mono fun e w' hw => ⟨_, st, _, Step.clear_no hf, rfl, rfl, hw⟩
      | false => exact (turn_clear B bl bs i j m y z a b k0 i0 j0 m0 v st.l w h hs hy hz ha hBs hl).mono fun e w' hw => ⟨_, { st with l := [] }, _, Step.clear hf, rfl, rfl, hw⟩
    · exact (turn_slice B bl bs i st.fixed j m y z a b k0 i0 j0 m0 v st.l w h hs hy hz ha hBs hl hm1 hm2).mono fun e w' ⟨p, an, h1, hw⟩ => ⟨p, st, an, h1 st.fz st.at_, rfl, rfl, hw⟩
  · have h0 : st.l.length = 0 := by omega
    have hlen : k = 1 ∨ k = 2 → Calls Tryz.prog 31 #[.pointer (some ⟨bs, 0, none⟩), .agg (rawCs k0 i0 j0 m0 y z), .pointer (some ⟨bl, 0, none⟩), .bool st.fixed] w (fun e w' => ∃ p st' an, Step st p st' an ∧ st'.fz = st.fz ∧ st'.at_ = st.at_ ∧ Stepped w B bl bs v.ownBlock st.l st'.l p an e w') := fun hk =>
      (turn_len B bl bs k i st.fixed j m y z a b k0 i0 j0 m0 v st.l w h hs hy hz ha hBs hl hk h0).mono fun e w' hw => ⟨_, st, _, by have := @Step.len st; rwa [h0] at this, rfl, rfl, hw⟩
    rcases hk with rfl | rfl | rfl | rfl | rfl
    · cases hf : st.fixed with
      | true => exact (turn_append_no B bl bs i j m y z a b k0 i0 j0 m0 v st.l w h hs hy hz ha hBs hl).mono fun e w' hw => ⟨_, st, _, Step.append_no ha hf, rfl, rfl, hw⟩
      | false => exact (turn_append B bl bs i j m y z a b k0 i0 j0 m0 v st.l w h hs hy hz ha hBs hl).mono fun e w' hw => ⟨_, { st with l := st.l ++ [a] }, _, Step.append ha hf, rfl, rfl, hw⟩
    · exact hlen (.inl rfl)
    · exact hlen (.inr rfl)
    · cases hf : st.fixed with
      | true => exact (turn_clear_no B bl bs i j m y z a b k0 i0 j0 m0 v st.l w h hs hy hz ha hBs hl).mono fun e w' hw => ⟨_, st, _, Step.clear_no hf, rfl, rfl, hw⟩
      | false => exact (turn_clear B bl bs i j m y z a b k0 i0 j0 m0 v st.l w h hs hy hz ha hBs hl).mono fun e w' hw => ⟨_, { st with l := [] }, _, Step.clear hf, rfl, rfl, hw⟩
    · exact (turn_slice B bl bs i st.fixed j m y z a b k0 i0 j0 m0 v st.l w h hs hy hz ha hBs hl hm1 hm2).mono fun e w' ⟨p, an, h1, hw⟩ => ⟨p, st, an, h1 st.fz st.at_, rfl, rfl, hw⟩
end Go.Proofs.YtafbheamnjmfoaaGreat.Ls
