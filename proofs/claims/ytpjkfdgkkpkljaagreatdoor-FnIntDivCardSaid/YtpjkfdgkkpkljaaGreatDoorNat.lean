/-
  The package's naturals: rows of 64-bit words that a call owns; norm strikes the leading zeros.
-/
import Derived.Test.YtpjkfdgkkpkljaaGreatDoorWordLaw
import Derived.Test.YtpjkfdgkkpkljaaGreatDoorBlk
import Derived.LoopTactic
import Derived.Outline
import Derived.WalkSpells
import Derived.WalkLawsBesides
import Derived.Lib.Hide
import Derived.OpenShut
import Derived.Deep.QuietTactic
import Derived.BigQuiet
import Derived.Deep.LoopGhost
import Derived.Deep.Onto
import Derived.Deep.AppendLies
namespace Go.Proofs.YtpjkfdgkkpkljaaGreatDoor.Nat_
open Go.RowKit Go.WideShapes Go.Proofs.YtpjkfdgkkpkljaaGreatDoor.Own Go.Proofs.YtpjkfdgkkpkljaaGreatDoor.Num
set_option linter.unusedVariables false

def ws (l : List Nat) : List Value := l.map fun (d : Nat) => Value.int .u64 (d : Int)
theorem ws_length (l : List Nat) : (ws l).length = l.length := by simp [ws]
/-- the value owns just these words -/
def OwnW (w : World) (B : Nat) (v : Value) (l : List Nat) : Prop := w.ownsRow B 111 1 v l.length (ws l)
theorem OwnW.later {w w' : World} {B : Nat} {v : Value} {l : List Nat} (h : OwnW w B v l) (hb : Below w.heap.size w w') : OwnW w' B v l := own_below h hb
theorem OwnW.shape {w : World} {B : Nat} {v : Value} {l : List Nat} (h : OwnW w B v l) : (v = .slice none 0 0 ∧ l = []) ∨ ∃ g cap, v = .slice (some ⟨g, 0, none⟩) l.length cap ∧ g < w.heap.size ∧ B ≤ g ∧ l.length ≤ cap ∧ (∀ j (hj : j < l.length), w.cell? ⟨g, j, none⟩ = some (.int .u64 (l[j] : Int))) := by
  rcases (show w.ownsRow B 111 1 v l.length (ws l) from h).2 with ⟨rfl, h0⟩ | ⟨g, cap, cur, rfl, hB, hg, hc, _⟩
  · exact .inl ⟨rfl, List.eq_nil_of_length_eq_zero h0⟩
  · refine .inr ⟨g, cap, rfl, (Array.getElem?_eq_some_iff.1 hg).1, hB, hc, fun j hj => ?_⟩
    have := World.ownsRow.cells h (g := g) rfl j (.int .u64 (l[j] : Int)) (by simp [ws, List.getElem?_eq_getElem hj])
    rw [show ((⟨g, 0, none⟩ : Addr).add j) = ⟨g, j, none⟩ by unfold Addr.add; split <;> simp_all] at this
    exact this
/-- the first k words of a row are a row -/
theorem OwnW.prefix_ {w : World} {B g cap : Nat} {l : List Nat} (h : OwnW w B (.slice (some ⟨g, 0, none⟩) l.length cap) l) (k : Nat) (hk : k ≤ l.length) : OwnW w B (.slice (some ⟨g, 0, none⟩) k cap) (l.take k) := by
  have hl : (l.take k).length = k := by simp; omega
  unfold OwnW
  rw [hl]
  refine ⟨by rw [ws_length, hl]; omega, .inr ?_⟩
  rcases (show w.ownsRow B 111 1 (.slice (some ⟨g, 0, none⟩) l.length cap) l.length (ws l) from h).2 with ⟨h0, _⟩ | ⟨g', cap', cur, e, hB, hg, hc, hm, hs, ht⟩
  · cases h0
  · simp only [Value.slice.injEq, Option.some.injEq, Addr.mk.injEq, and_true, true_and] at e
    obtain ⟨rfl, rfl⟩ := e
    refine ⟨g, cap, cur, rfl, hB, hg, by omega, hm, hs, ?_⟩
    have : cur.toList.take (k * 1) = (cur.toList.take (l.length * 1)).take k := by rw [List.take_take]; congr 1; omega
    rw [this, ht]
    simp [ws, List.map_take]

/-- the slice of the words of a number -/
def IsNat (w : World) (B : Nat) (v : Value) (V : Nat) : Prop := OwnW w B v (words V)

set_option maxRecDepth 100000 in
theorem norm_any (v : Value) (V m B : Nat) (w : World) (h : OwnW w B v (dig W V m)) (hV : V < W ^ m) (hm : m ≤ 100000) :
    Calls Tryz.prog 79 #[v] w fun e w' => (∃ u, e = .returned u ∧ IsNat w B u V) ∧ w = w' := by
  rcases h.shape with ⟨rfl, h0⟩ | ⟨g, cap, rfl, hg, hB, hc, hcell⟩
  · have hm0 : m = 0 := by have := congrArg List.length h0; rw [dig_length] at this; simpa using this
    have hV0 : V = 0 := by rw [hm0, Nat.pow_zero] at hV; omega
    have hw : words V = [] := by rw [hV0]; rfl
    have hfin := Lib.hid (show IsNat w B (.slice none 0 0) V by unfold IsNat; rw [hw]; exact World.ownsRow_nil _ _ _ _)
    clear h h0 hV hm0 hV0 hw
    go_enter Tryz.func79, Tryz.ntmps79
    go_wp2
    go_loop [3] (fun i => i = .int .i64 0) (fun _ => 0)
    case atStart => rfl
    case round =>
      subst hrel
      go_wp2
      go_ret
      exact ⟨⟨_, rfl, hfin.out⟩, rfl⟩
  · rw [dig_length] at h hc ⊢
    have h' := Lib.hid h
    have hcell' : Hid (∀ j, j < m → w.cell? ⟨g, j, none⟩ = some (.int .u64 ((V / W ^ j % W : Nat) : Int))) := Lib.hid fun j hj => by
      have := hcell j (by rw [dig_length]; exact hj)
      rw [this]
      congr 2
      have e := dig_get W V m j hj
      rw [List.getElem?_eq_getElem (by rw [dig_length]; exact hj)] at e
      rw [Option.some.inj e]
    have hV' := Lib.hid hV
    clear h hV hcell
    go_enter Tryz.func79, Tryz.ntmps79
    go_wp2
    go_loop [3] (fun i => ∃ k : Nat, i = .int .i64 k ∧ k ≤ m ∧ Hid (V < W ^ k)) (fun i => (intOf i).toNat)
    case atStart => exact ⟨m, rfl, Nat.le_refl _, hV'⟩
    case round =>
      obtain ⟨k, rfl, hk, hVk⟩ := hrel
      have hpre : V < W ^ k → (0 < k → W ^ (k - 1) ≤ V) → IsNat w B (.slice (some ⟨g, 0, none⟩) k cap) V := fun h1 h2 => by
        have hlen := len_eq W_two h1 h2
        unfold IsNat words
        rw [hlen]
        have := OwnW.prefix_ (w := w) (B := B) (g := g) (cap := cap) (l := dig W V m) (by rw [dig_length]; exact h'.out) k (by rw [dig_length]; exact hk)
        rw [dig_take _ _ _ _ hk] at this
        exact this
      have hpre' := Lib.hid hpre
      clear hpre
      cases k with
      | zero =>
        have hfin := Lib.hid (hpre'.out hVk.out (fun h => by omega))
        go_wp2
        go_ret
        exact ⟨⟨_, rfl, hfin.out⟩, rfl⟩
      | succ j =>
        have hcj := hcell'.out j (by omega)
        obtain ⟨D, hD⟩ : ∃ D, V / W ^ j % W = D := ⟨_, rfl⟩
        rw [hD] at hcj
        have hD' := Lib.hid hD
        clear hD
        by_cases h0 : D = 0
        · have hb : ((D : Int) == 0) = true := by simp; omega
          have hn := Lib.hid (top_zero W_pos hVk.out (hD'.out.trans h0))
          clear h0
          go_wp2
          go_round
          case rel => exact ⟨j, by go_num, by omega, hn⟩
          case measure => simp [intOf]
        · have hb : ((D : Int) == 0) = false := by simp; omega
          have hfin := Lib.hid (hpre'.out hVk.out (fun _ => by rw [Nat.add_sub_cancel]; exact top_some W_pos (by rw [hD'.out]; exact h0)))
          clear h0
          go_wp2
          go_ret
          exact ⟨⟨_, rfl, hfin.out⟩, rfl⟩
end Go.Proofs.YtpjkfdgkkpkljaaGreatDoor.Nat_
