/-
  (starlark.Int).Hash: the low word's.
-/
import Derived.Test.YtpjkfdgkkpkljaaGreatDoorFloatFin
namespace Go.Proofs.YtpjkfdgkkpkljaaGreatDoor.Big
open Go.RowKit Go.WideShapes Go.Proofs.YtpjkfdgkkpkljaaGreatDoor.Own Go.Proofs.YtpjkfdgkkpkljaaGreatDoor.Num Go.Proofs.YtpjkfdgkkpkljaaGreatDoor.Ref Go.Proofs.YtpjkfdgkkpkljaaGreatDoor.Nat_
set_option linter.unusedVariables false

/-- the low word -/
def lowW (z : Int) : Int := if isS z = true then IntKind.u64.wrap z else (((words z.natAbs)[0]?.getD 0 : Nat) : Int)
def hashOf (z : Int) : Int := 12582917 * (IntKind.u64.wrap (lowW z + 3) % 4294967296) % 4294967296

set_option maxRecDepth 100000 in
theorem bits_any (g : Nat) (neg : Bool) (v : Value) (w : World) (h : Box.Holds w g 85 #[.bool neg, v]) :
    Calls Tryz.prog 76 #[.pointer (some ⟨g, 0, none⟩)] w fun e w' => e = .returned v ∧ w' = w := by
  have hl := h.lt
  have k1 := h.cell 1
  simp at k1
  clear h
  go_enter Tryz.func76, Tryz.ntmps76
  go_wp2
  go_ret
  exact ⟨rfl, rfl⟩

set_option maxHeartbeats 1000000 in
set_option maxRecDepth 100000 in
theorem ihash_any (v : Value) (z : Int) (w : World) (h : SAt w v z) :
    Calls Tryz.prog 56 #[v] w fun e w' => e = .returned (.tuple #[.int .u32 (hashOf z), .nilIface]) ∧ Below w.heap.size w w' := by
  rcases h with ⟨rfl, hs⟩ | ⟨g, neg, V, rfl, hbig, hz, hs, hlen⟩
  · have hget := Lib.hid fun w => get_any z none w
    have hfin : hashOf z = 12582917 * (IntKind.u64.wrap (IntKind.u64.wrap z + 3) % 4294967296) % 4294967296 := by simp [hashOf, lowW, hs]
    rw [hfin]
    clear hfin
    have k0 : (w.alloc (.cells #[.int .i64 z, .pointer none] 61)).cell? ⟨w.heap.size, 0, none⟩ = some (.int .i64 z) := by rw [World.cell?_alloc_at _ _ _ _ rfl]; rfl
    have k1 : (w.alloc (.cells #[.int .i64 z, .pointer none] 61)).cell? ⟨w.heap.size, 1, none⟩ = some (.pointer none) := by rw [World.cell?_alloc_at _ _ _ _ rfl]; rfl
    go_enter Tryz.func56, Tryz.ntmps56
    go_wp2_with fail
    refine (hget.out _).mono ?_
    rintro e w1 ⟨rfl, hb1⟩
    go_wp2
    exact bodyPost_ret (v := .tuple #[.int .u32 (12582917 * (IntKind.u64.wrap (IntKind.u64.wrap z + 3) % 4294967296) % 4294967296), .nilIface]) (by simp [results, Tryz.results56, go_sem]) rfl ⟨rfl, (below_one _ (Nat.le_refl _)).trans (hb1.mono (by simp))⟩
  · obtain ⟨v, B, h1, h2, h3⟩ := hbig
    have hget := Lib.hid fun w => get_any 0 (some ⟨g, 0, none⟩) w
    have hV : 0 < V := by
      rcases Nat.eq_zero_or_pos V with h0 | h0
      · subst h0
        cases neg <;> simp [sg] at hz <;> subst hz <;> simp [isS] at hs
      · exact h0
    have hzV : z.natAbs = V := by subst hz; cases neg <;> simp [sg]
    have hfin : hashOf z = 12582917 * (IntKind.u64.wrap ((((words V)[0]?.getD 0 : Nat) : Int) + 3) % 4294967296) % 4294967296 := by simp [hashOf, lowW, hs, hzV]
    rw [hfin]
    clear hfin
    have k0 : (w.alloc (.cells #[.int .i64 0, .pointer (some ⟨g, 0, none⟩)] 61)).cell? ⟨w.heap.size, 0, none⟩ = some (.int .i64 0) := by rw [World.cell?_alloc_at _ _ _ _ rfl]; rfl
    have k1 : (w.alloc (.cells #[.int .i64 0, .pointer (some ⟨g, 0, none⟩)] 61)).cell? ⟨w.heap.size, 1, none⟩ = some (.pointer (some ⟨g, 0, none⟩)) := by rw [World.cell?_alloc_at _ _ _ _ rfl]; rfl
    have hwl : 0 < (words V).length := by
      rw [words_length]
      exact (len_pos W_two).2 hV
    obtain ⟨L, hL⟩ : ∃ L, (words V)[0]?.getD 0 = L := ⟨_, rfl⟩
    rw [hL]
    have hb0 := Lib.hid (below_one (B := w.heap.size) (.cells #[.int .i64 0, .pointer (some ⟨g, 0, none⟩)] 61) (Nat.le_refl _))
    go_enter Tryz.func56, Tryz.ntmps56
    go_wp2_with fail
    refine (hget.out _).mono ?_
    rintro e w1 ⟨rfl, hb1⟩
    have hb := hb0.out.trans (hb1.mono (by simp))
    have h1' := h1.later hb
    have h2' := h2.later hb
    go_wp2_with fail
    refine (bits_any g neg v _ h1').mono ?_
    rintro e w2 ⟨rfl, rfl⟩
    rcases h2'.shape with ⟨_, h0⟩ | ⟨gw, cap, rfl, hgl, _, hcap, hcell⟩
    · rw [h0] at hwl; simp at hwl
    · have hc0 := hcell 0 hwl
      have hfr : (words V)[0] = L := by simpa [hwl] using hL
      rw [hfr] at hc0
      obtain ⟨n, hn⟩ : ∃ n, (words V).length = n := ⟨_, rfl⟩
      rw [hn] at hwl ⊢
      have hlt : (0 : Int) < (n : Int) := by omega
      clear hcell hL hfr
      go_wp2
      exact bodyPost_ret (v := .tuple #[.int .u32 (12582917 * (IntKind.u64.wrap ((L : Int) + 3) % 4294967296) % 4294967296), .nilIface]) (by simp [results, Tryz.results56, go_sem]) rfl ⟨rfl, hb⟩
end Go.Proofs.YtpjkfdgkkpkljaaGreatDoor.Big
