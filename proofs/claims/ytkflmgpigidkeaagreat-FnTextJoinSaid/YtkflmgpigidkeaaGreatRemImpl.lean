/-
  A text without what it begins with, or ends with: the program's side.
-/
import Derived.Test.YtkflmgpigidkeaaGreatRemSpec
import Derived.Test.YtkflmgpigidkeaaGreatArgs
import Derived.Laws.EntriesVeiled
import Derived.Deep.QuietTactic
import Derived.BigQuiet
namespace Go.Proofs.YtkflmgpigidkeaaGreat.Rem
open Go.RowKit Go.WideShapes Go.Proofs.YtkflmgpigidkeaaGreat.Args
set_option linter.unusedVariables false

theorem tp_any (s x : ByteArray) (w : World) (hs : s.size ≤ 60) (hx : x.size ≤ 60) : Calls Tryz.prog 132 #[.string s, .string x] w fun e w' => e = .returned (.string (remP s x)) ∧ w = w' := by
  by_cases h1 : x.size ≤ s.size
  · cases h2 : ((s.extract 0 x.size).toList == x.toList)
    · have hr : remP s x = s := by unfold remP; rw [if_neg (fun h => by rw [h2] at h; exact absurd h.2 (by decide))]
      rw [hr]
      clear hr
      go_enter Tryz.func132, Tryz.ntmps132
      go_wp2_with go_in
      go_ret
      exact ⟨rfl, rfl⟩
    · have hr : remP s x = s.extract x.size s.size := by unfold remP; rw [if_pos ⟨h1, h2⟩]
      rw [hr]
      clear hr
      go_enter Tryz.func132, Tryz.ntmps132
      go_wp2_with go_in
      go_ret
      exact ⟨rfl, rfl⟩
  · have hr : remP s x = s := by unfold remP; rw [if_neg (fun h => h1 h.1)]
    rw [hr]
    clear hr
    go_enter Tryz.func132, Tryz.ntmps132
    go_wp2_with go_in
    go_ret
    exact ⟨rfl, rfl⟩
theorem ts_any (s x : ByteArray) (w : World) (hs : s.size ≤ 60) (hx : x.size ≤ 60) : Calls Tryz.prog 133 #[.string s, .string x] w fun e w' => e = .returned (.string (remS s x)) ∧ w = w' := by
  by_cases h1 : x.size ≤ s.size
  · cases h2 : ((s.extract (s.size - x.size) s.size).toList == x.toList)
    · have hr : remS s x = s := by unfold remS; rw [if_neg (fun h => by rw [h2] at h; exact absurd h.2 (by decide))]
      rw [hr]
      clear hr
      go_enter Tryz.func133, Tryz.ntmps133
      go_wp2_with go_in
      go_ret
      exact ⟨rfl, rfl⟩
    · have hr : remS s x = s.extract 0 (s.size - x.size) := by unfold remS; rw [if_pos ⟨h1, h2⟩]
      rw [hr]
      clear hr
      go_enter Tryz.func133, Tryz.ntmps133
      go_wp2_with go_in
      go_ret
      exact ⟨rfl, rfl⟩
  · have hr : remS s x = s := by unfold remS; rw [if_neg (fun h => h1 h.1)]
    rw [hr]
    clear hr
    go_enter Tryz.func133, Tryz.ntmps133
    go_wp2_with go_in
    go_ret
    exact ⟨rfl, rfl⟩

theorem is_sstr (v : Value) (w : World) : (Instr.typeAssert (.iface 71 v) 66 71 true).run Tryz.prog w = .ok (.tuple #[v, .bool true]) w := by kernel_rfl
theorem is_sstr' (v : Value) (w : World) : (Instr.typeAssert (.iface 71 v) 66 71 false).run Tryz.prog w = .ok v w := by kernel_rfl
theorem no_pvalue (a : Addr) (w : World) : (Instr.typeAssert (.iface 191 (.pointer (some a))) 20 201 true).run Tryz.prog w = .ok (.tuple #[.pointer none, .bool false]) w := by kernel_rfl
theorem is_pstr (v : Value) (w : World) : (Instr.typeAssert (.iface 191 v) 20 191 true).run Tryz.prog w = .ok (.tuple #[v, .bool true]) w := by kernel_rfl

set_option maxRecDepth 100000 in
theorem asstr_any (x : ByteArray) (w : World) : Calls Tryz.prog 140 #[.iface 71 (.string x)] w fun e w' => e = .returned (.tuple #[.string x, .bool true]) ∧ w = w' := by
  have h1 := is_sstr
  go_enter Tryz.func140, Tryz.ntmps140
  go_wp2
  go_ret2
  exact ⟨rfl, rfl⟩

set_option maxRecDepth 1000000 in
/-- a variable of the type string takes a String -/
theorem uarg_string (x : ByteArray) (u : Value) (g : Nat) (w : World) (hg : g < w.heap.size) (hc : w.cell? ⟨g, 0, none⟩ = some u) (hf : w.frozen? ⟨g, 0, none⟩ = false) :
    Calls Tryz.prog 159 #[.iface 71 (.string x), .iface 191 (.pointer (some ⟨g, 0, none⟩))] w fun e w' => e = .returned .nilIface ∧ w' = w.setCell ⟨g, 0, none⟩ (.string x) := by
  have h1 := no_pvalue
  have h2 := is_pstr
  have ha := Lib.hid fun W => asstr_any x W
  go_enter Tryz.func159, Tryz.ntmps159
  go_wp2_with fail
  refine (ha.out _).mono ?_
  rintro e w' ⟨rfl, rfl⟩
  go_wp2
  go_ret
  exact ⟨rfl, rfl⟩

/-- one String for a variable of the type string -/
theorem take_string (nm : ByteArray) (x : ByteArray) (ga c : Nat) (w : World) (hx : w.cell? ⟨ga, 0, none⟩ = some (.iface 71 (.string x))) (hga : ga < w.heap.size) :
    Calls Tryz.prog 130 #[.string nm, .slice (some ⟨ga, 0, none⟩) 1 c, .slice none 0 0, .int .i64 1, .slice (some ⟨w.heap.size + 1, 0, none⟩) 1 1]
      ((w.alloc (.cells #[.string ⟨#[]⟩] 9)).alloc (.cells #[.iface 191 (.pointer (some ⟨w.heap.size, 0, none⟩))] 20))
      fun e w' => e = .returned .nilIface ∧ w'.cell? ⟨w.heap.size, 0, none⟩ = some (.string x) ∧ w.heap.size < w'.heap.size ∧ Below w.heap.size w w' := by
  have hB : Below w.heap.size w ((w.alloc (.cells #[.string ⟨#[]⟩] 9)).alloc (.cells #[.iface 191 (.pointer (some ⟨w.heap.size, 0, none⟩))] 20)) := ((Below.refl _ _).alloc (Nat.le_refl _) _).alloc (by simp) _
  have k0 : ((w.alloc (.cells #[.string ⟨#[]⟩] 9)).alloc (.cells #[.iface 191 (.pointer (some ⟨w.heap.size, 0, none⟩))] 20)).cell? ⟨w.heap.size, 0, none⟩ = some (.string ⟨#[]⟩) := by
    rw [World.cell?_alloc_lt _ _ _ (by simp), World.cell?_alloc_at _ _ _ _ rfl]; rfl
  have k1 : ((w.alloc (.cells #[.string ⟨#[]⟩] 9)).alloc (.cells #[.iface 191 (.pointer (some ⟨w.heap.size, 0, none⟩))] 20)).cell? ⟨w.heap.size + 1, 0, none⟩ = some (.iface 191 (.pointer (some ⟨w.heap.size, 0, none⟩))) := by
    rw [World.cell?_alloc_at _ _ _ _ (by simp)]; rfl
  have f0 : ((w.alloc (.cells #[.string ⟨#[]⟩] 9)).alloc (.cells #[.iface 191 (.pointer (some ⟨w.heap.size, 0, none⟩))] 20)).frozen? ⟨w.heap.size, 0, none⟩ = false := by simp
  have hx' := (hB.cell (p := ⟨ga, 0, none⟩) hga).trans hx
  have hs : ((w.alloc (.cells #[.string ⟨#[]⟩] 9)).alloc (.cells #[.iface 191 (.pointer (some ⟨w.heap.size, 0, none⟩))] 20)).heap.size = w.heap.size + 2 := by simp
  have hu := uarg_string x (.string ⟨#[]⟩) w.heap.size _ (by rw [hs]; omega) k0 f0
  refine (upos_one nm _ _ ga (w.heap.size + 1) c 1 _ hx' (by rw [hs]; omega) k1 (by rw [hs]; omega) _ hu (by simp)).mono ?_
  rintro e w' ⟨rfl, rfl⟩
  refine ⟨rfl, ?_, by simp; omega, hB.setCell (Nat.le_refl _) _⟩
  exact World.cell?_setCell_same _ _ _ k0

set_option maxHeartbeats 1000000 in
set_option maxRecDepth 100000 in
theorem remf_pre (F : Value) (s x : ByteArray) (gb ga c : Nat) (w : World) (hs : s.size ≤ 60) (hx : x.size ≤ 60) (hb : Holds w gb 193 #[.string ⟨#[114, 101, 109, 111, 118, 101, 112, 114, 101, 102, 105, 120]⟩, F, .iface 71 (.string s)]) (ha : w.cell? ⟨ga, 0, none⟩ = some (.iface 71 (.string x))) (hga : ga < w.heap.size) :
    Calls Tryz.prog 73 #[.pointer none, .pointer (some ⟨gb, 0, none⟩), .slice (some ⟨ga, 0, none⟩) 1 c, .slice none 0 0] w fun e w' => e = .returned (.tuple #[.iface 71 (.string (remP s x)), .nilIface]) ∧ Below w.heap.size w w' := by
  have h1 := is_sstr'
  have ht := Lib.hid fun nm => take_string nm x ga c w ha hga
  have htp := Lib.hid fun W => tp_any s x W hs hx
  generalize remP s x = R at htp ⊢
  have q0 := hb.cell 0
  have q1 := hb.cell 1
  have q2 := hb.cell 2
  simp at q0 q1 q2
  have ql := hb.lt
  have hb' := Lib.hid hb
  clear ha hb
  go_enter Tryz.func73, Tryz.ntmps73
  go_wp2_with (first | (go_at_call 130; refine (ht.out _).mono ?_; rintro e w1 ⟨rfl, k0, hl, hbe⟩; have g := hb'.out.later hbe; have q0 := g.cell 0; simp at q0) | (go_at_call 132; refine (htp.out _).mono ?_; rintro e w2 ⟨rfl, rfl⟩) | go_in)
  go_ret2
  exact ⟨rfl, hbe⟩

set_option maxHeartbeats 1000000 in
set_option maxRecDepth 100000 in
theorem remf_suf (F : Value) (s x : ByteArray) (gb ga c : Nat) (w : World) (hs : s.size ≤ 60) (hx : x.size ≤ 60) (hb : Holds w gb 193 #[.string ⟨#[114, 101, 109, 111, 118, 101, 115, 117, 102, 102, 105, 120]⟩, F, .iface 71 (.string s)]) (ha : w.cell? ⟨ga, 0, none⟩ = some (.iface 71 (.string x))) (hga : ga < w.heap.size) :
    Calls Tryz.prog 73 #[.pointer none, .pointer (some ⟨gb, 0, none⟩), .slice (some ⟨ga, 0, none⟩) 1 c, .slice none 0 0] w fun e w' => e = .returned (.tuple #[.iface 71 (.string (remS s x)), .nilIface]) ∧ Below w.heap.size w w' := by
  have h1 := is_sstr'
  have ht := Lib.hid fun nm => take_string nm x ga c w ha hga
  have htp := Lib.hid fun W => ts_any s x W hs hx
  generalize remS s x = R at htp ⊢
  have q0 := hb.cell 0
  have q1 := hb.cell 1
  have q2 := hb.cell 2
  simp at q0 q1 q2
  have ql := hb.lt
  have hb' := Lib.hid hb
  clear ha hb
  go_enter Tryz.func73, Tryz.ntmps73
  go_wp2_with (first | (go_at_call 130; refine (ht.out _).mono ?_; rintro e w1 ⟨rfl, k0, hl, hbe⟩; have g := hb'.out.later hbe; have q0 := g.cell 0; simp at q0) | (go_at_call 133; refine (htp.out _).mono ?_; rintro e w2 ⟨rfl, rfl⟩) | go_in)
  go_ret2
  exact ⟨rfl, hbe⟩
end Go.Proofs.YtkflmgpigidkeaaGreat.Rem
