/-
  A text without what it begins with, or ends with: the program's call.
-/
import Derived.Test.YtkflmgpigidkeaaGreatRemImpl
import Derived.RegionTactic
namespace Go.Proofs.YtkflmgpigidkeaaGreat.Rem
open Go.RowKit Go.WideShapes Go.Proofs.YtkflmgpigidkeaaGreat.Args
set_option linter.unusedVariables false

set_option maxRecDepth 100000 in
theorem newb_any (nm : ByteArray) (f : FuncId) (w : World) : Calls Tryz.prog 127 #[.string nm, .func (.func f) #[] #[]] w fun e w' => e = .returned (.pointer (some ⟨w.heap.size, 0, none⟩)) ∧ w' = w.alloc (.cells #[.string nm, .func (.func f) #[] #[], .nilIface] 193) := by
  go_enter Tryz.func127, Tryz.ntmps127
  go_wp2
  go_ret
  exact ⟨rfl, rfl⟩

/-- a new method, bound to a receiver -/
def Bound (nm : ByteArray) (f : FuncId) (s : ByteArray) (w : World) (e : Ending) (w' : World) : Prop := ∃ g, e = .returned (.pointer (some ⟨g, 0, none⟩)) ∧ Holds w' g 193 #[.string nm, .func (.func f) #[] #[], .iface 71 (.string s)] ∧ Below w.heap.size w w'
set_option maxHeartbeats 1000000 in
set_option maxRecDepth 100000 in
theorem bind_any (nm : ByteArray) (f : FuncId) (s : ByteArray) (g : Nat) (w : World) (h : Holds w g 193 #[.string nm, .func (.func f) #[] #[], .nilIface]) : Calls Tryz.prog 128 #[.pointer (some ⟨g, 0, none⟩), .iface 71 (.string s)] w (Bound nm f s w) := by
  have q0 := h.cell 0
  have q1 := h.cell 1
  have q2 := h.cell 2
  simp at q0 q1 q2
  have ql := h.lt
  clear h
  go_enter Tryz.func128, Tryz.ntmps128
  go_wp2
  go_region
  all_goals
    go_wp2
    go_ret
    exact ⟨_, rfl, Holds.made _ _ _, by first | exact below_one _ (Nat.le_refl _) | exact (Below.drew (Below.refl _ _)).alloc (Nat.le_refl _) _ | exact Below.drew (below_one _ (Nat.le_refl _))⟩

set_option maxHeartbeats 1000000 in
set_option maxRecDepth 100000 in
theorem zzcall_pre (s x : ByteArray) (ga c : Nat) (w : World) (hs : s.size ≤ 60) (hx : x.size ≤ 60) (ha : w.cell? ⟨ga, 0, none⟩ = some (.iface 71 (.string x))) (hga : ga < w.heap.size) :
    Calls Tryz.prog 72 #[.string ⟨#[114, 101, 109, 111, 118, 101, 112, 114, 101, 102, 105, 120]⟩, .func (.func 73) #[] #[], .string s, .slice (some ⟨ga, 0, none⟩) 1 c] w fun e w' => e = .returned (.tuple #[.iface 71 (.string (remP s x)), .nilIface]) ∧ Below w.heap.size w w' := by
  have h1 := Lib.hid fun W => newb_any ⟨#[114, 101, 109, 111, 118, 101, 112, 114, 101, 102, 105, 120]⟩ 73 W
  have h2 := Lib.hid fun g W h => bind_any ⟨#[114, 101, 109, 111, 118, 101, 112, 114, 101, 102, 105, 120]⟩ 73 s g W h
  have h3 := Lib.hid fun F gb W hb ha hga => remf_pre F s x gb ga c W hs hx hb ha hga
  generalize remP s x = R at h3 ⊢
  have ha' := Lib.hid ha
  clear ha
  go_enter Tryz.func72, Tryz.ntmps72
  go_wp2_with fail
  refine (h1.out _).mono ?_
  rintro e w1 ⟨rfl, rfl⟩
  go_wp2_with fail
  refine (h2.out _ _ (Holds.made _ _ _)).mono ?_
  rintro e w2 ⟨g, rfl, hg, hb2⟩
  have hb3 : Below w.heap.size w w2 := (below_one _ (Nat.le_refl _)).trans (hb2.mono (by simp))
  have h4 := Lib.hid (h3.out _ g w2 hg ((hb3.cell (p := ⟨ga, 0, none⟩) hga).trans ha'.out) (Nat.lt_of_lt_of_le hga hb3.size))
  clear hb2 hg
  go_wp2_with fail
  refine h4.out.mono ?_
  rintro e w5 ⟨rfl, hb5⟩
  have hfin := Lib.hid (hb3.trans (hb5.mono hb3.size))
  clear hb5 hb3 h4
  go_wp2
  go_ret2
  exact ⟨rfl, hfin.out⟩

set_option maxHeartbeats 1000000 in
set_option maxRecDepth 100000 in
theorem zzcall_suf (s x : ByteArray) (ga c : Nat) (w : World) (hs : s.size ≤ 60) (hx : x.size ≤ 60) (ha : w.cell? ⟨ga, 0, none⟩ = some (.iface 71 (.string x))) (hga : ga < w.heap.size) :
    Calls Tryz.prog 72 #[.string ⟨#[114, 101, 109, 111, 118, 101, 115, 117, 102, 102, 105, 120]⟩, .func (.func 73) #[] #[], .string s, .slice (some ⟨ga, 0, none⟩) 1 c] w fun e w' => e = .returned (.tuple #[.iface 71 (.string (remS s x)), .nilIface]) ∧ Below w.heap.size w w' := by
  have h1 := Lib.hid fun W => newb_any ⟨#[114, 101, 109, 111, 118, 101, 115, 117, 102, 102, 105, 120]⟩ 73 W
  have h2 := Lib.hid fun g W h => bind_any ⟨#[114, 101, 109, 111, 118, 101, 115, 117, 102, 102, 105, 120]⟩ 73 s g W h
  have h3 := Lib.hid fun F gb W hb ha hga => remf_suf F s x gb ga c W hs hx hb ha hga
  generalize remS s x = R at h3 ⊢
  have ha' := Lib.hid ha
  clear ha
  go_enter Tryz.func72, Tryz.ntmps72
  go_wp2_with fail
  refine (h1.out _).mono ?_
  rintro e w1 ⟨rfl, rfl⟩
  go_wp2_with fail
  refine (h2.out _ _ (Holds.made _ _ _)).mono ?_
  rintro e w2 ⟨g, rfl, hg, hb2⟩
  have hb3 : Below w.heap.size w w2 := (below_one _ (Nat.le_refl _)).trans (hb2.mono (by simp))
  have h4 := Lib.hid (h3.out _ g w2 hg ((hb3.cell (p := ⟨ga, 0, none⟩) hga).trans ha'.out) (Nat.lt_of_lt_of_le hga hb3.size))
  clear hb2 hg
  go_wp2_with fail
  refine h4.out.mono ?_
  rintro e w5 ⟨rfl, hb5⟩
  have hfin := Lib.hid (hb3.trans (hb5.mono hb3.size))
  clear hb5 hb3 h4
  go_wp2
  go_ret2
  exact ⟨rfl, hfin.out⟩

set_option maxRecDepth 100000 in
theorem oftext_any (R : ByteArray) (w : World) : Calls Tryz.prog 31 #[.iface 71 (.string R), .nilIface] w fun e w' => e = .returned (.tuple #[.string R, .bool true]) ∧ w = w' := by
  have h1 := is_sstr
  go_enter Tryz.func31, Tryz.ntmps31
  go_wp2
  go_ret2
  exact ⟨rfl, rfl⟩

/-- what a text is without the other -/
def rem (sfx : Bool) (s x : ByteArray) : ByteArray := if sfx then remS s x else remP s x
set_option maxHeartbeats 1000000 in
set_option maxRecDepth 100000 in
theorem irem_any (sfx : Bool) (s x : ByteArray) (w : World) (hs : s.size ≤ 60) (hx : x.size ≤ 60) :
    Calls Tryz.prog 11 #[.bool sfx, .string s, .string x] w fun e w' => e = .returned (.tuple #[.string (rem sfx s x), .bool true]) ∧ Below w.heap.size w w' := by
  have ho := Lib.hid oftext_any
  have hB : Below w.heap.size w (w.alloc (.cells #[.iface 71 (.string x)] 66)) := below_one _ (Nat.le_refl _)
  have k0 : (w.alloc (.cells #[.iface 71 (.string x)] 66)).cell? ⟨w.heap.size, 0, none⟩ = some (.iface 71 (.string x)) := by rw [World.cell?_alloc_at _ _ _ _ rfl]; rfl
  cases sfx
  · have hz := Lib.hid fun c => zzcall_pre s x w.heap.size c _ hs hx k0 (by simp)
    show Calls _ _ _ _ fun e w' => e = .returned (.tuple #[.string (remP s x), .bool true]) ∧ _
    generalize remP s x = R at hz ⊢
    clear k0
    go_enter Tryz.func11, Tryz.ntmps11
    go_wp2_with (first | (go_at_call 72; refine (hz.out _).mono ?_; rintro e w1 ⟨rfl, hb1⟩) | (go_at_call 31; refine (ho.out _ _).mono ?_; rintro e w2 ⟨rfl, rfl⟩) | go_in)
    go_ret2
    exact ⟨rfl, hB.trans (hb1.mono (by simp))⟩
  · have hz := Lib.hid fun c => zzcall_suf s x w.heap.size c _ hs hx k0 (by simp)
    show Calls _ _ _ _ fun e w' => e = .returned (.tuple #[.string (remS s x), .bool true]) ∧ _
    generalize remS s x = R at hz ⊢
    clear k0
    go_enter Tryz.func11, Tryz.ntmps11
    go_wp2_with (first | (go_at_call 72; refine (hz.out _).mono ?_; rintro e w1 ⟨rfl, hb1⟩) | (go_at_call 31; refine (ho.out _ _).mono ?_; rintro e w2 ⟨rfl, rfl⟩) | go_in)
    go_ret2
    exact ⟨rfl, hB.trans (hb1.mono (by simp))⟩
end Go.Proofs.YtkflmgpigidkeaaGreat.Rem
