/-
  The program's value of a value without parts, and back.
-/
import Derived.Test.YtkflmgpigidkeaaGreatScClean
import Derived.Laws.EntriesVeiled
namespace Go.Proofs.YtkflmgpigidkeaaGreat.Sc
open Go.RowKit Go.WideShapes Go.Proofs.YtkflmgpigidkeaaGreat.Own Go.Proofs.YtkflmgpigidkeaaGreat.Num Go.Proofs.YtkflmgpigidkeaaGreat.Ref Go.Proofs.YtkflmgpigidkeaaGreat.Nat_ Go.Proofs.YtkflmgpigidkeaaGreat.Big Go.Proofs.YtkflmgpigidkeaaGreat.VRow
set_option linter.unusedVariables false

theorem frombits (x : Int) (w : World) : (callFunc 24 #[.int .u64 x]).run Tryz.prog w = .ok (.value (.float .f64 x.toNat)) w := by kernel_rfl
theorem tobits (b : Nat) (w : World) : (callFunc 58 #[.float .f64 b]).run Tryz.prog w = .ok (.value (.int .u64 (b : Int))) w := by kernel_rfl
theorem floatof_any (b : Nat) (w : World) : Calls Tryz.prog 107 #[.int .u64 b] w fun e w' => e = .returned (.float .f64 b) ∧ w = w' := by
  have h := fun w => frombits (b : Int) w
  simp only [Int.toNat_natCast] at h
  go_enter Tryz.func107, Tryz.ntmps107
  go_wp2
  go_ret
  exact ⟨rfl, rfl⟩
theorem bitsof_any (b : Nat) (w : World) : Calls Tryz.prog 137 #[.float .f64 b] w fun e w' => e = .returned (.int .u64 b) ∧ w = w' := by
  have h := fun w => tobits b w
  go_enter Tryz.func137, Tryz.ntmps137
  go_wp2
  go_ret
  exact ⟨rfl, rfl⟩

def SomePv (w : World) (s : Sc) (e : Ending) (w' : World) : Prop := (∃ v, e = .returned (.tuple #[v, .bool true]) ∧ IsPv w' v s) ∧ Below w.heap.size w w'
section
variable {w : World}
set_option maxHeartbeats 2000000 in
set_option maxRecDepth 100000 in
theorem scalar_none : Calls Tryz.prog 53 #[.int .i64 0, .agg #[.int .i64 0, .bool false, .slice none 0 0, .int .u64 0, .string ⟨#[]⟩, .slice none 0 0]] w (SomePv w .none) := by
  go_enter Tryz.func53, Tryz.ntmps53
  go_wp2
  go_ret2
  exact ⟨⟨_, rfl, rfl⟩, below_one' _ (Nat.le_refl _)⟩
set_option maxHeartbeats 2000000 in
set_option maxRecDepth 100000 in
theorem scalar_bool (b : Bool) : Calls Tryz.prog 53 #[.int .i64 1, .agg #[.int .i64 1, .bool false, .slice none 0 0, .int .u64 (if b then 1 else 0), .string ⟨#[]⟩, .slice none 0 0]] w (SomePv w (.bool b)) := by
  cases b
  all_goals
    simp only [if_true, Bool.false_eq_true, if_false]
    go_enter Tryz.func53, Tryz.ntmps53
    go_wp2_with fail
    go_quiet (fail)
    go_wp2
    go_ret2
    exact ⟨⟨_, rfl, rfl⟩, Box.below_drawn (below_one' _ (Nat.le_refl _)) _⟩
set_option maxHeartbeats 2000000 in
set_option maxRecDepth 100000 in
theorem scalar_text (t : ByteArray) (k : Bool) : Calls Tryz.prog 53 #[.int .i64 (if k then 5 else 4), .agg #[.int .i64 (if k then 5 else 4), .bool false, .slice none 0 0, .int .u64 0, .string t, .slice none 0 0]] w (SomePv w (.text k t)) := by
  cases k
  all_goals
    simp only [if_true, Bool.false_eq_true, if_false]
    go_enter Tryz.func53, Tryz.ntmps53
    go_wp2
    go_ret2
    exact ⟨⟨_, rfl, rfl⟩, below_one' _ (Nat.le_refl _)⟩
set_option maxHeartbeats 2000000 in
set_option maxRecDepth 100000 in
theorem scalar_float (b : Nat) : Calls Tryz.prog 53 #[.int .i64 3, .agg #[.int .i64 3, .bool false, .slice none 0 0, .int .u64 b, .string ⟨#[]⟩, .slice none 0 0]] w (SomePv w (.float b)) := by
  have hf := Lib.hid fun W => floatof_any b W
  go_enter Tryz.func53, Tryz.ntmps53
  go_wp2_with fail
  refine (hf.out _).mono ?_
  rintro e w' ⟨rfl, rfl⟩
  go_wp2
  go_ret2
  exact ⟨⟨_, rfl, rfl⟩, below_one' _ (Nat.le_refl _)⟩
set_option maxHeartbeats 2000000 in
set_option maxRecDepth 100000 in
theorem scalar_int (G : Bool) (V : Nat) (hV : V < 256 ^ 40) (u : Value) (h : Mg w u (mag V)) : Calls Tryz.prog 53 #[.int .i64 2, .agg #[.int .i64 2, .bool G, u, .int .u64 0, .string ⟨#[]⟩, .slice none 0 0]] w (SomePv w (.int G V)) := by
  obtain ⟨a, c, rfl, hr, hl, hn, -⟩ := h
  have hml : (mag V).length ≤ 1000 := Nat.le_trans (mag_len_le hV) (by decide)
  have hwh := Lib.hid (whole_any 2 G a (mag V) c 0 ⟨#[]⟩ none 0 0 _ (hr.later (below_one' (.cells #[.int .i64 2, .bool G, .slice a (mag V).length c, .int .u64 0, .string ⟨#[]⟩, .slice none 0 0] 27) (Nat.le_refl _))) hml hl)
  rw [be_mag] at hwh
  obtain ⟨n, hn⟩ : ∃ n, (mag V).length = n := ⟨_, rfl⟩
  rw [hn] at hwh ⊢
  clear hr hl hml hn
  have hb0 := Lib.hid (below_one' (B := w.heap.size) (w := w) (.cells #[.int .i64 2, .bool G, .slice a n c, .int .u64 0, .string ⟨#[]⟩, .slice none 0 0] 27) (Nat.le_refl _))
  go_enter Tryz.func53, Tryz.ntmps53
  go_wp2_with fail
  refine hwh.out.mono ?_
  rintro e w2 ⟨⟨v, rfl, hv⟩, hb⟩
  have hfin := Lib.hid (hb0.out.trans (hb.mono hb0.out.size))
  have hv' := Lib.hid hv
  clear hb hv hwh hb0
  go_wp2
  go_ret2
  exact ⟨⟨_, rfl, _, _, rfl, hv'.out⟩, hfin.out⟩
end
def Sc.kind : Sc → Int
  | .none => 0
  | .bool _ => 1
  | .int _ _ => 2
  | .float _ => 3
  | .text k _ => if k then 5 else 4
theorem IsSc.kind {w : World} {x : V6} {s : Sc} (h : IsSc w x s) : x.k = .int .i64 s.kind := by
  cases s with
  | int neg m => obtain ⟨u, rfl, _⟩ := h; rfl
  | none => obtain rfl : x = _ := h; rfl
  | bool b => obtain rfl : x = _ := h; rfl
  | float b => obtain rfl : x = _ := h; rfl
  | text k t => obtain rfl : x = _ := h; rfl
theorem scalar_any (x : V6) (s : Sc) (w : World) (hs : s.ok) (hx : IsSc w x s) : Calls Tryz.prog 53 #[.int .i64 s.kind, .agg x.arr] w (SomePv w s) := by
  cases s with
  | none =>
    obtain rfl : x = _ := hx
    exact scalar_none
  | bool b =>
    obtain rfl : x = _ := hx
    exact scalar_bool b
  | float b =>
    obtain rfl : x = _ := hx
    exact scalar_float b
  | text k t =>
    obtain rfl : x = _ := hx
    exact scalar_text t k
  | int G V =>
    obtain ⟨u1, rfl, h1⟩ := hx
    exact scalar_int G V hs.2 u1 h1
end Go.Proofs.YtkflmgpigidkeaaGreat.Sc
