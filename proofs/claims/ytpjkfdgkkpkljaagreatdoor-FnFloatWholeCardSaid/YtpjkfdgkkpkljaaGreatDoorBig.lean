/-
  The package's integers: what a pointer to one leads to; SetBytes, Neg, BitLen, Int64, Sign.
-/
import Derived.Test.YtpjkfdgkkpkljaaGreatDoorNatSet
import Derived.Test.YtpjkfdgkkpkljaaGreatDoorNatCmp
import Derived.LaidEqlPtr
namespace Go.Proofs.YtpjkfdgkkpkljaaGreatDoor.Big
open Go.RowKit Go.WideShapes Go.Proofs.YtpjkfdgkkpkljaaGreatDoor.Own Go.Proofs.YtpjkfdgkkpkljaaGreatDoor.Num Go.Proofs.YtpjkfdgkkpkljaaGreatDoor.Ref Go.Proofs.YtpjkfdgkkpkljaaGreatDoor.Nat_
set_option linter.unusedVariables false

/-- the integer that block g holds: its sign, and above it its words -/
def Big (w : World) (g : Nat) (neg : Bool) (V : Nat) : Prop := ∃ v, Box.Holds w g 85 #[.bool neg, v] ∧ IsNat w (g + 1) v V ∧ (neg = true → 0 < V)
theorem Big.lt {w : World} {g : Nat} {neg : Bool} {V : Nat} (h : Big w g neg V) : g < w.heap.size := by
  obtain ⟨v, h1, _⟩ := h
  exact h1.lt
theorem Big.later {w w' : World} {g : Nat} {neg : Bool} {V : Nat} (h : Big w g neg V) (hb : Below w.heap.size w w') : Big w' g neg V := by
  obtain ⟨v, h1, h2, h3⟩ := h
  exact ⟨v, h1.later hb, h2.later hb, h3⟩

set_option maxRecDepth 100000 in
theorem setb_any (g : Nat) (a : Option Addr) (cap : Nat) (l : List UInt8) (w : World) (hg : Box.Holds w g 85 #[.bool false, .slice none 0 0]) (h : Rd w a l) (hl : l.length ≤ 1000) (hc : l.length ≤ cap) :
    Calls Tryz.prog 41 #[.pointer (some ⟨g, 0, none⟩), .slice a l.length cap] w fun e w' => (e = .returned (.pointer (some ⟨g, 0, none⟩)) ∧ Big w' g false (be l)) ∧ Below g w w' := by
  have hset := Lib.hid (setbytes_any a cap l w h hl hc)
  have k0 := hg.cell 0
  have k1 := hg.cell 1
  simp at k0 k1
  have hlt := hg.lt
  obtain ⟨V, hV⟩ : ∃ V, be l = V := ⟨_, rfl⟩
  obtain ⟨n, hn⟩ : ∃ n, l.length = n := ⟨_, rfl⟩
  rw [hV] at hset ⊢
  rw [hn] at hset ⊢
  have hg' := Lib.hid hg
  clear hV hn hl hc h hg
  go_enter Tryz.func41, Tryz.ntmps41
  go_wp2_with fail
  refine hset.out.mono ?_
  rintro e w1 ⟨⟨v, rfl, ho⟩, hb⟩
  obtain ⟨a1, c1, hv, -, -⟩ := ho.slice
  subst hv
  have hk := hg'.out.later hb
  have k0 := hk.cell 0
  have k1 := hk.cell 1
  simp at k0 k1
  have hlt1 := hk.lt
  have f0 := hk.free 0
  have f1 := hk.free 1
  have hfin : Big ((w1.setCell ⟨g, 1, none⟩ (.slice a1 (len W V) c1)).setCell ⟨g, 0, none⟩ (.bool false)) g false V := by
    refine ⟨.slice a1 (len W V) c1, ?_, ?_, by simp⟩
    · have := (hk.put 1 (.slice a1 (len W V) c1)).put 0 (.bool false)
      simpa using this
    · exact World.ownsRow.mono (Box.own_above ho (((Box.Above.refl _ _).setCell (by show g < w.heap.size; exact hlt) _).setCell (by show g < w.heap.size; exact hlt) _)) (by omega)
  have hfin' := Lib.hid hfin
  have hbel : Below g w ((w1.setCell ⟨g, 1, none⟩ (.slice a1 (len W V) c1)).setCell ⟨g, 0, none⟩ (.bool false)) := ((hb.mono (by omega)).setCell (p := ⟨g, 1, none⟩) (Nat.le_refl g) _).setCell (p := ⟨g, 0, none⟩) (Nat.le_refl g) _
  clear hfin ho
  go_wp2
  go_ret
  exact ⟨⟨rfl, hfin'.out⟩, hbel⟩

theorem info_big : ∃ j, Tryz.prog.info? 85 = some j ∧ j.size ≠ 0 := by
  have h : (Tryz.prog.info? 85).map (fun j => decide (j.size ≠ 0)) = some true := by kernel_rfl
  cases hj : Tryz.prog.info? 85 with
  | none => rw [hj] at h; cases h
  | some j => rw [hj] at h; exact ⟨j, rfl, by simpa using h⟩
theorem neq_same (a : Addr) (w : World) : (binOp BinOp.neq 57 (.pointer (some a)) (.pointer (some a))).run Tryz.prog w = .ok (.bool false) w := by
  obtain ⟨j, hj, hs⟩ := info_big
  have h : ∀ d : Nat, (Op.equalIn (d + 1) 57 (.pointer (some a)) (.pointer (some a))).run Tryz.prog w = .ok true w := fun d => by
    simp [Op.equalIn, run_underlying Tryz.underlying57, sizeOf, typeInfo, hj, run_sameAddr_same]
  simp only [binOp]
  simp [Op.equal, Op.maxDepth, h 9999]
theorem neq_other {a b : Addr} {ca cb : Array Value} {ta tb : TypeId} (w : World) (hne : a ≠ b) (ha : w.heap[a.block]? = some (.cells ca ta (0, 0))) (hb : w.heap[b.block]? = some (.cells cb tb (0, 0))) : (binOp BinOp.neq 57 (.pointer (some a)) (.pointer (some b))).run Tryz.prog w = .ok (.bool true) w := by
  obtain ⟨j, hj, hs⟩ := info_big
  have h : ∀ d : Nat, (Op.equalIn (d + 1) 57 (.pointer (some a)) (.pointer (some b))).run Tryz.prog w = .ok false w := fun d => by
    simp [Op.equalIn, run_underlying Tryz.underlying57, sizeOf, typeInfo, hj, hs, run_sameAddr_other w hne ha hb]
  simp only [binOp]
  simp [Op.equal, Op.maxDepth, h 9999]
theorem eql_same (a : Addr) (w : World) : (binOp BinOp.eql 57 (.pointer (some a)) (.pointer (some a))).run Tryz.prog w = .ok (.bool true) w := by
  obtain ⟨j, hj, hs⟩ := info_big
  exact run_eql_ptr_same w a Tryz.underlying57 hj
theorem eql_other {a b : Addr} {ca cb : Array Value} {ta tb : TypeId} (w : World) (hne : a ≠ b) (ha : w.heap[a.block]? = some (.cells ca ta (0, 0))) (hb : w.heap[b.block]? = some (.cells cb tb (0, 0))) : (binOp BinOp.eql 57 (.pointer (some a)) (.pointer (some b))).run Tryz.prog w = .ok (.bool false) w := by
  obtain ⟨j, hj, hs⟩ := info_big
  exact run_eql_ptr_other w Tryz.underlying57 hj hs hne ha hb

set_option maxRecDepth 100000 in
theorem set_same (g : Nat) (w : World) (hg : g < w.heap.size) :
    Calls Tryz.prog 61 #[.pointer (some ⟨g, 0, none⟩), .pointer (some ⟨g, 0, none⟩)] w fun e w' => e = .returned (.pointer (some ⟨g, 0, none⟩)) ∧ w' = w := by
  have hq := neq_same ⟨g, 0, none⟩ w
  go_enter Tryz.func61, Tryz.ntmps61
  go_wp2
  go_ret
  exact ⟨rfl, rfl⟩

theorem Big.sign {w : World} {g : Nat} {neg : Bool} {V : Nat} (h : Big w g neg V) (b : Bool) (hb : b = true → 0 < V) : Big (w.setCell ⟨g, 0, none⟩ (.bool b)) g b V := by
  obtain ⟨v, h1, h2, h3⟩ := h
  refine ⟨v, ?_, Box.own_above h2 ((Box.Above.refl _ _).setCell (Nat.lt_succ_self g) _), hb⟩
  have := h1.put 0 (.bool b)
  simpa using this

set_option maxRecDepth 100000 in
theorem neg_any (g : Nat) (neg : Bool) (V : Nat) (w : World) (h : Big w g neg V) (hm : len W V ≤ 10000) :
    Calls Tryz.prog 42 #[.pointer (some ⟨g, 0, none⟩), .pointer (some ⟨g, 0, none⟩)] w fun e w' => (e = .returned (.pointer (some ⟨g, 0, none⟩)) ∧ Big w' g (decide (0 < V) && !neg) V) ∧ Below g w w' := by
  have hset := Lib.hid (set_same g w h.lt)
  have hsgn := Lib.hid (h.sign (decide (0 < V) && !neg) (fun hh => by simp at hh; exact hh.1))
  have hbel : Below g w (w.setCell ⟨g, 0, none⟩ (.bool (decide (0 < V) && !neg))) := (Below.refl _ _).setCell (p := ⟨g, 0, none⟩) (Nat.le_refl g) _
  obtain ⟨v, hk, ho, hp⟩ := h
  obtain ⟨a, c, rfl, hc, hr⟩ := ho.slice
  have k0 := hk.cell 0
  have k1 := hk.cell 1
  simp at k0 k1
  have f0 := hk.free 0
  have hlt := hk.lt
  have hpos := len_pos W_two (v := V)
  obtain ⟨n, hn⟩ : ∃ n, len W V = n := ⟨_, rfl⟩
  rw [hn] at hpos hc k1 hm
  clear hk ho hr hn
  by_cases h0 : V = 0
  · have hd : decide (0 < V) = false := by simp; omega
    rw [hd, Bool.false_and] at hsgn hbel ⊢
    obtain rfl : n = 0 := by omega
    clear hd hpos hp h0
    go_enter Tryz.func42, Tryz.ntmps42
    go_wp2_with fail
    refine hset.out.mono ?_
    rintro e w1 ⟨rfl, rfl⟩
    go_wp2
    go_ret
    exact ⟨⟨rfl, hsgn.out⟩, hbel⟩
  · have hd : decide (0 < V) = true := by simp; omega
    rw [hd, Bool.true_and] at hsgn hbel ⊢
    have b3 : decide ((0 : Int) < (n : Int)) = true := by simp; omega
    have b4 : decide (0 < n) = true := by simp; omega
    clear hd hpos hp h0
    cases neg
    · go_enter Tryz.func42, Tryz.ntmps42
      go_wp2_with fail
      refine hset.out.mono ?_
      rintro e w1 ⟨rfl, rfl⟩
      go_wp2
      go_ret
      exact ⟨⟨rfl, hsgn.out⟩, hbel⟩
    · go_enter Tryz.func42, Tryz.ntmps42
      go_wp2_with fail
      refine hset.out.mono ?_
      rintro e w1 ⟨rfl, rfl⟩
      go_wp2
      go_ret
      exact ⟨⟨rfl, hsgn.out⟩, hbel⟩

set_option maxRecDepth 100000 in
theorem blen_any (g : Nat) (neg : Bool) (V : Nat) (w : World) (h : Big w g neg V) (hm : len W V ≤ 10000) :
    Calls Tryz.prog 81 #[.pointer (some ⟨g, 0, none⟩)] w fun e w' => e = .returned (.int .i64 ((len 2 V : Nat) : Int)) ∧ w' = w := by
  obtain ⟨v, hk, ho, hp⟩ := h
  have k1 := hk.cell 1
  simp at k1
  have hlt := hk.lt
  have hbl := Lib.hid (bitlen_any v V _ w ho hm)
  clear hk ho hp
  go_enter Tryz.func81, Tryz.ntmps81
  go_wp2_with fail
  refine hbl.out.mono ?_
  rintro e w1 ⟨rfl, rfl⟩
  go_wp2
  go_ret
  exact ⟨rfl, rfl⟩

set_option maxRecDepth 100000 in
theorem int64_any (g : Nat) (neg : Bool) (V : Nat) (w : World) (h : Big w g neg V) (hm : len W V ≤ 10000) :
    Calls Tryz.prog 64 #[.pointer (some ⟨g, 0, none⟩)] w fun e w' => e = .returned (.int .i64 (wrap64 (sg neg V))) ∧ w' = w := by
  obtain ⟨v, hk, ho, hp⟩ := h
  have k0 := hk.cell 0
  have k1 := hk.cell 1
  simp at k0 k1
  have hlt := hk.lt
  have hlo := Lib.hid (low64_any v V _ w ho hm)
  have hx : V % W < 18446744073709551616 := Nat.mod_lt _ W_pos
  have e1 := Lib.hid (show wrap64 ((V % W : Nat) : Int) = wrap64 (V : Int) by rw [W_eq]; unfold wrap64; omega)
  have e2 := Lib.hid (show wrap64 (-wrap64 ((V % W : Nat) : Int)) = wrap64 (-(V : Int)) by rw [W_eq]; unfold wrap64; omega)
  generalize V % W = x at hlo hx e1 e2
  clear hk ho hp
  cases neg
  · go_enter Tryz.func64, Tryz.ntmps64
    go_wp2_with fail
    refine hlo.out.mono ?_
    rintro e w1 ⟨rfl, rfl⟩
    go_wp2
    go_ret
    refine ⟨?_, rfl⟩
    show Ending.returned (.int .i64 (wrap64 (x : Int))) = _
    rw [e1.out]; rfl
  · go_enter Tryz.func64, Tryz.ntmps64
    go_wp2_with fail
    refine hlo.out.mono ?_
    rintro e w1 ⟨rfl, rfl⟩
    go_wp2
    go_ret
    refine ⟨?_, rfl⟩
    show Ending.returned (.int .i64 (wrap64 (-wrap64 (x : Int)))) = _
    rw [e2.out]; rfl

set_option maxRecDepth 100000 in
theorem bsign_any (g : Nat) (neg : Bool) (V : Nat) (w : World) (h : Big w g neg V) (hm : len W V ≤ 10000) :
    Calls Tryz.prog 45 #[.pointer (some ⟨g, 0, none⟩)] w fun e w' => e = .returned (.int .i64 (sgn (sg neg V))) ∧ w' = w := by
  obtain ⟨v, hk, ho, hp⟩ := h
  obtain ⟨a, c, rfl, hc, hr⟩ := ho.slice
  have k0 := hk.cell 0
  have k1 := hk.cell 1
  simp at k0 k1
  have hlt := hk.lt
  have hpos := len_pos W_two (v := V)
  obtain ⟨n, hn⟩ : ∃ n, len W V = n := ⟨_, rfl⟩
  rw [hn] at hpos hc k1 hm
  clear hk ho hr hn
  by_cases h0 : V = 0
  · subst h0
    have hneg : neg = false := by cases neg; rfl; exact absurd (hp rfl) (by omega)
    subst hneg
    have hb : ((n : Int) == 0) = true := by simp; omega
    clear hpos hp
    go_enter Tryz.func45, Tryz.ntmps45
    go_wp2
    go_ret
    exact ⟨rfl, rfl⟩
  · have hb : ((n : Int) == 0) = false := by simp; omega
    cases neg
    · have hs : sgn (sg false V) = 1 := by unfold sgn sg; simp; omega
      rw [hs]
      clear hs h0 hpos hp
      go_enter Tryz.func45, Tryz.ntmps45
      go_wp2
      go_ret
      exact ⟨rfl, rfl⟩
    · have hs : sgn (sg true V) = -1 := by unfold sgn sg; simp; omega
      rw [hs]
      clear hs h0 hpos hp
      go_enter Tryz.func45, Tryz.ntmps45
      go_wp2
      go_ret
      exact ⟨rfl, rfl⟩
end Go.Proofs.YtpjkfdgkkpkljaaGreatDoor.Big
