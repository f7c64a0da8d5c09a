/-
  The package's naturals: one out of a row of bytes. The package's integers: what a pointer to one leads to; SetBytes, Neg, BitLen, Int64, Sign. Starlark's integers: small ones and great ones; MakeBigInt. Starlark's integers: MakeBigInt. The package's integers: one out of a number of 64 bits; how two compare. A value's integer, and its Int64. The package's integers that are read alone: one that is made of a number; the one behind an integer of the language.
-/
import Derived.Test.YtafbheamnjmfoaaGreatNatMore
import Derived.LaidEqlPtr
import Derived.Laws.CopyOwn
import Derived.Deep.RegionWith
import Derived.Deep.DrawnRows
import Derived.Deep.DeepCutAuto
namespace Go.Proofs.YtafbheamnjmfoaaGreat.Nat_
open Go.RowKit Go.WideShapes Go.Proofs.YtafbheamnjmfoaaGreat.Own Go.Proofs.YtafbheamnjmfoaaGreat.Num Go.Proofs.YtafbheamnjmfoaaGreat.Ref
set_option linter.unusedVariables false

theorem or_top (T c t : Nat) (hT : T < 256 ^ t) (ht : t ≤ 7) (hc : c < 256) : bits BinOp.or IntKind.u64 (T : Int) (IntKind.u64.wrap ((c : Int) * 2 ^ (8 * t))) = ((c * 256 ^ t + T : Nat) : Int) := by
  have e : (256 : Nat) ^ t = 2 ^ (8 * t) := by rw [show (256 : Nat) = 2 ^ 8 by rfl, ← Nat.pow_mul]
  rw [e] at hT ⊢
  have hp : 2 ^ (8 * t) ≤ 2 ^ 56 := Nat.pow_le_pow_right (by omega) (by omega)
  have e2 : (c : Int) * 2 ^ (8 * t) = ((c * 2 ^ (8 * t) : Nat) : Int) := by simp
  have hlt : c * 2 ^ (8 * t) < 18446744073709551616 := by
    have := Nat.mul_le_mul (show c ≤ 255 by omega) hp
    exact Nat.lt_of_le_of_lt this (by decide)
  rw [e2, IntKind.wrap_u64]
  have e3 : ((c * 2 ^ (8 * t) : Nat) : Int) % 18446744073709551616 = ((c * 2 ^ (8 * t) : Nat) : Int) := by omega
  rw [e3, Go.u64_or_nat _ _ (by omega) hlt, or_up (8 * t) T c hT, Nat.add_comm]

set_option maxHeartbeats 1000000 in
set_option maxRecDepth 100000 in
theorem setbytes_any (a : Option Addr) (cap : Nat) (l : List UInt8) (w : World) (h : Rd w a l) (hl : l.length ≤ 1000) (hc : l.length ≤ cap) :
    Calls Tryz.prog 103 #[.slice none 0 0, .slice a l.length cap] w fun e w' => (∃ v, e = .returned v ∧ IsNat w' w.heap.size v (be l)) ∧ Below w.heap.size w w' := by
  obtain ⟨n, hn⟩ : ∃ n, l.length = n := ⟨_, rfl⟩
  obtain ⟨N, hN⟩ : ∃ N, (n + 7) / 8 = N := ⟨_, rfl⟩
  obtain ⟨V, hV⟩ : ∃ V, be l = V := ⟨_, rfl⟩
  have hVN : V < W ^ N := by rw [← hV]; exact be_lt_words l N (by omega)
  rw [hn] at hl hc ⊢
  rw [hV]
  have hmk := Lib.hid (make_any N (by omega) w)
  have hnorm := Lib.hid fun v W' B (h : OwnW W' B v (dig W V N)) => norm_any v V N B W' h hVN (by omega)
  have eN : ((n : Int) + 8 - 1).tdiv 8 = (N : Int) := by rw [Int.tdiv_eq_ediv_of_nonneg (by omega)]; omega
  have hNN : N ≤ 1000 := by omega
  have hVN' := Lib.hid hVN
  have hV' := Lib.hid hV
  have hn' := Lib.hid hn
  have hN' := Lib.hid hN
  clear hVN hV hn hN
  go_enter Tryz.func103, Tryz.ntmps103
  go_wp2_with fail
  refine hmk.out.mono ?_
  rintro e w1 ⟨⟨z, rfl, ho⟩, hb1⟩
  rcases ho.shape with ⟨rfl, h0⟩ | ⟨g, zc, rfl, hg, hB, hzc, hcell⟩
  · have hN0 : N = 0 := by have := congrArg List.length h0; rw [dig_length] at this; simpa using this
    have hn0 : n = 0 := by have := hN'.out; omega
    subst hN0
    subst hn0
    have hfin := Lib.hid (hnorm.out (.slice none 0 0) w1 w.heap.size (by exact World.ownsRow_nil _ _ _ _))
    clear h0 ho hnorm eN
    go_wp2
    go_loop [5, 6] (fun i k => i = .int .i64 0 ∧ k = .int .i64 0) (fun _ _ => 0)
    case atStart => exact ⟨rfl, rfl⟩
    case round =>
      obtain ⟨rfl, rfl⟩ := hrel
      go_wp2_with fail
      refine hfin.out.mono ?_
      rintro e w2 ⟨⟨u, rfl, hu⟩, rfl⟩
      go_wp2
      go_ret
      exact ⟨⟨_, rfl, hu⟩, hb1⟩
  · rw [dig_length] at ho hzc ⊢
    have hrow : w1.ownsRow w.heap.size 189 1 (.slice (some ⟨g, 0, none⟩) N zc) N (ws (dig W (V % W ^ 0) N)) := by
      have := ho
      unfold OwnW at this
      rw [dig_length] at this
      rw [Nat.pow_zero, Nat.mod_one]
      exact this
    have hrd := Lib.hid h
    clear ho hcell h eN hmk
    go_wp2
    go_loopw [5, 6] (fun i kk wr => ∃ i' k : Nat, i = .int .i64 (i' : Int) ∧ kk = .int .i64 (k : Int) ∧ i' ≤ 1000 ∧ k ≤ 1000 ∧ Hid (i' + 8 * k = n) ∧ wr.ownsRow w.heap.size 189 1 (.slice (some ⟨g, 0, none⟩) N zc) N (ws (dig W (V % W ^ k) N)) ∧ Below w.heap.size w wr) (fun i _ _ => (intOf i).toNat)
    case atStart => exact ⟨n, 0, rfl, rfl, hl, by omega, rfl, hrow, hb1⟩
    case round =>
      clear hrow hb1
      obtain ⟨i, k, rfl, rfl, hi, hk, hik, hrow, hb⟩ := hrel
      by_cases h8 : 8 ≤ i
      · obtain ⟨s, rfl⟩ : ∃ s, i = s + 8 := ⟨i - 8, by omega⟩
        have hkN : k < N := by have := hik.out; have := hN'.out; omega
        rcases hrd.out with ⟨_, h0⟩ | ⟨x, rfl, hx, hcell⟩
        · have := hn'.out; have := hik.out; rw [h0] at *; simp at *; omega
        · have hc1 : ∀ j (hj : j < l.length), wr.cell? (x.add j) = some (.int .u8 (l[j].toNat : Int)) := fun j hj => by
            rw [hb.cell (by rw [block_add]; exact hx (by omega))]; exact hcell j hj
          have hword := Lib.hid (word_any x l n k s (cap - s) wr hc1 hn'.out (by have := hik.out; omega) (by have := hik.out; omega) (by have := hik.out; omega))
          rw [hV'.out] at hword
          obtain ⟨D, hD⟩ : ∃ D, V / W ^ k % W = D := ⟨_, rfl⟩
          have hset := ws_set V k N D hD
          rw [hD] at hword
          have hset' := Lib.hid hset
          have hDW : D < 18446744073709551616 := by rw [← hD]; exact Nat.mod_lt _ W_pos
          obtain ⟨cv, hcv⟩ : ∃ cv, (ws (dig W (V % W ^ k) N))[k]? = some cv := ⟨_, List.getElem?_eq_getElem (by rw [ws_length, dig_length]; exact hkN)⟩
          have hcv' := Lib.hid hcv
          have hrow' := Lib.hid hrow
          have g1 : (s : Int) + 8 ≤ (cap : Int) := by have := hik.out; omega
          clear hset hD hcell hc1 hcv hrow
          go_wp2_with fail
          refine hword.out.mono ?_
          rintro e w3 ⟨rfl, q, rfl⟩
          have hrow3 : (wr.drewN q).ownsRow w.heap.size 189 1 (.slice (some ⟨g, 0, none⟩) N zc) N (ws (dig W (V % W ^ k) N)) := hrow'.out
          have hc0 := World.ownsRow.cellAt hrow3 k (by omega)
          have hf0 := World.ownsRow.frozenAt hrow3 k
          have hst := World.ownsRow.stored hrow3 k (.int .u64 (D : Int))
          rw [hset'.out] at hst
          rw [hcv'.out] at hc0
          have hst' := Lib.hid hst.1
          clear hst hrow3
          go_wp2
          go_roundw
          case rel => exact ⟨s, k + 1, by go_num, rfl, by omega, by omega, by have := hik.out; exact Lib.hid (by omega), hst'.out, (Box.below_drawn hb q).setCell hB _⟩
          case measure => simp [intOf]; omega
      · by_cases h0 : i = 0
        · subst h0
          have hkN : k = N := by have := hik.out; have := hN'.out; omega
          subst hkN
          have hfin := Lib.hid (hnorm.out (.slice (some ⟨g, 0, none⟩) k zc) wr w.heap.size (by
            rw [dig_full V k k hVN'.out] at hrow
            unfold OwnW
            rw [dig_length]
            exact hrow))
          clear hrow
          go_wp2_with fail
          refine hfin.out.mono ?_
          rintro e w2 ⟨⟨u, rfl, hu⟩, rfl⟩
          go_wp2
          go_ret
          exact ⟨⟨_, rfl, hu⟩, hb⟩
        · obtain rfl : N = k + 1 := by have := hik.out; have := hN'.out; omega
          rcases hrd.out with ⟨_, h0'⟩ | ⟨x, rfl, hx, hcell⟩
          · have := hn'.out; have := hik.out; rw [h0'] at *; simp at *; omega
          · have hc1 : Hid (∀ j (hj : j < l.length), wr.cell? (x.add j) = some (.int .u8 (l[j].toNat : Int))) := Lib.hid fun j hj => by
              rw [hb.cell (by rw [block_add]; exact hx (by omega))]; exact hcell j hj
            have hil : i ≤ l.length := by have := hn'.out; have := hik.out; omega
            have hin : i ≤ n := by have := hik.out; omega
            have hil' := Lib.hid hil
            have hrow' := Lib.hid hrow
            have hi8 : i ≤ 7 := by omega
            have hi0 : 0 < i := by omega
            clear hil hcell hrow
            go_wp2
            go_loopw [5, 7, 8] (fun ii d s wx => ∃ j t : Nat, ii = .int .i64 (j : Int) ∧ d = .int .u64 ((topPart l i t : Nat) : Int) ∧ s = .int .u64 ((8 * t : Nat) : Int) ∧ t ≤ 7 ∧ j ≤ 7 ∧ Hid (j + t = i) ∧ wx = wr) (fun ii _ _ _ => (intOf ii).toNat)
            case atStart => exact ⟨i, 0, rfl, by rw [topPart_zero]; rfl, rfl, by omega, hi8, rfl, rfl⟩
            case round =>
              obtain ⟨j, t, rfl, rfl, rfl, ht, hj, hjt, rfl⟩ := hrel
              obtain ⟨T, hT⟩ : ∃ T, topPart l i t = T := ⟨_, rfl⟩
              rw [hT]
              cases j with
              | succ m =>
                have hml : m < l.length := by have := hjt.out; have := hil'.out; omega
                have hcm := hc1.out m hml
                obtain ⟨c, hc⟩ : ∃ c, l[m] = c := ⟨_, rfl⟩
                rw [hc] at hcm
                have hcl := UInt8.toNat_lt c
                have hmn : (m : Int) < (n : Int) := by have := hjt.out; omega
                have hstep := topPart_step l i t hil'.out (by have := hjt.out; omega)
                have hidx : i - t - 1 = m := by have := hjt.out; omega
                have hstep2 : topPart l i (t + 1) = c.toNat * 256 ^ t + T := by
                  rw [hstep, hT, ← hc]
                  congr 3
                  simp only [hidx]
                have hor := Lib.hid (or_top T c.toNat t (by rw [← hT]; exact topPart_lt l i t hil'.out (by have := hjt.out; omega)) ht hcl)
                rw [← hstep2] at hor
                clear hT hc hstep hidx hstep2
                go_wp2
                go_roundw
                case rel => exact ⟨m, t + 1, rfl, by rw [hor.out], by go_num, by have := hjt.out; omega, by omega, by have := hjt.out; exact Lib.hid (by omega), trivial⟩
                case measure => simp [intOf]
              | zero =>
                obtain rfl : t = i := by have := hjt.out; omega
                have hTV : V / W ^ k % W = T := by
                  rw [← hT, topPart_end, ← hV'.out, ← word_top l k (by have := hn'.out; have := hik.out; omega) (by have := hn'.out; have := hik.out; omega)]
                  congr 2
                  have := hn'.out
                  have := hik.out
                  omega
                have hset := ws_set V k (k + 1) T hTV
                obtain ⟨cv, hcv⟩ : ∃ cv, (ws (dig W (V % W ^ k) (k + 1)))[k]? = some cv := ⟨_, List.getElem?_eq_getElem (by rw [ws_length, dig_length]; omega)⟩
                have hc0 := World.ownsRow.cellAt hrow'.out k (by omega)
                have hf0 := World.ownsRow.frozenAt hrow'.out k
                have hst := World.ownsRow.stored hrow'.out k (.int .u64 (T : Int))
                rw [hset] at hst
                rw [hcv] at hc0
                have hfin := Lib.hid (hnorm.out (.slice (some ⟨g, 0, none⟩) (k + 1) zc) _ w.heap.size (by
                  have := hst.1
                  rw [dig_full V (k + 1) (k + 1) hVN'.out] at this
                  unfold OwnW
                  rw [dig_length]
                  exact this))
                clear hset hcv hst hTV hT
                go_wp2_with fail
                refine hfin.out.mono ?_
                rintro e w2 ⟨⟨u, rfl, hu⟩, rfl⟩
                go_wp2
                go_ret
                exact ⟨⟨_, rfl, hu⟩, hb.setCell hB _⟩
end Go.Proofs.YtafbheamnjmfoaaGreat.Nat_

namespace Go.Proofs.YtafbheamnjmfoaaGreat.Big
open Go.RowKit Go.WideShapes Go.Proofs.YtafbheamnjmfoaaGreat.Own Go.Proofs.YtafbheamnjmfoaaGreat.Num Go.Proofs.YtafbheamnjmfoaaGreat.Ref Go.Proofs.YtafbheamnjmfoaaGreat.Nat_
set_option linter.unusedVariables false

/-- the integer that block g holds: its sign, and above it its words -/
def Big (w : World) (g : Nat) (neg : Bool) (V : Nat) : Prop := ∃ v, Box.Holds w g 147 #[.bool neg, v] ∧ IsNat w (g + 1) v V ∧ (neg = true → 0 < V)
theorem Big.lt {w : World} {g : Nat} {neg : Bool} {V : Nat} (h : Big w g neg V) : g < w.heap.size := by
  obtain ⟨v, h1, _⟩ := h
  exact h1.lt
theorem Big.later {w w' : World} {g : Nat} {neg : Bool} {V : Nat} (h : Big w g neg V) (hb : Below w.heap.size w w') : Big w' g neg V := by
  obtain ⟨v, h1, h2, h3⟩ := h
  exact ⟨v, h1.later hb, h2.later hb, h3⟩

set_option maxRecDepth 100000 in
theorem setb_any (g : Nat) (a : Option Addr) (cap : Nat) (l : List UInt8) (w : World) (hg : Box.Holds w g 147 #[.bool false, .slice none 0 0]) (h : Rd w a l) (hl : l.length ≤ 1000) (hc : l.length ≤ cap) :
    Calls Tryz.prog 83 #[.pointer (some ⟨g, 0, none⟩), .slice a l.length cap] w fun e w' => (e = .returned (.pointer (some ⟨g, 0, none⟩)) ∧ Big w' g false (be l)) ∧ Below g w w' := by
  have hset := Lib.hid (setbytes_any a cap l w h hl hc)
  have k0 := hg.cell 0
  have k1 := hg.cell 1
  simp at k0 k1
  have hlt := hg.lt
  obtain ⟨V, hV⟩ : ∃ V, be l = V := ⟨_, rfl⟩
  obtain ⟨n, hn⟩ : ∃ n, l.length = n := ⟨_, rfl⟩
  rw [hV] at hset ⊢
  rw [hn] at hset ⊢
  have hg' := Lib.hid hg
  clear hV hn hl hc h hg
  go_enter Tryz.func83, Tryz.ntmps83
  go_wp2_with fail
  refine hset.out.mono ?_
  rintro e w1 ⟨⟨v, rfl, ho⟩, hb⟩
  obtain ⟨a1, c1, hv, -, -⟩ := ho.slice
  subst hv
  have hk := hg'.out.later hb
  have k0 := hk.cell 0
  have k1 := hk.cell 1
  simp at k0 k1
  have hlt1 := hk.lt
  have f0 := hk.free 0
  have f1 := hk.free 1
  have hfin : Big ((w1.setCell ⟨g, 1, none⟩ (.slice a1 (len W V) c1)).setCell ⟨g, 0, none⟩ (.bool false)) g false V := by
    refine ⟨.slice a1 (len W V) c1, ?_, ?_, by simp⟩
    · have := (hk.put 1 (.slice a1 (len W V) c1)).put 0 (.bool false)
      simpa using this
    · exact World.ownsRow.mono (Box.own_above ho (((Box.Above.refl _ _).setCell (by show g < w.heap.size; exact hlt) _).setCell (by show g < w.heap.size; exact hlt) _)) (by omega)
  have hfin' := Lib.hid hfin
  have hbel : Below g w ((w1.setCell ⟨g, 1, none⟩ (.slice a1 (len W V) c1)).setCell ⟨g, 0, none⟩ (.bool false)) := ((hb.mono (by omega)).setCell (p := ⟨g, 1, none⟩) (Nat.le_refl g) _).setCell (p := ⟨g, 0, none⟩) (Nat.le_refl g) _
  clear hfin ho
  go_wp2
  go_ret
  exact ⟨⟨rfl, hfin'.out⟩, hbel⟩

theorem info_big : ∃ j, Tryz.prog.info? 147 = some j ∧ j.size ≠ 0 := by
  have h : (Tryz.prog.info? 147).map (fun j => decide (j.size ≠ 0)) = some true := by kernel_rfl
  cases hj : Tryz.prog.info? 147 with
  | none => rw [hj] at h; cases h
  | some j => rw [hj] at h; exact ⟨j, rfl, by simpa using h⟩
theorem neq_same (a : Addr) (w : World) : (binOp BinOp.neq 86 (.pointer (some a)) (.pointer (some a))).run Tryz.prog w = .ok (.bool false) w := by
  obtain ⟨j, hj, hs⟩ := info_big
  have h : ∀ d : Nat, (Op.equalIn (d + 1) 86 (.pointer (some a)) (.pointer (some a))).run Tryz.prog w = .ok true w := fun d => by
    simp [Op.equalIn, run_underlying Tryz.underlying86, sizeOf, typeInfo, hj, run_sameAddr_same]
  simp only [binOp]
  simp [Op.equal, Op.maxDepth, h 9999]
theorem neq_other {a b : Addr} {ca cb : Array Value} {ta tb : TypeId} (w : World) (hne : a ≠ b) (ha : w.heap[a.block]? = some (.cells ca ta (0, 0))) (hb : w.heap[b.block]? = some (.cells cb tb (0, 0))) : (binOp BinOp.neq 86 (.pointer (some a)) (.pointer (some b))).run Tryz.prog w = .ok (.bool true) w := by
  obtain ⟨j, hj, hs⟩ := info_big
  have h : ∀ d : Nat, (Op.equalIn (d + 1) 86 (.pointer (some a)) (.pointer (some b))).run Tryz.prog w = .ok false w := fun d => by
    simp [Op.equalIn, run_underlying Tryz.underlying86, sizeOf, typeInfo, hj, hs, run_sameAddr_other w hne ha hb]
  simp only [binOp]
  simp [Op.equal, Op.maxDepth, h 9999]
theorem eql_same (a : Addr) (w : World) : (binOp BinOp.eql 86 (.pointer (some a)) (.pointer (some a))).run Tryz.prog w = .ok (.bool true) w := by
  obtain ⟨j, hj, hs⟩ := info_big
  exact run_eql_ptr_same w a Tryz.underlying86 hj
theorem eql_other {a b : Addr} {ca cb : Array Value} {ta tb : TypeId} (w : World) (hne : a ≠ b) (ha : w.heap[a.block]? = some (.cells ca ta (0, 0))) (hb : w.heap[b.block]? = some (.cells cb tb (0, 0))) : (binOp BinOp.eql 86 (.pointer (some a)) (.pointer (some b))).run Tryz.prog w = .ok (.bool false) w := by
  obtain ⟨j, hj, hs⟩ := info_big
  exact run_eql_ptr_other w Tryz.underlying86 hj hs hne ha hb

set_option maxRecDepth 100000 in
theorem set_same (g : Nat) (w : World) (hg : g < w.heap.size) :
    Calls Tryz.prog 104 #[.pointer (some ⟨g, 0, none⟩), .pointer (some ⟨g, 0, none⟩)] w fun e w' => e = .returned (.pointer (some ⟨g, 0, none⟩)) ∧ w' = w := by
  have hq := neq_same ⟨g, 0, none⟩ w
  go_enter Tryz.func104, Tryz.ntmps104
  go_wp2
  go_ret
  exact ⟨rfl, rfl⟩

theorem Big.sign {w : World} {g : Nat} {neg : Bool} {V : Nat} (h : Big w g neg V) (b : Bool) (hb : b = true → 0 < V) : Big (w.setCell ⟨g, 0, none⟩ (.bool b)) g b V := by
  obtain ⟨v, h1, h2, h3⟩ := h
  refine ⟨v, ?_, Box.own_above h2 ((Box.Above.refl _ _).setCell (Nat.lt_succ_self g) _), hb⟩
  have := h1.put 0 (.bool b)
  simpa using this

set_option maxRecDepth 100000 in
theorem neg_any (g : Nat) (neg : Bool) (V : Nat) (w : World) (h : Big w g neg V) (hm : len W V ≤ 10000) :
    Calls Tryz.prog 84 #[.pointer (some ⟨g, 0, none⟩), .pointer (some ⟨g, 0, none⟩)] w fun e w' => (e = .returned (.pointer (some ⟨g, 0, none⟩)) ∧ Big w' g (decide (0 < V) && !neg) V) ∧ Below g w w' := by
  have hset := Lib.hid (set_same g w h.lt)
  have hsgn := Lib.hid (h.sign (decide (0 < V) && !neg) (fun hh => by simp at hh; exact hh.1))
  have hbel : Below g w (w.setCell ⟨g, 0, none⟩ (.bool (decide (0 < V) && !neg))) := (Below.refl _ _).setCell (p := ⟨g, 0, none⟩) (Nat.le_refl g) _
  obtain ⟨v, hk, ho, hp⟩ := h
  obtain ⟨a, c, rfl, hc, hr⟩ := ho.slice
  have k0 := hk.cell 0
  have k1 := hk.cell 1
  simp at k0 k1
  have f0 := hk.free 0
  have hlt := hk.lt
  have hpos := len_pos W_two (v := V)
  obtain ⟨n, hn⟩ : ∃ n, len W V = n := ⟨_, rfl⟩
  rw [hn] at hpos hc k1 hm
  clear hk ho hr hn
  by_cases h0 : V = 0
  · have hd : decide (0 < V) = false := by simp; omega
    rw [hd, Bool.false_and] at hsgn hbel ⊢
    obtain rfl : n = 0 := by omega
    clear hd hpos hp h0
    go_enter Tryz.func84, Tryz.ntmps84
    go_wp2_with fail
    refine hset.out.mono ?_
    rintro e w1 ⟨rfl, rfl⟩
    go_wp2
    go_ret
    exact ⟨⟨rfl, hsgn.out⟩, hbel⟩
  · have hd : decide (0 < V) = true := by simp; omega
    rw [hd, Bool.true_and] at hsgn hbel ⊢
    have b3 : decide ((0 : Int) < (n : Int)) = true := by simp; omega
    have b4 : decide (0 < n) = true := by simp; omega
    clear hd hpos hp h0
    cases neg
    · go_enter Tryz.func84, Tryz.ntmps84
      go_wp2_with fail
      refine hset.out.mono ?_
      rintro e w1 ⟨rfl, rfl⟩
      go_wp2
      go_ret
      exact ⟨⟨rfl, hsgn.out⟩, hbel⟩
    · go_enter Tryz.func84, Tryz.ntmps84
      go_wp2_with fail
      refine hset.out.mono ?_
      rintro e w1 ⟨rfl, rfl⟩
      go_wp2
      go_ret
      exact ⟨⟨rfl, hsgn.out⟩, hbel⟩

set_option maxRecDepth 100000 in
theorem blen_any (g : Nat) (neg : Bool) (V : Nat) (w : World) (h : Big w g neg V) (hm : len W V ≤ 10000) :
    Calls Tryz.prog 124 #[.pointer (some ⟨g, 0, none⟩)] w fun e w' => e = .returned (.int .i64 ((len 2 V : Nat) : Int)) ∧ w' = w := by
  obtain ⟨v, hk, ho, hp⟩ := h
  have k1 := hk.cell 1
  simp at k1
  have hlt := hk.lt
  have hbl := Lib.hid (bitlen_any v V _ w ho hm)
  clear hk ho hp
  go_enter Tryz.func124, Tryz.ntmps124
  go_wp2_with fail
  refine hbl.out.mono ?_
  rintro e w1 ⟨rfl, rfl⟩
  go_wp2
  go_ret
  exact ⟨rfl, rfl⟩

set_option maxRecDepth 100000 in
theorem int64_any (g : Nat) (neg : Bool) (V : Nat) (w : World) (h : Big w g neg V) (hm : len W V ≤ 10000) :
    Calls Tryz.prog 107 #[.pointer (some ⟨g, 0, none⟩)] w fun e w' => e = .returned (.int .i64 (wrap64 (sg neg V))) ∧ w' = w := by
  obtain ⟨v, hk, ho, hp⟩ := h
  have k0 := hk.cell 0
  have k1 := hk.cell 1
  simp at k0 k1
  have hlt := hk.lt
  have hlo := Lib.hid (low64_any v V _ w ho hm)
  have hx : V % W < 18446744073709551616 := Nat.mod_lt _ W_pos
  have e1 := Lib.hid (show wrap64 ((V % W : Nat) : Int) = wrap64 (V : Int) by rw [W_eq]; unfold wrap64; omega)
  have e2 := Lib.hid (show wrap64 (-wrap64 ((V % W : Nat) : Int)) = wrap64 (-(V : Int)) by rw [W_eq]; unfold wrap64; omega)
  generalize V % W = x at hlo hx e1 e2
  clear hk ho hp
  cases neg
  · go_enter Tryz.func107, Tryz.ntmps107
    go_wp2_with fail
    refine hlo.out.mono ?_
    rintro e w1 ⟨rfl, rfl⟩
    go_wp2
    go_ret
    refine ⟨?_, rfl⟩
    show Ending.returned (.int .i64 (wrap64 (x : Int))) = _
    rw [e1.out]; rfl
  · go_enter Tryz.func107, Tryz.ntmps107
    go_wp2_with fail
    refine hlo.out.mono ?_
    rintro e w1 ⟨rfl, rfl⟩
    go_wp2
    go_ret
    refine ⟨?_, rfl⟩
    show Ending.returned (.int .i64 (wrap64 (-wrap64 (x : Int)))) = _
    rw [e2.out]; rfl

set_option maxRecDepth 100000 in
theorem bsign_any (g : Nat) (neg : Bool) (V : Nat) (w : World) (h : Big w g neg V) (hm : len W V ≤ 10000) :
    Calls Tryz.prog 110 #[.pointer (some ⟨g, 0, none⟩)] w fun e w' => e = .returned (.int .i64 (sgn (sg neg V))) ∧ w' = w := by
  obtain ⟨v, hk, ho, hp⟩ := h
  obtain ⟨a, c, rfl, hc, hr⟩ := ho.slice
  have k0 := hk.cell 0
  have k1 := hk.cell 1
  simp at k0 k1
  have hlt := hk.lt
  have hpos := len_pos W_two (v := V)
  obtain ⟨n, hn⟩ : ∃ n, len W V = n := ⟨_, rfl⟩
  rw [hn] at hpos hc k1 hm
  clear hk ho hr hn
  by_cases h0 : V = 0
  · subst h0
    have hneg : neg = false := by cases neg; rfl; exact absurd (hp rfl) (by omega)
    subst hneg
    have hb : ((n : Int) == 0) = true := by simp; omega
    clear hpos hp
    go_enter Tryz.func110, Tryz.ntmps110
    go_wp2
    go_ret
    exact ⟨rfl, rfl⟩
  · have hb : ((n : Int) == 0) = false := by simp; omega
    cases neg
    · have hs : sgn (sg false V) = 1 := by unfold sgn sg; simp; omega
      rw [hs]
      clear hs h0 hpos hp
      go_enter Tryz.func110, Tryz.ntmps110
      go_wp2
      go_ret
      exact ⟨rfl, rfl⟩
    · have hs : sgn (sg true V) = -1 := by unfold sgn sg; simp; omega
      rw [hs]
      clear hs h0 hpos hp
      go_enter Tryz.func110, Tryz.ntmps110
      go_wp2
      go_ret
      exact ⟨rfl, rfl⟩
end Go.Proofs.YtafbheamnjmfoaaGreat.Big

namespace Go.Proofs.YtafbheamnjmfoaaGreat.Big
open Go.RowKit Go.WideShapes Go.Proofs.YtafbheamnjmfoaaGreat.Own Go.Proofs.YtafbheamnjmfoaaGreat.Num Go.Proofs.YtafbheamnjmfoaaGreat.Ref Go.Proofs.YtafbheamnjmfoaaGreat.Nat_
set_option linter.unusedVariables false

theorem below_one {B : Nat} {w : World} (o : Obj) (h : B ≤ w.heap.size) : Below B w (w.alloc o) := (Below.refl _ _).alloc h _

set_option maxRecDepth 100000 in
theorem mksmall_any (z : Int) (w : World) :
    Calls Tryz.prog 106 #[.int .i64 z] w fun e w' => e = .returned (.agg #[.int .i64 z, .pointer none]) ∧ Below w.heap.size w w' := by
  go_enter Tryz.func106, Tryz.ntmps106
  go_wp2
  have k0 : (w.alloc (.cells #[.int .i64 z, .pointer none] 90)).cell? ⟨w.heap.size, 0, none⟩ = some (.int .i64 z) := by rw [World.cell?_alloc_at _ _ _ _ rfl]; rfl
  have k1 : (w.alloc (.cells #[.int .i64 z, .pointer none] 90)).cell? ⟨w.heap.size, 1, none⟩ = some (.pointer none) := by rw [World.cell?_alloc_at _ _ _ _ rfl]; rfl
  exact bodyPost_ret (v := .agg #[.int .i64 z, .pointer none]) (by simp [results, Tryz.results106, go_sem, k0, k1]) rfl ⟨rfl, below_one _ (Nat.le_refl _)⟩

set_option maxRecDepth 100000 in
theorem mkbig_any (p : Addr) (w : World) :
    Calls Tryz.prog 108 #[.pointer (some p)] w fun e w' => e = .returned (.agg #[.int .i64 0, .pointer (some p)]) ∧ Below w.heap.size w w' := by
  go_enter Tryz.func108, Tryz.ntmps108
  go_wp2
  have k0 : (w.alloc (.cells #[.int .i64 0, .pointer (some p)] 90)).cell? ⟨w.heap.size, 0, none⟩ = some (.int .i64 0) := by rw [World.cell?_alloc_at _ _ _ _ rfl]; rfl
  have k1 : (w.alloc (.cells #[.int .i64 0, .pointer (some p)] 90)).cell? ⟨w.heap.size, 1, none⟩ = some (.pointer (some p)) := by rw [World.cell?_alloc_at _ _ _ _ rfl]; rfl
  exact bodyPost_ret (v := .agg #[.int .i64 0, .pointer (some p)]) (by simp [results, Tryz.results108, go_sem, k0, k1]) rfl ⟨rfl, below_one _ (Nat.le_refl _)⟩

set_option maxRecDepth 100000 in
theorem get_any (z : Int) (p : Option Addr) (w : World) :
    Calls Tryz.prog 126 #[.agg #[.int .i64 z, .pointer p]] w fun e w' => e = .returned (.tuple #[.int .i64 z, .pointer p]) ∧ Below w.heap.size w w' := by
  have k0 : (w.alloc (.cells #[.int .i64 z, .pointer p] 90)).cell? ⟨w.heap.size, 0, none⟩ = some (.int .i64 z) := by rw [World.cell?_alloc_at _ _ _ _ rfl]; rfl
  have k1 : (w.alloc (.cells #[.int .i64 z, .pointer p] 90)).cell? ⟨w.heap.size, 1, none⟩ = some (.pointer p) := by rw [World.cell?_alloc_at _ _ _ _ rfl]; rfl
  go_enter Tryz.func126, Tryz.ntmps126
  go_wp2
  go_quiet (fail)
  go_wp2
  exact bodyPost_ret (v := .tuple #[.int .i64 z, .pointer p]) (by simp [results, Tryz.results126, go_sem]) rfl ⟨rfl, Box.below_drawn (below_one _ (Nat.le_refl _)) _⟩

/-- a number that an int32 has room for -/
def isS (z : Int) : Bool := decide (-2147483648 ≤ z) && decide (z ≤ 2147483647)
theorem len2_le {V : Nat} (hm : len W V ≤ 10000) : len 2 V ≤ 640000 := by
  have h1 := len_lt W_two V
  obtain ⟨n, hn⟩ : ∃ n, len W V = n := ⟨_, rfl⟩
  rw [hn] at h1 hm
  rw [W_pow2] at h1
  have := len_le (b := 2) (by omega) h1
  omega

set_option maxRecDepth 100000 in
theorem issmall_any (g : Nat) (neg : Bool) (V : Nat) (w : World) (h : Big w g neg V) (hm : len W V ≤ 10000) :
    Calls Tryz.prog 105 #[.pointer (some ⟨g, 0, none⟩)] w fun e w' => e = .returned (.bool (isS (sg neg V))) ∧ w' = w := by
  have hbl := Lib.hid (blen_any g neg V w h hm)
  have hi := Lib.hid (int64_any g neg V w h hm)
  have b1 := bits_small V
  have b2 := bits_32 V
  have b3 := len2_le hm
  obtain ⟨L, hL⟩ : ∃ L, len 2 V = L := ⟨_, rfl⟩
  rw [hL] at hbl b1 b2 b3
  rcases Nat.lt_trichotomy L 32 with hl | hl | hl
  · have hs : isS (sg neg V) = true := by unfold isS sg; cases neg <;> simp <;> omega
    rw [hs]
    have d1 : decide ((L : Int) < 32) = true := by simp; omega
    have d2 : decide (L < 32) = true := by simp; omega
    clear hL hs hi b1 b2 h
    go_enter Tryz.func105, Tryz.ntmps105
    go_wp2_with fail
    refine hbl.out.mono ?_
    rintro e w1 ⟨rfl, rfl⟩
    go_wp2
    go_ret
    exact ⟨rfl, rfl⟩
  · subst hl
    have hz : wrap64 (sg neg V) = sg neg V := by unfold wrap64 sg; cases neg <;> simp <;> omega
    rw [hz] at hi
    have hs : isS (sg neg V) = (sg neg V == -2147483648) := by
      unfold isS sg
      cases neg
      · have e1 : decide ((V : Int) ≤ 2147483647) = false := by simp; omega
        have e2 : ((V : Int) == -2147483648) = false := by simp
        simp [e1, e2]
      · by_cases e : V = 2147483648
        · subst e; rfl
        · have e1 : decide (-2147483648 ≤ -(V : Int)) = false := by simp; omega
          have e2 : (-(V : Int) == -2147483648) = false := by simp; omega
          simp [e2]
          omega
    rw [hs]
    obtain ⟨Z, hZ⟩ : ∃ Z, sg neg V = Z := ⟨_, rfl⟩
    rw [hZ] at hi ⊢
    obtain ⟨b, hb⟩ : ∃ b, (Z == -2147483648) = b := ⟨_, rfl⟩
    rw [hb]
    clear hL hs hz b1 b2 hZ h
    go_enter Tryz.func105, Tryz.ntmps105
    go_wp2_with fail
    refine hbl.out.mono ?_
    rintro e w1 ⟨rfl, rfl⟩
    go_wp2_with fail
    refine hi.out.mono ?_
    rintro e w1 ⟨rfl, rfl⟩
    cases b
    · go_wp2
      go_ret
      exact ⟨rfl, rfl⟩
    · go_wp2
      go_ret
      exact ⟨rfl, rfl⟩
  · have hs : isS (sg neg V) = false := by
      unfold isS sg
      cases neg
      · have e1 : decide ((V : Int) ≤ 2147483647) = false := by simp; omega
        simp [e1]
      · simp
        omega
    rw [hs]
    have d1 : decide ((L : Int) < 32) = false := by simp; omega
    have d2 : decide (L < 32) = false := by simp; omega
    have d3 : ((L : Int) == 32) = false := by simp; omega
    clear hL hs hi b1 b2 h
    go_enter Tryz.func105, Tryz.ntmps105
    go_wp2_with fail
    refine hbl.out.mono ?_
    rintro e w1 ⟨rfl, rfl⟩
    go_wp2
    go_ret
    exact ⟨rfl, rfl⟩

theorem word_size : (Tryz.prog.info? 189).map (·.size) = some 1 := by kernel_rfl
theorem ws_one (l : List Nat) : ∀ v ∈ ws l, v.oneCell' = true := by
  intro v hv
  simp [ws] at hv
  obtain ⟨d, _, rfl⟩ := hv
  rfl
set_option maxRecDepth 100000 in
theorem nset_any (v : Value) (V B : Nat) (w : World) (h : IsNat w B v V) (hm : len W V ≤ 10000) :
    Calls Tryz.prog 123 #[.slice none 0 0, v] w fun e w' => (∃ u, e = .returned u ∧ IsNat w' w.heap.size u V) ∧ Below w.heap.size w w' := by
  obtain ⟨a, c, rfl, hc, hr⟩ := h.slice
  have hmk := Lib.hid (make_any (len W V) hm w)
  obtain ⟨n, hn⟩ : ∃ n, len W V = n := ⟨_, rfl⟩
  rw [hn] at hc hm hmk ⊢
  have hn' := Lib.hid hn
  have hr' := Lib.hid hr
  clear hr h hn
  go_enter Tryz.func123, Tryz.ntmps123
  go_wp2_with fail
  refine hmk.out.mono ?_
  rintro e w1 ⟨⟨z, rfl, ho⟩, hb1⟩
  have hr1 := Lib.hid (hr'.out.later hb1)
  have ho' := ho
  unfold OwnW at ho'
  rw [dig_length] at ho'
  rcases ho'.2 with ⟨rfl, h0⟩ | ⟨g, cap, cur, rfl, hB, hg, hcc, hmx, hs, ht⟩
  · subst h0
    have hV0 : V = 0 := by have := len_pos W_two (v := V); have := hn'.out; omega
    subst hV0
    clear ho ho' hmk
    go_wp2_with (refine wpList_copy_nothing rfl (.tmp 9) (.tmp 10) 145 145 rfl 189 Tryz.underlying145 word_size none a 0 0 0 c rfl rfl rfl ?_)
    go_wp2
    go_ret
    exact ⟨⟨_, rfl, World.ownsRow_nil _ _ _ _⟩, hb1⟩
  · have hcur : n ≤ cur.toList.length := by simp; omega
    have hln : (ws (words V)).length = n := by rw [ws_length, words_length]; exact hn'.out
    have hsrc : 0 < n → ∃ ad, a = some ad ∧ ∀ j v, (ws (words V))[j]? = some v → w1.cell? (ad.add j) = some v := fun hp => by
      obtain ⟨g2, rfl, _⟩ := hr1.out.at_ (j := 0) (by rw [hn'.out]; exact hp)
      refine ⟨_, rfl, fun j v hv => ?_⟩
      have hj : j < n := by
        rcases Nat.lt_or_ge j n with h1 | h1
        · exact h1
        · rw [List.getElem?_eq_none (by omega)] at hv; cases hv
      obtain ⟨g3, e3, hc3⟩ := hr1.out.at_ (j := j) (by rw [hn'.out]; exact hj)
      simp only [Option.some.injEq, Addr.mk.injEq, and_true] at e3
      subst e3
      rw [show ((⟨g2, 0, none⟩ : Addr).add j) = ⟨g2, j, none⟩ by unfold Addr.add; split <;> simp_all, hc3]
      unfold ws words at hv
      rw [List.getElem?_map, dig_get _ _ _ _ (by rw [hn'.out]; exact hj)] at hv
      exact hv
    obtain ⟨L, hL⟩ : ∃ L, ws (words V) = L := ⟨_, rfl⟩
    have hL1 : ∀ v ∈ L, v.oneCell' = true := by rw [← hL]; exact ws_one _
    have hL' := Lib.hid hL
    rw [hL] at hln hsrc
    have hfin : ∀ w' : World, Hid (w'.heap[g]? = some (.cells (splice cur.toList 0 L).toArray 189 (0, 0))) → IsNat w' w.heap.size (.slice (some ⟨g, 0, none⟩) n cap) V := fun w' hg' => by
      have hlw : (words V).length = n := by rw [words_length]; exact hn'.out
      unfold IsNat OwnW
      rw [hlw]
      refine ⟨by rw [hL'.out]; simpa using hln, .inr ⟨g, cap, (splice cur.toList 0 L).toArray, rfl, hB, hg'.out, hcc, hmx, ?_, ?_⟩⟩
      · simp [length_splice cur.toList 0 L (by omega)]; omega
      · rw [hL'.out]
        simp [splice, hln]
    have hfin' := Lib.hid hfin
    have hsrc' := Lib.hid hsrc
    have hL1' := Lib.hid hL1
    have hg0 : w1.heap[g]? = some (.cells cur.toList.toArray 189 (0, 0)) := by simpa using hg
    clear hfin hL hsrc hL1 ho ho' ht hg hmk
    go_wp2_with (refine wpList_copy_splice rfl (.tmp 9) (.tmp 10) 145 145 rfl 189 Tryz.underlying145 word_size (some ⟨g, 0, none⟩) a n cap n c rfl rfl g 0 cur.toList 189 hg0 L (by rw [hln]; simp) (fun hp => ⟨rfl, hsrc'.out (by omega)⟩) (by omega) hL1'.out w.heap.size w hb1 hB ?_; intro w2 hg2 hb2)
    go_wp2
    go_ret
    exact ⟨⟨_, rfl, hfin'.out _ hg2⟩, hb2⟩

set_option maxRecDepth 100000 in
theorem bset_any (g2 g : Nat) (neg : Bool) (V : Nat) (w : World) (hg2 : Box.Holds w g2 147 #[.bool false, .slice none 0 0]) (h : Big w g neg V) (hgg : g < g2) (hm : len W V ≤ 10000) :
    Calls Tryz.prog 104 #[.pointer (some ⟨g2, 0, none⟩), .pointer (some ⟨g, 0, none⟩)] w fun e w' => (e = .returned (.pointer (some ⟨g2, 0, none⟩)) ∧ Big w' g2 neg V) ∧ Below g2 w w' := by
  have hlt := h.lt
  have hlt2 := hg2.lt
  obtain ⟨v, hk, ho, hp⟩ := h
  have hns := Lib.hid fun q => nset_any v V _ (w.drewN q) ho hm
  have hq := neq_other (a := ⟨g2, 0, none⟩) (b := ⟨g, 0, none⟩) w (by simp only [ne_eq, Addr.mk.injEq, and_true]; omega) hg2 hk
  have k0 := hk.cell 0
  have k1 := hk.cell 1
  have j0 := hg2.cell 0
  have j1 := hg2.cell 1
  simp at k0 k1 j0 j1
  have hk' := Lib.hid hk
  have hg2' := Lib.hid hg2
  have hp' := Lib.hid hp
  have hne : ¬ g = g2 := by omega
  clear hk ho hg2 hp
  go_enter Tryz.func104, Tryz.ntmps104
  go_wp2_with fail
  have hkey : ∀ q w1, Below (w.drewN q).heap.size (w.drewN q) w1 → w1.cell? ⟨g2, 1, none⟩ = some (.slice none 0 0) ∧ w1.cell? ⟨g2, 0, none⟩ = some (.bool false) ∧ w1.frozen? ⟨g2, 1, none⟩ = false ∧ w1.frozen? ⟨g2, 0, none⟩ = false ∧ w1.cell? ⟨g, 0, none⟩ = some (.bool neg) ∧ g2 < w1.heap.size := fun q w1 hb => by
    have hh := (hg2'.out.drawn q).later hb
    have hj := (hk'.out.drawn q).later hb
    have e0 := hh.cell 0
    have e1 := hh.cell 1
    have e2 := hj.cell 0
    simp at e0 e1 e2
    exact ⟨e1, e0, hh.free 1, hh.free 0, e2, hh.lt⟩
  have hkey' := Lib.hid hkey
  have hend : ∀ q w1 a1 c1, Below (w.drewN q).heap.size (w.drewN q) w1 → IsNat w1 (w.drewN q).heap.size (.slice a1 (len W V) c1) V → Big ((w1.setCell ⟨g2, 1, none⟩ (.slice a1 (len W V) c1)).setCell ⟨g2, 0, none⟩ (.bool neg)) g2 neg V ∧ Below g2 w ((w1.setCell ⟨g2, 1, none⟩ (.slice a1 (len W V) c1)).setCell ⟨g2, 0, none⟩ (.bool neg)) := fun q w1 a1 c1 hb hu => by
    have hh := (hg2'.out.drawn q).later hb
    refine ⟨⟨_, ?_, World.ownsRow.mono (Box.own_above hu (((Box.Above.refl _ _).setCell (show g2 < (w.drewN q).heap.size from hlt2) _).setCell (show g2 < (w.drewN q).heap.size from hlt2) _)) (show g2 + 1 ≤ w.heap.size by omega), hp'.out⟩, ?_⟩
    · have := (hh.put 1 (.slice a1 (len W V) c1)).put 0 (.bool neg)
      simpa using this
    · have h0 : Below w.heap.size w w1 := (Box.below_drawn (Below.refl _ _) q).trans hb
      exact ((h0.mono (by omega)).setCell (p := ⟨g2, 1, none⟩) (Nat.le_refl g2) _).setCell (p := ⟨g2, 0, none⟩) (Nat.le_refl g2) _
  have hend' := Lib.hid hend
  clear hkey hend
  go_region_with (go_at_call 123; refine (hns.out _).mono ?_; rintro e w1 ⟨⟨u, rfl, hu⟩, hb⟩; obtain ⟨a1, c1, hv, -, -⟩ := hu.slice; subst hv; obtain ⟨e1, e0, f1, f0, e2, hl1⟩ := hkey'.out _ _ hb)
  all_goals
    have hfin := Lib.hid (hend'.out _ _ _ _ hb hu)
    clear hu
    go_wp2
    go_ret
    exact ⟨⟨rfl, hfin.out.1⟩, hfin.out.2⟩
end Go.Proofs.YtafbheamnjmfoaaGreat.Big

namespace Go.Proofs.YtafbheamnjmfoaaGreat.Big
open Go.RowKit Go.WideShapes Go.Proofs.YtafbheamnjmfoaaGreat.Own Go.Proofs.YtafbheamnjmfoaaGreat.Num Go.Proofs.YtafbheamnjmfoaaGreat.Ref Go.Proofs.YtafbheamnjmfoaaGreat.Nat_
set_option linter.unusedVariables false

/-- an integer of the language: a small one, or a pointer to a great one -/
def SInt (w : World) (B : Nat) (v : Value) (z : Int) : Prop :=
  (v = .agg #[.int .i64 z, .pointer none] ∧ isS z = true) ∨
  ∃ g neg V, v = .agg #[.int .i64 0, .pointer (some ⟨g, 0, none⟩)] ∧ B ≤ g ∧ Big w g neg V ∧ z = sg neg V ∧ isS z = false ∧ len W V ≤ 10000
theorem SInt.later {w w' : World} {B : Nat} {v : Value} {z : Int} (h : SInt w B v z) (hb : Below w.heap.size w w') : SInt w' B v z := by
  rcases h with h | ⟨g, neg, V, h1, h2, h3, h4⟩
  · exact .inl h
  · exact .inr ⟨g, neg, V, h1, h2, h3.later hb, h4⟩
theorem Big.put {w : World} {g : Nat} {neg : Bool} {V : Nat} (h : Big w g neg V) {p : Addr} (hp : p.block < g) (u : Value) : Big (w.setCell p u) g neg V := by
  obtain ⟨v, h1, h2, h3⟩ := h
  exact ⟨v, h1.apart (by omega) u, Box.own_above h2 ((Box.Above.refl _ _).setCell (by omega) u), h3⟩
theorem SInt.mono {w : World} {B B' : Nat} {v : Value} {z : Int} (h : SInt w B v z) (hB : B' ≤ B) : SInt w B' v z := by
  rcases h with h | ⟨g, neg, V, h1, h2, h3⟩
  · exact .inl h
  · exact .inr ⟨g, neg, V, h1, by omega, h3⟩
theorem isS_bounds {z : Int} (h : isS z = true) : -2147483648 ≤ z ∧ z ≤ 2147483647 := by simpa [isS] using h

set_option maxHeartbeats 1000000 in
set_option maxRecDepth 100000 in
theorem mbi_any (g : Nat) (neg : Bool) (V : Nat) (w : World) (h : Big w g neg V) (hm : len W V ≤ 10000) :
    Calls Tryz.prog 85 #[.pointer (some ⟨g, 0, none⟩)] w fun e w' => (∃ v, e = .returned v ∧ SInt w' w.heap.size v (sg neg V)) ∧ Below w.heap.size w w' := by
  have hlt := h.lt
  obtain ⟨Z, hZ⟩ : ∃ Z, sg neg V = Z := ⟨_, rfl⟩
  have hA : Big (w.alloc (.cells #[.int .i64 0, .pointer none] 90)) g neg V := h.later (below_one _ (Nat.le_refl _))
  have his := Lib.hid (issmall_any g neg V _ hA hm)
  rw [hZ] at his ⊢
  by_cases hs : isS Z = true
  · have hbd := isS_bounds hs
    have hi := Lib.hid (int64_any g neg V _ hA hm)
    have hw : wrap64 Z = Z := by unfold wrap64; omega
    rw [hZ, hw] at hi
    rw [hs] at his
    have hmk := Lib.hid fun w => mksmall_any Z w
    have hfin := Lib.hid (show ∀ w', SInt w' w.heap.size (.agg #[.int .i64 Z, .pointer none]) Z from fun w' => .inl ⟨rfl, hs⟩)
    clear hA hZ h hs hw
    go_enter Tryz.func85, Tryz.ntmps85
    go_wp2_with fail
    refine his.out.mono ?_
    rintro e w1 ⟨rfl, rfl⟩
    go_wp2_with fail
    refine hi.out.mono ?_
    rintro e w1 ⟨rfl, rfl⟩
    go_wp2_with fail
    refine (hmk.out _).mono ?_
    rintro e w1 ⟨rfl, hb1⟩
    have hk : Box.Holds w1 w.heap.size 90 #[.int .i64 0, .pointer none] := (Box.Holds.made w _ _).later hb1
    have hl1 := hk.lt
    have k0 := hk.cell 0
    have k1 := hk.cell 1
    simp at k0 k1
    have f0 := hk.free 0
    have f1 := hk.free 1
    go_wp2
    exact bodyPost_ret (v := .agg #[.int .i64 Z, .pointer none]) (by simp [results, Tryz.results85, go_sem, k0, k1]) rfl ⟨⟨_, rfl, hfin.out _⟩, ((((below_one _ (Nat.le_refl _)).trans (hb1.mono (by simp))).setCell (p := ⟨w.heap.size, 0, none⟩) (Nat.le_refl _) _).setCell (p := ⟨w.heap.size, 1, none⟩) (Nat.le_refl _) _)⟩
  · have hs' : isS Z = false := by simpa using hs
    rw [hs'] at his
    have hB : Big ((w.alloc (.cells #[.int .i64 0, .pointer none] 90)).alloc (.cells #[.bool false, .slice none 0 0] 147)) g neg V := hA.later (below_one _ (Nat.le_refl _))
    have hH : Box.Holds ((w.alloc (.cells #[.int .i64 0, .pointer none] 90)).alloc (.cells #[.bool false, .slice none 0 0] 147)) (w.heap.size + 1) 147 #[.bool false, .slice none 0 0] := by
      have := Box.Holds.made (w.alloc (.cells #[.int .i64 0, .pointer none] 90)) 147 #[.bool false, .slice none 0 0]
      simpa using this
    have hset := Lib.hid (bset_any (w.heap.size + 1) g neg V _ hH hB (by omega) hm)
    have hmk := Lib.hid fun w' => mkbig_any ⟨w.heap.size + 1, 0, none⟩ w'
    have hb0 : Below w.heap.size w ((w.alloc (.cells #[.int .i64 0, .pointer none] 90)).alloc (.cells #[.bool false, .slice none 0 0] 147)) := (below_one _ (Nat.le_refl _)).alloc (by simp) _
    have hk0 : Box.Holds ((w.alloc (.cells #[.int .i64 0, .pointer none] 90)).alloc (.cells #[.bool false, .slice none 0 0] 147)) w.heap.size 90 #[.int .i64 0, .pointer none] := (Box.Holds.made w _ _).alloc _
    have hb0' := Lib.hid hb0
    have hk0' := Lib.hid hk0
    have hZ' := Lib.hid hZ
    have hs1 := Lib.hid hs'
    clear hA hB hH hZ h hs hs' hb0 hk0
    go_enter Tryz.func85, Tryz.ntmps85
    go_wp2_with fail
    refine his.out.mono ?_
    rintro e w1 ⟨rfl, rfl⟩
    go_wp2_with fail
    refine hset.out.mono ?_
    rintro e w1 ⟨⟨rfl, hbig⟩, hb1⟩
    go_wp2_with fail
    refine (hmk.out _).mono ?_
    rintro e w2 ⟨rfl, hb2⟩
    have hb12 := hb1.trans (hb2.mono (Nat.le_of_lt hbig.lt))
    have hk : Box.Holds w2 w.heap.size 90 #[.int .i64 0, .pointer none] := hk0'.out.below hb12 (by omega)
    have hl1 := hk.lt
    have k0 := hk.cell 0
    have k1 := hk.cell 1
    simp at k0 k1
    have f0 := hk.free 0
    have f1 := hk.free 1
    have hb3 := ((hbig.later hb2).put (p := ⟨w.heap.size, 0, none⟩) (Nat.lt_succ_self _) (.int .i64 0)).put (p := ⟨w.heap.size, 1, none⟩) (Nat.lt_succ_self _) (.pointer (some ⟨w.heap.size + 1, 0, none⟩))
    have hb3' := Lib.hid hb3
    have hbel : Below w.heap.size w w2 := hb0'.out.trans (hb12.mono (by omega))
    clear hb3 hbig
    go_wp2
    exact bodyPost_ret (v := .agg #[.int .i64 0, .pointer (some ⟨w.heap.size + 1, 0, none⟩)]) (by simp [results, Tryz.results85, go_sem, k0, k1]) rfl ⟨⟨_, rfl, .inr ⟨w.heap.size + 1, neg, V, rfl, by omega, hb3'.out, hZ'.out.symm, hs1.out, hm⟩⟩, (hbel.setCell (p := ⟨w.heap.size, 0, none⟩) (Nat.le_refl _) _).setCell (p := ⟨w.heap.size, 1, none⟩) (Nat.le_refl _) _⟩
end Go.Proofs.YtafbheamnjmfoaaGreat.Big

namespace Go.Proofs.YtafbheamnjmfoaaGreat.Big
open Go.RowKit Go.WideShapes Go.Proofs.YtafbheamnjmfoaaGreat.Own Go.Proofs.YtafbheamnjmfoaaGreat.Num Go.Proofs.YtafbheamnjmfoaaGreat.Ref Go.Proofs.YtafbheamnjmfoaaGreat.Nat_
set_option linter.unusedVariables false

theorem words_one {x : Nat} (h0 : 0 < x) (h1 : x < W) : words x = dig W x 1 := by
  have h2 := (len_pos W_two (v := x)).2 h0
  have h3 := len_one h1
  unfold words
  rw [show len W x = 1 by omega]

set_option maxRecDepth 100000 in
theorem setword_any (x : Nat) (h0 : 0 < x) (h1 : x < W) (w : World) :
    Calls Tryz.prog 154 #[.slice none 0 0, .int .u64 x] w fun e w' => (∃ v, e = .returned v ∧ IsNat w' w.heap.size v x) ∧ Below w.heap.size w w' := by
  have hmk := Lib.hid (make_any 1 (by omega) w)
  have hx : x < 18446744073709551616 := h1
  have hwd := Lib.hid (words_one h0 h1)
  have hset := Lib.hid (ws_set x 0 1 x (by rw [Nat.pow_zero, Nat.div_one]; exact Nat.mod_eq_of_lt h1))
  have hb0 : ((x : Int) == 0) = false := by simp; omega
  have h1' := Lib.hid h1
  clear h1
  go_enter Tryz.func154, Tryz.ntmps154
  go_wp2_with fail
  refine hmk.out.mono ?_
  rintro e w1 ⟨⟨z, rfl, ho⟩, hb1⟩
  rcases ho.shape with ⟨rfl, hn⟩ | ⟨g, zc, rfl, hg, hB, hzc, hcell⟩
  · have := congrArg List.length hn; rw [dig_length] at this; simp at this
  · rw [dig_length] at ho hzc ⊢
    have hrow : w1.ownsRow w.heap.size 189 1 (.slice (some ⟨g, 0, none⟩) 1 zc) 1 (ws (dig W (x % W ^ 0) 1)) := by
      have := ho
      unfold OwnW at this
      rw [dig_length] at this
      rw [Nat.pow_zero, Nat.mod_one]
      exact this
    have hc0 := World.ownsRow.cellAt hrow 0 (by omega)
    have hf0 := World.ownsRow.frozenAt hrow 0
    have hst := World.ownsRow.stored hrow 0 (.int .u64 (x : Int))
    rw [hset.out] at hst
    obtain ⟨cv, hcv⟩ : ∃ cv, (ws (dig W (x % W ^ 0) 1))[0]? = some cv := ⟨_, List.getElem?_eq_getElem (by rw [ws_length, dig_length]; omega)⟩
    rw [hcv] at hc0
    have hfin := Lib.hid (show IsNat (w1.setCell ⟨g, 0, none⟩ (.int .u64 (x : Int))) w.heap.size (.slice (some ⟨g, 0, none⟩) 1 zc) x by
      have := hst.1
      rw [Nat.pow_one, Nat.mod_eq_of_lt h1'.out] at this
      unfold IsNat OwnW
      rw [hwd.out, dig_length]
      exact this)
    clear hrow hst hcv ho hcell
    go_wp2
    go_ret
    exact ⟨⟨_, rfl, hfin.out⟩, hb1.setCell hB _⟩

set_option maxRecDepth 100000 in
theorem setu64_any (x : Nat) (h0 : 0 < x) (h1 : x < W) (w : World) :
    Calls Tryz.prog 153 #[.slice none 0 0, .int .u64 x] w fun e w' => (∃ v, e = .returned v ∧ IsNat w' w.heap.size v x) ∧ Below w.heap.size w w' := by
  have hs := Lib.hid (setword_any x h0 h1 w)
  have hx : x < 18446744073709551616 := h1
  clear h1
  go_enter Tryz.func153, Tryz.ntmps153
  go_wp2_with fail
  refine hs.out.mono ?_
  rintro e w1 ⟨⟨z, rfl, ho⟩, hb1⟩
  go_wp2
  go_ret
  exact ⟨⟨_, rfl, ho⟩, hb1⟩

theorem Big.made2 {w1 : World} {g B : Nat} {a1 : Option Addr} {n1 c1 : Nat} {V : Nat} (hk : Box.Holds w1 g 147 #[.bool false, .slice none 0 0]) (ho : IsNat w1 B (.slice a1 n1 c1) V) (hg : g < B) (b : Bool) (hb : b = true → 0 < V) :
    Big ((w1.setCell ⟨g, 1, none⟩ (.slice a1 n1 c1)).setCell ⟨g, 0, none⟩ (.bool b)) g b V := by
  refine ⟨.slice a1 n1 c1, ?_, ?_, hb⟩
  · have := (hk.put 1 (.slice a1 n1 c1)).put 0 (.bool b)
    simpa using this
  · exact World.ownsRow.mono (Box.own_above ho (((Box.Above.refl _ _).setCell (by show g < B; exact hg) _).setCell (by show g < B; exact hg) _)) (by omega)

set_option maxRecDepth 100000 in
theorem set64_any (g : Nat) (z : Int) (hz : z ≠ 0) (h1 : -9223372036854775808 ≤ z) (h2 : z ≤ 9223372036854775807) (w : World) (hg : Box.Holds w g 147 #[.bool false, .slice none 0 0]) :
    Calls Tryz.prog 152 #[.pointer (some ⟨g, 0, none⟩), .int .i64 z] w fun e w' => (e = .returned (.pointer (some ⟨g, 0, none⟩)) ∧ Big w' g (decide (z < 0)) z.natAbs) ∧ Below g w w' := by
  obtain ⟨U, hU⟩ : ∃ U, z.natAbs = U := ⟨_, rfl⟩
  rw [hU]
  have hU0 : 0 < U := by omega
  have hs := Lib.hid (setu64_any U hU0 (by rw [W_eq]; omega) w)
  have k0 := hg.cell 0
  have k1 := hg.cell 1
  simp at k0 k1
  have hlt := hg.lt
  have hg' := Lib.hid hg
  have hfin : Hid (∀ w1 a1 n1 c1 b, Below w.heap.size w w1 → IsNat w1 w.heap.size (.slice a1 n1 c1) U → Big ((w1.setCell ⟨g, 1, none⟩ (.slice a1 n1 c1)).setCell ⟨g, 0, none⟩ (.bool b)) g b U) := Lib.hid fun w1 a1 n1 c1 b hb ho => Big.made2 (hg'.out.later hb) ho hlt b (fun _ => hU0)
  clear hg
  by_cases h0 : z < 0
  · have hd : decide (z < 0) = true := by simp [h0]
    have e1 : IntKind.u64.wrap (wrap64 (-z)) = U := by rw [IntKind.wrap_u64]; unfold wrap64; omega
    rw [hd]
    have e1' := e1
    clear hU h0 hz
    go_enter Tryz.func152, Tryz.ntmps152
    go_wp2_with fail
    refine hs.out.mono ?_
    rintro e w1 ⟨⟨v, rfl, ho⟩, hb⟩
    obtain ⟨a1, c1, hv, -, -⟩ := ho.slice
    subst hv
    have hk := hg'.out.later hb
    have k0 := hk.cell 0
    have k1 := hk.cell 1
    simp at k0 k1
    have hlt1 := hk.lt
    have f0 := hk.free 0
    have f1 := hk.free 1
    have hf := Lib.hid (hfin.out _ _ _ _ true hb ho)
    clear ho
    go_wp2
    go_ret
    exact ⟨⟨rfl, hf.out⟩, ((hb.mono (by omega)).setCell (p := ⟨g, 1, none⟩) (Nat.le_refl g) _).setCell (p := ⟨g, 0, none⟩) (Nat.le_refl g) _⟩
  · have hd : decide (z < 0) = false := by simp [h0]
    have e1 : IntKind.u64.wrap z = U := by rw [IntKind.wrap_u64]; omega
    rw [hd]
    clear hU hz
    go_enter Tryz.func152, Tryz.ntmps152
    go_wp2_with fail
    refine hs.out.mono ?_
    rintro e w1 ⟨⟨v, rfl, ho⟩, hb⟩
    obtain ⟨a1, c1, hv, -, -⟩ := ho.slice
    subst hv
    have hk := hg'.out.later hb
    have k0 := hk.cell 0
    have k1 := hk.cell 1
    simp at k0 k1
    have hlt1 := hk.lt
    have f0 := hk.free 0
    have f1 := hk.free 1
    have hf := Lib.hid (hfin.out _ _ _ _ false hb ho)
    clear ho
    go_wp2
    go_ret
    exact ⟨⟨rfl, hf.out⟩, ((hb.mono (by omega)).setCell (p := ⟨g, 1, none⟩) (Nat.le_refl g) _).setCell (p := ⟨g, 0, none⟩) (Nat.le_refl g) _⟩

end Go.Proofs.YtafbheamnjmfoaaGreat.Big

namespace Go.Proofs.YtafbheamnjmfoaaGreat.Big
open Go.RowKit Go.WideShapes Go.Proofs.YtafbheamnjmfoaaGreat.Own Go.Proofs.YtafbheamnjmfoaaGreat.Num Go.Proofs.YtafbheamnjmfoaaGreat.Ref Go.Proofs.YtafbheamnjmfoaaGreat.Nat_
set_option linter.unusedVariables false

theorem SInt.shape {w : World} {B : Nat} {v : Value} {z : Int} (h : SInt w B v z) : ∃ y p, v = .agg #[.int .i64 y, .pointer p] := by
  rcases h with ⟨rfl, _⟩ | ⟨g, neg, V, rfl, _⟩
  · exact ⟨_, _, rfl⟩
  · exact ⟨_, _, rfl⟩
theorem SInt.put {w : World} {B : Nat} {v : Value} {z : Int} (h : SInt w B v z) {p : Addr} (hp : p.block < B) (u : Value) : SInt (w.setCell p u) B v z := by
  rcases h with h | ⟨g, neg, V, h1, h2, h3, h4⟩
  · exact .inl h
  · exact .inr ⟨g, neg, V, h1, h2, h3.put (by omega) u, h4⟩
theorem SInt.put2 {w : World} {B : Nat} {z : Int} {y : Int} {q : Option Addr} (h : SInt w B (.agg #[.int .i64 y, .pointer q]) z) {b : Nat} (hb : b < B) : SInt ((w.setCell ⟨b, 0, none⟩ (.int .i64 y)).setCell ⟨b, 1, none⟩ (.pointer q)) b (.agg #[.int .i64 y, .pointer q]) z :=
  ((h.put (p := ⟨b, 0, none⟩) hb _).put (p := ⟨b, 1, none⟩) hb _).mono (Nat.le_of_lt hb)

theorem sg_turn (V : Nat) : sg (decide (0 < V) && !false) V = sg true V := by
  by_cases h : V = 0
  · subst h; rfl
  · rw [show decide (0 < V) = true by simp; omega]; rfl

/-- a value as cells -/
def valc (k : Int) (neg : Bool) (a : Option Addr) (n c : Nat) (b : Int) (t : ByteArray) (ka : Option Addr) (kn kc : Nat) : Array Value := #[.int .i64 k, .bool neg, .slice a n c, .int .u64 b, .string t, .slice ka kn kc]

set_option maxHeartbeats 2000000 in
set_option maxRecDepth 100000 in
theorem whole_any (k : Int) (neg : Bool) (a : Option Addr) (l : List UInt8) (c : Nat) (b : Int) (t : ByteArray) (ka : Option Addr) (kn kc : Nat) (w : World) (h : Rd w a l) (hl : l.length ≤ 1000) (hc : l.length ≤ c) :
    Calls Tryz.prog 41 #[.agg #[.int .i64 k, .bool neg, .slice a l.length c, .int .u64 b, .string t, .slice ka kn kc]] w fun e w' => (∃ v, e = .returned v ∧ SInt w' w.heap.size v (sg neg (be l))) ∧ Below w.heap.size w w' := by
  have hV := be_lt_words l 1000 (by omega)
  obtain ⟨W1, hW1⟩ : ∃ X, w.alloc (.cells #[.int .i64 k, .bool neg, .slice a l.length c, .int .u64 b, .string t, .slice ka kn kc] 28) = X := ⟨_, rfl⟩
  have hm : len W (be l) ≤ 10000 := Nat.le_trans (len_le W_two hV) (by omega)
  obtain ⟨n, hn⟩ : ∃ n, l.length = n := ⟨_, rfl⟩
  obtain ⟨V, hVe⟩ : ∃ V, be l = V := ⟨_, rfl⟩
  clear hW1 hV
  have k1 : (w.alloc (.cells #[.int .i64 k, .bool neg, .slice a n c, .int .u64 b, .string t, .slice ka kn kc] 28)).cell? ⟨w.heap.size, 1, none⟩ = some (.bool neg) := by rw [World.cell?_alloc_at _ _ _ _ rfl]; rfl
  have k2 : (w.alloc (.cells #[.int .i64 k, .bool neg, .slice a n c, .int .u64 b, .string t, .slice ka kn kc] 28)).cell? ⟨w.heap.size, 2, none⟩ = some (.slice a n c) := by rw [World.cell?_alloc_at _ _ _ _ rfl]; rfl
  obtain ⟨o1, ho1⟩ : ∃ o, o = (Obj.cells #[.int .i64 k, .bool neg, .slice a n c, .int .u64 b, .string t, .slice ka kn kc] 28) := ⟨_, rfl⟩
  have hsz : ((w.alloc o1).alloc (.cells #[.int .i64 0, .pointer none] 90)).heap.size = w.heap.size + 2 := by simp
  have hB0 : Below w.heap.size w (((w.alloc o1).alloc (.cells #[.int .i64 0, .pointer none] 90)).alloc (.cells #[.bool false, .slice none 0 0] 147)) := ((below_one _ (Nat.le_refl _)).alloc (by simp) _).alloc (by simp; omega) _
  have hHb : Box.Holds (((w.alloc o1).alloc (.cells #[.int .i64 0, .pointer none] 90)).alloc (.cells #[.bool false, .slice none 0 0] 147)) (w.heap.size + 2) 147 #[.bool false, .slice none 0 0] := by
    have := Box.Holds.made ((w.alloc o1).alloc (.cells #[.int .i64 0, .pointer none] 90)) 147 #[.bool false, .slice none 0 0]
    rw [hsz] at this
    exact this
  have hHs : Box.Holds (((w.alloc o1).alloc (.cells #[.int .i64 0, .pointer none] 90)).alloc (.cells #[.bool false, .slice none 0 0] 147)) (w.heap.size + 1) 90 #[.int .i64 0, .pointer none] := by
    have := (Box.Holds.made (w.alloc o1) 90 #[.int .i64 0, .pointer none]).alloc (.cells #[.bool false, .slice none 0 0] 147)
    simpa using this
  have hHv : Box.Holds (((w.alloc o1).alloc (.cells #[.int .i64 0, .pointer none] 90)).alloc (.cells #[.bool false, .slice none 0 0] 147)) w.heap.size 28 #[.int .i64 k, .bool neg, .slice a n c, .int .u64 b, .string t, .slice ka kn kc] := by
    have := ((Box.Holds.made w 28 #[.int .i64 k, .bool neg, .slice a n c, .int .u64 b, .string t, .slice ka kn kc]).alloc (.cells #[.int .i64 0, .pointer none] 90)).alloc (.cells #[.bool false, .slice none 0 0] 147)
    rw [ho1]
    exact this
  have hset := setb_any (w.heap.size + 2) a c l _ hHb (h.later hB0) hl hc
  rw [hn, hVe] at hset
  rw [hVe] at hm
  rw [hn] at hl hc ⊢
  rw [hVe]
  rw [ho1] at hset hB0 hHs hHv
  have hset' := Lib.hid hset
  have hB0' := Lib.hid hB0
  have hHs' := Lib.hid hHs
  have hHv' := Lib.hid hHv
  clear hset hB0 hHs hHv hHb hsz ho1 h hVe hn
  go_enter Tryz.func41, Tryz.ntmps41
  go_wp2_with fail
  refine hset'.out.mono ?_
  rintro e w1 ⟨⟨rfl, hbig⟩, hb1⟩
  have hbel : Below w.heap.size w w1 := hB0'.out.trans (hb1.mono (by omega))
  have hs1 := hHs'.out.below hb1 (by omega)
  have hv1 := hHv'.out.below hb1 (by omega)
  have c1 := hv1.cell 1
  simp at c1
  have hl1 := hv1.lt
  cases neg
  · have hmbi := Lib.hid (mbi_any _ _ _ w1 hbig hm)
    have hs2 := hs1
    have hl2 := hs2.lt
    have hbel2 := hbel
    clear hbig
    go_wp2_with fail
    refine hmbi.out.mono ?_
    rintro e w3 ⟨⟨v, rfl, hs⟩, hb3⟩
    obtain ⟨y, q, rfl⟩ := hs.shape
    have hk := hs2.later hb3
    have hl3 := hk.lt
    have k0 := hk.cell 0
    have k1 := hk.cell 1
    simp at k0 k1
    have f0 := hk.free 0
    have f1 := hk.free 1
    have hfin := Lib.hid ((hs.put2 hl2).mono (Nat.le_succ w.heap.size))
    have hbel3 : Below w.heap.size w w3 := hbel2.trans (hb3.mono hbel2.size)
    clear hs
    go_wp2
    exact bodyPost_ret (v := .agg #[.int .i64 y, .pointer q]) (by simp [results, Tryz.results41, go_sem, k0, k1]) rfl ⟨⟨_, rfl, hfin.out⟩, (hbel3.setCell (p := ⟨w.heap.size + 1, 0, none⟩) (Nat.le_succ _) _).setCell (p := ⟨w.heap.size + 1, 1, none⟩) (Nat.le_succ _) _⟩
  · have hneg := Lib.hid (neg_any _ _ _ w1 hbig hm)
    clear hbig
    go_wp2_with fail
    refine hneg.out.mono ?_
    rintro e w2 ⟨⟨rfl, hbig⟩, hb2⟩
    have hmbi := Lib.hid (mbi_any _ _ _ w2 hbig hm)
    rw [sg_turn] at hmbi
    have hs2 := hs1.below hb2 (by omega)
    have hl2 := hs2.lt
    have hbel2 : Below w.heap.size w w2 := hbel.trans (hb2.mono (by omega))
    clear hbig
    go_wp2_with fail
    refine hmbi.out.mono ?_
    rintro e w3 ⟨⟨v, rfl, hs⟩, hb3⟩
    obtain ⟨y, q, rfl⟩ := hs.shape
    have hk := hs2.later hb3
    have hl3 := hk.lt
    have k0 := hk.cell 0
    have k1 := hk.cell 1
    simp at k0 k1
    have f0 := hk.free 0
    have f1 := hk.free 1
    have hfin := Lib.hid ((hs.put2 hl2).mono (Nat.le_succ w.heap.size))
    have hbel3 : Below w.heap.size w w3 := hbel2.trans (hb3.mono hbel2.size)
    clear hs
    go_wp2
    exact bodyPost_ret (v := .agg #[.int .i64 y, .pointer q]) (by simp [results, Tryz.results41, go_sem, k0, k1]) rfl ⟨⟨_, rfl, hfin.out⟩, (hbel3.setCell (p := ⟨w.heap.size + 1, 0, none⟩) (Nat.le_succ _) _).setCell (p := ⟨w.heap.size + 1, 1, none⟩) (Nat.le_succ _) _⟩

end Go.Proofs.YtafbheamnjmfoaaGreat.Big

namespace Go.Proofs.YtafbheamnjmfoaaGreat.Big
open Go.RowKit Go.WideShapes Go.Proofs.YtafbheamnjmfoaaGreat.Own Go.Proofs.YtafbheamnjmfoaaGreat.Num Go.Proofs.YtafbheamnjmfoaaGreat.Ref Go.Proofs.YtafbheamnjmfoaaGreat.Nat_
set_option linter.unusedVariables false

/-- the integer that block g holds, wherever its words lie -/
def BigAt (w : World) (g : Nat) (neg : Bool) (V : Nat) : Prop := ∃ v B, Box.Holds w g 147 #[.bool neg, v] ∧ IsNat w B v V ∧ (neg = true → 0 < V)
theorem Big.at_ {w : World} {g : Nat} {neg : Bool} {V : Nat} (h : Big w g neg V) : BigAt w g neg V := by
  obtain ⟨v, h1, h2, h3⟩ := h
  exact ⟨v, g + 1, h1, h2, h3⟩
theorem BigAt.lt {w : World} {g : Nat} {neg : Bool} {V : Nat} (h : BigAt w g neg V) : g < w.heap.size := by
  obtain ⟨v, B, h1, _⟩ := h
  exact h1.lt
theorem BigAt.later {w w' : World} {g : Nat} {neg : Bool} {V : Nat} (h : BigAt w g neg V) (hb : Below w.heap.size w w') : BigAt w' g neg V := by
  obtain ⟨v, B, h1, h2, h3⟩ := h
  exact ⟨v, B, h1.later hb, h2.later hb, h3⟩

/-- a new one -/
def NewB (z : Int) (w : World) (e : Ending) (w' : World) : Prop := ∃ g, e = .returned (.pointer (some ⟨g, 0, none⟩)) ∧ BigAt w' g (decide (z < 0)) z.natAbs ∧ Below w.heap.size w w' ∧ w.heap.size ≤ g

theorem own_one (w : World) (x : Nat) : OwnW (w.alloc (.cells #[.int .u64 (x : Int)] 189)) w.heap.size (.slice (some ⟨w.heap.size, 0, none⟩) 1 1) [x] := by
  have := World.ownsRow_lit (base := w.heap.size) (e := 189) (size := 1) w #[.int .u64 (x : Int)] 1 (Nat.le_refl _) (by decide) (by simp)
  simpa [OwnW, ws] using this

set_option maxHeartbeats 1000000 in
set_option maxRecDepth 100000 in
theorem newint_any (z : Int) (h1 : -9223372036854775808 ≤ z) (h2 : z ≤ 9223372036854775807) (w : World) : Calls Tryz.prog 127 #[.int .i64 z] w (NewB z w) := by
  by_cases h0 : z = 0
  · subst h0
    go_enter Tryz.func127, Tryz.ntmps127
    go_wp2
    go_ret
    exact ⟨_, rfl, ⟨_, 0, Box.Holds.made _ _ _, (show IsNat _ 0 (.slice none 0 0) 0 from World.ownsRow_nil _ _ _ _), fun h => by simp at h⟩, below_one _ (Nat.le_refl _), Nat.le_refl _⟩
  · obtain ⟨U, hU⟩ : ∃ U, z.natAbs = U := ⟨_, rfl⟩
    have hU0 : 0 < U := by omega
    have hUW : U < W := by rw [W_eq]; omega
    have hw1 : words U = [U] := by
      rw [words_one hU0 hUW]
      simp [dig, Nat.mod_eq_of_lt hUW]
    have hb0 : (z == 0) = false := by simp [h0]
    have hown : IsNat (w.alloc (.cells #[.int .u64 (U : Int)] 189)) w.heap.size (.slice (some ⟨w.heap.size, 0, none⟩) 1 1) U := by
      unfold IsNat
      rw [hw1]
      exact own_one w U
    have hfin := Lib.hid (show ∀ b : Bool, (b = true → 0 < U) → BigAt ((w.alloc (.cells #[.int .u64 (U : Int)] 189)).alloc (.cells #[.bool b, .slice (some ⟨w.heap.size, 0, none⟩) 1 1] 147)) (w.heap.size + 1) b U ∧ Below w.heap.size w ((w.alloc (.cells #[.int .u64 (U : Int)] 189)).alloc (.cells #[.bool b, .slice (some ⟨w.heap.size, 0, none⟩) 1 1] 147)) from fun b hb => by
      refine ⟨⟨_, w.heap.size, ?_, hown.later (below_one _ (Nat.le_refl _)), hb⟩, (below_one _ (Nat.le_refl _)).alloc (by simp) _⟩
      have := Box.Holds.made (w.alloc (.cells #[.int .u64 (U : Int)] 189)) 147 #[.bool b, .slice (some ⟨w.heap.size, 0, none⟩) 1 1]
      rwa [show (w.alloc (.cells #[.int .u64 (U : Int)] 189)).heap.size = w.heap.size + 1 by simp] at this)
    unfold NewB
    rw [hU]
    by_cases hneg : z < 0
    · have e1 : IntKind.u64.wrap (-IntKind.u64.wrap z) = U := by rw [IntKind.wrap_u64, IntKind.wrap_u64]; omega
      have d0 : decide (z < 0) = true := by simp [hneg]
      rw [d0]
      clear hown hw1 hU h0 hneg
      go_enter Tryz.func127, Tryz.ntmps127
      go_wp2
      go_ret
      exact ⟨_, rfl, (hfin.out true (fun _ => hU0)).1, (hfin.out true (fun _ => hU0)).2, Nat.le_succ _⟩
    · have e1 : IntKind.u64.wrap z = U := by rw [IntKind.wrap_u64]; omega
      have d0 : decide (z < 0) = false := by simp [hneg]
      rw [d0]
      clear hown hw1 hU h0 hneg
      go_enter Tryz.func127, Tryz.ntmps127
      go_wp2
      go_ret
      exact ⟨_, rfl, (hfin.out false (fun h => by cases h)).1, (hfin.out false (fun h => by cases h)).2, Nat.le_succ _⟩

/-- a pointer to the number z -/
def BigOf (z : Int) (w : World) (e : Ending) (w' : World) : Prop := ∃ g neg V, e = .returned (.pointer (some ⟨g, 0, none⟩)) ∧ BigAt w' g neg V ∧ sg neg V = z ∧ len W V ≤ 10000 ∧ Below w.heap.size w w'
theorem sg_abs (z : Int) : sg (decide (z < 0)) z.natAbs = z := by
  unfold sg
  by_cases h0 : z < 0
  · simp [h0]; omega
  · simp [h0]; omega
theorem NewB.of {z : Int} (h1 : -9223372036854775808 ≤ z) (h2 : z ≤ 9223372036854775807) {w : World} {e : Ending} {w' : World} (h : NewB z w e w') : BigOf z w e w' := by
  obtain ⟨g, he, hb, hbel, -⟩ := h
  exact ⟨g, _, _, he, hb, sg_abs z, Nat.le_trans (len_one (by rw [W_eq]; omega)) (by omega), hbel⟩

set_option maxHeartbeats 1000000 in
set_option maxRecDepth 100000 in
theorem sBig_any (v : Value) (z : Int) (B : Nat) (w : World) (h : SInt w B v z) : Calls Tryz.prog 109 #[v] w (BigOf z w) := by
  rcases h with ⟨rfl, hs⟩ | ⟨g, neg, V, rfl, hg, hbig, hz, hs, hm⟩
  · have hbd := isS_bounds hs
    have hget := Lib.hid fun w => get_any z none w
    have hnew := Lib.hid fun W => newint_any z (by omega) (by omega) W
    have hof := Lib.hid (show ∀ W e W', NewB z W e W' → BigOf z W e W' from fun W e W' h => h.of (by omega) (by omega))
    have k0 : (w.alloc (.cells #[.int .i64 z, .pointer none] 90)).cell? ⟨w.heap.size, 0, none⟩ = some (.int .i64 z) := by rw [World.cell?_alloc_at _ _ _ _ rfl]; rfl
    have k1 : (w.alloc (.cells #[.int .i64 z, .pointer none] 90)).cell? ⟨w.heap.size, 1, none⟩ = some (.pointer none) := by rw [World.cell?_alloc_at _ _ _ _ rfl]; rfl
    clear hs
    go_enter Tryz.func109, Tryz.ntmps109
    go_wp2_with fail
    refine (hget.out _).mono ?_
    rintro e w1 ⟨rfl, hb1⟩
    have hbw : Below w.heap.size w w1 := (below_one _ (Nat.le_refl _)).trans (hb1.mono (by simp))
    clear hb1
    go_wp2_with fail
    refine (hnew.out _).mono ?_
    rintro e w2 hnb
    obtain ⟨g, neg, V, rfl, hbig, hz, hm, hb2⟩ := hof.out _ _ _ hnb
    have hfin := Lib.hid (show BigAt w2 g neg V ∧ sg neg V = z ∧ len W V ≤ 10000 ∧ Below w.heap.size w w2 from ⟨hbig, hz, hm, hbw.trans (hb2.mono hbw.size)⟩)
    clear hbig hz hm hb2 hbw hnb
    go_wp2
    go_ret
    exact ⟨_, _, _, rfl, hfin.out.1, hfin.out.2.1, hfin.out.2.2.1, hfin.out.2.2.2⟩
  · have hget := Lib.hid fun w => get_any 0 (some ⟨g, 0, none⟩) w
    have hset := Lib.hid fun g2 W hk hb hlt => bset_any g2 g neg V W hk hb hlt hm
    have k0 : (w.alloc (.cells #[.int .i64 0, .pointer (some ⟨g, 0, none⟩)] 90)).cell? ⟨w.heap.size, 0, none⟩ = some (.int .i64 0) := by rw [World.cell?_alloc_at _ _ _ _ rfl]; rfl
    have k1 : (w.alloc (.cells #[.int .i64 0, .pointer (some ⟨g, 0, none⟩)] 90)).cell? ⟨w.heap.size, 1, none⟩ = some (.pointer (some ⟨g, 0, none⟩)) := by rw [World.cell?_alloc_at _ _ _ _ rfl]; rfl
    have hbig' := Lib.hid hbig
    have hz' := Lib.hid hz
    clear hz hs hbig
    go_enter Tryz.func109, Tryz.ntmps109
    go_wp2_with fail
    refine (hget.out _).mono ?_
    rintro e w1 ⟨rfl, hb1⟩
    have hbw : Below w.heap.size w w1 := (below_one _ (Nat.le_refl _)).trans (hb1.mono (by simp))
    have hs2 := Lib.hid (hset.out w1.heap.size (w1.alloc (.cells #[.bool false, .slice none 0 0] 147)) (Box.Holds.made _ _ _) ((hbig'.out.later hbw).later (below_one _ (Nat.le_refl _))) (hbig'.out.later hbw).lt)
    have hbw' := Lib.hid hbw
    clear hb1 hbw
    go_wp2_with fail
    refine hs2.out.mono ?_
    rintro e w2 ⟨⟨rfl, hbg⟩, hb2⟩
    have hfin := Lib.hid (show BigAt w2 w1.heap.size neg V ∧ sg neg V = z ∧ len W V ≤ 10000 ∧ Below w.heap.size w w2 from ⟨hbg.at_, hz'.out.symm, hm, (hbw'.out.alloc hbw'.out.size _).trans (hb2.mono hbw'.out.size)⟩)
    clear hbg hb2 hbw' hs2 hbig' hz'
    go_wp2
    go_ret
    exact ⟨_, _, _, rfl, hfin.out.1, hfin.out.2.1, hfin.out.2.2.1, hfin.out.2.2.2⟩
end Go.Proofs.YtafbheamnjmfoaaGreat.Big
