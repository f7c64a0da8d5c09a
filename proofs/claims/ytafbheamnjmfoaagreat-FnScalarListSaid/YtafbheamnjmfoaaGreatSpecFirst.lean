/-
  Slices of bytes that a call owns, said by their list alone: what append does to them, and the text that they are. The reference's integers: the walks of its small functions. A magnitude's bytes are those of its number.
-/
import Derived.Test.YtafbheamnjmfoaaGreatRowsOwn
import Derived.Test.YtafbheamnjmfoaaGreatNumLaws
import Derived.Test.YtafbheamnjmfoaaGreatNatFirst
import Derived.LoopTactic
import Derived.Outline
import Derived.WalkSpells
import Derived.WalkLawsBesides
import Derived.Lib.Hide
import Derived.OpenShut
import Derived.Deep.QuietTactic
import Derived.BigQuiet
import Derived.Deep.LoopGhost
import Derived.Laws.AppendOwnNone
import Derived.Deep.Onto
namespace Go.Proofs.YtafbheamnjmfoaaGreat.Own
open Go.RowKit

/-- the value owns just these bytes, in blocks from B on -/
def Owns (w : World) (B : Nat) (v : Value) (l : List UInt8) : Prop := w.ownsRow B 5 1 v l.length (bs l)
theorem Owns.nil (w : World) (B : Nat) : Owns w B (.slice none 0 0) [] := World.ownsRow_nil _ _ _ _
theorem Owns.later {w w' : World} {B : Nat} {v : Value} {l : List UInt8} (h : Owns w B v l) (hb : Below w.heap.size w w') : Owns w' B v l := own_below h hb
theorem Owns.conv {w : World} {B : Nat} {v : Value} {l : List UInt8} (h : Owns w B v l) :
    ∀ dst, Tryz.prog.underlying dst = some .string → (convert 25 dst v).run Tryz.prog w = .ok (.string ⟨l.toArray⟩) w := conv_own h
theorem Owns.eq {w : World} {B : Nat} {v : Value} {l l' : List UInt8} (h : Owns w B v l) (e : l = l') : Owns w B v l' := e ▸ h

theorem Owns.slice {w : World} {B : Nat} {v : Value} {l : List UInt8} (h : Owns w B v l) (hne : l ≠ []) :
    ∃ g cap, v = .slice (some ⟨g, 0, none⟩) l.length cap ∧ ∀ j (hj : j < l.length), w.cell? ((⟨g, 0, none⟩ : Addr).add j) = some (.int .u8 (l[j].toNat : Int)) := by
  rcases (show w.ownsRow B 5 1 v l.length (bs l) from h).2 with ⟨_, h0⟩ | ⟨g, cap, cur, rfl, _, _⟩
  · exact absurd (List.eq_nil_of_length_eq_zero h0) hne
  · exact ⟨g, cap, rfl, fun j hj => World.ownsRow.cells h (g := g) rfl j _ (by simp [bs, List.getElem?_eq_getElem hj])⟩

theorem wpList_byte {ops : Array Oper} {rest : List Oper} {o : Oper} {a : Act} {Q : Exit → Act → World → Prop} {w0 wr : World} {B : Nat} (hgd : o.guard = none) (s x : Operand)
    (ho : o.op = .call { callee := .builtin .append, args := #[s, x], argTypes := #[25, 25] })
    (v : Value) (l : List UInt8) (hs : a.eval s = v) (hown : Owns wr B v l) (hb : Below B w0 wr) (hB : B ≤ w0.heap.size) (b : UInt8)
    (hx : a.eval x = .slice (some ⟨wr.heap.size, 0, none⟩) 1 1) (hn : l.length ≤ 1000000000000)
    (h : ∀ v' w', Owns w' B v' (l ++ [b]) → Below B w0 w' → wpList Tryz.prog ops Q rest (a.put o.dst v') w') :
    wpList Tryz.prog ops Q (o :: rest) a (wr.alloc (.cells #[.int .u8 b.toNat] 5)) :=
  wpList_append_byte hgd s x ho v l.length l hs hown hb hB b hx hn fun v' w' h1 h2 => h v' w' (by unfold Owns; rw [List.length_append]; exact h1) h2

theorem wpList_text {ops : Array Oper} {rest : List Oper} {o : Oper} {a : Act} {Q : Exit → Act → World → Prop} {w0 wr : World} {B : Nat} (hgd : o.guard = none) (s x : Operand)
    (ho : o.op = .call { callee := .builtin .append, args := #[s, x], argTypes := #[25, 9] })
    (v : Value) (l : List UInt8) (hs : a.eval s = v) (hown : Owns wr B v l) (hb : Below B w0 wr) (hB : B ≤ w0.heap.size) (t : ByteArray)
    (hx : a.eval x = .string t) (hn : l.length + t.size ≤ 1000000000000)
    (h : ∀ v' w', Owns w' B v' (l ++ t.data.toList) → Below B w0 w' → wpList Tryz.prog ops Q rest (a.put o.dst v') w') :
    wpList Tryz.prog ops Q (o :: rest) a wr :=
  wpList_append_text hgd s x ho v l.length l hs hown hb hB t hx hn fun v' w' h1 h2 => h v' w' (by unfold Owns; rw [List.length_append]; exact h1) h2

/-- 'append(v, row...)': a row of bytes whose cells are known (another slice, an array's part, a literal of several bytes) -/
theorem wpList_bytes {ops : Array Oper} {rest : List Oper} {o : Oper} {a : Act} {Q : Exit → Act → World → Prop} {w0 wr : World} {B : Nat} (hgd : o.guard = none) (s x : Operand)
    (ho : o.op = .call { callee := .builtin .append, args := #[s, x], argTypes := #[25, 25] })
    (v : Value) (l : List UInt8) (hs : a.eval s = v) (hown : Owns wr B v l) (hb : Below B w0 wr) (hB : B ≤ w0.heap.size) (t : List UInt8) (ad : Addr) (m c : Nat)
    (hx : a.eval x = .slice (some ad) m c) (hm : t.length = m) (hc : ∀ j (hj : j < t.length), wr.cell? (ad.add j) = some (.int .u8 (t[j].toNat : Int))) (hn : l.length + t.length ≤ 1000000000000)
    (h : ∀ v' w', Owns w' B v' (l ++ t) → Below B w0 w' → wpList Tryz.prog ops Q rest (a.put o.dst v') w') :
    wpList Tryz.prog ops Q (o :: rest) a wr := by
  obtain ⟨i0, hi, hz0, hz1, hz2⟩ := info_parts info_u8
  have hsz := hb.size
  subst hm
  refine wpList_append_own wr hgd s x 25 ho B 5 i0 (.int .u8 0) 1 1 Tryz.underlying25 hi hz0 hz1 hz2 rfl (by decide) v l.length (bs l) hs hown ad t.length c (bs t) hx (by rw [bs_length, Nat.mul_one])
    ?_ ?_ (by unfold maxLen; omega) (by omega) (by omega) ?_
  · intro j u hu
    simp only [bs, List.getElem?_map, Option.map_eq_some_iff] at hu
    obtain ⟨x, hx1, rfl⟩ := hu
    obtain ⟨hj, rfl⟩ := List.getElem?_eq_some_iff.1 hx1
    exact hc j hj
  · intro u hu
    simp only [bs, List.mem_map] at hu
    obtain ⟨x, _, rfl⟩ := hu
    rfl
  · intro v' w' hown' hg _
    refine h v' w' ?_ (hb.grown hg (by omega) fun k hk => (World.ownsRow.lt hown k hk).1)
    unfold Owns
    rw [List.length_append]
    simpa [bs] using hown'

/-- 'append(v, b0, b1, ..)': a literal of several bytes, laid just ahead of the append -/
theorem wpList_lits {ops : Array Oper} {rest : List Oper} {o : Oper} {a : Act} {Q : Exit → Act → World → Prop} {w0 wr : World} {B : Nat} (hgd : o.guard = none) (s x : Operand)
    (ho : o.op = .call { callee := .builtin .append, args := #[s, x], argTypes := #[25, 25] })
    (v : Value) (l : List UInt8) (hs : a.eval s = v) (hown : Owns wr B v l) (hb : Below B w0 wr) (hB : B ≤ w0.heap.size) (t : List UInt8) (m : Nat) (hm : t.length = m) (cs : Array Value) (hcs : (bs t).toArray = cs)
    (hx : a.eval x = .slice (some ⟨wr.heap.size, 0, none⟩) m m) (hn : l.length + t.length ≤ 1000000000000)
    (h : ∀ v' w', Owns w' B v' (l ++ t) → Below B w0 w' → wpList Tryz.prog ops Q rest (a.put o.dst v') w') :
    wpList Tryz.prog ops Q (o :: rest) a (wr.alloc (.cells cs 5)) := by
  have hsz := hb.size
  refine wpList_bytes hgd s x ho v l hs (hown.later ((Below.refl _ _).alloc (Nat.le_refl _) _)) (hb.alloc (by omega) _) hB t ⟨wr.heap.size, 0, none⟩ m m hx hm ?_ hn h
  intro j hj
  subst hcs
  rw [show ((⟨wr.heap.size, 0, none⟩ : Addr).add j) = ⟨wr.heap.size, j, none⟩ by unfold Addr.add; split <;> simp_all]
  rw [World.cell?_alloc_at _ _ _ _ rfl]
  simp [bs, List.getElem?_eq_getElem hj]

/-- the same as one step of a region that draws its order -/
theorem step_lits {ops : Array Oper} {o : Oper} {a : Act} {K : Act → World → Prop} {Q : Exit → Act → World → Prop} {E : Prop} {w0 wr : World} {B : Nat} (hgd : o.guard = none) (s x : Operand)
    (ho : o.op = .call { callee := .builtin .append, args := #[s, x], argTypes := #[25, 25] })
    (v : Value) (l : List UInt8) (hs : a.eval s = v) (hown : Owns wr B v l) (hb : Below B w0 wr) (hB : B ≤ w0.heap.size) (t : List UInt8) (m : Nat) (hm : t.length = m) (cs : Array Value) (hcs : (bs t).toArray = cs)
    (hx : a.eval x = .slice (some ⟨wr.heap.size, 0, none⟩) m m) (hn : l.length + t.length ≤ 1000000000000)
    (h : ∀ v' w', Owns w' B v' (l ++ t) → Below B w0 w' → K (a.put o.dst v') w') :
    if Region.wanted o (yielded ops a.tmps) = true then Oper.wp Tryz.prog o a (wr.alloc (.cells cs 5)).drew K Q else E := by
  have hw : Region.wanted o (yielded ops a.tmps) = true := by simp [Region.wanted, hgd]
  rw [if_pos hw]
  obtain ⟨i0, hi, hz0, hz1, hz2⟩ := info_parts info_u8
  have hsz := hb.size
  subst hm
  have hown' : (wr.alloc (.cells cs 5)).drew.ownsRow B 5 1 v l.length (bs l) := hown.alloc _
  refine wp_append_own _ s x 25 ho B 5 i0 (.int .u8 0) 1 1 Tryz.underlying25 hi hz0 hz1 hz2 rfl (by decide) v l.length (bs l) hs hown' ⟨wr.heap.size, 0, none⟩ t.length t.length (bs t) hx (by rw [bs_length, Nat.mul_one])
    ?_ ?_ (by unfold maxLen; omega) (by omega) (by simp; omega) ?_
  · intro j u hu
    subst hcs
    rw [show ((⟨wr.heap.size, 0, none⟩ : Addr).add j) = ⟨wr.heap.size, j, none⟩ by unfold Addr.add; split <;> simp_all]
    show (wr.alloc _).cell? _ = _
    rw [World.cell?_alloc_at _ _ _ _ rfl]
    simpa using hu
  · intro u hu
    simp only [bs, List.mem_map] at hu
    obtain ⟨x, _, rfl⟩ := hu
    rfl
  · intro v' w' hown2 hg _
    have hb' : Below B w0 (wr.alloc (.cells cs 5)).drew := (hb.alloc (by omega) _).drew
    refine h v' w' ?_ (hb'.grown hg (by simp; omega) fun k hk => (World.ownsRow.lt hown k hk).1)
    unfold Owns
    rw [List.length_append]
    simpa [bs] using hown2
end Go.Proofs.YtafbheamnjmfoaaGreat.Own

namespace Go.Proofs.YtafbheamnjmfoaaGreat.Ref
open Go.RowKit Go.WideShapes Go.Proofs.YtafbheamnjmfoaaGreat.Own Go.Proofs.YtafbheamnjmfoaaGreat.Num
set_option linter.unusedVariables false

/-- a slice's address leads to these bytes -/
def Rd (w : World) (a : Option Addr) (l : List UInt8) : Prop :=
  (a = none ∧ l = []) ∨ ∃ x : Addr, a = some x ∧ (0 < l.length → x.block < w.heap.size) ∧ ∀ j (hj : j < l.length), w.cell? (x.add j) = some (.int .u8 (l[j].toNat : Int))
theorem block_add (x : Addr) (n : Nat) : (x.add n).block = x.block := by unfold Addr.add; split <;> rfl
theorem add_add (a : Addr) (i j : Nat) : (a.add i).add j = a.add (i + j) := by
  unfold Addr.add
  by_cases hi : i = 0 <;> by_cases hj : j = 0 <;> simp [hi, hj, Nat.add_assoc]
theorem Rd.later {w w' : World} {a : Option Addr} {l : List UInt8} (h : Rd w a l) (hb : Below w.heap.size w w') : Rd w' a l := by
  rcases h with h | ⟨x, rfl, hx, hc⟩
  · exact .inl h
  · exact .inr ⟨x, rfl, fun h0 => Nat.lt_of_lt_of_le (hx h0) hb.size, fun j hj => (hb.cell (by rw [block_add]; exact hx (by omega))).trans (hc j hj)⟩
theorem Rd.of_own {w : World} {B : Nat} {v : Value} {l : List UInt8} (h : Owns w B v l) : ∃ a cap, v = .slice a l.length cap ∧ Rd w a l ∧ l.length ≤ cap := by
  rcases (show w.ownsRow B 5 1 v l.length (bs l) from h).2 with ⟨rfl, h0⟩ | ⟨g, cap, cur, rfl, hB, hg, hc, _⟩
  · have : l = [] := List.eq_nil_of_length_eq_zero h0
    subst this
    exact ⟨none, 0, rfl, .inl ⟨rfl, rfl⟩, Nat.le_refl _⟩
  · exact ⟨_, cap, rfl, .inr ⟨_, rfl, fun _ => (Array.getElem?_eq_some_iff.1 hg).1, fun j hj => World.ownsRow.cells h (g := g) rfl j _ (by simp [bs, List.getElem?_eq_getElem hj])⟩, hc⟩

theorem strip_eq {l : List UInt8} {k : Nat} (hz : ∀ j c, j < k → l[j]? = some c → c = 0) (hd : ∀ c, l[k]? = some c → c ≠ 0) : l.drop k = mag (be l) := by
  rw [← be_zeros l k hz]
  refine (mag_of _ fun c hc => ?_).symm
  rw [List.getElem?_drop, Nat.add_zero] at hc
  exact hd c hc
theorem owns_empty (w : World) : Owns (w.alloc (.cells #[] 5)) w.heap.size (.slice (some ⟨w.heap.size, 0, none⟩) 0 0) [] := by
  have := World.ownsRow_lit (base := w.heap.size) (e := 5) (size := 1) w #[] 0 (Nat.le_refl _) (by decide) (by simp)
  simpa [Owns, bs] using this

set_option maxRecDepth 100000 in
theorem cut_any (a : Option Addr) (cap : Nat) (l : List UInt8) (w : World) (h : Rd w a l) (hl : l.length ≤ 2147483647) (hc : l.length ≤ cap) (ha : a = none → cap = 0) :
    Calls Tryz.prog 95 #[.slice a l.length cap] w fun e w' => (∃ v, e = .returned v ∧ Owns w' w.heap.size v (mag (be l))) ∧ Below w.heap.size w w' := by
  obtain ⟨n, hn⟩ : ∃ n, l.length = n := ⟨_, rfl⟩
  have hn' := Lib.hid hn
  have hrd := Lib.hid h
  rw [hn] at hl hc ⊢
  clear hn h
  go_enter Tryz.func95, Tryz.ntmps95
  go_wp2
  go_loop [3] (fun i => ∃ k : Nat, i = .int .i64 k ∧ k ≤ n ∧ Hid (∀ j c, j < k → l[j]? = some c → c = 0)) (fun i => n - (intOf i).toNat)
  case atStart => exact ⟨0, rfl, Nat.zero_le _, fun j c hj => by omega⟩
  case round =>
    obtain ⟨k, rfl, hk, hz⟩ := hrel
    by_cases hlt : k < n
    · have hlt' : k < l.length := by rw [hn'.out]; exact hlt
      rcases hrd.out with ⟨_, h0⟩ | ⟨x, rfl, hx, hcell⟩
      · have := hn'.out; rw [h0] at this; simp at this; omega
      · have hck := hcell k hlt'
        obtain ⟨c, hc0⟩ : ∃ c, l[k] = c := ⟨_, rfl⟩
        rw [hc0] at hck
        have hlk : l[k]? = some c := by rw [List.getElem?_eq_getElem hlt', hc0]
        have hlk' := Lib.hid hlk
        have hcell' := Lib.hid hcell
        clear hcell hlk hc0 hlt'
        have hcl := UInt8.toNat_lt c
        by_cases h0 : c.toNat = 0
        · have hb : ((c.toNat : Int) == 0) = true := by simp; omega
          have h0' := Lib.hid h0
          clear h0
          go_wp2
          go_round
          case rel =>
            refine ⟨k + 1, by go_num, by omega, fun j d hj hd => ?_⟩
            rcases Nat.lt_or_ge j k with h1 | h1
            · exact hz.out j d h1 hd
            · obtain rfl : j = k := by omega
              rw [hlk'.out] at hd
              obtain rfl := Option.some.inj hd
              exact UInt8.toNat_inj.1 h0'.out
          case measure => simp [intOf]; omega
        · have hb : ((c.toNat : Int) == 0) = false := by simp; omega
          have h0' := Lib.hid h0
          have hck' : ¬ cap = k := by omega
          clear h0
          have hst := Lib.hid (strip_eq hz.out (fun d hd => by rw [hlk'.out] at hd; obtain rfl := Option.some.inj hd; intro e; exact h0'.out (by rw [e]; rfl)))
          have hcs : Hid (∀ j (hj : j < (l.drop k).length), (w.alloc (.cells #[] 5)).cell? ((x.add k).add j) = some (.int .u8 ((l.drop k)[j].toNat : Int))) := Lib.hid (fun j hj => by
            rw [add_add, World.cell?_alloc_lt _ _ _ (by rw [block_add]; exact hx (by have := hn'.out; omega)), hcell'.out (k + j) (by rw [List.length_drop] at hj; omega)]
            simp)
          go_wp2_with (at_builtin; refine wpList_bytes rfl _ _ rfl _ [] rfl (owns_empty w) ((Below.refl _ _).alloc (Nat.le_refl _) _) (Nat.le_refl _) (l.drop k) (x.add k) (n - k) (cap - k) rfl (by rw [List.length_drop, hn'.out]) hcs.out (by rw [List.length_drop, hn'.out, List.length_nil]; omega) ?_; intro v1 w1 hown1 hb1)
          go_ret
          exact ⟨⟨_, rfl, hown1.eq (by rw [List.nil_append]; exact hst.out)⟩, hb1⟩
    · obtain rfl : k = n := by omega
      have hst := Lib.hid (strip_eq hz.out (fun d hd => by rw [List.getElem?_eq_none (by have := hn'.out; omega)] at hd; cases hd))
      have hdr := Lib.hid (show l.drop k = [] from List.drop_eq_nil_of_le (by have := hn'.out; omega))
      rcases hrd.out with ⟨rfl, h0⟩ | ⟨x, rfl, hx, hcell⟩
      · have hk0 : k = 0 := by have := hn'.out; rw [h0] at this; simp at this; omega
        have hc0 : cap = 0 := ha rfl
        subst hc0 hk0
        obtain ⟨i0, hi, hz0, hz1, hz2⟩ := info_parts info_u8
        have hoe : (w.alloc (.cells #[] 5)).ownsRow w.heap.size 5 1 (.slice (some ⟨w.heap.size, 0, none⟩) 0 0) 0 [] := owns_empty w
        clear h0 ha
        go_wp2_with (at_builtin; refine wpList_append_own_none rfl _ _ 25 rfl w.heap.size 5 i0 1 Tryz.underlying25 hi _ 0 [] rfl hoe rfl ?_)
        go_ret
        exact ⟨⟨_, rfl, (owns_empty w).eq (by rw [← hst.out, hdr.out])⟩, (Below.refl _ _).alloc (Nat.le_refl _) _⟩
      · by_cases hck : cap = k
        · subst hck
          clear hc ha
          go_wp2_with (at_builtin; refine wpList_bytes rfl _ _ rfl _ [] rfl (owns_empty w) ((Below.refl _ _).alloc (Nat.le_refl _) _) (Nat.le_refl _) [] x 0 0 rfl rfl (fun j hj => by simp at hj) (by simp) ?_; intro v1 w1 hown1 hb1)
          go_ret
          exact ⟨⟨_, rfl, hown1.eq (by rw [← hst.out, hdr.out]; rfl)⟩, hb1⟩
        · go_wp2_with (at_builtin; refine wpList_bytes rfl _ _ rfl _ [] rfl (owns_empty w) ((Below.refl _ _).alloc (Nat.le_refl _) _) (Nat.le_refl _) [] (x.add k) 0 (cap - k) rfl rfl (fun j hj => by simp at hj) (by simp) ?_; intro v1 w1 hown1 hb1)
          go_ret
          exact ⟨⟨_, rfl, hown1.eq (by rw [← hst.out, hdr.out]; rfl)⟩, hb1⟩

/-- an integer of the reference: its sign, and a slice that owns the bytes of its magnitude -/
def IsInt (w : World) (B : Nat) (v : Value) (neg : Bool) (m : Nat) : Prop := ∃ u, v = .agg #[.bool neg, u] ∧ Owns w B u (mag m) ∧ (neg = true → 0 < m)
theorem IsInt.later {w w' : World} {B : Nat} {v : Value} {neg : Bool} {m : Nat} (h : IsInt w B v neg m) (hb : Below w.heap.size w w') : IsInt w' B v neg m := by
  obtain ⟨u, h1, h2, h3⟩ := h
  exact ⟨u, h1, h2.later hb, h3⟩
theorem IsInt.mono {w : World} {B B' : Nat} {v : Value} {neg : Bool} {m : Nat} (h : IsInt w B v neg m) (hB : B' ≤ B) : IsInt w B' v neg m := by
  obtain ⟨u, h1, h2, h3⟩ := h
  exact ⟨u, h1, World.ownsRow.mono h2 hB, h3⟩

set_option maxRecDepth 100000 in
theorem of_any (neg : Bool) (a : Option Addr) (cap : Nat) (l : List UInt8) (w : World) (h : Rd w a l) (hl : l.length ≤ 2147483647) (hc : l.length ≤ cap) (ha : a = none → cap = 0) :
    Calls Tryz.prog 53 #[.bool neg, .slice a l.length cap] w fun e w' => (∃ v, e = .returned v ∧ IsInt w' w.heap.size v (neg && decide (0 < be l)) (be l)) ∧ Below w.heap.size w w' := by
  have hcut := Lib.hid fun w h => cut_any a cap l w h hl hc ha
  obtain ⟨V, hV⟩ : ∃ V, be l = V := ⟨_, rfl⟩
  rw [hV] at hcut ⊢
  have hlen : (mag V).length = len 256 V := mag_length V
  clear hV
  go_enter Tryz.func53, Tryz.ntmps53
  go_wp2_with fail
  refine (hcut.out _ (h.later ((Below.refl _ _).alloc (Nat.le_refl _) _))).mono ?_
  rintro e w1 ⟨⟨v, rfl, ho⟩, hb⟩
  obtain ⟨a1, c1, rfl, hr, hc1⟩ := Rd.of_own ho
  have k0 := (hb.cell (p := ⟨w.heap.size, 0, none⟩) (by simp)).trans (show (w.alloc (.cells #[.bool false, .slice none 0 0] 110)).cell? ⟨w.heap.size, 0, none⟩ = some (.bool false) by rw [World.cell?_alloc_at _ _ _ _ rfl]; rfl)
  have k1 := (hb.cell (p := ⟨w.heap.size, 1, none⟩) (by simp)).trans (show (w.alloc (.cells #[.bool false, .slice none 0 0] 110)).cell? ⟨w.heap.size, 1, none⟩ = some (.slice none 0 0) by rw [World.cell?_alloc_at _ _ _ _ rfl]; rfl)
  have f0 : w1.frozen? ⟨w.heap.size, 0, none⟩ = false := (hb.frozen (p := ⟨w.heap.size, 0, none⟩) (by simp)).trans (by simp)
  have f1 : w1.frozen? ⟨w.heap.size, 1, none⟩ = false := (hb.frozen (p := ⟨w.heap.size, 1, none⟩) (by simp)).trans (by simp)
  obtain ⟨L, hL⟩ : ∃ L, (mag V).length = L := ⟨_, rfl⟩
  have hLV : 0 < L ↔ 0 < V := by rw [← hL, hlen]; exact len_pos (by omega)
  rw [hL] at ho hc1
  have hL' := Lib.hid hL
  rw [hL]
  have hLV' := Lib.hid hLV
  have hLc : L ≤ c1 := hc1
  clear hL hLV hlen hc1 hr
  have hsz := hb.size
  simp at hsz
  have hlt1 : w.heap.size < w1.heap.size := by omega
  have fin : ∀ x : Bool, Owns ((w1.setCell ⟨w.heap.size, 0, none⟩ (.bool x)).setCell ⟨w.heap.size, 1, none⟩ (.slice a1 L c1)) w.heap.size (.slice a1 L c1) (mag V) ∧ Below w.heap.size w ((w1.setCell ⟨w.heap.size, 0, none⟩ (.bool x)).setCell ⟨w.heap.size, 1, none⟩ (.slice a1 L c1)) := fun x =>
    ⟨World.ownsRow.mono (Box.own_above ho (((Box.Above.refl _ _).setCell (by simp) _).setCell (by simp) _)) (by simp), ((((Below.refl _ _).alloc (Nat.le_refl _) _).trans (hb.mono (by simp))).setCell (Nat.le_refl _) _).setCell (Nat.le_refl _) _⟩
  have fin' := Lib.hid fin
  clear fin
  cases neg
  · go_wp2
    exact bodyPost_ret (v := .agg #[.bool false, .slice a1 L c1]) (by simp [results, Tryz.results53, go_sem, k0, k1]) rfl ⟨⟨_, rfl, .slice a1 L c1, rfl, (fin'.out false).1, fun h => by cases h⟩, (fin'.out false).2⟩
  · by_cases hV0 : 0 < V
    · have hd : decide ((0 : Int) < (L : Int)) = true := by have := hLV'.out; simp; omega
      have hd2 : decide (0 < L) = true := by have := hLV'.out; simp; omega
      go_wp2
      exact bodyPost_ret (v := .agg #[.bool true, .slice a1 L c1]) (by simp [results, Tryz.results53, go_sem, k0, k1]) rfl ⟨⟨_, rfl, .slice a1 L c1, by simp [hV0], (fin'.out true).1, fun h => hV0⟩, (fin'.out true).2⟩
    · have hd : decide ((0 : Int) < (L : Int)) = false := by have := hLV'.out; simp; omega
      have hd2 : decide (0 < L) = false := by have := hLV'.out; simp; omega
      go_wp2
      exact bodyPost_ret (v := .agg #[.bool false, .slice a1 L c1]) (by simp [results, Tryz.results53, go_sem, k0, k1]) rfl ⟨⟨_, rfl, .slice a1 L c1, by simp [hV0], (fin'.out false).1, fun h => by simp [hV0] at h⟩, (fin'.out false).2⟩
end Go.Proofs.YtafbheamnjmfoaaGreat.Ref
