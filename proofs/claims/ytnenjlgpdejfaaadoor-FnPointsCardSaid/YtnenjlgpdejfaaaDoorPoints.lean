/-
  A string's code points, as strings: the walks of the package's code and of the statement.
-/
import Derived.Test.YtnenjlgpdejfaaaDoorValid
import Derived.Test.YtnenjlgpdejfaaaDoorStrs
import Derived.Test.YtnenjlgpdejfaaaDoorBlk
import Derived.LoopTactic
import Derived.Outline
import Derived.WalkSpells
import Derived.WalkLawsBesides
import Derived.Lib.Hide
import Derived.OpenShut
import Derived.Deep.QuietTactic
import Derived.BigQuiet
import Derived.Deep.LoopGhost
import Derived.Stop.FmtQuoteTie
import Derived.Lib.MapLaws
import Derived.Lib.OthersKept
import Derived.Deep.Onto
import Derived.Deep.AppendLies
namespace Go.Proofs.YtnenjlgpdejfaaaDoor.fnPoints
open Go.RowKit Go.WideShapes Go.Proofs.YtnenjlgpdejfaaaDoor.Utf Go.Proofs.YtnenjlgpdejfaaaDoor.Own Go.Proofs.YtnenjlgpdejfaaaDoor.Strs Go.Proofs.YtnenjlgpdejfaaaDoor.Box
set_option linter.unusedVariables false

theorem encode_list (r : Nat) : (Utf8.encode (r : Int)).data.toList = Lib.encodeRune (r : Int) := by
  have h := Extern.FmtText.encode_eq r
  unfold Lib.encodeRune
  rw [← h]
  unfold Extern.FmtText.nums
  rw [List.map_map]
  conv => lhs; rw [← List.map_id (Utf8.encode (r : Int)).data.toList]
  apply List.map_congr_left
  intro x _
  simp [UInt8.ofNat_toNat]
theorem bytes_ext {a b : ByteArray} (h : a.data.toList = b.data.toList) : a = b := by
  cases a with | mk a => cases b with | mk b => simp at h; simp [h]
theorem tail_list (s : ByteArray) (k : Nat) : (⟨(s.data.toList.drop k).toArray⟩ : ByteArray) = s.extract k s.size := by
  apply bytes_ext
  rw [Lib.extract_data]
  simp [List.take_of_length_le]
theorem cut_piece (s : ByteArray) (k n : Nat) (h : k + n ≤ s.size) : (s.extract k s.size).extract 0 n = s.extract k (k + n) := by
  apply bytes_ext
  rw [Lib.extract_data, Lib.extract_data, Lib.extract_data, List.drop_zero, Nat.sub_zero, List.take_take, Nat.min_eq_left (by omega), Nat.add_sub_cancel_left]
/-- what is no fault is its own encoding -/
theorem encode_piece (s : ByteArray) (k : Nat) (hlt : k < s.size) (h : rune s k ≠ 65533) : Utf8.encode (rune s k : Int) = s.extract k (k + width s k) := by
  apply bytes_ext
  rw [encode_list]
  have hw := width_pos s k
  have e : Lib.decodeL (s.data.toList.drop k) = (rune s k, width s k) := by
    unfold Lib.decodeL rune width
    rw [tail_list, Lib.tail_decode, Nat.add_zero]
  have hl : 0 < s.data.toList.length - k := by
    have : s.data.toList.length = s.size := by simp
    omega
  have := Lib.encode_decode (s.data.toList.drop k) (by intro h0; have := congrArg List.length h0; simp at this; simp at hl; omega) (by rw [e]; intro h1; exact h (by have := h1.1; simpa using this))
  rw [e] at this
  rw [this, Lib.extract_data]
  congr 1; omega

/-- the code points' texts from a place on -/
def toks (s : ByteArray) : Nat → Nat → List ByteArray
  | 0, _ => []
  | f + 1, i => if i < s.size then Utf8.encode (rune s i : Int) :: toks s f (i + width s i) else []
theorem toks_end (s : ByteArray) (f i : Nat) (h : ¬ i < s.size) : toks s f i = [] := by
  cases f <;> simp [toks, h]
theorem toks_length (s : ByteArray) : ∀ f i, (toks s f i).length ≤ f := by
  intro f
  induction f with
  | zero => intro i; simp [toks]
  | succ f ih =>
    intro i
    unfold toks
    split
    · have := ih (i + width s i); simp; omega
    · simp
theorem toks_step {s : ByteArray} {f k : Nat} {l R : List ByteArray} (hlt : k < s.size) (h : l ++ toks s (f + 1) k = R) : (l ++ [Utf8.encode (rune s k : Int)]) ++ toks s f (k + width s k) = R := by
  rw [toks, if_pos hlt] at h
  rw [List.append_assoc]; exact h

/-- the iterator's three cells, and the variable that it fills -/
structure It (w : World) (b c : Nat) (s : ByteArray) (k : Nat) (v : Value) : Prop where
  it : Holds w b 66 #[.string s, .bool false, .int .i64 k]
  var : Holds w c 55 #[v]
  lt : b < c

theorem next_end (s : ByteArray) (b c k : Nat) (v : Value) (w : World) (hk : k = s.size) (hs : s.size ≤ 1000) (h : It w b c s k v) :
    Calls Tryd.prog 41 #[.pointer (some ⟨b, 0, none⟩), .pointer (some ⟨c, 0, none⟩)] w fun e w' => e = .returned (.bool false) ∧ ∃ n, w' = w.drewN n := by
  have c0 := h.it.cell 0
  have c2 := h.it.cell 2
  simp at c0 c2
  subst hk
  have k1 : (0 : Int) ≤ (s.size : Int) := by omega
  go_enter Tryd.func41, Tryd.ntmps41
  go_wp2
  go_quiet (fail)
  go_wp2
  go_ret
  exact ⟨rfl, _, rfl⟩

theorem next_more (s : ByteArray) (b c k : Nat) (v : Value) (w : World) (hk : k < s.size) (hs : s.size ≤ 1000) (h : It w b c s k v) (hT : Tabs w) :
    Calls Tryd.prog 41 #[.pointer (some ⟨b, 0, none⟩), .pointer (some ⟨c, 0, none⟩)] w fun e w' => e = .returned (.bool true) ∧ It w' b c s (k + width s k) (.iface 52 (.string (Utf8.encode (rune s k : Int)))) ∧ Below b w w' ∧ Above (c + 1) w w' := by
  have c0 := h.it.cell 0
  have c1 := h.it.cell 1
  have c2 := h.it.cell 2
  have cv := h.var.cell 0
  simp at c0 c1 c2 cv
  have k1 : (0 : Int) ≤ (k : Int) := by omega
  have k2 : (k : Int) ≤ s.size := by omega
  have hdec := Lib.hid fun w h => decode_any s k hk w h
  have w1 := width_pos s k
  have w2 := width_le s k hk
  have hpc := Lib.hid (encode_piece s k hk)
  obtain ⟨n, hn⟩ : ∃ n, width s k = n := ⟨_, rfl⟩
  obtain ⟨r, hr⟩ : ∃ r, rune s k = r := ⟨_, rfl⟩
  rw [hn, hr] at hdec hpc
  rw [hn] at w1 w2
  rw [hn, hr]
  clear hn hr
  obtain ⟨X, hX⟩ : ∃ X, s.extract k s.size = X := ⟨_, rfl⟩
  have hXs : X.size = s.size - k := by rw [← hX]; simp
  have hXe : X.toList.isEmpty = false := by
    rw [Lib.toList_data]
    have : X.data.toList.length = X.size := by simp
    cases h : X.data.toList with
    | nil => rw [h] at this; simp at this; omega
    | cons a b => rfl
  rw [hX] at hdec
  have hX' := Lib.hid hX
  have hXs' := Lib.hid hXs
  have hXl : n ≤ X.size := by omega
  clear hXs
  have hT' := Lib.hid hT
  go_enter Tryd.func41, Tryd.ntmps41
  go_wp2
  go_quiet (fail)
  go_wp2_with fail
  refine (hdec.out (w.drewN nq) hT'.out).mono ?_
  rintro e w3 ⟨rfl, hb3⟩
  clear c0 c1 c2 cv
  have i3 : Holds w3 b 66 #[.string s, .bool false, .int .i64 k] := (h.it.drawn _).later hb3
  have v3 : Holds w3 c 55 #[v] := (h.var.drawn _).later hb3
  have c0 := i3.cell 0
  have c1 := i3.cell 1
  have c2 := i3.cell 2
  have cv := v3.cell 0
  simp at c0 c1 c2 cv
  have f2 := i3.free 2
  have fv := v3.free 0
  have hbc := h.lt
  by_cases h65 : r = 65533
  · subst h65
    go_wp2
    go_ret
    refine ⟨rfl, ⟨?_, (v3.put 0 _).apart (by show c ≠ b; omega) _, h.lt⟩, ?_, ?_⟩
    · have := (i3.apart (p := ⟨c, 0, none⟩) (by show b ≠ c; omega) (.iface 52 (.string (Utf8.encode 65533)))).put 2 (.int .i64 ((k : Int) + n))
      rw [Int.natCast_add]
      exact this
    · exact (((below_drawn (Below.refl _ _) _).trans (hb3.mono (by show b ≤ (w.drewN nq).heap.size; have := i3.lt; have := (h.it.drawn nq).lt; omega))).setCell (by show b ≤ c; omega) _).setCell (by show b ≤ b; omega) _
    · exact (((Above.refl _ _).drawn nq).trans (Nat.le_refl _) ((Above.of_below hb3).setCell (by show c < c + 1; omega) _)).setCell (by show b < c + 1; omega) _
  · have hrb : ((r : Int) == 65533) = false := by simp; omega
    have hpc' := Lib.hid (hpc.out h65)
    clear hpc h65
    go_wp2
    go_ret
    have hval : X.extract 0 n = Utf8.encode (r : Int) := by
      rw [hpc'.out, ← hX'.out]
      exact cut_piece s k n w2
    rw [hval]
    refine ⟨rfl, ⟨?_, (v3.put 0 _).apart (by show c ≠ b; omega) _, h.lt⟩, ?_, ?_⟩
    · have := (i3.apart (p := ⟨c, 0, none⟩) (by show b ≠ c; omega) (.iface 52 (.string (Utf8.encode r)))).put 2 (.int .i64 ((k : Int) + n))
      rw [Int.natCast_add]
      exact this
    · exact (((below_drawn (Below.refl _ _) _).trans (hb3.mono (by show b ≤ (w.drewN nq).heap.size; have := i3.lt; have := (h.it.drawn nq).lt; omega))).setCell (by show b ≤ c; omega) _).setCell (by show b ≤ b; omega) _
    · exact (((Above.refl _ _).drawn nq).trans (Nat.le_refl _) ((Above.of_below hb3).setCell (by show c < c + 1; omega) _)).setCell (by show b < c + 1; omega) _

/-- slices of interface values -/
def ifs (l : List ByteArray) : List Value := l.map fun t => Value.iface 52 (.string t)
theorem ifs_length (l : List ByteArray) : (ifs l).length = l.length := by simp [ifs]
theorem info_val : (Tryd.prog.info? 55).map (fun i => (i.zero, i.size, i.bytes)) = some (some .nilIface, 1, 16) := by kernel_rfl

theorem wpList_val {ops : Array Oper} {rest : List Oper} {o : Oper} {a : Act} {Q : Exit → Act → World → Prop} {w0 wr : World} {B : Nat} (hgd : o.guard = none) (s x : Operand)
    (ho : o.op = .call { callee := .builtin .append, args := #[s, x], argTypes := #[41, 41] })
    (v : Value) (l : List ByteArray) (hs : a.eval s = v) (hown : wr.ownsRow B 55 1 v l.length (ifs l)) (hb : Below B w0 wr) (hB : B ≤ w0.heap.size) (t : ByteArray)
    (hx : a.eval x = .slice (some ⟨wr.heap.size, 0, none⟩) 1 1) (hn : l.length ≤ 1000000000000)
    (h : ∀ v' w', w'.ownsRow B 55 1 v' (l ++ [t]).length (ifs (l ++ [t])) → Below B w0 w' → wpList Tryd.prog ops Q rest (a.put o.dst v') w') :
    wpList Tryd.prog ops Q (o :: rest) a (wr.alloc (.cells #[.iface 52 (.string t)] 55)) := by
  obtain ⟨i0, hi, hz0, hz1, hz2⟩ := info_parts info_val
  have hsz := hb.size
  refine wpList_append_own _ hgd s x 41 ho B 55 i0 .nilIface 1 16 Tryd.underlying41 hi hz0 hz1 hz2 rfl (by decide) v l.length (ifs l) hs (World.ownsRow.alloc hown _) ⟨wr.heap.size, 0, none⟩ 1 1 [.iface 52 (.string t)] hx rfl
    ?_ ?_ (by unfold maxLen; omega) (by omega) (by simp; omega) ?_
  · exact cell_one_new _ _ _
  · intro u hu
    simp at hu
    subst hu
    rfl
  · intro v' w' hown' hg _
    refine h v' w' ?_ ((hb.alloc (by omega) _).grown hg (by simp; omega) fun k hk => ?_)
    · rw [List.length_append]
      simpa [ifs] using hown'
    · exact (World.ownsRow.lt hown k hk).1

def RelZ (s : ByteArray) (w : World) (b c : Nat) (R : List ByteArray) (v : Value) (k : Nat) (wr : World) : Prop :=
  ∃ (f : Nat) (l : List ByteArray) (x : Value), k ≤ s.size ∧ s.size ≤ k + f ∧ l.length ≤ k ∧ l ++ toks s f k = R ∧ It wr b c s k x ∧ wr.ownsRow (c + 1) 55 1 v l.length (ifs l) ∧ Below b w wr

set_option maxRecDepth 100000 in
theorem zz_any (s : ByteArray) (w : World) (hs : s.size ≤ 1000) (hT : Tabs w) :
    Calls Tryd.prog 27 #[.bool false, .string s] w fun e w' => (∃ v, e = .returned v ∧ w'.ownsRow w.heap.size 55 1 v (toks s s.size 0).length (ifs (toks s s.size 0))) ∧ Below w.heap.size w w' := by
  obtain ⟨R, hR⟩ : ∃ R, toks s s.size 0 = R := ⟨_, rfl⟩
  have hRl : R.length ≤ s.size := by rw [← hR]; exact toks_length s _ _
  rw [hR]
  have hR' := Lib.hid hR
  clear hR
  obtain ⟨i0, hi, hz0, hz1, hz2⟩ := info_parts info_val
  go_enter Tryd.func27, Tryd.ntmps27
  go_wp2_with fail
  obtain ⟨w0, hw0⟩ : ∃ w0, (w.alloc (.cells #[.string s, .bool false, .int .i64 0] 66)).alloc (.cells #[.nilIface] 55) = w0 := ⟨_, rfl⟩
  have hb0 : Below w.heap.size w w0 := by rw [← hw0]; exact ((Below.refl _ _).alloc (Nat.le_refl _) _).alloc (by simp) _
  have hit0 : It w0 w.heap.size (w.heap.size + 1) s 0 .nilIface := by
    subst hw0
    exact ⟨(Holds.made w _ _).alloc _, by have := Holds.made (w.alloc (.cells #[.string s, .bool false, .int .i64 0] 66)) 55 #[.nilIface]; simpa using this, by omega⟩
  rw [hw0]
  obtain ⟨c, hc⟩ : ∃ c, w.heap.size + 1 = c := ⟨_, rfl⟩
  rw [hc] at hit0 ⊢
  have hc' := Lib.hid hc
  clear hc hw0
  go_loopw [4] (fun v wr => ∃ k : Nat, RelZ s w w.heap.size c R v k wr) (fun _ wr => match wr.cell? ⟨w.heap.size, 2, none⟩ with | some (.int _ n) => s.size - n.toNat | _ => 0)
  case atStart => exact ⟨0, s.size, [], _, Nat.zero_le _, by omega, Nat.le_refl _, hR'.out, hit0, World.ownsRow_nil _ _ _ _, hb0⟩
  case round =>
    obtain ⟨k, f, l, x, hk, hkf, hl, hR2, hit, hown, hb⟩ := hrel
    have hR2' := Lib.hid hR2
    clear hR2 hR' hit0 hb0
    have hsz := hb.size
    by_cases hlt : k < s.size
    · have hTr := Lib.hid (hT.later hb)
      have hm2 := hit.it.cell 2
      have w1 := width_pos s k
      have w2 := width_le s k hlt
      have hnm := Lib.hid fun wr h1 h2 => next_more s w.heap.size c k x wr hlt hs h1 h2
      obtain ⟨n, hn⟩ : ∃ n, width s k = n := ⟨_, rfl⟩
      obtain ⟨t, ht⟩ : ∃ t, Utf8.encode (rune s k : Int) = t := ⟨_, rfl⟩
      rw [hn, ht] at hnm
      rw [hn] at w1 w2
      have hn' := Lib.hid hn
      have ht' := Lib.hid ht
      clear hn ht
      go_wp2_with fail
      refine (hnm.out _ hit hTr.out).mono ?_
      rintro e w3 ⟨rfl, hit3, hb3, hab3⟩
      have hown3 := own_above hown hab3
      have cv := hit3.var.cell 0
      simp at cv
      have hc3 : c + 1 ≤ w3.heap.size := hit3.var.lt
      clear hm2
      have hm3 := hit3.it.cell 2
      simp at hm3
      go_wp2_with (at_builtin; refine wpList_val rfl _ _ rfl _ l rfl hown3 (Below.refl _ _) hc3 t rfl (by omega) ?_; intro v4 w4 hown4 hb4; have hm4 := (hb4.cell (p := ⟨w.heap.size, 2, none⟩) (by show w.heap.size < c + 1; have := hc'.out; omega)).trans hm3)
      go_roundw
      case rel =>
        have hR2 := hR2'.out
        cases f with
        | zero => omega
        | succ f =>
          refine ⟨k + n, f, l ++ [t], _, w2, by omega, by simp; omega, ?_, ⟨hit3.it.below hb4 (by have := hc'.out; omega), hit3.var.below hb4 (by omega), hit3.lt⟩, hown4, (hb.trans (hb3.mono (Nat.le_refl _))).trans (hb4.mono (by have := hc'.out; omega))⟩
          have := toks_step hlt hR2
          rw [hn'.out, ht'.out] at this
          exact this
      case measure =>
        have hmo := hit.it.cell 2
        simp at hmo
        simp only [hm4, hmo]
        omega
    · have hkk : k = s.size := by omega
      have hne := Lib.hid fun wr h1 => next_end s w.heap.size c k x wr hkk hs h1
      have hkk' := Lib.hid hkk
      clear hkk
      go_wp2_with fail
      refine (hne.out _ hit).mono ?_
      rintro e w3 ⟨rfl, nq, rfl⟩
      go_wp2
      go_ret
      have hR2 := hR2'.out
      rw [toks_end _ _ _ hlt, List.append_nil] at hR2
      subst hR2
      exact ⟨⟨_, rfl, World.ownsRow.mono hown (by have := hc'.out; omega)⟩, below_drawn hb _⟩

set_option maxRecDepth 100000 in
theorem ofts_any (R : List ByteArray) (v : Value) (B : Nat) (w : World) (hR : R.length ≤ 100000) (hown : w.ownsRow B 55 1 v R.length (ifs R)) :
    Calls Tryd.prog 26 #[.iface 42 v, .nilIface] w fun e w' => (∃ u, e = .returned (.tuple #[u, .bool true]) ∧ OwnS w' w.heap.size u R) ∧ Below w.heap.size w w' := by
  obtain ⟨A, cap, rfl⟩ : ∃ A cap, v = .slice A R.length cap := by
    rcases hown.2 with ⟨rfl, h0⟩ | ⟨g, cap, cur, rfl, _⟩
    · exact ⟨none, 0, by rw [h0]⟩
    · exact ⟨_, _, rfl⟩
  have a1 : ∀ w, (Instr.typeAssert (.iface 42 (.slice A R.length cap)) 55 58 true).run Tryd.prog w = .ok (.tuple #[.pointer none, .bool false]) w := fun w => by kernel_rfl
  have a2 : ∀ w, (Instr.typeAssert (.iface 42 (.slice A R.length cap)) 55 42 true).run Tryd.prog w = .ok (.tuple #[.slice A R.length cap, .bool true]) w := fun w => by kernel_rfl
  have a3 : ∀ t w, (Instr.typeAssert (.iface 52 (.string t)) 55 52 true).run Tryd.prog w = .ok (.tuple #[.string t, .bool true]) w := fun t w => by kernel_rfl
  go_enter Tryd.func26, Tryd.ntmps26
  go_wp2_with fail
  go_loopw [4, 43] (fun u i wr => ∃ j : Nat, i = .int .i64 j ∧ j ≤ R.length ∧ OwnS wr w.heap.size u (R.take j) ∧ Below w.heap.size w wr) (fun _ i _ => R.length - (intOf i).toNat)
  case atStart => exact ⟨0, rfl, Nat.zero_le _, OwnS.nil _ _, Below.refl _ _⟩
  case round =>
    obtain ⟨j, rfl, hj, ho, hb⟩ := hrel
    by_cases hlt : j < R.length
    · obtain ⟨g, cap2, hg, hgB, hglt⟩ := World.ownsRow.form hown (by omega)
      simp only [Value.slice.injEq, true_and] at hg
      obtain ⟨rfl, rfl⟩ := hg
      have hc0 := World.ownsRow.cellAt hown j (by omega)
      obtain ⟨t, ht⟩ : ∃ t, R[j] = t := ⟨_, rfl⟩
      rw [show (ifs R)[j]? = some (.iface 52 (.string t)) by simp [ifs, List.getElem?_eq_getElem hlt, ht]] at hc0
      have hcr := (hb.cell (p := ⟨g, j, none⟩) hglt).trans hc0
      have htk : R.take j ++ [t] = R.take (j + 1) := by rw [List.take_succ_eq_append_getElem hlt, ht]
      have htk' := Lib.hid htk
      have hlj : (R.take j).length ≤ 100000 := by simp; omega
      clear hc0 ht htk a1 a2
      go_wp2_with (at_builtin; refine wpList_str rfl _ _ rfl _ (R.take j) rfl ho hb (Nat.le_refl _) t rfl (by omega) ?_; intro v4 w4 hown4 hb4)
      go_roundw
      case rel => exact ⟨j + 1, by go_num, by omega, hown4.eq htk'.out, hb4⟩
      case measure => simp [intOf]; omega
    · go_wp2
      go_ret2
      obtain rfl : j = R.length := by omega
      rw [List.take_length] at ho
      exact ⟨⟨_, rfl, ho⟩, hb⟩

theorem ipts_any (s : ByteArray) (w : World) (hs : s.size ≤ 1000) (hT : Tabs w) :
    Calls Tryd.prog 14 #[.string s] w fun e w' => (∃ v, e = .returned v ∧ OwnS w' w.heap.size v (toks s s.size 0)) ∧ Below w.heap.size w w' := by
  have hz := Lib.hid (zz_any s w hs hT)
  have hl := toks_length s s.size 0
  obtain ⟨R, hR⟩ : ∃ R, toks s s.size 0 = R := ⟨_, rfl⟩
  rw [hR] at hz hl ⊢
  clear hR
  go_enter Tryd.func14, Tryd.ntmps14
  go_wp2_with fail
  refine hz.out.mono ?_
  rintro e w1 ⟨⟨v, rfl, ho⟩, hb⟩
  have hsz := hb.size
  obtain ⟨A, cap, rfl⟩ : ∃ A cap, v = .slice A R.length cap := by
    rcases ho.2 with ⟨rfl, h0⟩ | ⟨g, cap, cur, rfl, _⟩
    · exact ⟨none, 0, by rw [h0]⟩
    · exact ⟨_, _, rfl⟩
  go_wp2_with fail
  refine (ofts_any R _ _ _ (by omega) ho).mono ?_
  rintro e w2 ⟨⟨u, rfl, ho2⟩, hb2⟩
  go_wp2
  go_ret
  exact ⟨⟨_, rfl, World.ownsRow.mono ho2 hsz⟩, hb.trans (hb2.mono hsz)⟩

set_option maxRecDepth 100000 in
theorem same_any (L : List ByteArray) (va vb : Value) (w : World) (B1 B2 : Nat) (h1 : OwnS w B1 va L) (h2 : OwnS w B2 vb L) (hL : L.length ≤ 100000) :
    Calls Tryd.prog 13 #[va, vb] w fun e w' => e = .returned (.bool true) ∧ Below w.heap.size w w' := by
  obtain ⟨A1, c1, rfl⟩ := h1.shape
  obtain ⟨A2, c2, rfl⟩ := h2.shape
  have hn : ((L.length : Int) != L.length) = false := by simp
  go_enter Tryd.func13, Tryd.ntmps13
  go_wp2
  go_loop [14] (fun i => ∃ j : Nat, i = .int .i64 j ∧ j ≤ L.length) (fun i => L.length - (intOf i).toNat)
  case atStart => exact ⟨0, rfl, Nat.zero_le _⟩
  case round =>
    obtain ⟨j, rfl, hj⟩ := hrel
    by_cases hlt : j < L.length
    · obtain ⟨g1, cc1, e1, hg1, hB1, k1⟩ := h1.slice (by omega)
      obtain ⟨g2, cc2, e2, hg2, hB2, k2⟩ := h2.slice (by omega)
      simp only [Value.slice.injEq, true_and] at e1 e2
      obtain ⟨rfl, rfl⟩ := e1
      obtain ⟨rfl, rfl⟩ := e2
      have d1 := k1 j hlt
      have d2 := k2 j hlt
      have hadd : ∀ g : Nat, ((⟨g, 0, none⟩ : Addr).add j) = ⟨g, j, none⟩ := fun g => by unfold Addr.add; split <;> simp_all
      rw [hadd] at d1 d2
      obtain ⟨t, ht⟩ : ∃ t, L[j] = t := ⟨_, rfl⟩
      rw [ht] at d1 d2
      clear k1 k2 ht hadd
      go_wp2
      go_round
      case rel => exact ⟨j + 1, by go_num, by omega⟩
      case measure => simp [intOf]; omega
    · go_wp2
      go_ret
      exact ⟨rfl, Below.refl _ _⟩

set_option maxHeartbeats 400000 in
set_option maxRecDepth 100000 in
theorem walk (a0 : ByteArray) (w0 : a0.size ≤ maxLen) (w : World) (hT : Tabs w) :
    Calls Tryd.prog 4 #[.string a0] w fun e w' => e = .returned (.bool true) ∧ Below w.heap.size w w' := by
  by_cases hl : a0.size ≤ 2147483647
  · obtain ⟨M, hM, hM1, hM2⟩ : ∃ M : Nat, min (a0.size : Int) 200 = M ∧ M ≤ 200 ∧ M ≤ a0.size := ⟨min a0.size 200, by omega, by omega, by omega⟩
    have hbl : decide (2147483647 < (a0.size : Int)) = false := by simp; omega
    clear w0
    go_enter Tryd.func4, Tryd.ntmps4
    go_wp2_with fail
    refine (Vld.valid_any _ _ (by simp; omega) hT).mono ?_
    rintro e w1 ⟨⟨u, rfl, hu⟩, hb1⟩
    have hu2 : u.size ≤ 200 := Nat.le_trans hu (by simp; omega)
    obtain ⟨T, hT0⟩ : ∃ T, u ++ ⟨#[97]⟩ = T := ⟨_, rfl⟩
    have hTs : T.size ≤ 201 := by
      rw [← hT0, ByteArray.size_append]
      show u.size + 1 ≤ 201
      omega
    clear hu
    go_wp2_with fail
    have hsz := hb1.size
    obtain ⟨H, hH⟩ : ∃ H, w1.heap.size = H := ⟨_, rfl⟩
    have hI : (w1.iter T 0).heap[H]? = some (.stringIter T 0) := by rw [← hH]; exact heap_alloc_new w1 _
    have hbI : Below w.heap.size w (w1.iter T 0) := hb1.alloc hsz _
    obtain ⟨wi, hwi⟩ : ∃ wi, w1.iter T 0 = wi := ⟨_, rfl⟩
    rw [hwi] at hI hbI ⊢
    rw [hH] at hsz ⊢
    have hTl := hT.later hb1
    clear hT0 hu2 hwi hH hbl
    obtain ⟨R, hR⟩ : ∃ R, toks T T.size 0 = R := ⟨_, rfl⟩
    have hRl : R.length ≤ 201 := by rw [← hR]; exact Nat.le_trans (toks_length T _ _) hTs
    have hR' := Lib.hid hR
    clear hR
    go_loopw [4] (fun v wr => ∃ (k f : Nat) (l : List ByteArray), wr.heap[H]? = some (.stringIter T k) ∧ T.size ≤ k + f ∧ l.length ≤ k ∧ k ≤ T.size ∧ l ++ toks T f k = R ∧ OwnS wr (H + 1) v l ∧ Below w.heap.size w wr) (fun _ wr => match wr.heap[H]? with | some (.stringIter _ p) => T.size - p | _ => 0)
    case atStart => exact ⟨0, T.size, [], hI, by omega, Nat.le_refl _, Nat.zero_le _, hR'.out, OwnS.nil _ _, hbI⟩
    case round =>
      obtain ⟨k, f, l, hk, hkf, hl, hkT, hR2, ho, hb⟩ := hrel
      have hR2' := Lib.hid hR2
      clear hR2 hI hbI
      have hHl : H < wr.heap.size := (Array.getElem?_eq_some_iff.1 hk).1
      by_cases hlt : k < T.size
      · have hnx : ∀ ty, (Instr.next (.pointer (some ⟨H, 0, none⟩)) true ty).run Tryd.prog wr = .ok (.tuple #[.bool true, .int .i64 k, .int .i32 (rune T k)]) (wr.iterAt H T (k + width T k)) := fun ty => Lib.run_next_any_at wr H T k ty hk hlt
        have w1 := width_pos T k
        have w2 := width_le T k hlt
        have hk' := Lib.hid hk
        have hki := Lib.hid (Lib.iterAt_heap wr H T k (k + width T k) hk)
        have hoi : OwnS (wr.iterAt H T (k + width T k)) (H + 1) _ l := own_above ho fun g hg _ => Lib.iterAt_other wr H g T _ (by omega)
        have hbi := Lib.below_iterAt hb hsz T (k + width T k)
        have hsi : H + 1 ≤ (wr.iterAt H T (k + width T k)).heap.size := by rw [Lib.iterAt_size]; omega
        obtain ⟨wi, hwi⟩ : ∃ wi, wr.iterAt H T (k + width T k) = wi := ⟨_, rfl⟩
        rw [hwi] at hnx hki hoi hbi hsi
        clear hk hwi
        go_wp2_with (at_builtin; refine wpList_str rfl _ _ rfl _ l rfl hoi (Below.refl _ _) hsi _ rfl (by omega) ?_; intro v4 w4 hown4 hb4)
        go_roundw
        case rel =>
          have hR2 := hR2'.out
          cases f with
          | zero => omega
          | succ f => exact ⟨k + width T k, f, _, (hb4.block H (by omega)).trans hki.out, by omega, by simp; omega, w2, toks_step hlt hR2, hown4, hbi.trans (hb4.mono (by omega))⟩
        case measure =>
          rw [(hb4.block H (by omega)).trans hki.out, hk'.out]
          simp only
          omega
      · have hnx : ∀ ty, (Instr.next (.pointer (some ⟨H, 0, none⟩)) true ty).run Tryd.prog wr = .ok (.tuple #[.bool false]) wr := fun ty => Lib.run_next_end_at wr H T k ty hk hlt
        have hR2 := hR2'.out
        rw [toks_end _ _ _ hlt, List.append_nil] at hR2
        have hzz := Lib.hid fun w h1 => ipts_any T w (by omega) h1
        rw [hR'.out] at hzz
        have hT2 := Lib.hid (hT.later hb)
        subst hR2
        clear hk
        go_wp2_with fail
        refine (hzz.out _ hT2.out).mono ?_
        rintro e w5 ⟨⟨v5, rfl, ho5⟩, hb5⟩
        go_wp2_with fail
        refine (same_any _ _ _ _ _ _ ho5 (ho.later hb5) (by omega)).mono ?_
        rintro e w6 ⟨rfl, hb6⟩
        go_wp2
        go_ret
        exact ⟨rfl, hb.trans ((hb5.trans (hb6.mono hb5.size)).mono hb.size)⟩
  · go_enter Tryd.func4, Tryd.ntmps4
    go_wp2
    go_ret
    exact ⟨rfl, Below.refl _ _⟩
end Go.Proofs.YtnenjlgpdejfaaaDoor.fnPoints
