/-
  Sections of rows of words, written in place: added, subtracted, multiplied by a word, shifted.
-/
import Derived.Test.YtpjkfdgkkpkljaaGreatDoorVec
import Derived.Test.YtpjkfdgkkpkljaaGreatDoorDivWW
namespace Go.Proofs.YtpjkfdgkkpkljaaGreatDoor.Nat_
open Go.RowKit Go.WideShapes Go.Proofs.YtpjkfdgkkpkljaaGreatDoor Go.Proofs.YtpjkfdgkkpkljaaGreatDoor.Own Go.Proofs.YtpjkfdgkkpkljaaGreatDoor.Num Go.Proofs.YtpjkfdgkkpkljaaGreatDoor.Ref
set_option linter.unusedVariables false

/-- block g is a row of words and holds just this list -/
def Wd (w : World) (g : Nat) (L : List Value) : Prop := Box.Holds w g 111 L.toArray
/-- the places o + a to o + b of a row are the words a to b of R -/
def mix (L : List Value) (o R a b : Nat) : List Value := (List.range L.length).map fun p => if o + a ≤ p ∧ p < o + b then .int .u64 ((R / W ^ (p - o) % W : Nat) : Int) else L[p]?.getD undef
theorem mix_length (L : List Value) (o R a b : Nat) : (mix L o R a b).length = L.length := by simp [mix]
theorem mix_in {L : List Value} {o R a b : Nat} (j : Nat) (h1 : a ≤ j) (h2 : j < b) (h3 : o + j < L.length) : (mix L o R a b)[o + j]? = some (.int .u64 ((R / W ^ j % W : Nat) : Int)) := by
  simp [mix, h3]
  intro h
  omega
theorem mix_out {L : List Value} {o R a b : Nat} (p : Nat) (h : p < o + a ∨ o + b ≤ p) : (mix L o R a b)[p]? = L[p]? := by
  by_cases hp : p < L.length
  · have : ¬ (o + a ≤ p ∧ p < o + b) := by omega
    simp [mix, hp, this]
  · rw [List.getElem?_eq_none (by rw [mix_length]; omega), List.getElem?_eq_none (by omega)]
theorem mix_nil {L : List Value} {o R a b : Nat} (h : b ≤ a) : mix L o R a b = L := by
  apply List.ext_getElem?
  intro p
  exact mix_out p (by omega)
theorem mix_up {L : List Value} {o R a k : Nat} (h : o + k < L.length) (ha : a ≤ k) : (mix L o R a k).set (o + k) (.int .u64 ((R / W ^ k % W : Nat) : Int)) = mix L o R a (k + 1) := by
  apply List.ext_getElem?
  intro p
  rw [List.getElem?_set]
  by_cases h1 : o + k = p
  · subst h1
    rw [if_pos rfl, if_pos (by rw [mix_length]; exact h), mix_in k ha (by omega) h]
  · rw [if_neg h1]
    by_cases h2 : o + a ≤ p ∧ p < o + k
    · obtain ⟨j, rfl⟩ : ∃ j, p = o + j := ⟨p - o, by omega⟩
      rw [mix_in j (by omega) (by omega) (by omega), mix_in j (by omega) (by omega) (by omega)]
    · rw [mix_out p (by omega), mix_out p (by omega)]
theorem mix_down {L : List Value} {o R b k : Nat} (h : o + k < L.length) (hb : k < b) : (mix L o R (k + 1) b).set (o + k) (.int .u64 ((R / W ^ k % W : Nat) : Int)) = mix L o R k b := by
  apply List.ext_getElem?
  intro p
  rw [List.getElem?_set]
  by_cases h1 : o + k = p
  · subst h1
    rw [if_pos rfl, if_pos (by rw [mix_length]; exact h), mix_in k (by omega) hb h]
  · rw [if_neg h1]
    by_cases h2 : o + k + 1 ≤ p ∧ p < o + b
    · obtain ⟨j, rfl⟩ : ∃ j, p = o + j := ⟨p - o, by omega⟩
      by_cases h3 : o + j < L.length
      · rw [mix_in j (by omega) (by omega) h3, mix_in j (by omega) (by omega) h3]
      · rw [List.getElem?_eq_none (by rw [mix_length]; omega), List.getElem?_eq_none (by rw [mix_length]; omega)]
    · rw [mix_out p (by omega), mix_out p (by omega)]

theorem Wd.lt {w : World} {g : Nat} {L : List Value} (h : Wd w g L) : g < w.heap.size := Box.Holds.lt h
theorem Wd.cell {w : World} {g : Nat} {L : List Value} (h : Wd w g L) (p : Nat) : w.cell? ⟨g, p, none⟩ = L[p]? := by
  have := Box.Holds.cell h p
  rw [this]
  simp
theorem Wd.some_ {w : World} {g : Nat} {L : List Value} (h : Wd w g L) {p : Nat} (hp : p < L.length) : (∃ v, w.cell? ⟨g, p, none⟩ = some v) ∧ w.frozen? ⟨g, p, none⟩ = false := by
  refine ⟨⟨L[p], ?_⟩, Box.Holds.free h p⟩
  rw [h.cell, List.getElem?_eq_getElem]
theorem Wd.put {w : World} {g : Nat} {L : List Value} (h : Wd w g L) (p : Nat) (v : Value) : Wd (w.setCell ⟨g, p, none⟩ v) g (L.set p v) := by
  have := Box.Holds.put h p v
  rw [List.setIfInBounds_toArray] at this
  exact this
theorem Wd.apart {w : World} {g : Nat} {L : List Value} (h : Wd w g L) {p : Addr} (hp : g ≠ p.block) (u : Value) : Wd (w.setCell p u) g L := Box.Holds.apart h hp u
theorem Wd.drawn {w : World} {g : Nat} {L : List Value} (h : Wd w g L) (n : Nat) : Wd (w.drewN n) g L := h
theorem Wd.src {w : World} {g : Nat} {L : List Value} (h : Wd w g L) {d n k Y : Nat} (hs : ∀ j, k ≤ j → j < n → L[d + j]? = some (.int .u64 ((Y / W ^ j % W : Nat) : Int))) : Src w g d n k Y := fun j h1 h2 => (h.cell _).trans (hs j h1 h2)
theorem Src.get {w : World} {g : Nat} {L : List Value} {d n k Y : Nat} (h : Src w g d n k Y) (hw : Wd w g L) (j : Nat) (h1 : k ≤ j) (h2 : j < n) : L[d + j]? = some (.int .u64 ((Y / W ^ j % W : Nat) : Int)) := (hw.cell _).symm.trans (h j h1 h2)
/-- what has been written is read as a number -/
theorem Wd.wrote {w : World} {g : Nat} {L : List Value} {o R n : Nat} (h : Wd w g (mix L o R 0 n)) (hn : o + n ≤ L.length) : Src w g o n 0 R := h.src fun j _ h2 => mix_in j (by omega) h2 (by omega)
/-- the source goes on being read while the words behind are written -/
theorem Src.put {w : World} {g d n k Y gz oz : Nat} (h : Src w g d n k Y) (v : Value) (hs : g ≠ gz ∨ d + n ≤ oz ∨ oz ≤ d) : Src (w.setCell ⟨gz, oz + k, none⟩ v) g d n (k + 1) Y := by
  intro j h1 h2
  have hne : (⟨gz, oz + k, none⟩ : Addr) ≠ ⟨g, d + j, none⟩ := by
    intro e
    simp only [Addr.mk.injEq, and_true] at e
    rcases hs with hs | hs | hs
    · exact hs e.1.symm
    · omega
    · omega
  exact (World.cell?_setCell_other w _ _ v hne).trans (h j (by omega) h2)
/-- the same, written from the end on -/
theorem Src.putDown {w : World} {g d n k Y gz : Nat} (h : Src w g d n k Y) (p : Nat) (v : Value) (hs : g ≠ gz) : Src (w.setCell ⟨gz, p, none⟩ v) g d n k Y := by
  intro j h1 h2
  have hne : (⟨gz, p, none⟩ : Addr) ≠ ⟨g, d + j, none⟩ := by
    intro e
    simp only [Addr.mk.injEq, and_true] at e
    exact hs e.1.symm
  exact (World.cell?_setCell_other w _ _ v hne).trans (h j h1 h2)

/-- but block g nothing has turned -/
structure Only (g : Nat) (w w' : World) : Prop where
  os : w'.os = w.os
  tape : w'.tape = w.tape
  output : w'.output = w.output
  size : w'.heap.size = w.heap.size
  block : ∀ k, k ≠ g → w'.heap[k]? = w.heap[k]?
theorem Only.refl (g : Nat) (w : World) : Only g w w := ⟨rfl, rfl, rfl, rfl, fun _ _ => rfl⟩
theorem Only.trans {g : Nat} {a b c : World} (h : Only g a b) (k : Only g b c) : Only g a c :=
  ⟨k.os.trans h.os, k.tape.trans h.tape, k.output.trans h.output, k.size.trans h.size, fun i hi => (k.block i hi).trans (h.block i hi)⟩
theorem Only.drawn {g : Nat} {a w : World} (h : Only g a w) (n : Nat) : Only g a (w.drewN n) := ⟨h.os, h.tape, h.output, h.size, h.block⟩
theorem Only.drew {g : Nat} {a w : World} (h : Only g a w) : Only g a w.drew := ⟨h.os, h.tape, h.output, h.size, h.block⟩
theorem Only.setCell {g : Nat} {a w : World} (h : Only g a w) (p : Nat) (u : Value) : Only g a (w.setCell ⟨g, p, none⟩ u) :=
  h.trans ⟨rfl, rfl, rfl, by simp [World.setCell], fun k hk => Below.heap_setCell _ ⟨g, p, none⟩ _ _ hk⟩
theorem Only.below {g B : Nat} {a w w' : World} (h : Only g w w') (hb : Below B a w) (hg : B ≤ g) : Below B a w' :=
  hb.trans ⟨h.os, h.tape, h.output, Nat.le_of_eq h.size.symm, fun k hk => h.block k (by omega)⟩
theorem Only.wd {g g' : Nat} {w w' : World} {L : List Value} (h : Only g w w') (hw : Wd w g' L) (hne : g' ≠ g) : Wd w' g' L := (h.block g' hne).trans hw
theorem Only.holds {g g' : Nat} {w w' : World} {t : TypeId} {cs : Array Value} (h : Only g w w') (hw : Box.Holds w g' t cs) (hne : g' ≠ g) : Box.Holds w' g' t cs := (h.block g' hne).trans hw
theorem Only.src {g g' d n k Y : Nat} {w w' : World} (h : Only g w w') (hs : Src w g' d n k Y) (hne : g' ≠ g) : Src w' g' d n k Y := fun j h1 h2 => (World.cell?_of_block (w := w) (a := ⟨g', d + j, none⟩) (h.block g' hne)).trans (hs j h1 h2)

set_option maxHeartbeats 2000000 in
set_option maxRecDepth 100000 in
theorem subg_sec (X Y n gz oz cz gx dx cx gy dy cy : Nat) (L : List Value) (w : World) (hz : Wd w gz L) (hx : Src w gx dx n 0 X) (hy : Src w gy dy n 0 Y) (hXY : Y ≤ X) (hn2 : oz + n ≤ L.length)
    (hxs : gx ≠ gz ∨ dx + n ≤ oz ∨ oz ≤ dx) (hys : gy ≠ gz ∨ dy + n ≤ oz ∨ oz ≤ dy) (hN : n ≤ 10000)
    (hcx : n ≤ cx) (hcy : n ≤ cy) (hcz : n ≤ cz) (hdz : oz ≤ 10000) (hdx : dx ≤ 10000) (hdy : dy ≤ 10000) :
    Calls Tryz.prog 111 #[.slice (some ⟨gz, oz, none⟩) n cz, .slice (some ⟨gx, dx, none⟩) n cx, .slice (some ⟨gy, dy, none⟩) n cy] w fun e w' => e = .returned (.int .u64 ((borrow X Y n : Nat) : Int)) ∧ Wd w' gz (mix L oz (X - Y) 0 n) ∧ Only gz w w' := by
  have hst := Lib.hid (show Wd w gz (mix L oz (X - Y) 0 0) ∧ Only gz w w ∧ Src w gx dx n 0 X ∧ Src w gy dy n 0 Y from ⟨by rw [mix_nil (Nat.le_refl _)]; exact hz, Only.refl _ _, hx, hy⟩)
  have hXY' := Lib.hid hXY
  have hxs' := Lib.hid hxs
  have hys' := Lib.hid hys
  have hb := Lib.hid fun x y c W (hc : c ≤ 1) => (bsub_any x y c hc W).mono (fun e w' (h : _ ∧ W = w') => And.intro h.1 h.2.symm)
  clear hz hx hy hXY hxs hys
  go_enter Tryz.func111, Tryz.ntmps111
  go_wp2
  go_loopw [6, 25] (fun c i wr => ∃ k : Nat, k ≤ n ∧ i = .int .i64 (k : Int) ∧ c = .int .u64 ((borrow X Y k : Nat) : Int) ∧ Hid (Wd wr gz (mix L oz (X - Y) 0 k) ∧ Only gz w wr ∧ Src wr gx dx n k X ∧ Src wr gy dy n k Y)) (fun _ i _ => n - (intOf i).toNat)
  case atStart => exact ⟨0, by omega, rfl, by rw [borrow_zero]; rfl, hst⟩
  case round =>
    clear hst
    obtain ⟨k, hk, rfl, rfl, hI⟩ := hrel
    obtain ⟨b, hbk⟩ : ∃ b, borrow X Y k = b := ⟨_, rfl⟩
    have hb1 : b ≤ 1 := by rw [← hbk]; exact borrow_le X Y k
    have hbk' := Lib.hid hbk
    rw [hbk]
    clear hbk
    by_cases hlt : k < n
    · obtain ⟨hz, ho, hx, hy⟩ := hI.out
      obtain ⟨⟨cv, hcv⟩, hf0⟩ := hz.some_ (p := oz + k) (by rw [mix_length]; omega)
      obtain ⟨x, hxe⟩ : ∃ x, X / W ^ k % W = x := ⟨_, rfl⟩
      obtain ⟨y, hye⟩ : ∃ y, Y / W ^ k % W = y := ⟨_, rfl⟩
      have hx0 := hx k (by omega) (by omega)
      rw [hxe] at hx0
      have hy0 := hy k (by omega) (by omega)
      rw [hye] at hy0
      have hbw := borrow_word X Y k x y hXY'.out hxe hye
      have hbs := borrow_succ X Y k x y hxe hye
      rw [hbk'.out] at hbw hbs
      obtain ⟨D, hD⟩ : ∃ D, (x + W - y - b) % W = D := ⟨_, rfl⟩
      obtain ⟨C, hC⟩ : ∃ C : Nat, (if x < y + b then 1 else 0 : Nat) = C := ⟨_, rfl⟩
      have hcall := Lib.hid fun W => hb.out x y b W hb1
      rw [hD, hC] at hcall
      rw [hD] at hbw
      rw [hC] at hbs
      have hfin := Lib.hid (show ∀ q, Wd ((wr.drewN q).setCell ⟨gz, oz + k, none⟩ (.int .u64 (D : Int))) gz (mix L oz (X - Y) 0 (k + 1)) ∧ Only gz w ((wr.drewN q).setCell ⟨gz, oz + k, none⟩ (.int .u64 (D : Int))) ∧ Src ((wr.drewN q).setCell ⟨gz, oz + k, none⟩ (.int .u64 (D : Int))) gx dx n (k + 1) X ∧ Src ((wr.drewN q).setCell ⟨gz, oz + k, none⟩ (.int .u64 (D : Int))) gy dy n (k + 1) Y from fun q =>
        ⟨by rw [← mix_up (by omega) (Nat.zero_le _), hbw]; exact (hz.drawn q).put _ _, (ho.drawn q).setCell _ _, Src.put (w := wr.drewN q) hx _ hxs'.out, Src.put (w := wr.drewN q) hy _ hys'.out⟩)
      have hbs' := Lib.hid hbs
      clear hxe hye hbw hbs hD hC hz ho hx hy hI
      go_wp2_with fail
      go_quiet ((go_at_call 112; with_reducible exact Calls.quiet_of_same (hcall.out _)))
      go_wp2
      go_roundw
      case rel => exact ⟨k + 1, by omega, by go_num, by rw [hbs'.out], Lib.hid (hfin.out _)⟩
      case measure => simp [intOf]; omega
    · obtain rfl : k = n := by omega
      have hfin := Lib.hid (And.intro hI.out.1 hI.out.2.1)
      clear hI
      go_wp2
      go_ret
      exact ⟨by rw [hbk'.out]; rfl, hfin.out⟩
set_option maxHeartbeats 2000000 in
set_option maxRecDepth 100000 in
theorem addg_sec (X Y n gz oz cz gx dx cx gy dy cy : Nat) (L : List Value) (w : World) (hz : Wd w gz L) (hx : Src w gx dx n 0 X) (hy : Src w gy dy n 0 Y) (hn2 : oz + n ≤ L.length)
    (hxs : gx ≠ gz ∨ dx + n ≤ oz ∨ oz ≤ dx) (hys : gy ≠ gz ∨ dy + n ≤ oz ∨ oz ≤ dy) (hN : n ≤ 10000)
    (hcx : n ≤ cx) (hcy : n ≤ cy) (hcz : n ≤ cz) (hdz : oz ≤ 10000) (hdx : dx ≤ 10000) (hdy : dy ≤ 10000) :
    Calls Tryz.prog 109 #[.slice (some ⟨gz, oz, none⟩) n cz, .slice (some ⟨gx, dx, none⟩) n cx, .slice (some ⟨gy, dy, none⟩) n cy] w fun e w' => e = .returned (.int .u64 ((carry X Y n : Nat) : Int)) ∧ Wd w' gz (mix L oz (X + Y) 0 n) ∧ Only gz w w' := by
  have hst := Lib.hid (show Wd w gz (mix L oz (X + Y) 0 0) ∧ Only gz w w ∧ Src w gx dx n 0 X ∧ Src w gy dy n 0 Y from ⟨by rw [mix_nil (Nat.le_refl _)]; exact hz, Only.refl _ _, hx, hy⟩)
  have hxs' := Lib.hid hxs
  have hys' := Lib.hid hys
  have hb := Lib.hid fun x y c W (hc : c ≤ 1) => (badd_any x y c hc W).mono (fun e w' (h : _ ∧ W = w') => And.intro h.1 h.2.symm)
  clear hz hx hy hxs hys
  go_enter Tryz.func109, Tryz.ntmps109
  go_wp2
  go_loopw [6, 25] (fun c i wr => ∃ k : Nat, k ≤ n ∧ i = .int .i64 (k : Int) ∧ c = .int .u64 ((carry X Y k : Nat) : Int) ∧ Hid (Wd wr gz (mix L oz (X + Y) 0 k) ∧ Only gz w wr ∧ Src wr gx dx n k X ∧ Src wr gy dy n k Y)) (fun _ i _ => n - (intOf i).toNat)
  case atStart => exact ⟨0, by omega, rfl, by rw [carry_zero]; rfl, hst⟩
  case round =>
    clear hst
    obtain ⟨k, hk, rfl, rfl, hI⟩ := hrel
    obtain ⟨b, hbk⟩ : ∃ b, carry X Y k = b := ⟨_, rfl⟩
    have hb1 : b ≤ 1 := by rw [← hbk]; exact carry_le X Y k
    have hbk' := Lib.hid hbk
    rw [hbk]
    clear hbk
    by_cases hlt : k < n
    · obtain ⟨hz, ho, hx, hy⟩ := hI.out
      obtain ⟨⟨cv, hcv⟩, hf0⟩ := hz.some_ (p := oz + k) (by rw [mix_length]; omega)
      obtain ⟨x, hxe⟩ : ∃ x, X / W ^ k % W = x := ⟨_, rfl⟩
      obtain ⟨y, hye⟩ : ∃ y, Y / W ^ k % W = y := ⟨_, rfl⟩
      have hx0 := hx k (by omega) (by omega)
      rw [hxe] at hx0
      have hy0 := hy k (by omega) (by omega)
      rw [hye] at hy0
      obtain ⟨hbw, hbs⟩ := carry_word X Y k x y hxe hye
      rw [hbk'.out] at hbw hbs
      obtain ⟨D, hD⟩ : ∃ D, (x + y + b) % W = D := ⟨_, rfl⟩
      obtain ⟨C, hC⟩ : ∃ C, (x + y + b) / W = C := ⟨_, rfl⟩
      have hcall := Lib.hid fun W => hb.out x y b W hb1
      rw [hD, hC] at hcall
      rw [hD] at hbw
      rw [hC] at hbs
      have hfin := Lib.hid (show ∀ q, Wd ((wr.drewN q).setCell ⟨gz, oz + k, none⟩ (.int .u64 (D : Int))) gz (mix L oz (X + Y) 0 (k + 1)) ∧ Only gz w ((wr.drewN q).setCell ⟨gz, oz + k, none⟩ (.int .u64 (D : Int))) ∧ Src ((wr.drewN q).setCell ⟨gz, oz + k, none⟩ (.int .u64 (D : Int))) gx dx n (k + 1) X ∧ Src ((wr.drewN q).setCell ⟨gz, oz + k, none⟩ (.int .u64 (D : Int))) gy dy n (k + 1) Y from fun q =>
        ⟨by rw [← mix_up (by omega) (Nat.zero_le _), hbw]; exact (hz.drawn q).put _ _, (ho.drawn q).setCell _ _, Src.put (w := wr.drewN q) hx _ hxs'.out, Src.put (w := wr.drewN q) hy _ hys'.out⟩)
      have hbs' := Lib.hid hbs
      clear hxe hye hbw hbs hD hC hz ho hx hy hI
      go_wp2_with fail
      go_quiet ((go_at_call 110; with_reducible exact Calls.quiet_of_same (hcall.out _)))
      go_wp2
      go_roundw
      case rel => exact ⟨k + 1, by omega, by go_num, by rw [hbs'.out], Lib.hid (hfin.out _)⟩
      case measure => simp [intOf]; omega
    · obtain rfl : k = n := by omega
      have hfin := Lib.hid (And.intro hI.out.1 hI.out.2.1)
      clear hI
      go_wp2
      go_ret
      exact ⟨by rw [hbk'.out]; rfl, hfin.out⟩
set_option maxRecDepth 100000 in
theorem subv_sec (X Y n gz oz cz gx dx cx gy dy cy : Nat) (L : List Value) (w : World) (hz : Wd w gz L) (hx : Src w gx dx n 0 X) (hy : Src w gy dy n 0 Y) (hXY : Y ≤ X) (hn2 : oz + n ≤ L.length)
    (hxs : gx ≠ gz ∨ dx + n ≤ oz ∨ oz ≤ dx) (hys : gy ≠ gz ∨ dy + n ≤ oz ∨ oz ≤ dy) (hN : n ≤ 10000)
    (hcx : n ≤ cx) (hcy : n ≤ cy) (hcz : n ≤ cz) (hdz : oz ≤ 10000) (hdx : dx ≤ 10000) (hdy : dy ≤ 10000) :
    Calls Tryz.prog 90 #[.slice (some ⟨gz, oz, none⟩) n cz, .slice (some ⟨gx, dx, none⟩) n cx, .slice (some ⟨gy, dy, none⟩) n cy] w fun e w' => e = .returned (.int .u64 ((borrow X Y n : Nat) : Int)) ∧ Wd w' gz (mix L oz (X - Y) 0 n) ∧ Only gz w w' := by
  have hin := Lib.hid (subg_sec X Y n gz oz cz gx dx cx gy dy cy L w hz hx hy hXY hn2 hxs hys hN hcx hcy hcz hdz hdx hdy)
  clear hz hx hy hxs hys
  go_enter Tryz.func90, Tryz.ntmps90
  go_wp2_with fail
  refine hin.out.mono ?_
  rintro e w1 ⟨rfl, ho⟩
  have hfin := Lib.hid ho
  clear ho hin
  go_wp2
  go_ret
  exact ⟨rfl, hfin.out⟩
set_option maxRecDepth 100000 in
theorem addv_sec (X Y n gz oz cz gx dx cx gy dy cy : Nat) (L : List Value) (w : World) (hz : Wd w gz L) (hx : Src w gx dx n 0 X) (hy : Src w gy dy n 0 Y) (hn2 : oz + n ≤ L.length)
    (hxs : gx ≠ gz ∨ dx + n ≤ oz ∨ oz ≤ dx) (hys : gy ≠ gz ∨ dy + n ≤ oz ∨ oz ≤ dy) (hN : n ≤ 10000)
    (hcx : n ≤ cx) (hcy : n ≤ cy) (hcz : n ≤ cz) (hdz : oz ≤ 10000) (hdx : dx ≤ 10000) (hdy : dy ≤ 10000) :
    Calls Tryz.prog 88 #[.slice (some ⟨gz, oz, none⟩) n cz, .slice (some ⟨gx, dx, none⟩) n cx, .slice (some ⟨gy, dy, none⟩) n cy] w fun e w' => e = .returned (.int .u64 ((carry X Y n : Nat) : Int)) ∧ Wd w' gz (mix L oz (X + Y) 0 n) ∧ Only gz w w' := by
  have hin := Lib.hid (addg_sec X Y n gz oz cz gx dx cx gy dy cy L w hz hx hy hn2 hxs hys hN hcx hcy hcz hdz hdx hdy)
  clear hz hx hy hxs hys
  go_enter Tryz.func88, Tryz.ntmps88
  go_wp2_with fail
  refine hin.out.mono ?_
  rintro e w1 ⟨rfl, ho⟩
  have hfin := Lib.hid ho
  clear ho hin
  go_wp2
  go_ret
  exact ⟨rfl, hfin.out⟩
/-- what is carried to place k of a product by a word -/
def mcarry (X y r k : Nat) : Nat := (X % W ^ k * y + r) / W ^ k
theorem mcarry_zero (X y r : Nat) : mcarry X y r 0 = r := by unfold mcarry; simp [Nat.mod_one]
theorem mcarry_lt (X y r k : Nat) (hy : y < W) (hr : r < W) : mcarry X y r k < W := by
  have hp : 0 < W ^ k := Nat.pow_pos W_pos
  have h1 := Nat.mod_lt X hp
  unfold mcarry
  refine (Nat.div_lt_iff_lt_mul hp).2 ?_
  have h2 : (X % W ^ k + 1) * y ≤ W ^ k * y := Nat.mul_le_mul_right _ h1
  have h3 : W ^ k * (y + 1) ≤ W ^ k * W := Nat.mul_le_mul_left _ hy
  have h4 : X % W ^ k * y ≤ (W ^ k - 1) * y := Nat.mul_le_mul_right _ (by omega)
  have h5 : (W ^ k - 1) * y + y = W ^ k * y := by rw [← Nat.succ_mul]; congr 1; omega
  rcases Nat.eq_zero_or_pos k with h0 | h0
  · subst h0
    simp [Nat.mod_one]
    exact hr
  · have h6 : W ≤ W ^ k := by
      obtain ⟨j, rfl⟩ : ∃ j, k = j + 1 := ⟨k - 1, by omega⟩
      rw [Nat.pow_succ]
      exact Nat.le_mul_of_pos_left _ (Nat.pow_pos W_pos)
    rw [Nat.mul_add, Nat.mul_one] at h3
    rw [Nat.mul_comm W]
    omega
theorem mul_word (X y r k x : Nat) (hx : X / W ^ k % W = x) : (X * y + r) / W ^ k % W = (x * y + mcarry X y r k) % W ∧ mcarry X y r (k + 1) = (x * y + mcarry X y r k) / W := by
  have hp : 0 < W ^ k := Nat.pow_pos W_pos
  have e : (X * y + r) / W ^ k = X / W ^ k * y + mcarry X y r k := by
    unfold mcarry
    rw [← Nat.mul_add_div hp]
    congr 1
    rw [← Nat.add_assoc, ← Nat.mul_assoc, ← Nat.add_mul, Nat.div_add_mod]
  constructor
  · rw [e, ← hx, Nat.add_mod, Nat.add_mod (X / W ^ k % W * y)]
    congr 2
    rw [Nat.mul_mod, Nat.mul_mod (X / W ^ k % W) y, Nat.mod_mod]
  · have e2 : X % W ^ (k + 1) * y + r = W ^ k * (x * y) + (X % W ^ k * y + r) := by
      rw [mod_succ, hx, Nat.add_mul, Nat.mul_assoc]
      omega
    unfold mcarry
    rw [e2, Nat.pow_succ, ← Nat.div_div_eq_div_mul, Nat.mul_add_div hp]
set_option maxHeartbeats 1000000 in
set_option maxRecDepth 100000 in
theorem mulw_any (x y c : Nat) (hx : x < W) (hy : y < W) (hc : c < W) (w : World) : Calls Tryz.prog 159 #[.int .u64 x, .int .u64 y, .int .u64 c] w fun e w' => e = .returned (.tuple #[.int .u64 (((x * y + c) / W : Nat) : Int), .int .u64 (((x * y + c) % W : Nat) : Int)]) ∧ w' = w := by
  have c1 := Lib.hid fun w => Tryz.bits_Mul x y hx hy w
  obtain ⟨T, hT⟩ : ∃ T, x * y = T := ⟨_, rfl⟩
  have hTW : T ≤ (W - 1) * (W - 1) := by rw [← hT]; exact Nat.mul_le_mul (by omega) (by omega)
  rw [← W_eq, hT] at c1
  have c2 := Lib.hid fun w => badd_any (T % W) c 0 (by omega) w
  have e1 : (T % W + c + 0) % W = (T + c) % W := by rw [W_eq] at *; omega
  have e2 : T / W + (T % W + c + 0) / W = (T + c) / W := by rw [W_eq] at *; omega
  rw [hT]
  obtain ⟨t1, ht1⟩ : ∃ t1, T / W = t1 := ⟨_, rfl⟩
  obtain ⟨t0, ht0⟩ : ∃ t0, T % W = t0 := ⟨_, rfl⟩
  obtain ⟨cc, hcc⟩ : ∃ cc, (T % W + c + 0) / W = cc := ⟨_, rfl⟩
  obtain ⟨lo, hlo⟩ : ∃ lo, (T + c) % W = lo := ⟨_, rfl⟩
  obtain ⟨hi, hhi⟩ : ∃ hi, (T + c) / W = hi := ⟨_, rfl⟩
  have hhiW : hi < W := by
    rw [← hhi]
    refine (Nat.div_lt_iff_lt_mul W_pos).2 ?_
    rw [W_eq] at *
    omega
  rw [ht1, ht0] at c1
  rw [e1, hcc, hlo, ht0] at c2
  rw [ht1, hcc, hhi] at e2
  rw [hlo, hhi]
  have k1 : IntKind.u64.wrap ((t1 : Int) + (cc : Int)) = (hi : Int) := by rw [IntKind.wrap_u64]; rw [W_eq] at *; omega
  clear hT hTW e1 e2 ht1 ht0 hcc hlo hhi hhiW hx hy hc
  go_enter Tryz.func159, Tryz.ntmps159
  go_wp2_with fail
  refine (c1.out _).mono ?_
  rintro e w1 ⟨rfl, rfl⟩
  go_wp2_with fail
  refine (c2.out _).mono ?_
  rintro e w1 ⟨rfl, rfl⟩
  go_wp2
  go_ret2
  exact ⟨rfl, rfl⟩
set_option maxHeartbeats 2000000 in
set_option maxRecDepth 100000 in
theorem mulg_sec (X y r n gz oz cz gx dx cx : Nat) (L : List Value) (w : World) (hz : Wd w gz L) (hx : Src w gx dx n 0 X) (hy : y < W) (hr : r < W) (hn2 : oz + n ≤ L.length)
    (hxs : gx ≠ gz ∨ dx + n ≤ oz ∨ oz ≤ dx) (hN : n ≤ 10000) (hcx : n ≤ cx) (hcz : n ≤ cz) (hdz : oz ≤ 10000) (hdx : dx ≤ 10000) :
    Calls Tryz.prog 145 #[.slice (some ⟨gz, oz, none⟩) n cz, .slice (some ⟨gx, dx, none⟩) n cx, .int .u64 y, .int .u64 r] w fun e w' => e = .returned (.int .u64 ((mcarry X y r n : Nat) : Int)) ∧ Wd w' gz (mix L oz (X * y + r) 0 n) ∧ Only gz w w' := by
  have hst := Lib.hid (show Wd w gz (mix L oz (X * y + r) 0 0) ∧ Only gz w w ∧ Src w gx dx n 0 X from ⟨by rw [mix_nil (Nat.le_refl _)]; exact hz, Only.refl _ _, hx⟩)
  have hxs' := Lib.hid hxs
  have hb := Lib.hid fun x c W hx hc => (mulw_any x y c hx hy hc W)
  have hlt' := Lib.hid fun k => mcarry_lt X y r k hy hr
  clear hz hx hxs
  go_enter Tryz.func145, Tryz.ntmps145
  go_wp2
  go_loopw [8, 19] (fun c i wr => ∃ k : Nat, k ≤ n ∧ i = .int .i64 (k : Int) ∧ c = .int .u64 ((mcarry X y r k : Nat) : Int) ∧ Hid (Wd wr gz (mix L oz (X * y + r) 0 k) ∧ Only gz w wr ∧ Src wr gx dx n k X)) (fun _ i _ => n - (intOf i).toNat)
  case atStart => exact ⟨0, by omega, rfl, by rw [mcarry_zero], hst⟩
  case round =>
    clear hst
    obtain ⟨k, hk, rfl, rfl, hI⟩ := hrel
    have hcl := hlt'.out k
    obtain ⟨b, hbk⟩ : ∃ b, mcarry X y r k = b := ⟨_, rfl⟩
    have hbk' := Lib.hid hbk
    rw [hbk] at hcl ⊢
    clear hbk
    by_cases hlt : k < n
    · obtain ⟨hz, ho, hx⟩ := hI.out
      obtain ⟨⟨cv, hcv⟩, hf0⟩ := hz.some_ (p := oz + k) (by rw [mix_length]; omega)
      obtain ⟨x, hxe⟩ : ∃ x, X / W ^ k % W = x := ⟨_, rfl⟩
      have hx0 := hx k (by omega) (by omega)
      rw [hxe] at hx0
      have hxW : x < W := by rw [← hxe]; exact Nat.mod_lt _ W_pos
      obtain ⟨hbw, hbs⟩ := mul_word X y r k x hxe
      rw [hbk'.out] at hbw hbs
      obtain ⟨D, hD⟩ : ∃ D, (x * y + b) % W = D := ⟨_, rfl⟩
      obtain ⟨C, hC⟩ : ∃ C, (x * y + b) / W = C := ⟨_, rfl⟩
      have hcall := Lib.hid fun W => hb.out x b W hxW hcl
      rw [hD, hC] at hcall
      rw [hD] at hbw
      rw [hC] at hbs
      have hfin := Lib.hid (show Wd (wr.setCell ⟨gz, oz + k, none⟩ (.int .u64 (D : Int))) gz (mix L oz (X * y + r) 0 (k + 1)) ∧ Only gz w (wr.setCell ⟨gz, oz + k, none⟩ (.int .u64 (D : Int))) ∧ Src (wr.setCell ⟨gz, oz + k, none⟩ (.int .u64 (D : Int))) gx dx n (k + 1) X from
        ⟨by rw [← mix_up (by omega) (Nat.zero_le _), hbw]; exact hz.put _ _, ho.setCell _ _, Src.put (w := wr) hx _ hxs'.out⟩)
      have hbs' := Lib.hid hbs
      clear hxe hbw hbs hD hC hz ho hx hI hxW hcl
      go_wp2_with fail
      refine (hcall.out _).mono ?_
      rintro e w1 ⟨rfl, rfl⟩
      go_wp2
      go_roundw
      case rel => exact ⟨k + 1, by omega, by go_num, by rw [hbs'.out], hfin⟩
      case measure => simp [intOf]; omega
    · obtain rfl : k = n := by omega
      have hfin := Lib.hid (And.intro hI.out.1 hI.out.2.1)
      clear hI hcl
      go_wp2
      go_ret
      exact ⟨by rw [hbk'.out]; rfl, hfin.out⟩
set_option maxRecDepth 100000 in
theorem mulv_sec (X y r n gz oz cz gx dx cx : Nat) (L : List Value) (w : World) (hz : Wd w gz L) (hx : Src w gx dx n 0 X) (hy : y < W) (hr : r < W) (hn2 : oz + n ≤ L.length)
    (hxs : gx ≠ gz ∨ dx + n ≤ oz ∨ oz ≤ dx) (hN : n ≤ 10000) (hcx : n ≤ cx) (hcz : n ≤ cz) (hdz : oz ≤ 10000) (hdx : dx ≤ 10000) :
    Calls Tryz.prog 129 #[.slice (some ⟨gz, oz, none⟩) n cz, .slice (some ⟨gx, dx, none⟩) n cx, .int .u64 y, .int .u64 r] w fun e w' => e = .returned (.int .u64 ((mcarry X y r n : Nat) : Int)) ∧ Wd w' gz (mix L oz (X * y + r) 0 n) ∧ Only gz w w' := by
  have hin := Lib.hid (mulg_sec X y r n gz oz cz gx dx cx L w hz hx hy hr hn2 hxs hN hcx hcz hdz hdx)
  clear hz hx hxs
  go_enter Tryz.func129, Tryz.ntmps129
  go_wp2_with fail
  refine hin.out.mono ?_
  rintro e w1 ⟨rfl, ho⟩
  have hfin := Lib.hid ho
  clear ho hin
  go_wp2
  go_ret
  exact ⟨rfl, hfin.out⟩
end Go.Proofs.YtpjkfdgkkpkljaaGreatDoor.Nat_
