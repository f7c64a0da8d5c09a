/-
  The law on a text without what it begins with, or ends with.
-/
import Derived.Test.YtkflmgpigidkeaaGreatRemReg
import Derived.Test.YtkflmgpigidkeaaGreatRemAsk
import Derived.Test.YtkflmgpigidkeaaGreatRemAscii
import Derived.Test.YtkflmgpigidkeaaGreatRemCall
import Derived.Deep.RegionWith
import Derived.Deep.DrawnRows
import Derived.Deep.DeepCutAuto
namespace Go.Proofs.YtkflmgpigidkeaaGreat.fnTextRemove
open Go.RowKit Go.WideShapes Go.Proofs.YtkflmgpigidkeaaGreat.Rem Go.Proofs.YtkflmgpigidkeaaGreat.Reg
set_option linter.unusedVariables false

theorem asked_any (sfx : Bool) (s x : ByteArray) (g c : Nat) (W : World) (hs : s.size ≤ 60) (hx : x.size ≤ 60) (hg : Holds W g 27 (texts x)) :
    Calls Tryz.prog 9 #[.string s, .string (nmOf sfx), .slice (some ⟨g, 0, none⟩) 1 c] W fun e w' => e = .returned (.tuple #[.agg (texts (rem sfx s x)), .slice none 0 0, .bool true]) ∧ Below W.heap.size W w' := by
  cases sfx
  · exact asked_pre s x g c W hs hx hg
  · exact asked_suf s x g c W hs hx hg

set_option maxHeartbeats 4000000 in
set_option maxRecDepth 100000 in
theorem walk (a0 : Bool) (a1 : ByteArray) (a2 : ByteArray) (w1 : a1.size ≤ maxLen) (w2 : a2.size ≤ maxLen) (w : World) :
    Calls Tryz.prog 3 #[.bool a0, .string a1, .string a2] w fun e w' => e = .returned (.bool true) ∧ Below w.heap.size w w' := by
  unfold maxLen at w1 w2
  have has := Lib.hid fun s W h => ascii_any s W h
  by_cases h1 : a1.size ≤ 2147483647
  · by_cases h2 : a2.size ≤ 2147483647
    · go_enter Tryz.func3, Tryz.ntmps3
      go_wp2_with fail
      refine (has.out _ _ h1).mono ?_
      rintro e W1 ⟨s, rfl, hs, hb1⟩
      go_wp2_with fail
      refine (has.out _ _ h2).mono ?_
      rintro e W2 ⟨x, rfl, hx, hb2⟩
      have hbw := Lib.hid (hb1.trans (hb2.mono hb1.size))
      clear hb1 hb2 has
      go_wp2_with fail
      obtain ⟨p, hp⟩ : ∃ p : Nat → Value, p = fun k => (#[undef, undef, undef, undef, undef, undef, undef, undef, undef, undef, undef, undef, undef, undef, Value.string a1, .int .i64 a1.size, .bool (decide ((2147483647 : Int) < a1.size)), .bool (decide ((2147483647 : Int) < a1.size)), .string a2, .int .i64 a2.size, .bool (decide ((2147483647 : Int) < a2.size)), .bool (decide ((2147483647 : Int) < a1.size) || decide ((2147483647 : Int) < a2.size)), .string a1, .string s, .string a2, .string x] : Array Value).getD k undef := ⟨_, rfl⟩
      have hp' := Lib.hid hp
      clear hp
      obtain ⟨R, hR⟩ : ∃ R, rem a0 s x = R := ⟨_, rfl⟩
      have hmk : ∀ W : World, (Instr.makeMap 31 none).run Tryz.prog W = .ok (.map (some W.heap.size)) (W.alloc (.map #[] 0)) := fun W => by kernel_rfl
      have htv := Lib.hid fun t W => textval_any t W
      have hask := Lib.hid fun g W h => asked_any a0 s x g 1 W hs hx h
      rw [hR] at hask
      have hR' := Lib.hid hR
      clear hR
      go_cut [9, 10, 11] (fun v9 v10 v11 wx => v10 = .slice none 0 0 ∧ v11 = .bool true ∧ ∃ g9, v9 = .pointer (some ⟨g9, 0, none⟩) ∧ Holds wx g9 27 (texts R) ∧ Below w.heap.size w wx)
      case first =>
        refine wp_region_inv (by kernel_rfl) (by decide +kernel) (J s x R a0 a1 a2 p W2) ?h0 ?hstep ?hend
        case h0 =>
          refine ⟨fun _ => undef, 0, 0, 0, ?_, Below.drew (Below.refl _ _), fun j _ hl => by simp [Array.getD] at hl⟩
          rw [hp'.out]
          rfl
        case hend =>
          intro listed a W hsz hall hJ
          obtain ⟨V, b, g34, g9, rfl, hB, hF⟩ := hJ
          have e15 := hF 15 (by omega) (hall 15 (by decide))
          have e17 := hF 17 (by omega) (hall 17 (by decide))
          have e18 := hF 18 (by omega) (hall 18 (by decide))
          have l16 := hall 16 (by decide)
          simp only [Fact, l16, if_true] at e15 e17 e18
          obtain ⟨e15, -, hH⟩ := e15
          have hfin := Lib.hid (show V 17 = .slice none 0 0 ∧ V 18 = .bool true ∧ ∃ g9, V 15 = .pointer (some ⟨g9, 0, none⟩) ∧ Holds W g9 27 (texts R) ∧ Below w.heap.size w W from ⟨e17, e18, g9, e15, hH, hbw.out.trans (hB.mono hbw.out.size)⟩)
          clear e15 e17 e18 hF hall hH
          unfold fr
          rw [hp'.out]
          simp only [Array.getD_eq_getD_getElem?]
          go_wp2_with fail
          go_meet
          exact hfin.out
        case hstep =>
          intro listed a W i hsz hcl hJ hr
          obtain ⟨V, b, g34, g9, rfl, hB, hF⟩ := hJ
          obtain ⟨hl0, o, ho, hdep⟩ := mem_ready.1 hr
          have hi : i < 19 := (Array.getElem?_eq_some_iff.1 ho).1
          have hsz' : listed.size = 19 := hsz
          have hun : listed.getD i false = false := by
            have hlt : i < listed.size := by omega
            simp [Array.getD, hlt] at hl0 ⊢
            exact hl0
          clear hr hl0
          have hcs : i = 0 ∨ i = 1 ∨ i = 2 ∨ i = 3 ∨ i = 4 ∨ i = 5 ∨ i = 6 ∨ i = 7 ∨ i = 8 ∨ i = 9 ∨ i = 10 ∨ i = 11 ∨ i = 12 ∨ i = 13 ∨ i = 14 ∨ i = 15 ∨ i = 16 ∨ i = 17 ∨ i = 18 := by omega
          rcases hcs with rfl | rfl | rfl | rfl | rfl | rfl | rfl | rfl | rfl | rfl | rfl | rfl | rfl | rfl | rfl | rfl | rfl | rfl | rfl
          · obtain rfl := Option.some.inj ho
            refine wpOp_step rfl (fun K hK => ?_)
            unfold fr
            go_simp
            have hfin := hK _ _ (J_step (i := 0) (s := s) (x := x) (R := R) (sfx := a0) (a1 := a1) (a2 := a2) (p := p) (w0 := W2) hsz' (by omega) hB hF (v := .string s) (b' := b) (g34' := g34) (g9' := g9) rfl (fun j u _ _ _ h => h))
            simpa [fr, upd, tv, texts, zeros] using hfin
          · obtain rfl := Option.some.inj ho
            have n2 : listed.getD 2 false = false := by
              cases h : listed.getD 2 false with
              | false => rfl
              | true => rw [hcl 2 _ rfl h { on := 1, ground := .data } (by simp) rfl] at hun; cases hun
            have n3 : listed.getD 3 false = false := by
              cases h : listed.getD 3 false with
              | false => rfl
              | true => rw [hcl 3 _ rfl h { on := 1, ground := .data } (by simp) rfl] at hun; cases hun
            have n4 : listed.getD 4 false = false := by
              cases h : listed.getD 4 false with
              | false => rfl
              | true => rw [hcl 4 _ rfl h { on := 1, ground := .data } (by simp) rfl] at hun; cases hun
            refine wpOp_step rfl (fun K hK => ?_)
            unfold fr
            go_simp
            refine hK _ _ (J_step (i := 1) (s := s) (x := x) (R := R) (sfx := a0) (a1 := a1) (a2 := a2) (p := p) (w0 := W2) hsz' (by omega) (hB.alloc hB.size _) hF (v := .map (some W.heap.size)) (b' := W.heap.size) (g34' := g34) (g9' := g9) ⟨rfl, hB.size, ?_⟩ (fun j u _ hne hl h => ?_))
            · rw [n2, n3]; exact mp_made W
            · exact Fact.b hne (fun e => by rw [e] at hl; rw [hl] at n4; cases n4) (Fact.later (Below.alloc (Below.refl _ _) (Nat.le_refl _) _) h)
          · obtain rfl := Option.some.inj ho
            have d1 : listed.getD 1 false = true := hdep { on := 1, ground := .data } (by simp) rfl
            have f1 := hF 1 (by omega) d1
            simp only [Fact] at f1
            obtain ⟨f1, hbB, hm⟩ := f1
            rw [hun] at hm
            obtain ⟨W', hrun, hm', hgr⟩ := ins_false hm
            have hB' : Below W2.heap.size W2 W' := hB.grown hgr hB.size (fun k hk => by cases hk; exact hbB)
            have hkeep := Lib.hid fun j u (h : Fact s x R a0 W2.heap.size b g34 g9 (listed.getD 2 false) (listed.getD 3 false) (listed.getD 16 false) W j u) => Fact.laid (by rw [hun]; exact hm) hm' hgr h
            have hrun' : (Instr.mapUpdate 31 (.map (some b)) (.bool false) (.string ⟨#[114, 101, 109, 111, 118, 101, 112, 114, 101, 102, 105, 120]⟩)).run Tryz.prog W = .ok () W' := hrun
            clear hm hm' hgr hrun
            refine wpOp_step rfl (fun K hK => ?_)
            unfold fr
            go_simp
            have hfin := hK _ _ (J_step (i := 2) (s := s) (x := x) (R := R) (sfx := a0) (a1 := a1) (a2 := a2) (p := p) (w0 := W2) hsz' (by omega) hB' hF (v := undef) (b' := b) (g34' := g34) (g9' := g9) trivial (fun j u _ _ _ h => hkeep.out j u h))
            simpa [fr, upd, tv, texts, zeros, f1] using hfin
          · obtain rfl := Option.some.inj ho
            have d1 : listed.getD 1 false = true := hdep { on := 1, ground := .data } (by simp) rfl
            have f1 := hF 1 (by omega) d1
            simp only [Fact] at f1
            obtain ⟨f1, hbB, hm⟩ := f1
            rw [hun] at hm
            obtain ⟨W', hrun, hm', hgr⟩ := ins_true hm
            have hB' : Below W2.heap.size W2 W' := hB.grown hgr hB.size (fun k hk => by cases hk; exact hbB)
            have hkeep := Lib.hid fun j u (h : Fact s x R a0 W2.heap.size b g34 g9 (listed.getD 2 false) (listed.getD 3 false) (listed.getD 16 false) W j u) => Fact.laid (by rw [hun]; exact hm) hm' hgr h
            have hrun' : (Instr.mapUpdate 31 (.map (some b)) (.bool true) (.string ⟨#[114, 101, 109, 111, 118, 101, 115, 117, 102, 102, 105, 120]⟩)).run Tryz.prog W = .ok () W' := hrun
            clear hm hm' hgr hrun
            refine wpOp_step rfl (fun K hK => ?_)
            unfold fr
            go_simp
            have hfin := hK _ _ (J_step (i := 3) (s := s) (x := x) (R := R) (sfx := a0) (a1 := a1) (a2 := a2) (p := p) (w0 := W2) hsz' (by omega) hB' hF (v := undef) (b' := b) (g34' := g34) (g9' := g9) trivial (fun j u _ _ _ h => hkeep.out j u h))
            simpa [fr, upd, tv, texts, zeros, f1] using hfin
          · obtain rfl := Option.some.inj ho
            have d1 : listed.getD 1 false = true := hdep { on := 1, ground := .data } (by simp) rfl
            have f1 := hF 1 (by omega) d1
            simp only [Fact] at f1
            obtain ⟨f1, -, -⟩ := f1
            refine wpOp_step rfl (fun K hK => ?_)
            unfold fr
            go_simp
            have hfin := hK _ _ (J_step (i := 4) (s := s) (x := x) (R := R) (sfx := a0) (a1 := a1) (a2 := a2) (p := p) (w0 := W2) hsz' (by omega) hB hF (v := .map (some b)) (b' := b) (g34' := g34) (g9' := g9) rfl (fun j u _ _ _ h => h))
            simpa [fr, upd, tv, texts, zeros, f1] using hfin
          · obtain rfl := Option.some.inj ho
            refine wpOp_step rfl (fun K hK => ?_)
            unfold fr
            go_simp
            have hfin := hK _ _ (J_step (i := 5) (s := s) (x := x) (R := R) (sfx := a0) (a1 := a1) (a2 := a2) (p := p) (w0 := W2) hsz' (by omega) hB hF (v := .bool a0) (b' := b) (g34' := g34) (g9' := g9) rfl (fun j u _ _ _ h => h))
            simpa [fr, upd, tv, texts, zeros] using hfin
          · obtain rfl := Option.some.inj ho
            have d4 : listed.getD 4 false = true := hdep { on := 4, ground := .data } (by simp) rfl
            have d5 : listed.getD 5 false = true := hdep { on := 5, ground := .data } (by simp) rfl
            have d1 := hcl 4 _ rfl d4 { on := 1, ground := .data } (by simp) rfl
            have d2 := hcl 4 _ rfl d4 { on := 2, ground := .data } (by simp) rfl
            have d3 := hcl 4 _ rfl d4 { on := 3, ground := .data } (by simp) rfl
            have f4 := hF 4 (by omega) d4
            have f5 := hF 5 (by omega) d5
            have f1 := hF 1 (by omega) d1
            simp only [Fact, d2, d3] at f1
            simp only [Fact] at f4 f5
            have hlk := Go.Proofs.YtkflmgpigidkeaaGreat.Rem.look a0 f1.2.2
            clear f1
            refine wpOp_step rfl (fun K hK => ?_)
            unfold fr
            go_simp
            have hfin := hK _ _ (J_step (i := 6) (s := s) (x := x) (R := R) (sfx := a0) (a1 := a1) (a2 := a2) (p := p) (w0 := W2) hsz' (by omega) hB hF (v := .string (nmOf a0)) (b' := b) (g34' := g34) (g9' := g9) rfl (fun j u _ _ _ h => h))
            simpa [fr, upd, tv, texts, zeros, f4, f5] using hfin
          · obtain rfl := Option.some.inj ho
            refine wpOp_step rfl (fun K hK => ?_)
            unfold fr
            go_simp
            have hfin := hK _ _ (J_step (i := 7) (s := s) (x := x) (R := R) (sfx := a0) (a1 := a1) (a2 := a2) (p := p) (w0 := W2) hsz' (by omega) hB hF (v := .string x) (b' := b) (g34' := g34) (g9' := g9) rfl (fun j u _ _ _ h => h))
            simpa [fr, upd, tv, texts, zeros] using hfin
          · obtain rfl := Option.some.inj ho
            have d7 : listed.getD 7 false = true := hdep { on := 7, ground := .data } (by simp) rfl
            have f7 := hF 7 (by omega) d7
            simp only [Fact] at f7
            refine wpOp_step rfl (fun K hK => ?_)
            unfold fr
            go_simp
            go_at_call 10
            refine (htv.out x W).mono ?_
            rintro e W' ⟨rfl, hb⟩
            have hfin := hK _ _ (J_step (i := 8) (s := s) (x := x) (R := R) (sfx := a0) (a1 := a1) (a2 := a2) (p := p) (w0 := W2) hsz' (by omega) (hB.trans (hb.mono hB.size)) hF (v := .agg (texts x)) (b' := b) (g34' := g34) (g9' := g9) rfl (fun j u _ _ _ h => Fact.later hb h))
            simpa [fr, upd, tv, texts, zeros, f7] using hfin
          · obtain rfl := Option.some.inj ho
            have d8 : listed.getD 8 false = true := hdep { on := 8, ground := .data } (by simp) rfl
            have f8 := hF 8 (by omega) d8
            simp only [Fact, texts] at f8
            refine wpOp_step rfl (fun K hK => ?_)
            unfold fr
            go_simp
            have hfin := hK _ _ (J_step (i := 9) (s := s) (x := x) (R := R) (sfx := a0) (a1 := a1) (a2 := a2) (p := p) (w0 := W2) hsz' (by omega) (hB.alloc hB.size _) hF (v := .slice (some ⟨W.heap.size, 0, none⟩) 1 1) (b' := b) (g34' := W.heap.size) (g9' := g9) ⟨rfl, fun _ => Holds.made W _ _⟩ (fun j u _ hne _ h => Fact.g34 hne (Fact.later (Below.alloc (Below.refl _ _) (Nat.le_refl _) _) h)))
            simpa [fr, upd, tv, texts, zeros, f8] using hfin
          · obtain rfl := Option.some.inj ho
            have d0 : listed.getD 0 false = true := hdep { on := 0, ground := .data } (by simp) rfl
            have d6 : listed.getD 6 false = true := hdep { on := 6, ground := .data } (by simp) rfl
            have d9 : listed.getD 9 false = true := hdep { on := 9, ground := .data } (by simp) rfl
            have n16 : listed.getD 16 false = false := by
              cases h : listed.getD 16 false with
              | false => rfl
              | true => rw [hcl 16 _ rfl h { on := 10, ground := .chain } (by simp) rfl] at hun; cases hun
            have f0 := hF 0 (by omega) d0
            have f6 := hF 6 (by omega) d6
            have f9 := hF 9 (by omega) d9
            simp only [Fact, n16, forall_const] at f0 f6 f9
            obtain ⟨f9, hg⟩ := f9
            have ha := Lib.hid (hask.out g34 W hg)
            clear hg
            refine wpOp_step rfl (fun K hK => ?_)
            unfold fr
            go_simp
            go_at_call 9
            refine ha.out.mono ?_
            rintro e W' ⟨rfl, hb⟩
            have hfin := hK _ _ (J_step (i := 10) (s := s) (x := x) (R := R) (sfx := a0) (a1 := a1) (a2 := a2) (p := p) (w0 := W2) hsz' (by omega) (hB.trans (hb.mono hB.size)) hF (v := .tuple #[.agg (texts R), .slice none 0 0, .bool true]) (b' := b) (g34' := g34) (g9' := g9) rfl (fun j u _ _ _ h => Fact.later hb h))
            simpa [fr, upd, tv, texts, zeros, f0, f6, f9] using hfin
          · obtain rfl := Option.some.inj ho
            have d10 : listed.getD 10 false = true := hdep { on := 10, ground := .data } (by simp) rfl
            have f10 := hF 10 (by omega) d10
            simp only [Fact] at f10
            refine wpOp_step rfl (fun K hK => ?_)
            unfold fr
            go_simp
            have hfin := hK _ _ (J_step (i := 11) (s := s) (x := x) (R := R) (sfx := a0) (a1 := a1) (a2 := a2) (p := p) (w0 := W2) hsz' (by omega) hB hF (v := .tuple #[.agg (texts R), .slice none 0 0, .bool true]) (b' := b) (g34' := g34) (g9' := g9) rfl (fun j u _ _ _ h => h))
            simpa [fr, upd, tv, texts, zeros, f10] using hfin
          · obtain rfl := Option.some.inj ho
            have d11 : listed.getD 11 false = true := hdep { on := 11, ground := .data } (by simp) rfl
            have f11 := hF 11 (by omega) d11
            simp only [Fact] at f11
            refine wpOp_step rfl (fun K hK => ?_)
            unfold fr
            go_simp
            have hfin := hK _ _ (J_step (i := 12) (s := s) (x := x) (R := R) (sfx := a0) (a1 := a1) (a2 := a2) (p := p) (w0 := W2) hsz' (by omega) hB hF (v := .agg (texts R)) (b' := b) (g34' := g34) (g9' := g9) rfl (fun j u _ _ _ h => h))
            simpa [fr, upd, tv, texts, zeros, f11] using hfin
          · obtain rfl := Option.some.inj ho
            have d11 : listed.getD 11 false = true := hdep { on := 11, ground := .data } (by simp) rfl
            have f11 := hF 11 (by omega) d11
            simp only [Fact] at f11
            refine wpOp_step rfl (fun K hK => ?_)
            unfold fr
            go_simp
            have hfin := hK _ _ (J_step (i := 13) (s := s) (x := x) (R := R) (sfx := a0) (a1 := a1) (a2 := a2) (p := p) (w0 := W2) hsz' (by omega) hB hF (v := .slice none 0 0) (b' := b) (g34' := g34) (g9' := g9) rfl (fun j u _ _ _ h => h))
            simpa [fr, upd, tv, texts, zeros, f11] using hfin
          · obtain rfl := Option.some.inj ho
            have d11 : listed.getD 11 false = true := hdep { on := 11, ground := .data } (by simp) rfl
            have f11 := hF 11 (by omega) d11
            simp only [Fact] at f11
            refine wpOp_step rfl (fun K hK => ?_)
            unfold fr
            go_simp
            have hfin := hK _ _ (J_step (i := 14) (s := s) (x := x) (R := R) (sfx := a0) (a1 := a1) (a2 := a2) (p := p) (w0 := W2) hsz' (by omega) hB hF (v := .bool true) (b' := b) (g34' := g34) (g9' := g9) rfl (fun j u _ _ _ h => h))
            simpa [fr, upd, tv, texts, zeros, f11] using hfin
          · obtain rfl := Option.some.inj ho
            have n16 : listed.getD 16 false = false := by
              cases h : listed.getD 16 false with
              | false => rfl
              | true => rw [hcl 16 _ rfl h { on := 15, ground := .data } (by simp) rfl] at hun; cases hun
            refine wpOp_step rfl (fun K hK => ?_)
            unfold fr
            go_simp
            refine hK _ _ (J_step (i := 15) (s := s) (x := x) (R := R) (sfx := a0) (a1 := a1) (a2 := a2) (p := p) (w0 := W2) hsz' (by omega) (hB.alloc hB.size _) hF (v := .pointer (some ⟨W.heap.size, 0, none⟩)) (b' := b) (g34' := g34) (g9' := W.heap.size) ⟨rfl, hB.size, ?_⟩ (fun j u _ hne _ h => Fact.g9 hne (Fact.later (Below.alloc (Below.refl _ _) (Nat.le_refl _) _) h)))
            rw [n16]
            exact Holds.made W _ _
          · obtain rfl := Option.some.inj ho
            have d15 : listed.getD 15 false = true := hdep { on := 15, ground := .data } (by simp) rfl
            have d12 : listed.getD 12 false = true := hdep { on := 12, ground := .data } (by simp) rfl
            have f15 := hF 15 (by omega) d15
            have f12 := hF 12 (by omega) d12
            simp only [Fact, hun, texts, zeros, Bool.false_eq_true, if_false] at f15 f12
            obtain ⟨f15, hgB, hH⟩ := f15
            obtain ⟨q0, q1, q2, q3, q4, q5, ql, z0, z1, z2, z3, z4, z5⟩ := val_facts hH
            have hH' := Lib.hid hH
            have hB6 := Lib.hid (six_below (s := g9) (.int .i64 4) (.bool false) (.slice none 0 0) (.int .u64 0) (.string R) (.slice none 0 0) hB hgB)
            clear hH
            refine wpOp_step rfl (fun K hK => ?_)
            unfold fr
            go_simp
            have hfin := hK _ _ (J_step (i := 16) (s := s) (x := x) (R := R) (sfx := a0) (a1 := a1) (a2 := a2) (p := p) (w0 := W2) hsz' (by omega) hB6.out hF (v := undef) (b' := b) (g34' := g34) (g9' := g9) trivial (fun j u _ _ _ h => Fact.stored hH'.out (by rw [hun] at h; exact h)))
            simpa [fr, upd, tv, texts, zeros, f15, f12] using hfin
          · obtain rfl := Option.some.inj ho
            have d13 : listed.getD 13 false = true := hdep { on := 13, ground := .data } (by simp) rfl
            have f13 := hF 13 (by omega) d13
            simp only [Fact] at f13
            refine wpOp_step rfl (fun K hK => ?_)
            unfold fr
            go_simp
            have hfin := hK _ _ (J_step (i := 17) (s := s) (x := x) (R := R) (sfx := a0) (a1 := a1) (a2 := a2) (p := p) (w0 := W2) hsz' (by omega) hB hF (v := .slice none 0 0) (b' := b) (g34' := g34) (g9' := g9) rfl (fun j u _ _ _ h => h))
            simpa [fr, upd, tv, texts, zeros, f13] using hfin
          · obtain rfl := Option.some.inj ho
            have d14 : listed.getD 14 false = true := hdep { on := 14, ground := .data } (by simp) rfl
            have f14 := hF 14 (by omega) d14
            simp only [Fact] at f14
            refine wpOp_step rfl (fun K hK => ?_)
            unfold fr
            go_simp
            have hfin := hK _ _ (J_step (i := 18) (s := s) (x := x) (R := R) (sfx := a0) (a1 := a1) (a2 := a2) (p := p) (w0 := W2) hsz' (by omega) hB hF (v := .bool true) (b' := b) (g34' := g34) (g9' := g9) rfl (fun j u _ _ _ h => h))
            simpa [fr, upd, tv, texts, zeros, f14] using hfin
      case rest =>
        obtain ⟨rfl, rfl, g9, rfl, hH, hbc⟩ := hcut
        have him := Lib.hid fun W => irem_any a0 s x W hs hx
        rw [hR'.out] at him
        obtain ⟨q0, q1, q2, q3, q4, q5, ql, -⟩ := val_facts hH
        have hH' := Lib.hid hH
        have hbc' := Lib.hid hbc
        have e0 : (R.toList == R.toList) = true := by simp
        clear hH hbc hask htv hmk hp' hR'
        go_wp2_with fail
        refine (him.out _).mono ?_
        rintro e W5 ⟨rfl, hb5⟩
        obtain ⟨q0, q1, q2, q3, q4, q5, ql, -⟩ := val_facts (hH'.out.later hb5)
        have hfin := Lib.hid (hbc'.out.trans (hb5.mono hbc'.out.size))
        clear hb5 hH' hbc' him
        go_wp2
        go_ret
        exact ⟨rfl, hfin.out⟩
    · go_enter Tryz.func3, Tryz.ntmps3
      go_wp2
      go_ret
      exact ⟨rfl, Below.refl _ _⟩
  · go_enter Tryz.func3, Tryz.ntmps3
    go_wp2
    go_ret
    exact ⟨rfl, Below.refl _ _⟩
end Go.Proofs.YtkflmgpigidkeaaGreat.fnTextRemove
