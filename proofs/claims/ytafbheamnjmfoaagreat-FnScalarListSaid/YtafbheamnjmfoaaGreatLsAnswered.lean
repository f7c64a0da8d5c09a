/-
  The statement's comparison of answers; its script of one step; how long a list is told to be.
-/
import Derived.Test.YtafbheamnjmfoaaGreatLsSame
import Derived.Test.YtafbheamnjmfoaaGreatLsScript
namespace Go.Proofs.YtafbheamnjmfoaaGreat.Ls
open Go.RowKit Go.WideShapes Go.Proofs.YtafbheamnjmfoaaGreat.Sc Go.Proofs.YtafbheamnjmfoaaGreat.VRow
set_option linter.unusedVariables false

/-- an answer in its row -/
theorem anss_at {x : Option Nat} {w : World} {B : Nat} {u : Value} {A : List An} (h : Anss x w B u A) {j : Nat} (hj : j < A.length) : ∃ b cap y, u = .slice (some ⟨b, 0, none⟩) A.length cap ∧ b < w.heap.size ∧ A.length ≤ cap ∧ IsAv x w y A[j].v ∧
    w.rangeAt b (j * 10) (ansCs A[j].ok A[j].is_ A[j].n y).toList := by
  obtain ⟨L, h1, h2⟩ := h
  obtain ⟨hj', y, hc, hy⟩ := h2.get hj
  rcases h1.forms with ⟨_, rfl⟩ | ⟨b, cap, rfl, hb, hB, hcap, _, hcs⟩
  · simp at hj'
  · refine ⟨b, cap, y, by rw [h2.1], hb, by rw [← h2.1]; exact hcap, hy, fun q v hq => ?_⟩
    rw [hcs j hj' q (by have := (List.getElem?_eq_some_iff.1 hq).1; simpa [ansCs] using this), hc]
    exact hq
theorem rangeAt_later {w w' : World} {b o : Nat} {cs : List Value} (h : w.rangeAt b o cs) {B : Nat} (hb : Below B w w') (hB : b < B) : w'.rangeAt b o cs := fun q v hq => (hb.cell (p := ⟨b, o + q, none⟩) hB).trans (h q v hq)
theorem Sp.fits_kind {k i j m : Int} {a : Sc} {p : Sp} (h : p.fits k i j m a) : k ≠ 23 ∧ k ≠ 24 := by
  cases p <;> (obtain ⟨rfl, -⟩ := h; omega)
set_option maxHeartbeats 2000000 in
set_option maxRecDepth 100000 in
theorem answered_any (v1 v2 u : Value) (A : List An) (S : List Sp) (x1 x2 : Option Nat) (B1 B2 B3 : Nat) (w : World) (h1 : Anss x1 w B1 v1 A) (h2 : Anss x2 w B2 v2 A) (hS : Steps w B3 u S) (hl : S.length = A.length) (hA : A.length ≤ 1000) (hok : ∀ (j : Nat) (a : An), A[j]? = some a → a.v.ok 1000) :
    Calls Tryz.prog 14 #[v1, v2, u] w fun e w' => e = .returned (.bool true) ∧ Below w.heap.size w w' := by
  have h3 := Lib.hid fun y z v W a1 a2 a3 => same_av (x := x1) (x' := x2) y z v W a1 a2 a3
  have h4 := Lib.hid fun W => samelist_nil W
  obtain ⟨A1, c1, rfl⟩ := h1.shape
  obtain ⟨A2, c2, rfl⟩ := h2.shape
  obtain ⟨A3, c3, e3⟩ := hS.shape
  rw [hl] at e3
  subst e3
  have hv1 := Lib.hid h1
  have hv2 := Lib.hid h2
  have hv3 := Lib.hid hS
  have hn : ((A.length : Int) != A.length) = false := by simp
  clear h1 h2 hS
  go_enter Tryz.func14, Tryz.ntmps14
  go_wp2
  go_loopw [18] (fun i wr => ∃ j : Nat, i = .int .i64 j ∧ j ≤ A.length ∧ Hid (Below w.heap.size w wr)) (fun i _ => A.length - (intOf i).toNat)
  case atStart => exact ⟨0, rfl, Nat.zero_le _, Lib.hid (Below.refl _ _)⟩
  case round =>
    obtain ⟨j, rfl, hj, hbr⟩ := hrel
    by_cases hlt : j < A.length
    · obtain ⟨g1, k1, y, e1, hg1, hk1, hy, hr1⟩ := anss_at hv1.out hlt
      obtain ⟨g2, k2, z, e2, hg2, hk2, hz, hr2⟩ := anss_at hv2.out hlt
      obtain ⟨g3, k3, sk, si, sj, sm, sy, sa, e3, hg3, hk3, hsy, hsf, hr3⟩ := steps_at hv3.out (j := j) (by omega)
      rw [hl] at e3
      simp only [Value.slice.injEq, true_and] at e1 e2 e3
      obtain ⟨rfl, rfl⟩ := e1
      obtain ⟨rfl, rfl⟩ := e2
      obtain ⟨rfl, rfl⟩ := e3
      obtain ⟨an, han⟩ : ∃ an, A[j] = an := ⟨_, rfl⟩
      have hao : an.v.ok 1000 := hok j an (by rw [List.getElem?_eq_getElem hlt, han])
      rw [han] at hy hz hr1 hr2
      obtain ⟨hk23, hk24⟩ := Sp.fits_kind hsf
      have hk23' : (sk == 23) = false := by simpa using hk23
      have hk24' : (sk == 24) = false := by simpa using hk24
      have hkx : ∀ x W, Below w.heap.size w W → KeptX x w W := fun x W hb => KeptT.of_below hb
      obtain ⟨yk, yn, ya, yl, yc, yb, yt, yka, ykn, ykc, rfl⟩ := IsAv.form hy
      obtain ⟨zk, zn, za, zl, zc, zb, zt, zka, zkn, zkc, rfl⟩ := IsAv.form hz
      have hr1' := Lib.hid (rangeAt_later hr1 hbr.out hg1)
      have hr2' := Lib.hid (rangeAt_later hr2 hbr.out hg2)
      have hg1' := Nat.lt_of_lt_of_le hg1 hbr.out.size
      have hg2' := Nat.lt_of_lt_of_le hg2 hbr.out.size
      have hg3' := Nat.lt_of_lt_of_le hg3 hbr.out.size
      have c0 : wr.cell? ⟨g3, j * 17, none⟩ = some (.int .i64 sk) := rangeAt_later hr3 hbr.out hg3 0 _ rfl
      have hy' := Lib.hid hy
      have hz' := Lib.hid hz
      clear hr1 hr2 hr3 hsy hsf han hy hz
      unfold ansCs at hr1' hr2'
      go_upto_region 6 with (refine wpList_load_mid rfl 64 _ rfl g2 (j * 10) rfl [.bool an.ok, .bool an.is_, .int .i64 an.n, .int .i64 zk, .bool zn, .slice za zl zc, .int .u64 zb, .string zt, .slice zka zkn zkc, .slice none 0 0] _ hr2'.out Tryz.underlying64 rfl (by kernel_rfl) ?_)
      have hal1 : Below wr.heap.size wr (wr.alloc (.cells #[.bool an.ok, .bool an.is_, .int .i64 an.n, .int .i64 zk, .bool zn, .slice za zl zc, .int .u64 zb, .string zt, .slice zka zkn zkc, .slice none 0 0] 64)) := Ref.below_one' _ (Nat.le_refl _)
      have hr3' := Lib.hid (rangeAt_later hr1'.out hal1 hg1')
      have hg1w : g1 < (wr.alloc (.cells #[.bool an.ok, .bool an.is_, .int .i64 an.n, .int .i64 zk, .bool zn, .slice za zl zc, .int .u64 zb, .string zt, .slice zka zkn zkc, .slice none 0 0] 64)).heap.size := Nat.lt_of_lt_of_le hg1' hal1.size
      clear hr1' hr2'
      go_upto_region 7 with (refine wpList_load_mid rfl 64 _ rfl g1 (j * 10) rfl [.bool an.ok, .bool an.is_, .int .i64 an.n, .int .i64 yk, .bool yn, .slice ya yl yc, .int .u64 yb, .string yt, .slice yka ykn ykc, .slice none 0 0] _ hr3'.out Tryz.underlying64 rfl (by kernel_rfl) ?_)
      have hal2 : Below wr.heap.size wr ((wr.alloc (.cells #[.bool an.ok, .bool an.is_, .int .i64 an.n, .int .i64 zk, .bool zn, .slice za zl zc, .int .u64 zb, .string zt, .slice zka zkn zkc, .slice none 0 0] 64)).alloc (.cells #[.bool an.ok, .bool an.is_, .int .i64 an.n, .int .i64 yk, .bool yn, .slice ya yl yc, .int .u64 yb, .string yt, .slice yka ykn ykc, .slice none 0 0] 64)) := hal1.alloc (by simp) _
      have hbW := hbr.out.trans (hal2.mono hbr.out.size)
      have hcall := Lib.hid (h3.out _ _ an.v _ hao (IsAv.kept hy'.out (hkx x1 _ hbW) (fun g h => .inl h)) (IsAv.kept hz'.out (hkx x2 _ hbW) (fun g h => .inl h)))
      unfold V6.arr at hcall
      dsimp only at hcall
      have hbW' := Lib.hid hbW
      have q1 : (an.ok != an.ok) = false := by simp
      have q2 : (an.is_ != an.is_) = false := by simp
      have q3 : ((an.n : Int) != an.n) = false := by simp
      clear hr3' hal1 hal2 hbW hy' hz' hbr hkx hok
      go_wp2_with fail
      refine (h4.out _).mono ?_
      rintro e w5 ⟨rfl, rfl⟩
      go_wp2_with fail
      refine hcall.out.mono ?_
      rintro e w6 ⟨rfl, hb6⟩
      have hfin := Lib.hid (hbW'.out.trans (hb6.mono hbW'.out.size))
      clear hcall hb6 hbW' h3 h4
      go_wp2
      go_roundw
      case rel => exact ⟨j + 1, by go_num, by omega, hfin⟩
      case measure => simp [intOf]; omega
    · go_wp2
      go_ret
      exact ⟨rfl, hbr.out⟩
set_option maxRecDepth 100000 in
theorem length_any (u : Value) (an : An) (n : Nat) (x : Option Nat) (B : Nat) (w : World) (h : Anss x w B u [an]) (hok : an.ok = true) (hn : an.n = n) :
    Calls Tryz.prog 16 #[u, .int .i64 n] w fun e w' => e = .returned (.bool true) ∧ w = w' := by
  obtain ⟨g, k, y, rfl, hg, hk, hy, hr⟩ := anss_at (j := 0) h (by simp)
  have c0 : w.cell? ⟨g, 0, none⟩ = some (.bool true) := by have := hr 0 _ rfl; simpa [hok] using this
  have c2 : w.cell? ⟨g, 2, none⟩ = some (.int .i64 n) := by have := hr 2 _ rfl; simpa [hn] using this
  have hk1 : 1 ≤ k := by simpa using hk
  clear hr h hy hk
  simp only [List.length_singleton]
  go_enter Tryz.func16, Tryz.ntmps16
  go_wp2
  go_ret
  exact ⟨rfl, rfl⟩
set_option maxRecDepth 100000 in
theorem asked_any (w : World) : Calls Tryz.prog 17 #[] w fun e w' => (∃ u, e = .returned u ∧ Steps w' w.heap.size u [.len]) ∧ Below w.heap.size w w' := by
  have hs : Steps (w.alloc (.cells (stepCs 4 0 0 0 nil6) 62)) w.heap.size (.slice (some ⟨w.heap.size, 0, none⟩) 1 1) [.len] := by
    refine ⟨[(stepCs 4 0 0 0 nil6).toList], ⟨?_, fun x hx => by rw [List.mem_singleton] at hx; subst hx; rfl⟩, ?_⟩
    · have := World.ownsRow_lit (e := 62) (base := w.heap.size) (size := 17) w (stepCs 4 0 0 0 nil6) 1 (Nat.le_refl _) (by decide) rfl
      simpa using this
    · exact (All.nil _).snoc (L := []) (S := []) ⟨4, 0, 0, 0, nil6, .none, rfl, nil6_sc _, rfl, rfl⟩
  have hs' := Lib.hid hs
  unfold stepCs nil6 at hs'
  dsimp only at hs'
  have hb := Lib.hid (Ref.below_one' (w := w) (.cells (stepCs 4 0 0 0 nil6) 62) (Nat.le_refl _))
  unfold stepCs nil6 at hb
  dsimp only at hb
  clear hs
  go_enter Tryz.func17, Tryz.ntmps17
  go_wp2
  go_ret
  exact ⟨⟨_, rfl, hs'.out⟩, hb.out⟩
end Go.Proofs.YtafbheamnjmfoaaGreat.Ls
