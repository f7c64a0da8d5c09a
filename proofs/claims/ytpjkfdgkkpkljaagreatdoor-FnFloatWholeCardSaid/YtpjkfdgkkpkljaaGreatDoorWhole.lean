/-
  A value's integer, and its Int64.
-/
import Derived.Test.YtpjkfdgkkpkljaaGreatDoorBigSet
import Derived.Test.YtpjkfdgkkpkljaaGreatDoorStarMake
namespace Go.Proofs.YtpjkfdgkkpkljaaGreatDoor.Big
open Go.RowKit Go.WideShapes Go.Proofs.YtpjkfdgkkpkljaaGreatDoor.Own Go.Proofs.YtpjkfdgkkpkljaaGreatDoor.Num Go.Proofs.YtpjkfdgkkpkljaaGreatDoor.Ref Go.Proofs.YtpjkfdgkkpkljaaGreatDoor.Nat_
set_option linter.unusedVariables false

theorem SInt.shape {w : World} {B : Nat} {v : Value} {z : Int} (h : SInt w B v z) : ∃ y p, v = .agg #[.int .i64 y, .pointer p] := by
  rcases h with ⟨rfl, _⟩ | ⟨g, neg, V, rfl, _⟩
  · exact ⟨_, _, rfl⟩
  · exact ⟨_, _, rfl⟩
theorem SInt.put {w : World} {B : Nat} {v : Value} {z : Int} (h : SInt w B v z) {p : Addr} (hp : p.block < B) (u : Value) : SInt (w.setCell p u) B v z := by
  rcases h with h | ⟨g, neg, V, h1, h2, h3, h4⟩
  · exact .inl h
  · exact .inr ⟨g, neg, V, h1, h2, h3.put (by omega) u, h4⟩
theorem SInt.put2 {w : World} {B : Nat} {z : Int} {y : Int} {q : Option Addr} (h : SInt w B (.agg #[.int .i64 y, .pointer q]) z) {b : Nat} (hb : b < B) : SInt ((w.setCell ⟨b, 0, none⟩ (.int .i64 y)).setCell ⟨b, 1, none⟩ (.pointer q)) b (.agg #[.int .i64 y, .pointer q]) z :=
  ((h.put (p := ⟨b, 0, none⟩) hb _).put (p := ⟨b, 1, none⟩) hb _).mono (Nat.le_of_lt hb)

theorem sg_turn (V : Nat) : sg (decide (0 < V) && !false) V = sg true V := by
  by_cases h : V = 0
  · subst h; rfl
  · rw [show decide (0 < V) = true by simp; omega]; rfl

/-- a value as cells -/
def valc (k : Int) (neg : Bool) (a : Option Addr) (n c : Nat) (b : Int) (t : ByteArray) (ka : Option Addr) (kn kc : Nat) : Array Value := #[.int .i64 k, .bool neg, .slice a n c, .int .u64 b, .string t, .slice ka kn kc]

set_option maxHeartbeats 2000000 in
set_option maxRecDepth 100000 in
theorem whole_any (k : Int) (neg : Bool) (a : Option Addr) (l : List UInt8) (c : Nat) (b : Int) (t : ByteArray) (ka : Option Addr) (kn kc : Nat) (w : World) (h : Rd w a l) (hl : l.length ≤ 1000) (hc : l.length ≤ c) :
    Calls Tryz.prog 25 #[.agg #[.int .i64 k, .bool neg, .slice a l.length c, .int .u64 b, .string t, .slice ka kn kc]] w fun e w' => (∃ v, e = .returned v ∧ SInt w' w.heap.size v (sg neg (be l))) ∧ Below w.heap.size w w' := by
  have hV := be_lt_words l 1000 (by omega)
  obtain ⟨W1, hW1⟩ : ∃ X, w.alloc (.cells #[.int .i64 k, .bool neg, .slice a l.length c, .int .u64 b, .string t, .slice ka kn kc] 28) = X := ⟨_, rfl⟩
  have hm : len W (be l) ≤ 10000 := Nat.le_trans (len_le W_two hV) (by omega)
  obtain ⟨n, hn⟩ : ∃ n, l.length = n := ⟨_, rfl⟩
  obtain ⟨V, hVe⟩ : ∃ V, be l = V := ⟨_, rfl⟩
  clear hW1 hV
  have k1 : (w.alloc (.cells #[.int .i64 k, .bool neg, .slice a n c, .int .u64 b, .string t, .slice ka kn kc] 28)).cell? ⟨w.heap.size, 1, none⟩ = some (.bool neg) := by rw [World.cell?_alloc_at _ _ _ _ rfl]; rfl
  have k2 : (w.alloc (.cells #[.int .i64 k, .bool neg, .slice a n c, .int .u64 b, .string t, .slice ka kn kc] 28)).cell? ⟨w.heap.size, 2, none⟩ = some (.slice a n c) := by rw [World.cell?_alloc_at _ _ _ _ rfl]; rfl
  obtain ⟨o1, ho1⟩ : ∃ o, o = (Obj.cells #[.int .i64 k, .bool neg, .slice a n c, .int .u64 b, .string t, .slice ka kn kc] 28) := ⟨_, rfl⟩
  have hsz : ((w.alloc o1).alloc (.cells #[.int .i64 0, .pointer none] 61)).heap.size = w.heap.size + 2 := by simp
  have hB0 : Below w.heap.size w (((w.alloc o1).alloc (.cells #[.int .i64 0, .pointer none] 61)).alloc (.cells #[.bool false, .slice none 0 0] 85)) := ((below_one _ (Nat.le_refl _)).alloc (by simp) _).alloc (by simp; omega) _
  have hHb : Box.Holds (((w.alloc o1).alloc (.cells #[.int .i64 0, .pointer none] 61)).alloc (.cells #[.bool false, .slice none 0 0] 85)) (w.heap.size + 2) 85 #[.bool false, .slice none 0 0] := by
    have := Box.Holds.made ((w.alloc o1).alloc (.cells #[.int .i64 0, .pointer none] 61)) 85 #[.bool false, .slice none 0 0]
    rw [hsz] at this
    exact this
  have hHs : Box.Holds (((w.alloc o1).alloc (.cells #[.int .i64 0, .pointer none] 61)).alloc (.cells #[.bool false, .slice none 0 0] 85)) (w.heap.size + 1) 61 #[.int .i64 0, .pointer none] := by
    have := (Box.Holds.made (w.alloc o1) 61 #[.int .i64 0, .pointer none]).alloc (.cells #[.bool false, .slice none 0 0] 85)
    simpa using this
  have hHv : Box.Holds (((w.alloc o1).alloc (.cells #[.int .i64 0, .pointer none] 61)).alloc (.cells #[.bool false, .slice none 0 0] 85)) w.heap.size 28 #[.int .i64 k, .bool neg, .slice a n c, .int .u64 b, .string t, .slice ka kn kc] := by
    have := ((Box.Holds.made w 28 #[.int .i64 k, .bool neg, .slice a n c, .int .u64 b, .string t, .slice ka kn kc]).alloc (.cells #[.int .i64 0, .pointer none] 61)).alloc (.cells #[.bool false, .slice none 0 0] 85)
    rw [ho1]
    exact this
  have hset := setb_any (w.heap.size + 2) a c l _ hHb (h.later hB0) hl hc
  rw [hn, hVe] at hset
  rw [hVe] at hm
  rw [hn] at hl hc ⊢
  rw [hVe]
  rw [ho1] at hset hB0 hHs hHv
  have hset' := Lib.hid hset
  have hB0' := Lib.hid hB0
  have hHs' := Lib.hid hHs
  have hHv' := Lib.hid hHv
  clear hset hB0 hHs hHv hHb hsz ho1 h hVe hn
  go_enter Tryz.func25, Tryz.ntmps25
  go_wp2_with fail
  refine hset'.out.mono ?_
  rintro e w1 ⟨⟨rfl, hbig⟩, hb1⟩
  have hbel : Below w.heap.size w w1 := hB0'.out.trans (hb1.mono (by omega))
  have hs1 := hHs'.out.below hb1 (by omega)
  have hv1 := hHv'.out.below hb1 (by omega)
  have c1 := hv1.cell 1
  simp at c1
  have hl1 := hv1.lt
  cases neg
  · have hmbi := Lib.hid (mbi_any _ _ _ w1 hbig hm)
    have hs2 := hs1
    have hl2 := hs2.lt
    have hbel2 := hbel
    clear hbig
    go_wp2_with fail
    refine hmbi.out.mono ?_
    rintro e w3 ⟨⟨v, rfl, hs⟩, hb3⟩
    obtain ⟨y, q, rfl⟩ := hs.shape
    have hk := hs2.later hb3
    have hl3 := hk.lt
    have k0 := hk.cell 0
    have k1 := hk.cell 1
    simp at k0 k1
    have f0 := hk.free 0
    have f1 := hk.free 1
    have hfin := Lib.hid ((hs.put2 hl2).mono (Nat.le_succ w.heap.size))
    have hbel3 : Below w.heap.size w w3 := hbel2.trans (hb3.mono hbel2.size)
    clear hs
    go_wp2
    exact bodyPost_ret (v := .agg #[.int .i64 y, .pointer q]) (by simp [results, Tryz.results25, go_sem, k0, k1]) rfl ⟨⟨_, rfl, hfin.out⟩, (hbel3.setCell (p := ⟨w.heap.size + 1, 0, none⟩) (Nat.le_succ _) _).setCell (p := ⟨w.heap.size + 1, 1, none⟩) (Nat.le_succ _) _⟩
  · have hneg := Lib.hid (neg_any _ _ _ w1 hbig hm)
    clear hbig
    go_wp2_with fail
    refine hneg.out.mono ?_
    rintro e w2 ⟨⟨rfl, hbig⟩, hb2⟩
    have hmbi := Lib.hid (mbi_any _ _ _ w2 hbig hm)
    rw [sg_turn] at hmbi
    have hs2 := hs1.below hb2 (by omega)
    have hl2 := hs2.lt
    have hbel2 : Below w.heap.size w w2 := hbel.trans (hb2.mono (by omega))
    clear hbig
    go_wp2_with fail
    refine hmbi.out.mono ?_
    rintro e w3 ⟨⟨v, rfl, hs⟩, hb3⟩
    obtain ⟨y, q, rfl⟩ := hs.shape
    have hk := hs2.later hb3
    have hl3 := hk.lt
    have k0 := hk.cell 0
    have k1 := hk.cell 1
    simp at k0 k1
    have f0 := hk.free 0
    have f1 := hk.free 1
    have hfin := Lib.hid ((hs.put2 hl2).mono (Nat.le_succ w.heap.size))
    have hbel3 : Below w.heap.size w w3 := hbel2.trans (hb3.mono hbel2.size)
    clear hs
    go_wp2
    exact bodyPost_ret (v := .agg #[.int .i64 y, .pointer q]) (by simp [results, Tryz.results25, go_sem, k0, k1]) rfl ⟨⟨_, rfl, hfin.out⟩, (hbel3.setCell (p := ⟨w.heap.size + 1, 0, none⟩) (Nat.le_succ _) _).setCell (p := ⟨w.heap.size + 1, 1, none⟩) (Nat.le_succ _) _⟩

end Go.Proofs.YtpjkfdgkkpkljaaGreatDoor.Big
