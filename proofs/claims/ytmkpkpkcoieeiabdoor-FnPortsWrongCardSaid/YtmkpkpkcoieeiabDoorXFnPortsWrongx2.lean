/- A text of this session: the functions of the law FnPortsWrong, by a program that calls the kit's print and lays this session's own contracts of single functions beside. -/
import Derived.Test.YtmkpkpkcoieeiabDoorXFnPortsWrongx0
import Derived.Test.YtmkpkpkcoieeiabDoorXFnPortsWrongx1
namespace Go.Proofs.YtmkpkpkcoieeiabDoor.XFnPortsWrong
open Go.RowKit Go.Proofs.YtmkpkpkcoieeiabDoorW.PrintWords Go.Proofs.YtmkpkpkcoieeiabDoorW.PrintLast Go.Proofs.YtmkpkpkcoieeiabDoorW.PrintMore
attribute [local go_sem] max2_int min2_int max_two min_two max_three min_three max_four min_four   -- for this text's walks alone
set_option linter.unusedVariables false
set_option linter.unusedSimpArgs false

/-! ### impl_PortsParse: function 8 -/
theorem atoi_yes (a0 : ByteArray) (v : Int) (w : World) (hs : a0.size ≤ 140737488351232) (h : Num.whole (-9223372036854775808) 9223372036854775807 a0.data.toList = some v) :
    Calls Tryd.prog 41 #[.string a0] w fun e w' => e = .returned (.tuple #[.int .i64 v, .nilIface]) ∧ Below w.heap.size w w' := by
  refine (Tryd.strconv_Atoi_ok a0 (by omega) v ((Num.atoi_ok _ _).2 h) _).mono ?_
  rintro e w1 ⟨rfl, hW⟩
  refine ⟨rfl, ?_⟩
  rcases hW with rfl | ⟨t, rfl⟩
  · exact Below.refl _ _
  · exact Lib.bytesWorld_below _ _ _
theorem atoi_no (a0 : ByteArray) (w : World) (hs : a0.size ≤ 140737488351232) (h : Num.whole (-9223372036854775808) 9223372036854775807 a0.data.toList = none) (hV : Vars.Vars w) :
    Calls Tryd.prog 41 #[.string a0] w fun e w' => ∃ n p, e = .returned (.tuple #[.int .i64 n, .iface 105 p]) ∧ Below w.heap.size w w' := by
  obtain ⟨⟨e0, hc0, he0⟩, ⟨e1, hc1, he1⟩⟩ := hV
  cases hq : Lib.atoiAll a0.data.toList with
  | ok v => rw [(Num.atoi_ok _ _).1 hq] at h; cases h
  | range =>
    refine (Tryd.strconv_Atoi_range a0 (by omega) hq e1 _ hc1 he1).mono ?_
    rintro e w1 ⟨N, rfl, _, _, hb⟩
    exact ⟨_, _, rfl, hb⟩
  | _ =>
    refine (Tryd.strconv_Atoi_syntax a0 (by omega) ⟨(fun _ hh => nomatch (hq.symm.trans hh)), (fun hh => nomatch (hq.symm.trans hh))⟩ e0 _ hc0 he0).mono ?_
    rintro e w1 ⟨N, rfl, _, _, hb⟩
    exact ⟨_, _, rfl, hb⟩
theorem errNew (m : ByteArray) (w : World) : Calls Tryd.prog 36 #[.string m] w fun e w' => ∃ p, e = .returned (.iface 94 p) ∧ Below w.heap.size w w' := by
  go_enter Tryd.func36, Tryd.ntmps36
  go_wp2_with fail
  go_ret
  exact ⟨_, rfl, below_alloc (Below.refl _ _) _⟩
/-- The outcome of a range of ports. -/
def portRes (lo hi : Int) : Option (Int × Int) := if lo > 65535 then none else if hi > 65535 then none else if hi < lo then none else some (lo, wrap64 (wrap64 (1 + hi) - lo))
/-- What a text comes to, its signs' places known. -/
def portsOf (t : ByteArray) (i j : Int) : Option (Int × Int) :=
  if i = -1 then
    (if j = -1 then (match Num.whole (-9223372036854775808) 9223372036854775807 (t).data.toList with | none => none | some v => portRes v v)
     else (match Num.whole (-9223372036854775808) 9223372036854775807 (t.extract 0 j.toNat).data.toList with | none => none | some lo => match Num.whole (-9223372036854775808) 9223372036854775807 (t.extract (j + 1).toNat t.size).data.toList with | none => none | some d => portRes lo (wrap64 (lo + d))))
  else (if j = -1 then (match Num.whole (-9223372036854775808) 9223372036854775807 (t.extract 0 i.toNat).data.toList with | none => none | some lo => match Num.whole (-9223372036854775808) 9223372036854775807 (t.extract (i + 1).toNat t.size).data.toList with | none => none | some hi => portRes lo hi) else none)
/-- What Set leaves behind. -/
def SetPost (w0 : World) (g : Nat) (r : Option (Int × Int)) (e : Ending) (w' : World) : Prop :=
  match r with
  | none => (∃ ty p, e = .returned (.iface ty p)) ∧ Below w0.heap.size w0 w'
  | some (b, n) => e = .returned .nilIface ∧ w'.heap[g]? = some (.cells #[.int .i64 b, .int .i64 n] 51 (0, 0)) ∧ Below w0.heap.size w0 w'
theorem setA_no (k : Nat) (s t : ByteArray) (g : Nat) (w0 w : World) (ht : Aside0 (net_zzTrimSpace.f k s = some t)) (hne : (t.toList == ([] : List UInt8)) = false) (hs : t.size ≤ 140737488351232) (hg : w0.heap.size ≤ g) (hB : Aside0 (Below w0.heap.size w0 w)) (hR : Aside0 (w.heap[g]? = some (.cells #[.int .i64 0, .int .i64 0] 51 (0, 0)))) (hV : Vars.Vars w0) (h1 : Aside0 (net_zzIndex.f k t (⟨#[45]⟩ : ByteArray) = some (-1))) (h2 : Aside0 (net_zzIndex.f k t (⟨#[43]⟩ : ByteArray) = some (-1))) (hq : Aside0 (Num.whole (-9223372036854775808) 9223372036854775807 (t).data.toList = none)) :
    Calls Tryd.prog 29 #[.pointer (some ⟨g, 0, none⟩), .string s] w fun e w' => SetPost w0 g (none) e w' := by
  go_enter Tryd.func29, Tryd.ntmps29
  go_wp2_with fail
  (with_reducible refine (net_zzTrimSpace.calls k s t _ ht.out).mono ?_)
  rintro e w1 ⟨rfl, hb1⟩
  have HB1 := Aside0.mk (hB.out.trans (hb1.mono hB.out.size))
  have R1 := Aside0.mk (blk_below hR.out hb1)
  clear hb1 hB hR
  go_wp2_with fail
  (with_reducible refine (net_zzIndex.calls k t (⟨#[45]⟩ : ByteArray) (-1) _ h1.out).mono ?_)
  rintro e w2 ⟨rfl, hd2⟩
  obtain ⟨n2, rfl⟩ := hd2
  go_wp2_with fail
  (with_reducible refine (net_zzIndex.calls k t (⟨#[43]⟩ : ByteArray) (-1) _ h2.out).mono ?_)
  rintro e w3 ⟨rfl, hd3⟩
  obtain ⟨n3, rfl⟩ := hd3
  have HB2 := Aside0.mk (pw_below_drewN HB1.out (n2 + n3))
  have R2 := Aside0.mk (blk_drewN R1.out (n2 + n3))
  clear HB1 R1
  go_wp2_with fail
  (with_reducible refine (atoi_no (t) _ hs hq.out (hV.below HB2.out)).mono ?_)
  rintro e w13 ⟨n_, p_, rfl, hb13⟩
  have HB3 := Aside0.mk (HB2.out.trans (hb13.mono HB2.out.size))
  clear hb13
  go_wp2_with fail
  go_ret
  exact ⟨⟨_, _, rfl⟩, HB3.out⟩
theorem setA_lo (k : Nat) (s t : ByteArray) (g : Nat) (w0 w : World) (ht : Aside0 (net_zzTrimSpace.f k s = some t)) (hne : (t.toList == ([] : List UInt8)) = false) (hs : t.size ≤ 140737488351232) (hg : w0.heap.size ≤ g) (hB : Aside0 (Below w0.heap.size w0 w)) (hR : Aside0 (w.heap[g]? = some (.cells #[.int .i64 0, .int .i64 0] 51 (0, 0)))) (hV : Vars.Vars w0) (h1 : Aside0 (net_zzIndex.f k t (⟨#[45]⟩ : ByteArray) = some (-1))) (h2 : Aside0 (net_zzIndex.f k t (⟨#[43]⟩ : ByteArray) = some (-1))) (lo : Int) (hq : Aside0 (Num.whole (-9223372036854775808) 9223372036854775807 (t).data.toList = some lo)) (l1 : lo > 65535) :
    Calls Tryd.prog 29 #[.pointer (some ⟨g, 0, none⟩), .string s] w fun e w' => SetPost w0 g (none) e w' := by
  have c2 : decide (lo > 65535) = true := decide_eq_true l1
  clear l1
  go_enter Tryd.func29, Tryd.ntmps29
  go_wp2_with fail
  (with_reducible refine (net_zzTrimSpace.calls k s t _ ht.out).mono ?_)
  rintro e w1 ⟨rfl, hb1⟩
  have HB1 := Aside0.mk (hB.out.trans (hb1.mono hB.out.size))
  have R1 := Aside0.mk (blk_below hR.out hb1)
  clear hb1 hB hR
  go_wp2_with fail
  (with_reducible refine (net_zzIndex.calls k t (⟨#[45]⟩ : ByteArray) (-1) _ h1.out).mono ?_)
  rintro e w2 ⟨rfl, hd2⟩
  obtain ⟨n2, rfl⟩ := hd2
  go_wp2_with fail
  (with_reducible refine (net_zzIndex.calls k t (⟨#[43]⟩ : ByteArray) (-1) _ h2.out).mono ?_)
  rintro e w3 ⟨rfl, hd3⟩
  obtain ⟨n3, rfl⟩ := hd3
  have HB2 := Aside0.mk (pw_below_drewN HB1.out (n2 + n3))
  have R2 := Aside0.mk (blk_drewN R1.out (n2 + n3))
  clear HB1 R1
  go_wp2_with fail
  (with_reducible refine (atoi_yes (t) lo _ hs hq.out).mono ?_)
  rintro e w13 ⟨rfl, hb13⟩
  have HB3 := Aside0.mk (HB2.out.trans (hb13.mono HB2.out.size))
  have R3 := Aside0.mk (blk_below R2.out hb13)
  clear hb13
  have f0_ := (blk_cell R3.out 0).trans rfl
  have f1_ := (blk_cell R3.out 1).trans rfl
  have f2_ := blk_frozen R3.out 0
  have f3_ := blk_frozen R3.out 1
  go_wp2_with fail
  (with_reducible refine (errNew _ _).mono ?_)
  rintro e w14 ⟨p_, rfl, hb14⟩
  have HB4 := Aside0.mk (HB3.out.trans (hb14.mono HB3.out.size))
  clear hb14
  go_wp2_with fail
  go_ret
  exact ⟨⟨_, _, rfl⟩, HB4.out⟩
theorem setA_ok (k : Nat) (s t : ByteArray) (g : Nat) (w0 w : World) (ht : Aside0 (net_zzTrimSpace.f k s = some t)) (hne : (t.toList == ([] : List UInt8)) = false) (hs : t.size ≤ 140737488351232) (hg : w0.heap.size ≤ g) (hB : Aside0 (Below w0.heap.size w0 w)) (hR : Aside0 (w.heap[g]? = some (.cells #[.int .i64 0, .int .i64 0] 51 (0, 0)))) (hV : Vars.Vars w0) (h1 : Aside0 (net_zzIndex.f k t (⟨#[45]⟩ : ByteArray) = some (-1))) (h2 : Aside0 (net_zzIndex.f k t (⟨#[43]⟩ : ByteArray) = some (-1))) (lo : Int) (hq : Aside0 (Num.whole (-9223372036854775808) 9223372036854775807 (t).data.toList = some lo)) (l1 : ¬ lo > 65535) (l2 : ¬ lo > 65535) (l3 : ¬ lo < lo) :
    Calls Tryd.prog 29 #[.pointer (some ⟨g, 0, none⟩), .string s] w fun e w' => SetPost w0 g (some (lo, wrap64 (wrap64 (1 + lo) - lo))) e w' := by
  have c2 : decide (lo > 65535) = false := decide_eq_false l1
  have c3 : decide (lo > 65535) = false := decide_eq_false l2
  have c4 : decide (lo < lo) = false := decide_eq_false l3
  clear l1 l2 l3
  go_enter Tryd.func29, Tryd.ntmps29
  go_wp2_with fail
  (with_reducible refine (net_zzTrimSpace.calls k s t _ ht.out).mono ?_)
  rintro e w1 ⟨rfl, hb1⟩
  have HB1 := Aside0.mk (hB.out.trans (hb1.mono hB.out.size))
  have R1 := Aside0.mk (blk_below hR.out hb1)
  clear hb1 hB hR
  go_wp2_with fail
  (with_reducible refine (net_zzIndex.calls k t (⟨#[45]⟩ : ByteArray) (-1) _ h1.out).mono ?_)
  rintro e w2 ⟨rfl, hd2⟩
  obtain ⟨n2, rfl⟩ := hd2
  go_wp2_with fail
  (with_reducible refine (net_zzIndex.calls k t (⟨#[43]⟩ : ByteArray) (-1) _ h2.out).mono ?_)
  rintro e w3 ⟨rfl, hd3⟩
  obtain ⟨n3, rfl⟩ := hd3
  have HB2 := Aside0.mk (pw_below_drewN HB1.out (n2 + n3))
  have R2 := Aside0.mk (blk_drewN R1.out (n2 + n3))
  clear HB1 R1
  go_wp2_with fail
  (with_reducible refine (atoi_yes (t) lo _ hs hq.out).mono ?_)
  rintro e w13 ⟨rfl, hb13⟩
  have HB3 := Aside0.mk (HB2.out.trans (hb13.mono HB2.out.size))
  have R3 := Aside0.mk (blk_below R2.out hb13)
  clear hb13
  have f0_ := (blk_cell R3.out 0).trans rfl
  have f1_ := (blk_cell R3.out 1).trans rfl
  have f2_ := blk_frozen R3.out 0
  have f3_ := blk_frozen R3.out 1
  go_wp2_with fail
  go_ret
  exact ⟨rfl, blk_put (cs := #[.int .i64 lo, .int .i64 0]) (blk_put (cs := #[.int .i64 0, .int .i64 0]) R3.out 0 _ rfl) 1 _ rfl, below_set (below_set HB3.out hg) hg⟩
theorem setB_no1 (k : Nat) (s t : ByteArray) (g : Nat) (w0 w : World) (ht : Aside0 (net_zzTrimSpace.f k s = some t)) (hne : (t.toList == ([] : List UInt8)) = false) (hs : t.size ≤ 140737488351232) (hg : w0.heap.size ≤ g) (hB : Aside0 (Below w0.heap.size w0 w)) (hR : Aside0 (w.heap[g]? = some (.cells #[.int .i64 0, .int .i64 0] 51 (0, 0)))) (hV : Vars.Vars w0) (i : Int) (h1 : Aside0 (net_zzIndex.f k t (⟨#[45]⟩ : ByteArray) = some i)) (h2 : Aside0 (net_zzIndex.f k t (⟨#[43]⟩ : ByteArray) = some (-1))) (i0 : 0 ≤ i) (i1 : i + 1 ≤ t.size) (hz1 : (t.extract 0 i.toNat).size ≤ 140737488351232) (hz2 : (t.extract (i + 1).toNat t.size).size ≤ 140737488351232) (hq : Aside0 (Num.whole (-9223372036854775808) 9223372036854775807 (t.extract 0 i.toNat).data.toList = none)) :
    Calls Tryd.prog 29 #[.pointer (some ⟨g, 0, none⟩), .string s] w fun e w' => SetPost w0 g (none) e w' := by
  have c0 : (i == -1) = false := beq_eq_false_iff_ne.mpr (by omega)
  have c1 : (i != -1) = true := bne_iff_ne.mpr (by omega)
  go_enter Tryd.func29, Tryd.ntmps29
  go_wp2_with fail
  (with_reducible refine (net_zzTrimSpace.calls k s t _ ht.out).mono ?_)
  rintro e w1 ⟨rfl, hb1⟩
  have HB1 := Aside0.mk (hB.out.trans (hb1.mono hB.out.size))
  have R1 := Aside0.mk (blk_below hR.out hb1)
  clear hb1 hB hR
  go_wp2_with fail
  (with_reducible refine (net_zzIndex.calls k t (⟨#[45]⟩ : ByteArray) i _ h1.out).mono ?_)
  rintro e w2 ⟨rfl, hd2⟩
  obtain ⟨n2, rfl⟩ := hd2
  go_wp2_with fail
  (with_reducible refine (net_zzIndex.calls k t (⟨#[43]⟩ : ByteArray) (-1) _ h2.out).mono ?_)
  rintro e w3 ⟨rfl, hd3⟩
  obtain ⟨n3, rfl⟩ := hd3
  have HB2 := Aside0.mk (pw_below_drewN HB1.out (n2 + n3))
  have R2 := Aside0.mk (blk_drewN R1.out (n2 + n3))
  clear HB1 R1
  go_wp2_with fail
  (with_reducible refine (atoi_no (t.extract 0 i.toNat) _ hz1 hq.out (hV.below HB2.out)).mono ?_)
  rintro e w13 ⟨n_, p_, rfl, hb13⟩
  have HB3 := Aside0.mk (HB2.out.trans (hb13.mono HB2.out.size))
  clear hb13
  go_wp2_with fail
  go_ret
  exact ⟨⟨_, _, rfl⟩, HB3.out⟩
theorem setB_no2 (k : Nat) (s t : ByteArray) (g : Nat) (w0 w : World) (ht : Aside0 (net_zzTrimSpace.f k s = some t)) (hne : (t.toList == ([] : List UInt8)) = false) (hs : t.size ≤ 140737488351232) (hg : w0.heap.size ≤ g) (hB : Aside0 (Below w0.heap.size w0 w)) (hR : Aside0 (w.heap[g]? = some (.cells #[.int .i64 0, .int .i64 0] 51 (0, 0)))) (hV : Vars.Vars w0) (i : Int) (h1 : Aside0 (net_zzIndex.f k t (⟨#[45]⟩ : ByteArray) = some i)) (h2 : Aside0 (net_zzIndex.f k t (⟨#[43]⟩ : ByteArray) = some (-1))) (i0 : 0 ≤ i) (i1 : i + 1 ≤ t.size) (hz1 : (t.extract 0 i.toNat).size ≤ 140737488351232) (hz2 : (t.extract (i + 1).toNat t.size).size ≤ 140737488351232) (lo : Int) (hq : Aside0 (Num.whole (-9223372036854775808) 9223372036854775807 (t.extract 0 i.toNat).data.toList = some lo)) (hr : Aside0 (Num.whole (-9223372036854775808) 9223372036854775807 (t.extract (i + 1).toNat t.size).data.toList = none)) :
    Calls Tryd.prog 29 #[.pointer (some ⟨g, 0, none⟩), .string s] w fun e w' => SetPost w0 g (none) e w' := by
  have c0 : (i == -1) = false := beq_eq_false_iff_ne.mpr (by omega)
  have c1 : (i != -1) = true := bne_iff_ne.mpr (by omega)
  go_enter Tryd.func29, Tryd.ntmps29
  go_wp2_with fail
  (with_reducible refine (net_zzTrimSpace.calls k s t _ ht.out).mono ?_)
  rintro e w1 ⟨rfl, hb1⟩
  have HB1 := Aside0.mk (hB.out.trans (hb1.mono hB.out.size))
  have R1 := Aside0.mk (blk_below hR.out hb1)
  clear hb1 hB hR
  go_wp2_with fail
  (with_reducible refine (net_zzIndex.calls k t (⟨#[45]⟩ : ByteArray) i _ h1.out).mono ?_)
  rintro e w2 ⟨rfl, hd2⟩
  obtain ⟨n2, rfl⟩ := hd2
  go_wp2_with fail
  (with_reducible refine (net_zzIndex.calls k t (⟨#[43]⟩ : ByteArray) (-1) _ h2.out).mono ?_)
  rintro e w3 ⟨rfl, hd3⟩
  obtain ⟨n3, rfl⟩ := hd3
  have HB2 := Aside0.mk (pw_below_drewN HB1.out (n2 + n3))
  have R2 := Aside0.mk (blk_drewN R1.out (n2 + n3))
  clear HB1 R1
  go_wp2_with fail
  (with_reducible refine (atoi_yes (t.extract 0 i.toNat) lo _ hz1 hq.out).mono ?_)
  rintro e w13 ⟨rfl, hb13⟩
  have HB3 := Aside0.mk (HB2.out.trans (hb13.mono HB2.out.size))
  have R3 := Aside0.mk (blk_below R2.out hb13)
  clear hb13
  go_wp2_with fail
  (with_reducible refine (atoi_no (t.extract (i + 1).toNat t.size) _ hz2 hr.out (hV.below HB3.out)).mono ?_)
  rintro e w14 ⟨n_, p_, rfl, hb14⟩
  have HB4 := Aside0.mk (HB3.out.trans (hb14.mono HB3.out.size))
  clear hb14
  go_wp2_with fail
  go_ret
  exact ⟨⟨_, _, rfl⟩, HB4.out⟩
theorem setB_lo (k : Nat) (s t : ByteArray) (g : Nat) (w0 w : World) (ht : Aside0 (net_zzTrimSpace.f k s = some t)) (hne : (t.toList == ([] : List UInt8)) = false) (hs : t.size ≤ 140737488351232) (hg : w0.heap.size ≤ g) (hB : Aside0 (Below w0.heap.size w0 w)) (hR : Aside0 (w.heap[g]? = some (.cells #[.int .i64 0, .int .i64 0] 51 (0, 0)))) (hV : Vars.Vars w0) (i : Int) (h1 : Aside0 (net_zzIndex.f k t (⟨#[45]⟩ : ByteArray) = some i)) (h2 : Aside0 (net_zzIndex.f k t (⟨#[43]⟩ : ByteArray) = some (-1))) (i0 : 0 ≤ i) (i1 : i + 1 ≤ t.size) (hz1 : (t.extract 0 i.toNat).size ≤ 140737488351232) (hz2 : (t.extract (i + 1).toNat t.size).size ≤ 140737488351232) (lo hi : Int) (hq : Aside0 (Num.whole (-9223372036854775808) 9223372036854775807 (t.extract 0 i.toNat).data.toList = some lo)) (hr : Aside0 (Num.whole (-9223372036854775808) 9223372036854775807 (t.extract (i + 1).toNat t.size).data.toList = some hi)) (l1 : lo > 65535) :
    Calls Tryd.prog 29 #[.pointer (some ⟨g, 0, none⟩), .string s] w fun e w' => SetPost w0 g (none) e w' := by
  have c0 : (i == -1) = false := beq_eq_false_iff_ne.mpr (by omega)
  have c1 : (i != -1) = true := bne_iff_ne.mpr (by omega)
  have c2 : decide (lo > 65535) = true := decide_eq_true l1
  clear l1
  go_enter Tryd.func29, Tryd.ntmps29
  go_wp2_with fail
  (with_reducible refine (net_zzTrimSpace.calls k s t _ ht.out).mono ?_)
  rintro e w1 ⟨rfl, hb1⟩
  have HB1 := Aside0.mk (hB.out.trans (hb1.mono hB.out.size))
  have R1 := Aside0.mk (blk_below hR.out hb1)
  clear hb1 hB hR
  go_wp2_with fail
  (with_reducible refine (net_zzIndex.calls k t (⟨#[45]⟩ : ByteArray) i _ h1.out).mono ?_)
  rintro e w2 ⟨rfl, hd2⟩
  obtain ⟨n2, rfl⟩ := hd2
  go_wp2_with fail
  (with_reducible refine (net_zzIndex.calls k t (⟨#[43]⟩ : ByteArray) (-1) _ h2.out).mono ?_)
  rintro e w3 ⟨rfl, hd3⟩
  obtain ⟨n3, rfl⟩ := hd3
  have HB2 := Aside0.mk (pw_below_drewN HB1.out (n2 + n3))
  have R2 := Aside0.mk (blk_drewN R1.out (n2 + n3))
  clear HB1 R1
  go_wp2_with fail
  (with_reducible refine (atoi_yes (t.extract 0 i.toNat) lo _ hz1 hq.out).mono ?_)
  rintro e w13 ⟨rfl, hb13⟩
  have HB3 := Aside0.mk (HB2.out.trans (hb13.mono HB2.out.size))
  have R3 := Aside0.mk (blk_below R2.out hb13)
  clear hb13
  go_wp2_with fail
  (with_reducible refine (atoi_yes (t.extract (i + 1).toNat t.size) hi _ hz2 hr.out).mono ?_)
  rintro e w14 ⟨rfl, hb14⟩
  have HB4 := Aside0.mk (HB3.out.trans (hb14.mono HB3.out.size))
  have R4 := Aside0.mk (blk_below R3.out hb14)
  clear hb14
  have f0_ := (blk_cell R4.out 0).trans rfl
  have f1_ := (blk_cell R4.out 1).trans rfl
  have f2_ := blk_frozen R4.out 0
  have f3_ := blk_frozen R4.out 1
  go_wp2_with fail
  (with_reducible refine (errNew _ _).mono ?_)
  rintro e w15 ⟨p_, rfl, hb15⟩
  have HB5 := Aside0.mk (HB4.out.trans (hb15.mono HB4.out.size))
  clear hb15
  go_wp2_with fail
  go_ret
  exact ⟨⟨_, _, rfl⟩, HB5.out⟩
theorem setB_hi (k : Nat) (s t : ByteArray) (g : Nat) (w0 w : World) (ht : Aside0 (net_zzTrimSpace.f k s = some t)) (hne : (t.toList == ([] : List UInt8)) = false) (hs : t.size ≤ 140737488351232) (hg : w0.heap.size ≤ g) (hB : Aside0 (Below w0.heap.size w0 w)) (hR : Aside0 (w.heap[g]? = some (.cells #[.int .i64 0, .int .i64 0] 51 (0, 0)))) (hV : Vars.Vars w0) (i : Int) (h1 : Aside0 (net_zzIndex.f k t (⟨#[45]⟩ : ByteArray) = some i)) (h2 : Aside0 (net_zzIndex.f k t (⟨#[43]⟩ : ByteArray) = some (-1))) (i0 : 0 ≤ i) (i1 : i + 1 ≤ t.size) (hz1 : (t.extract 0 i.toNat).size ≤ 140737488351232) (hz2 : (t.extract (i + 1).toNat t.size).size ≤ 140737488351232) (lo hi : Int) (hq : Aside0 (Num.whole (-9223372036854775808) 9223372036854775807 (t.extract 0 i.toNat).data.toList = some lo)) (hr : Aside0 (Num.whole (-9223372036854775808) 9223372036854775807 (t.extract (i + 1).toNat t.size).data.toList = some hi)) (l1 : ¬ lo > 65535) (l2 : hi > 65535) :
    Calls Tryd.prog 29 #[.pointer (some ⟨g, 0, none⟩), .string s] w fun e w' => SetPost w0 g (none) e w' := by
  have c0 : (i == -1) = false := beq_eq_false_iff_ne.mpr (by omega)
  have c1 : (i != -1) = true := bne_iff_ne.mpr (by omega)
  have c2 : decide (lo > 65535) = false := decide_eq_false l1
  have c3 : decide (hi > 65535) = true := decide_eq_true l2
  clear l1 l2
  go_enter Tryd.func29, Tryd.ntmps29
  go_wp2_with fail
  (with_reducible refine (net_zzTrimSpace.calls k s t _ ht.out).mono ?_)
  rintro e w1 ⟨rfl, hb1⟩
  have HB1 := Aside0.mk (hB.out.trans (hb1.mono hB.out.size))
  have R1 := Aside0.mk (blk_below hR.out hb1)
  clear hb1 hB hR
  go_wp2_with fail
  (with_reducible refine (net_zzIndex.calls k t (⟨#[45]⟩ : ByteArray) i _ h1.out).mono ?_)
  rintro e w2 ⟨rfl, hd2⟩
  obtain ⟨n2, rfl⟩ := hd2
  go_wp2_with fail
  (with_reducible refine (net_zzIndex.calls k t (⟨#[43]⟩ : ByteArray) (-1) _ h2.out).mono ?_)
  rintro e w3 ⟨rfl, hd3⟩
  obtain ⟨n3, rfl⟩ := hd3
  have HB2 := Aside0.mk (pw_below_drewN HB1.out (n2 + n3))
  have R2 := Aside0.mk (blk_drewN R1.out (n2 + n3))
  clear HB1 R1
  go_wp2_with fail
  (with_reducible refine (atoi_yes (t.extract 0 i.toNat) lo _ hz1 hq.out).mono ?_)
  rintro e w13 ⟨rfl, hb13⟩
  have HB3 := Aside0.mk (HB2.out.trans (hb13.mono HB2.out.size))
  have R3 := Aside0.mk (blk_below R2.out hb13)
  clear hb13
  go_wp2_with fail
  (with_reducible refine (atoi_yes (t.extract (i + 1).toNat t.size) hi _ hz2 hr.out).mono ?_)
  rintro e w14 ⟨rfl, hb14⟩
  have HB4 := Aside0.mk (HB3.out.trans (hb14.mono HB3.out.size))
  have R4 := Aside0.mk (blk_below R3.out hb14)
  clear hb14
  have f0_ := (blk_cell R4.out 0).trans rfl
  have f1_ := (blk_cell R4.out 1).trans rfl
  have f2_ := blk_frozen R4.out 0
  have f3_ := blk_frozen R4.out 1
  go_wp2_with fail
  (with_reducible refine (errNew _ _).mono ?_)
  rintro e w15 ⟨p_, rfl, hb15⟩
  have HB5 := Aside0.mk (HB4.out.trans (hb15.mono HB4.out.size))
  clear hb15
  go_wp2_with fail
  go_ret
  exact ⟨⟨_, _, rfl⟩, HB5.out⟩
theorem setB_lt (k : Nat) (s t : ByteArray) (g : Nat) (w0 w : World) (ht : Aside0 (net_zzTrimSpace.f k s = some t)) (hne : (t.toList == ([] : List UInt8)) = false) (hs : t.size ≤ 140737488351232) (hg : w0.heap.size ≤ g) (hB : Aside0 (Below w0.heap.size w0 w)) (hR : Aside0 (w.heap[g]? = some (.cells #[.int .i64 0, .int .i64 0] 51 (0, 0)))) (hV : Vars.Vars w0) (i : Int) (h1 : Aside0 (net_zzIndex.f k t (⟨#[45]⟩ : ByteArray) = some i)) (h2 : Aside0 (net_zzIndex.f k t (⟨#[43]⟩ : ByteArray) = some (-1))) (i0 : 0 ≤ i) (i1 : i + 1 ≤ t.size) (hz1 : (t.extract 0 i.toNat).size ≤ 140737488351232) (hz2 : (t.extract (i + 1).toNat t.size).size ≤ 140737488351232) (lo hi : Int) (hq : Aside0 (Num.whole (-9223372036854775808) 9223372036854775807 (t.extract 0 i.toNat).data.toList = some lo)) (hr : Aside0 (Num.whole (-9223372036854775808) 9223372036854775807 (t.extract (i + 1).toNat t.size).data.toList = some hi)) (l1 : ¬ lo > 65535) (l2 : ¬ hi > 65535) (l3 : hi < lo) :
    Calls Tryd.prog 29 #[.pointer (some ⟨g, 0, none⟩), .string s] w fun e w' => SetPost w0 g (none) e w' := by
  have c0 : (i == -1) = false := beq_eq_false_iff_ne.mpr (by omega)
  have c1 : (i != -1) = true := bne_iff_ne.mpr (by omega)
  have c2 : decide (lo > 65535) = false := decide_eq_false l1
  have c3 : decide (hi > 65535) = false := decide_eq_false l2
  have c4 : decide (hi < lo) = true := decide_eq_true l3
  clear l1 l2 l3
  go_enter Tryd.func29, Tryd.ntmps29
  go_wp2_with fail
  (with_reducible refine (net_zzTrimSpace.calls k s t _ ht.out).mono ?_)
  rintro e w1 ⟨rfl, hb1⟩
  have HB1 := Aside0.mk (hB.out.trans (hb1.mono hB.out.size))
  have R1 := Aside0.mk (blk_below hR.out hb1)
  clear hb1 hB hR
  go_wp2_with fail
  (with_reducible refine (net_zzIndex.calls k t (⟨#[45]⟩ : ByteArray) i _ h1.out).mono ?_)
  rintro e w2 ⟨rfl, hd2⟩
  obtain ⟨n2, rfl⟩ := hd2
  go_wp2_with fail
  (with_reducible refine (net_zzIndex.calls k t (⟨#[43]⟩ : ByteArray) (-1) _ h2.out).mono ?_)
  rintro e w3 ⟨rfl, hd3⟩
  obtain ⟨n3, rfl⟩ := hd3
  have HB2 := Aside0.mk (pw_below_drewN HB1.out (n2 + n3))
  have R2 := Aside0.mk (blk_drewN R1.out (n2 + n3))
  clear HB1 R1
  go_wp2_with fail
  (with_reducible refine (atoi_yes (t.extract 0 i.toNat) lo _ hz1 hq.out).mono ?_)
  rintro e w13 ⟨rfl, hb13⟩
  have HB3 := Aside0.mk (HB2.out.trans (hb13.mono HB2.out.size))
  have R3 := Aside0.mk (blk_below R2.out hb13)
  clear hb13
  go_wp2_with fail
  (with_reducible refine (atoi_yes (t.extract (i + 1).toNat t.size) hi _ hz2 hr.out).mono ?_)
  rintro e w14 ⟨rfl, hb14⟩
  have HB4 := Aside0.mk (HB3.out.trans (hb14.mono HB3.out.size))
  have R4 := Aside0.mk (blk_below R3.out hb14)
  clear hb14
  have f0_ := (blk_cell R4.out 0).trans rfl
  have f1_ := (blk_cell R4.out 1).trans rfl
  have f2_ := blk_frozen R4.out 0
  have f3_ := blk_frozen R4.out 1
  go_wp2_with fail
  (with_reducible refine (errNew _ _).mono ?_)
  rintro e w15 ⟨p_, rfl, hb15⟩
  have HB5 := Aside0.mk (HB4.out.trans (hb15.mono HB4.out.size))
  clear hb15
  go_wp2_with fail
  go_ret
  exact ⟨⟨_, _, rfl⟩, HB5.out⟩
theorem setB_ok (k : Nat) (s t : ByteArray) (g : Nat) (w0 w : World) (ht : Aside0 (net_zzTrimSpace.f k s = some t)) (hne : (t.toList == ([] : List UInt8)) = false) (hs : t.size ≤ 140737488351232) (hg : w0.heap.size ≤ g) (hB : Aside0 (Below w0.heap.size w0 w)) (hR : Aside0 (w.heap[g]? = some (.cells #[.int .i64 0, .int .i64 0] 51 (0, 0)))) (hV : Vars.Vars w0) (i : Int) (h1 : Aside0 (net_zzIndex.f k t (⟨#[45]⟩ : ByteArray) = some i)) (h2 : Aside0 (net_zzIndex.f k t (⟨#[43]⟩ : ByteArray) = some (-1))) (i0 : 0 ≤ i) (i1 : i + 1 ≤ t.size) (hz1 : (t.extract 0 i.toNat).size ≤ 140737488351232) (hz2 : (t.extract (i + 1).toNat t.size).size ≤ 140737488351232) (lo hi : Int) (hq : Aside0 (Num.whole (-9223372036854775808) 9223372036854775807 (t.extract 0 i.toNat).data.toList = some lo)) (hr : Aside0 (Num.whole (-9223372036854775808) 9223372036854775807 (t.extract (i + 1).toNat t.size).data.toList = some hi)) (l1 : ¬ lo > 65535) (l2 : ¬ hi > 65535) (l3 : ¬ hi < lo) :
    Calls Tryd.prog 29 #[.pointer (some ⟨g, 0, none⟩), .string s] w fun e w' => SetPost w0 g (some (lo, wrap64 (wrap64 (1 + hi) - lo))) e w' := by
  have c0 : (i == -1) = false := beq_eq_false_iff_ne.mpr (by omega)
  have c1 : (i != -1) = true := bne_iff_ne.mpr (by omega)
  have c2 : decide (lo > 65535) = false := decide_eq_false l1
  have c3 : decide (hi > 65535) = false := decide_eq_false l2
  have c4 : decide (hi < lo) = false := decide_eq_false l3
  clear l1 l2 l3
  go_enter Tryd.func29, Tryd.ntmps29
  go_wp2_with fail
  (with_reducible refine (net_zzTrimSpace.calls k s t _ ht.out).mono ?_)
  rintro e w1 ⟨rfl, hb1⟩
  have HB1 := Aside0.mk (hB.out.trans (hb1.mono hB.out.size))
  have R1 := Aside0.mk (blk_below hR.out hb1)
  clear hb1 hB hR
  go_wp2_with fail
  (with_reducible refine (net_zzIndex.calls k t (⟨#[45]⟩ : ByteArray) i _ h1.out).mono ?_)
  rintro e w2 ⟨rfl, hd2⟩
  obtain ⟨n2, rfl⟩ := hd2
  go_wp2_with fail
  (with_reducible refine (net_zzIndex.calls k t (⟨#[43]⟩ : ByteArray) (-1) _ h2.out).mono ?_)
  rintro e w3 ⟨rfl, hd3⟩
  obtain ⟨n3, rfl⟩ := hd3
  have HB2 := Aside0.mk (pw_below_drewN HB1.out (n2 + n3))
  have R2 := Aside0.mk (blk_drewN R1.out (n2 + n3))
  clear HB1 R1
  go_wp2_with fail
  (with_reducible refine (atoi_yes (t.extract 0 i.toNat) lo _ hz1 hq.out).mono ?_)
  rintro e w13 ⟨rfl, hb13⟩
  have HB3 := Aside0.mk (HB2.out.trans (hb13.mono HB2.out.size))
  have R3 := Aside0.mk (blk_below R2.out hb13)
  clear hb13
  go_wp2_with fail
  (with_reducible refine (atoi_yes (t.extract (i + 1).toNat t.size) hi _ hz2 hr.out).mono ?_)
  rintro e w14 ⟨rfl, hb14⟩
  have HB4 := Aside0.mk (HB3.out.trans (hb14.mono HB3.out.size))
  have R4 := Aside0.mk (blk_below R3.out hb14)
  clear hb14
  have f0_ := (blk_cell R4.out 0).trans rfl
  have f1_ := (blk_cell R4.out 1).trans rfl
  have f2_ := blk_frozen R4.out 0
  have f3_ := blk_frozen R4.out 1
  go_wp2_with fail
  go_ret
  exact ⟨rfl, blk_put (cs := #[.int .i64 lo, .int .i64 0]) (blk_put (cs := #[.int .i64 0, .int .i64 0]) R4.out 0 _ rfl) 1 _ rfl, below_set (below_set HB4.out hg) hg⟩
theorem setC_no1 (k : Nat) (s t : ByteArray) (g : Nat) (w0 w : World) (ht : Aside0 (net_zzTrimSpace.f k s = some t)) (hne : (t.toList == ([] : List UInt8)) = false) (hs : t.size ≤ 140737488351232) (hg : w0.heap.size ≤ g) (hB : Aside0 (Below w0.heap.size w0 w)) (hR : Aside0 (w.heap[g]? = some (.cells #[.int .i64 0, .int .i64 0] 51 (0, 0)))) (hV : Vars.Vars w0) (i : Int) (h2 : Aside0 (net_zzIndex.f k t (⟨#[43]⟩ : ByteArray) = some i)) (h1 : Aside0 (net_zzIndex.f k t (⟨#[45]⟩ : ByteArray) = some (-1))) (i0 : 0 ≤ i) (i1 : i + 1 ≤ t.size) (hz1 : (t.extract 0 i.toNat).size ≤ 140737488351232) (hz2 : (t.extract (i + 1).toNat t.size).size ≤ 140737488351232) (hq : Aside0 (Num.whole (-9223372036854775808) 9223372036854775807 (t.extract 0 i.toNat).data.toList = none)) :
    Calls Tryd.prog 29 #[.pointer (some ⟨g, 0, none⟩), .string s] w fun e w' => SetPost w0 g (none) e w' := by
  have c0 : (i == -1) = false := beq_eq_false_iff_ne.mpr (by omega)
  have c1 : (i != -1) = true := bne_iff_ne.mpr (by omega)
  go_enter Tryd.func29, Tryd.ntmps29
  go_wp2_with fail
  (with_reducible refine (net_zzTrimSpace.calls k s t _ ht.out).mono ?_)
  rintro e w1 ⟨rfl, hb1⟩
  have HB1 := Aside0.mk (hB.out.trans (hb1.mono hB.out.size))
  have R1 := Aside0.mk (blk_below hR.out hb1)
  clear hb1 hB hR
  go_wp2_with fail
  (with_reducible refine (net_zzIndex.calls k t (⟨#[45]⟩ : ByteArray) (-1) _ h1.out).mono ?_)
  rintro e w2 ⟨rfl, hd2⟩
  obtain ⟨n2, rfl⟩ := hd2
  go_wp2_with fail
  (with_reducible refine (net_zzIndex.calls k t (⟨#[43]⟩ : ByteArray) i _ h2.out).mono ?_)
  rintro e w3 ⟨rfl, hd3⟩
  obtain ⟨n3, rfl⟩ := hd3
  have HB2 := Aside0.mk (pw_below_drewN HB1.out (n2 + n3))
  have R2 := Aside0.mk (blk_drewN R1.out (n2 + n3))
  clear HB1 R1
  go_wp2_with fail
  (with_reducible refine (atoi_no (t.extract 0 i.toNat) _ hz1 hq.out (hV.below HB2.out)).mono ?_)
  rintro e w13 ⟨n_, p_, rfl, hb13⟩
  have HB3 := Aside0.mk (HB2.out.trans (hb13.mono HB2.out.size))
  clear hb13
  go_wp2_with fail
  go_ret
  exact ⟨⟨_, _, rfl⟩, HB3.out⟩
theorem setC_no2 (k : Nat) (s t : ByteArray) (g : Nat) (w0 w : World) (ht : Aside0 (net_zzTrimSpace.f k s = some t)) (hne : (t.toList == ([] : List UInt8)) = false) (hs : t.size ≤ 140737488351232) (hg : w0.heap.size ≤ g) (hB : Aside0 (Below w0.heap.size w0 w)) (hR : Aside0 (w.heap[g]? = some (.cells #[.int .i64 0, .int .i64 0] 51 (0, 0)))) (hV : Vars.Vars w0) (i : Int) (h2 : Aside0 (net_zzIndex.f k t (⟨#[43]⟩ : ByteArray) = some i)) (h1 : Aside0 (net_zzIndex.f k t (⟨#[45]⟩ : ByteArray) = some (-1))) (i0 : 0 ≤ i) (i1 : i + 1 ≤ t.size) (hz1 : (t.extract 0 i.toNat).size ≤ 140737488351232) (hz2 : (t.extract (i + 1).toNat t.size).size ≤ 140737488351232) (lo : Int) (hq : Aside0 (Num.whole (-9223372036854775808) 9223372036854775807 (t.extract 0 i.toNat).data.toList = some lo)) (hr : Aside0 (Num.whole (-9223372036854775808) 9223372036854775807 (t.extract (i + 1).toNat t.size).data.toList = none)) :
    Calls Tryd.prog 29 #[.pointer (some ⟨g, 0, none⟩), .string s] w fun e w' => SetPost w0 g (none) e w' := by
  have c0 : (i == -1) = false := beq_eq_false_iff_ne.mpr (by omega)
  have c1 : (i != -1) = true := bne_iff_ne.mpr (by omega)
  go_enter Tryd.func29, Tryd.ntmps29
  go_wp2_with fail
  (with_reducible refine (net_zzTrimSpace.calls k s t _ ht.out).mono ?_)
  rintro e w1 ⟨rfl, hb1⟩
  have HB1 := Aside0.mk (hB.out.trans (hb1.mono hB.out.size))
  have R1 := Aside0.mk (blk_below hR.out hb1)
  clear hb1 hB hR
  go_wp2_with fail
  (with_reducible refine (net_zzIndex.calls k t (⟨#[45]⟩ : ByteArray) (-1) _ h1.out).mono ?_)
  rintro e w2 ⟨rfl, hd2⟩
  obtain ⟨n2, rfl⟩ := hd2
  go_wp2_with fail
  (with_reducible refine (net_zzIndex.calls k t (⟨#[43]⟩ : ByteArray) i _ h2.out).mono ?_)
  rintro e w3 ⟨rfl, hd3⟩
  obtain ⟨n3, rfl⟩ := hd3
  have HB2 := Aside0.mk (pw_below_drewN HB1.out (n2 + n3))
  have R2 := Aside0.mk (blk_drewN R1.out (n2 + n3))
  clear HB1 R1
  go_wp2_with fail
  (with_reducible refine (atoi_yes (t.extract 0 i.toNat) lo _ hz1 hq.out).mono ?_)
  rintro e w13 ⟨rfl, hb13⟩
  have HB3 := Aside0.mk (HB2.out.trans (hb13.mono HB2.out.size))
  have R3 := Aside0.mk (blk_below R2.out hb13)
  clear hb13
  go_wp2_with fail
  (with_reducible refine (atoi_no (t.extract (i + 1).toNat t.size) _ hz2 hr.out (hV.below HB3.out)).mono ?_)
  rintro e w14 ⟨n_, p_, rfl, hb14⟩
  have HB4 := Aside0.mk (HB3.out.trans (hb14.mono HB3.out.size))
  clear hb14
  go_wp2_with fail
  go_ret
  exact ⟨⟨_, _, rfl⟩, HB4.out⟩
theorem setC_lo (k : Nat) (s t : ByteArray) (g : Nat) (w0 w : World) (ht : Aside0 (net_zzTrimSpace.f k s = some t)) (hne : (t.toList == ([] : List UInt8)) = false) (hs : t.size ≤ 140737488351232) (hg : w0.heap.size ≤ g) (hB : Aside0 (Below w0.heap.size w0 w)) (hR : Aside0 (w.heap[g]? = some (.cells #[.int .i64 0, .int .i64 0] 51 (0, 0)))) (hV : Vars.Vars w0) (i : Int) (h2 : Aside0 (net_zzIndex.f k t (⟨#[43]⟩ : ByteArray) = some i)) (h1 : Aside0 (net_zzIndex.f k t (⟨#[45]⟩ : ByteArray) = some (-1))) (i0 : 0 ≤ i) (i1 : i + 1 ≤ t.size) (hz1 : (t.extract 0 i.toNat).size ≤ 140737488351232) (hz2 : (t.extract (i + 1).toNat t.size).size ≤ 140737488351232) (lo hi : Int) (hq : Aside0 (Num.whole (-9223372036854775808) 9223372036854775807 (t.extract 0 i.toNat).data.toList = some lo)) (hr : Aside0 (Num.whole (-9223372036854775808) 9223372036854775807 (t.extract (i + 1).toNat t.size).data.toList = some hi)) (l1 : lo > 65535) :
    Calls Tryd.prog 29 #[.pointer (some ⟨g, 0, none⟩), .string s] w fun e w' => SetPost w0 g (none) e w' := by
  have c0 : (i == -1) = false := beq_eq_false_iff_ne.mpr (by omega)
  have c1 : (i != -1) = true := bne_iff_ne.mpr (by omega)
  have c2 : decide (lo > 65535) = true := decide_eq_true l1
  clear l1
  go_enter Tryd.func29, Tryd.ntmps29
  go_wp2_with fail
  (with_reducible refine (net_zzTrimSpace.calls k s t _ ht.out).mono ?_)
  rintro e w1 ⟨rfl, hb1⟩
  have HB1 := Aside0.mk (hB.out.trans (hb1.mono hB.out.size))
  have R1 := Aside0.mk (blk_below hR.out hb1)
  clear hb1 hB hR
  go_wp2_with fail
  (with_reducible refine (net_zzIndex.calls k t (⟨#[45]⟩ : ByteArray) (-1) _ h1.out).mono ?_)
  rintro e w2 ⟨rfl, hd2⟩
  obtain ⟨n2, rfl⟩ := hd2
  go_wp2_with fail
  (with_reducible refine (net_zzIndex.calls k t (⟨#[43]⟩ : ByteArray) i _ h2.out).mono ?_)
  rintro e w3 ⟨rfl, hd3⟩
  obtain ⟨n3, rfl⟩ := hd3
  have HB2 := Aside0.mk (pw_below_drewN HB1.out (n2 + n3))
  have R2 := Aside0.mk (blk_drewN R1.out (n2 + n3))
  clear HB1 R1
  go_wp2_with fail
  (with_reducible refine (atoi_yes (t.extract 0 i.toNat) lo _ hz1 hq.out).mono ?_)
  rintro e w13 ⟨rfl, hb13⟩
  have HB3 := Aside0.mk (HB2.out.trans (hb13.mono HB2.out.size))
  have R3 := Aside0.mk (blk_below R2.out hb13)
  clear hb13
  go_wp2_with fail
  (with_reducible refine (atoi_yes (t.extract (i + 1).toNat t.size) hi _ hz2 hr.out).mono ?_)
  rintro e w14 ⟨rfl, hb14⟩
  have HB4 := Aside0.mk (HB3.out.trans (hb14.mono HB3.out.size))
  have R4 := Aside0.mk (blk_below R3.out hb14)
  clear hb14
  have f0_ := (blk_cell R4.out 0).trans rfl
  have f1_ := (blk_cell R4.out 1).trans rfl
  have f2_ := blk_frozen R4.out 0
  have f3_ := blk_frozen R4.out 1
  go_wp2_with fail
  (with_reducible refine (errNew _ _).mono ?_)
  rintro e w15 ⟨p_, rfl, hb15⟩
  have HB5 := Aside0.mk (HB4.out.trans (hb15.mono HB4.out.size))
  clear hb15
  go_wp2_with fail
  go_ret
  exact ⟨⟨_, _, rfl⟩, HB5.out⟩
theorem setC_hi (k : Nat) (s t : ByteArray) (g : Nat) (w0 w : World) (ht : Aside0 (net_zzTrimSpace.f k s = some t)) (hne : (t.toList == ([] : List UInt8)) = false) (hs : t.size ≤ 140737488351232) (hg : w0.heap.size ≤ g) (hB : Aside0 (Below w0.heap.size w0 w)) (hR : Aside0 (w.heap[g]? = some (.cells #[.int .i64 0, .int .i64 0] 51 (0, 0)))) (hV : Vars.Vars w0) (i : Int) (h2 : Aside0 (net_zzIndex.f k t (⟨#[43]⟩ : ByteArray) = some i)) (h1 : Aside0 (net_zzIndex.f k t (⟨#[45]⟩ : ByteArray) = some (-1))) (i0 : 0 ≤ i) (i1 : i + 1 ≤ t.size) (hz1 : (t.extract 0 i.toNat).size ≤ 140737488351232) (hz2 : (t.extract (i + 1).toNat t.size).size ≤ 140737488351232) (lo hi : Int) (hq : Aside0 (Num.whole (-9223372036854775808) 9223372036854775807 (t.extract 0 i.toNat).data.toList = some lo)) (hr : Aside0 (Num.whole (-9223372036854775808) 9223372036854775807 (t.extract (i + 1).toNat t.size).data.toList = some hi)) (l1 : ¬ lo > 65535) (l2 : wrap64 (lo + hi) > 65535) :
    Calls Tryd.prog 29 #[.pointer (some ⟨g, 0, none⟩), .string s] w fun e w' => SetPost w0 g (none) e w' := by
  have c0 : (i == -1) = false := beq_eq_false_iff_ne.mpr (by omega)
  have c1 : (i != -1) = true := bne_iff_ne.mpr (by omega)
  have c2 : decide (lo > 65535) = false := decide_eq_false l1
  have c3 : decide (wrap64 (lo + hi) > 65535) = true := decide_eq_true l2
  clear l1 l2
  go_enter Tryd.func29, Tryd.ntmps29
  go_wp2_with fail
  (with_reducible refine (net_zzTrimSpace.calls k s t _ ht.out).mono ?_)
  rintro e w1 ⟨rfl, hb1⟩
  have HB1 := Aside0.mk (hB.out.trans (hb1.mono hB.out.size))
  have R1 := Aside0.mk (blk_below hR.out hb1)
  clear hb1 hB hR
  go_wp2_with fail
  (with_reducible refine (net_zzIndex.calls k t (⟨#[45]⟩ : ByteArray) (-1) _ h1.out).mono ?_)
  rintro e w2 ⟨rfl, hd2⟩
  obtain ⟨n2, rfl⟩ := hd2
  go_wp2_with fail
  (with_reducible refine (net_zzIndex.calls k t (⟨#[43]⟩ : ByteArray) i _ h2.out).mono ?_)
  rintro e w3 ⟨rfl, hd3⟩
  obtain ⟨n3, rfl⟩ := hd3
  have HB2 := Aside0.mk (pw_below_drewN HB1.out (n2 + n3))
  have R2 := Aside0.mk (blk_drewN R1.out (n2 + n3))
  clear HB1 R1
  go_wp2_with fail
  (with_reducible refine (atoi_yes (t.extract 0 i.toNat) lo _ hz1 hq.out).mono ?_)
  rintro e w13 ⟨rfl, hb13⟩
  have HB3 := Aside0.mk (HB2.out.trans (hb13.mono HB2.out.size))
  have R3 := Aside0.mk (blk_below R2.out hb13)
  clear hb13
  go_wp2_with fail
  (with_reducible refine (atoi_yes (t.extract (i + 1).toNat t.size) hi _ hz2 hr.out).mono ?_)
  rintro e w14 ⟨rfl, hb14⟩
  have HB4 := Aside0.mk (HB3.out.trans (hb14.mono HB3.out.size))
  have R4 := Aside0.mk (blk_below R3.out hb14)
  clear hb14
  have f0_ := (blk_cell R4.out 0).trans rfl
  have f1_ := (blk_cell R4.out 1).trans rfl
  have f2_ := blk_frozen R4.out 0
  have f3_ := blk_frozen R4.out 1
  go_wp2_with fail
  (with_reducible refine (errNew _ _).mono ?_)
  rintro e w15 ⟨p_, rfl, hb15⟩
  have HB5 := Aside0.mk (HB4.out.trans (hb15.mono HB4.out.size))
  clear hb15
  go_wp2_with fail
  go_ret
  exact ⟨⟨_, _, rfl⟩, HB5.out⟩
theorem setC_lt (k : Nat) (s t : ByteArray) (g : Nat) (w0 w : World) (ht : Aside0 (net_zzTrimSpace.f k s = some t)) (hne : (t.toList == ([] : List UInt8)) = false) (hs : t.size ≤ 140737488351232) (hg : w0.heap.size ≤ g) (hB : Aside0 (Below w0.heap.size w0 w)) (hR : Aside0 (w.heap[g]? = some (.cells #[.int .i64 0, .int .i64 0] 51 (0, 0)))) (hV : Vars.Vars w0) (i : Int) (h2 : Aside0 (net_zzIndex.f k t (⟨#[43]⟩ : ByteArray) = some i)) (h1 : Aside0 (net_zzIndex.f k t (⟨#[45]⟩ : ByteArray) = some (-1))) (i0 : 0 ≤ i) (i1 : i + 1 ≤ t.size) (hz1 : (t.extract 0 i.toNat).size ≤ 140737488351232) (hz2 : (t.extract (i + 1).toNat t.size).size ≤ 140737488351232) (lo hi : Int) (hq : Aside0 (Num.whole (-9223372036854775808) 9223372036854775807 (t.extract 0 i.toNat).data.toList = some lo)) (hr : Aside0 (Num.whole (-9223372036854775808) 9223372036854775807 (t.extract (i + 1).toNat t.size).data.toList = some hi)) (l1 : ¬ lo > 65535) (l2 : ¬ wrap64 (lo + hi) > 65535) (l3 : wrap64 (lo + hi) < lo) :
    Calls Tryd.prog 29 #[.pointer (some ⟨g, 0, none⟩), .string s] w fun e w' => SetPost w0 g (none) e w' := by
  have c0 : (i == -1) = false := beq_eq_false_iff_ne.mpr (by omega)
  have c1 : (i != -1) = true := bne_iff_ne.mpr (by omega)
  have c2 : decide (lo > 65535) = false := decide_eq_false l1
  have c3 : decide (wrap64 (lo + hi) > 65535) = false := decide_eq_false l2
  have c4 : decide (wrap64 (lo + hi) < lo) = true := decide_eq_true l3
  clear l1 l2 l3
  go_enter Tryd.func29, Tryd.ntmps29
  go_wp2_with fail
  (with_reducible refine (net_zzTrimSpace.calls k s t _ ht.out).mono ?_)
  rintro e w1 ⟨rfl, hb1⟩
  have HB1 := Aside0.mk (hB.out.trans (hb1.mono hB.out.size))
  have R1 := Aside0.mk (blk_below hR.out hb1)
  clear hb1 hB hR
  go_wp2_with fail
  (with_reducible refine (net_zzIndex.calls k t (⟨#[45]⟩ : ByteArray) (-1) _ h1.out).mono ?_)
  rintro e w2 ⟨rfl, hd2⟩
  obtain ⟨n2, rfl⟩ := hd2
  go_wp2_with fail
  (with_reducible refine (net_zzIndex.calls k t (⟨#[43]⟩ : ByteArray) i _ h2.out).mono ?_)
  rintro e w3 ⟨rfl, hd3⟩
  obtain ⟨n3, rfl⟩ := hd3
  have HB2 := Aside0.mk (pw_below_drewN HB1.out (n2 + n3))
  have R2 := Aside0.mk (blk_drewN R1.out (n2 + n3))
  clear HB1 R1
  go_wp2_with fail
  (with_reducible refine (atoi_yes (t.extract 0 i.toNat) lo _ hz1 hq.out).mono ?_)
  rintro e w13 ⟨rfl, hb13⟩
  have HB3 := Aside0.mk (HB2.out.trans (hb13.mono HB2.out.size))
  have R3 := Aside0.mk (blk_below R2.out hb13)
  clear hb13
  go_wp2_with fail
  (with_reducible refine (atoi_yes (t.extract (i + 1).toNat t.size) hi _ hz2 hr.out).mono ?_)
  rintro e w14 ⟨rfl, hb14⟩
  have HB4 := Aside0.mk (HB3.out.trans (hb14.mono HB3.out.size))
  have R4 := Aside0.mk (blk_below R3.out hb14)
  clear hb14
  have f0_ := (blk_cell R4.out 0).trans rfl
  have f1_ := (blk_cell R4.out 1).trans rfl
  have f2_ := blk_frozen R4.out 0
  have f3_ := blk_frozen R4.out 1
  go_wp2_with fail
  (with_reducible refine (errNew _ _).mono ?_)
  rintro e w15 ⟨p_, rfl, hb15⟩
  have HB5 := Aside0.mk (HB4.out.trans (hb15.mono HB4.out.size))
  clear hb15
  go_wp2_with fail
  go_ret
  exact ⟨⟨_, _, rfl⟩, HB5.out⟩
theorem setC_ok (k : Nat) (s t : ByteArray) (g : Nat) (w0 w : World) (ht : Aside0 (net_zzTrimSpace.f k s = some t)) (hne : (t.toList == ([] : List UInt8)) = false) (hs : t.size ≤ 140737488351232) (hg : w0.heap.size ≤ g) (hB : Aside0 (Below w0.heap.size w0 w)) (hR : Aside0 (w.heap[g]? = some (.cells #[.int .i64 0, .int .i64 0] 51 (0, 0)))) (hV : Vars.Vars w0) (i : Int) (h2 : Aside0 (net_zzIndex.f k t (⟨#[43]⟩ : ByteArray) = some i)) (h1 : Aside0 (net_zzIndex.f k t (⟨#[45]⟩ : ByteArray) = some (-1))) (i0 : 0 ≤ i) (i1 : i + 1 ≤ t.size) (hz1 : (t.extract 0 i.toNat).size ≤ 140737488351232) (hz2 : (t.extract (i + 1).toNat t.size).size ≤ 140737488351232) (lo hi : Int) (hq : Aside0 (Num.whole (-9223372036854775808) 9223372036854775807 (t.extract 0 i.toNat).data.toList = some lo)) (hr : Aside0 (Num.whole (-9223372036854775808) 9223372036854775807 (t.extract (i + 1).toNat t.size).data.toList = some hi)) (l1 : ¬ lo > 65535) (l2 : ¬ wrap64 (lo + hi) > 65535) (l3 : ¬ wrap64 (lo + hi) < lo) :
    Calls Tryd.prog 29 #[.pointer (some ⟨g, 0, none⟩), .string s] w fun e w' => SetPost w0 g (some (lo, wrap64 (wrap64 (1 + wrap64 (lo + hi)) - lo))) e w' := by
  have c0 : (i == -1) = false := beq_eq_false_iff_ne.mpr (by omega)
  have c1 : (i != -1) = true := bne_iff_ne.mpr (by omega)
  have c2 : decide (lo > 65535) = false := decide_eq_false l1
  have c3 : decide (wrap64 (lo + hi) > 65535) = false := decide_eq_false l2
  have c4 : decide (wrap64 (lo + hi) < lo) = false := decide_eq_false l3
  clear l1 l2 l3
  go_enter Tryd.func29, Tryd.ntmps29
  go_wp2_with fail
  (with_reducible refine (net_zzTrimSpace.calls k s t _ ht.out).mono ?_)
  rintro e w1 ⟨rfl, hb1⟩
  have HB1 := Aside0.mk (hB.out.trans (hb1.mono hB.out.size))
  have R1 := Aside0.mk (blk_below hR.out hb1)
  clear hb1 hB hR
  go_wp2_with fail
  (with_reducible refine (net_zzIndex.calls k t (⟨#[45]⟩ : ByteArray) (-1) _ h1.out).mono ?_)
  rintro e w2 ⟨rfl, hd2⟩
  obtain ⟨n2, rfl⟩ := hd2
  go_wp2_with fail
  (with_reducible refine (net_zzIndex.calls k t (⟨#[43]⟩ : ByteArray) i _ h2.out).mono ?_)
  rintro e w3 ⟨rfl, hd3⟩
  obtain ⟨n3, rfl⟩ := hd3
  have HB2 := Aside0.mk (pw_below_drewN HB1.out (n2 + n3))
  have R2 := Aside0.mk (blk_drewN R1.out (n2 + n3))
  clear HB1 R1
  go_wp2_with fail
  (with_reducible refine (atoi_yes (t.extract 0 i.toNat) lo _ hz1 hq.out).mono ?_)
  rintro e w13 ⟨rfl, hb13⟩
  have HB3 := Aside0.mk (HB2.out.trans (hb13.mono HB2.out.size))
  have R3 := Aside0.mk (blk_below R2.out hb13)
  clear hb13
  go_wp2_with fail
  (with_reducible refine (atoi_yes (t.extract (i + 1).toNat t.size) hi _ hz2 hr.out).mono ?_)
  rintro e w14 ⟨rfl, hb14⟩
  have HB4 := Aside0.mk (HB3.out.trans (hb14.mono HB3.out.size))
  have R4 := Aside0.mk (blk_below R3.out hb14)
  clear hb14
  have f0_ := (blk_cell R4.out 0).trans rfl
  have f1_ := (blk_cell R4.out 1).trans rfl
  have f2_ := blk_frozen R4.out 0
  have f3_ := blk_frozen R4.out 1
  go_wp2_with fail
  go_ret
  exact ⟨rfl, blk_put (cs := #[.int .i64 lo, .int .i64 0]) (blk_put (cs := #[.int .i64 0, .int .i64 0]) R4.out 0 _ rfl) 1 _ rfl, below_set (below_set HB4.out hg) hg⟩
theorem setD (k : Nat) (s t : ByteArray) (g : Nat) (w0 w : World) (ht : Aside0 (net_zzTrimSpace.f k s = some t)) (hne : (t.toList == ([] : List UInt8)) = false) (hs : t.size ≤ 140737488351232) (hg : w0.heap.size ≤ g) (hB : Aside0 (Below w0.heap.size w0 w)) (hR : Aside0 (w.heap[g]? = some (.cells #[.int .i64 0, .int .i64 0] 51 (0, 0)))) (hV : Vars.Vars w0) (i j : Int) (h1 : Aside0 (net_zzIndex.f k t (⟨#[45]⟩ : ByteArray) = some i)) (h2 : Aside0 (net_zzIndex.f k t (⟨#[43]⟩ : ByteArray) = some j)) (i0 : 0 ≤ i) (j0 : 0 ≤ j) :
    Calls Tryd.prog 29 #[.pointer (some ⟨g, 0, none⟩), .string s] w fun e w' => SetPost w0 g (none) e w' := by
  have c0 : (i == -1) = false := beq_eq_false_iff_ne.mpr (by omega)
  have c1 : (i != -1) = true := bne_iff_ne.mpr (by omega)
  have d0 : (j == -1) = false := beq_eq_false_iff_ne.mpr (by omega)
  have d1 : (j != -1) = true := bne_iff_ne.mpr (by omega)
  go_enter Tryd.func29, Tryd.ntmps29
  go_wp2_with fail
  (with_reducible refine (net_zzTrimSpace.calls k s t _ ht.out).mono ?_)
  rintro e w1 ⟨rfl, hb1⟩
  have HB1 := Aside0.mk (hB.out.trans (hb1.mono hB.out.size))
  have R1 := Aside0.mk (blk_below hR.out hb1)
  clear hb1 hB hR
  go_wp2_with fail
  (with_reducible refine (net_zzIndex.calls k t (⟨#[45]⟩ : ByteArray) i _ h1.out).mono ?_)
  rintro e w2 ⟨rfl, hd2⟩
  obtain ⟨n2, rfl⟩ := hd2
  go_wp2_with fail
  (with_reducible refine (net_zzIndex.calls k t (⟨#[43]⟩ : ByteArray) j _ h2.out).mono ?_)
  rintro e w3 ⟨rfl, hd3⟩
  obtain ⟨n3, rfl⟩ := hd3
  have HB2 := Aside0.mk (pw_below_drewN HB1.out (n2 + n3))
  have R2 := Aside0.mk (blk_drewN R1.out (n2 + n3))
  clear HB1 R1
  go_wp2_with fail
  (with_reducible refine (errNew _ _).mono ?_)
  rintro e w13 ⟨p_, rfl, hb13⟩
  have HB3 := Aside0.mk (HB2.out.trans (hb13.mono HB2.out.size))
  clear hb13
  go_wp2_with fail
  go_ret
  exact ⟨⟨_, _, rfl⟩, HB3.out⟩
theorem set_calls (k : Nat) (s t : ByteArray) (g : Nat) (w0 w : World) (ht : Aside0 (net_zzTrimSpace.f k s = some t)) (hne : (t.toList == ([] : List UInt8)) = false) (hs : t.size ≤ 140737488351232) (hg : w0.heap.size ≤ g) (hB : Aside0 (Below w0.heap.size w0 w)) (hR : Aside0 (w.heap[g]? = some (.cells #[.int .i64 0, .int .i64 0] 51 (0, 0)))) (hV : Vars.Vars w0) (i j : Int) (h1 : Aside0 (net_zzIndex.f k t (⟨#[45]⟩ : ByteArray) = some i)) (h2 : Aside0 (net_zzIndex.f k t (⟨#[43]⟩ : ByteArray) = some j)) (hi : i = -1 ∨ (0 ≤ i ∧ i + 1 ≤ t.size)) (hj : j = -1 ∨ (0 ≤ j ∧ j + 1 ≤ t.size)) :
    Calls Tryd.prog 29 #[.pointer (some ⟨g, 0, none⟩), .string s] w fun e w' => SetPost w0 g (portsOf t i j) e w' := by
  have cut : ∀ a b : Nat, (t.extract a b).size ≤ 140737488351232 := fun a b => by rw [ByteArray.size_extract]; omega
  unfold portsOf
  by_cases ei : i = -1
  · subst ei
    rw [if_pos rfl]
    by_cases ej : j = -1
    · subst ej
      rw [if_pos rfl]
      cases hq : Num.whole (-9223372036854775808) 9223372036854775807 (t).data.toList with
      | none => exact setA_no k s t g w0 w ht hne hs hg hB hR hV h1 h2 ⟨hq⟩
      | some lo =>
        simp only [portRes]
        by_cases l1 : lo > 65535
        · rw [if_pos l1]; exact setA_lo k s t g w0 w ht hne hs hg hB hR hV h1 h2 lo ⟨hq⟩ l1
        · rw [if_neg l1, if_neg l1, if_neg (by omega)]; exact setA_ok k s t g w0 w ht hne hs hg hB hR hV h1 h2 lo ⟨hq⟩ l1 l1 (by omega)
    · rw [if_neg ej]
      obtain ⟨j0, j1⟩ := hj.resolve_left ej
      cases hq : Num.whole (-9223372036854775808) 9223372036854775807 (t.extract 0 j.toNat).data.toList with
      | none => exact setC_no1 k s t g w0 w ht hne hs hg hB hR hV j h2 h1 j0 j1 (cut _ _) (cut _ _) ⟨hq⟩
      | some lo =>
        cases hr : Num.whole (-9223372036854775808) 9223372036854775807 (t.extract (j + 1).toNat t.size).data.toList with
        | none => exact setC_no2 k s t g w0 w ht hne hs hg hB hR hV j h2 h1 j0 j1 (cut _ _) (cut _ _) lo ⟨hq⟩ ⟨hr⟩
        | some hi =>
          simp only [portRes]
          by_cases l1 : lo > 65535
          · rw [if_pos l1]; exact setC_lo k s t g w0 w ht hne hs hg hB hR hV j h2 h1 j0 j1 (cut _ _) (cut _ _) lo hi ⟨hq⟩ ⟨hr⟩ l1
          · rw [if_neg l1]
            by_cases l2 : wrap64 (lo + hi) > 65535
            · rw [if_pos l2]; exact setC_hi k s t g w0 w ht hne hs hg hB hR hV j h2 h1 j0 j1 (cut _ _) (cut _ _) lo hi ⟨hq⟩ ⟨hr⟩ l1 l2
            · rw [if_neg l2]
              by_cases l3 : wrap64 (lo + hi) < lo
              · rw [if_pos l3]; exact setC_lt k s t g w0 w ht hne hs hg hB hR hV j h2 h1 j0 j1 (cut _ _) (cut _ _) lo hi ⟨hq⟩ ⟨hr⟩ l1 l2 l3
              · rw [if_neg l3]; exact setC_ok k s t g w0 w ht hne hs hg hB hR hV j h2 h1 j0 j1 (cut _ _) (cut _ _) lo hi ⟨hq⟩ ⟨hr⟩ l1 l2 l3
  · rw [if_neg ei]
    obtain ⟨i0, i1⟩ := hi.resolve_left ei
    by_cases ej : j = -1
    · subst ej
      rw [if_pos rfl]
      cases hq : Num.whole (-9223372036854775808) 9223372036854775807 (t.extract 0 i.toNat).data.toList with
      | none => exact setB_no1 k s t g w0 w ht hne hs hg hB hR hV i h1 h2 i0 i1 (cut _ _) (cut _ _) ⟨hq⟩
      | some lo =>
        cases hr : Num.whole (-9223372036854775808) 9223372036854775807 (t.extract (i + 1).toNat t.size).data.toList with
        | none => exact setB_no2 k s t g w0 w ht hne hs hg hB hR hV i h1 h2 i0 i1 (cut _ _) (cut _ _) lo ⟨hq⟩ ⟨hr⟩
        | some hi =>
          simp only [portRes]
          by_cases l1 : lo > 65535
          · rw [if_pos l1]; exact setB_lo k s t g w0 w ht hne hs hg hB hR hV i h1 h2 i0 i1 (cut _ _) (cut _ _) lo hi ⟨hq⟩ ⟨hr⟩ l1
          · rw [if_neg l1]
            by_cases l2 : hi > 65535
            · rw [if_pos l2]; exact setB_hi k s t g w0 w ht hne hs hg hB hR hV i h1 h2 i0 i1 (cut _ _) (cut _ _) lo hi ⟨hq⟩ ⟨hr⟩ l1 l2
            · rw [if_neg l2]
              by_cases l3 : hi < lo
              · rw [if_pos l3]; exact setB_lt k s t g w0 w ht hne hs hg hB hR hV i h1 h2 i0 i1 (cut _ _) (cut _ _) lo hi ⟨hq⟩ ⟨hr⟩ l1 l2 l3
              · rw [if_neg l3]; exact setB_ok k s t g w0 w ht hne hs hg hB hR hV i h1 h2 i0 i1 (cut _ _) (cut _ _) lo hi ⟨hq⟩ ⟨hr⟩ l1 l2 l3
    · rw [if_neg ej]
      obtain ⟨j0, j1⟩ := hj.resolve_left ej
      exact setD k s t g w0 w ht hne hs hg hB hR hV i j h1 h2 i0 j0
/-- What ParsePortRange leaves behind. -/
def ParsePost (w0 : World) (r : Option (Int × Int)) (e : Ending) (w' : World) : Prop :=
  match r with
  | none => (∃ ty p, e = .returned (.tuple #[.pointer none, .iface ty p])) ∧ Below w0.heap.size w0 w'
  | some (b, n) => ∃ g, e = .returned (.tuple #[.pointer (some ⟨g, 0, none⟩), .nilIface]) ∧ w'.heap[g]? = some (.cells #[.int .i64 b, .int .i64 n] 51 (0, 0)) ∧ Below w0.heap.size w0 w'
theorem parse_calls (k : Nat) (s t : ByteArray) (w : World) (ht : Aside0 (net_zzTrimSpace.f k s = some t)) (hne : (t.toList == ([] : List UInt8)) = false) (hs : t.size ≤ 140737488351232) (hV : Vars.Vars w)
    (i j : Int) (h1 : Aside0 (net_zzIndex.f k t (⟨#[45]⟩ : ByteArray) = some i)) (h2 : Aside0 (net_zzIndex.f k t (⟨#[43]⟩ : ByteArray) = some j)) (hi : i = -1 ∨ (0 ≤ i ∧ i + 1 ≤ t.size)) (hj : j = -1 ∨ (0 ≤ j ∧ j + 1 ≤ t.size)) :
    Calls Tryd.prog 20 #[.string s] w fun e w' => ParsePost w (portsOf t i j) e w' := by
  have HS := set_calls k s t w.heap.size w (w.alloc (.cells #[.int .i64 0, .int .i64 0] 51)) ht hne hs (Nat.le_refl _) ⟨below_alloc (Below.refl _ _) _⟩ ⟨by simpa using heap_alloc_new w (.cells #[.int .i64 0, .int .i64 0] 51)⟩ hV i j h1 h2 hi hj
  clear ht h1 h2 hi hj hne hs
  generalize portsOf t i j = r at HS ⊢
  go_enter Tryd.func20, Tryd.ntmps20
  go_wp2_with fail
  (with_reducible refine HS.mono ?_)
  intro e w1 hp
  cases r with
  | none =>
    obtain ⟨⟨ty, p, rfl⟩, hb⟩ := hp
    clear HS
    go_wp2_with fail
    refine bodyPost_ret (results_tmp2 rfl _ _ _) rfl ?_
    exact ⟨⟨_, _, rfl⟩, hb⟩
  | some bn =>
    obtain ⟨rfl, hr, hb⟩ := hp
    clear HS
    go_wp2_with fail
    refine bodyPost_ret (results_tmp2 rfl _ _ _) rfl ?_
    exact ⟨_, rfl, hr, hb⟩
def portsV (r : Option (Int × Int)) : Int × Int × Bool := match r with | none => (0, 0, true) | some (b, n) => (b, n, false)
theorem pp_calls (k : Nat) (s t : ByteArray) (w : World) (ht : Aside0 (net_zzTrimSpace.f k s = some t)) (hne : (t.toList == ([] : List UInt8)) = false) (hs : t.size ≤ 140737488351232) (hV : Vars.Vars w)
    (i j : Int) (h1 : Aside0 (net_zzIndex.f k t (⟨#[45]⟩ : ByteArray) = some i)) (h2 : Aside0 (net_zzIndex.f k t (⟨#[43]⟩ : ByteArray) = some j)) (hi : i = -1 ∨ (0 ≤ i ∧ i + 1 ≤ t.size)) (hj : j = -1 ∨ (0 ≤ j ∧ j + 1 ≤ t.size)) :
    Calls Tryd.prog 8 #[.string s] w fun e w' => e = .returned (.tuple #[.int .i64 (portsV (portsOf t i j)).1, .int .i64 (portsV (portsOf t i j)).2.1, .bool (portsV (portsOf t i j)).2.2]) ∧ Below w.heap.size w w' := by
  have HS := parse_calls k s t w ht hne hs hV i j h1 h2 hi hj
  clear ht h1 h2 hi hj hne hs
  generalize portsOf t i j = r at HS ⊢
  go_enter Tryd.func8, Tryd.ntmps8
  go_wp2_with fail
  (with_reducible refine HS.mono ?_)
  intro e w1 hp
  cases r with
  | none =>
    obtain ⟨⟨ty, p, rfl⟩, hb⟩ := hp
    clear HS
    go_wp2_with fail
    refine bodyPost_ret (results_list (rs := [.tmp 2, .tmp 3, .tmp 4]) rfl (by simp) (.tmp (.tmp (.tmp .nil)))) rfl ?_
    exact ⟨rfl, hb⟩
  | some bn =>
    obtain ⟨b, n⟩ := bn
    obtain ⟨g, rfl, hr, hb⟩ := hp
    clear HS
    have f0 : w1.cell? ⟨g, 0, none⟩ = some (.int .i64 b) := (blk_cell hr 0).trans rfl
    have f1 : w1.cell? ⟨g, 1, none⟩ = some (.int .i64 n) := (blk_cell hr 1).trans rfl
    have HB := Aside0.mk hb
    clear hr hb
    go_wp2_with fail
    go_region
    all_goals go_wp2_with fail
    all_goals refine bodyPost_ret (results_list (rs := [.tmp 2, .tmp 3, .tmp 4]) rfl (by simp) (.tmp (.tmp (.tmp .nil)))) rfl ?_
    all_goals exact ⟨rfl, by repeat (first | exact HB.out | apply pw_below_drewN | apply below_drew1)⟩
def impl_PortsParse.f (k : Nat) (a0 : ByteArray) : Option (Int × Int × Bool) :=
  (net_zzTrimSpace.f k a0).bind fun t => (net_zzIndex.f k t (⟨#[45]⟩ : ByteArray)).bind fun i => (net_zzIndex.f k t (⟨#[43]⟩ : ByteArray)).bind fun j =>
    if (t.toList == ([] : List UInt8)) = false ∧ t.size ≤ 140737488351232 ∧ (i = -1 ∨ (0 ≤ i ∧ i + 1 ≤ t.size)) ∧ (j = -1 ∨ (0 ≤ j ∧ j + 1 ≤ t.size)) then some (portsV (portsOf t i j)) else none
theorem impl_PortsParse.mono : ∀ a0 k, LeO (impl_PortsParse.f k a0) (impl_PortsParse.f (k + 1) a0) := by
  intro a0 k
  unfold impl_PortsParse.f
  exact LeO.bind (net_zzTrimSpace.mono _ _) (fun _ => LeO.bind (net_zzIndex.mono _ _ _) (fun _ => LeO.bind (net_zzIndex.mono _ _ _) (fun _ => LeO.refl _)))
theorem impl_PortsParse.calls (k : Nat) (a0 : ByteArray) (r1 r2 : Int) (r3 : Bool) (w : World) (h : impl_PortsParse.f k a0 = some (r1, r2, r3)) (hV : Vars.Vars w := by first | assumption | exact Vars.Vars.below hV (by repeat (first | exact HB.out | exact HB | exact Below.refl _ _ | apply below_alloc | apply pw_below_drewN | apply below_drew1))) :
    Calls Tryd.prog 8 #[.string a0] w fun e w' => e = .returned (.tuple #[.int .i64 r1, .int .i64 r2, .bool r3]) ∧ Below w.heap.size w w' := by
  unfold impl_PortsParse.f at h
  obtain ⟨t, ht, h⟩ := Option.bind_eq_some_iff.1 h
  obtain ⟨i, h1, h⟩ := Option.bind_eq_some_iff.1 h
  obtain ⟨j, h2, h⟩ := Option.bind_eq_some_iff.1 h
  by_cases hs : (t.toList == ([] : List UInt8)) = false ∧ t.size ≤ 140737488351232 ∧ (i = -1 ∨ (0 ≤ i ∧ i + 1 ≤ t.size)) ∧ (j = -1 ∨ (0 ≤ j ∧ j + 1 ≤ t.size))
  · rw [if_pos hs] at h
    have h3 := Option.some.inj h
    have := pp_calls k a0 t w ⟨ht⟩ hs.1 hs.2.1 hV i j ⟨h1⟩ ⟨h2⟩ hs.2.2.1 hs.2.2.2
    rw [h3] at this
    exact this
  · rw [if_neg hs] at h; cases h

end Go.Proofs.YtmkpkpkcoieeiabDoor.XFnPortsWrong
