/- The law's function walked: how two versions of kinds that are written out of their parts compare. -/
import Derived.Test.YtmkpkpkcoieeiaaDoorXFnKubeMadex
namespace Go.Proofs.YtmkpkpkcoieeiaaDoor.XFnKubeMade
open Go.RowKit Go.Proofs.YtmkpkpkcoieeiaaDoorW.PrintWords Go.Proofs.YtmkpkpkcoieeiaaDoorW.PrintLast Go.Proofs.YtmkpkpkcoieeiaaDoorW.PrintMore
theorem way1 (k : Nat) (l u a b c d : Int) (hc : ¬ Int.tmod l 3 = Int.tmod u 3) (x : Int) (hx : Aside0 (spec_Sign.f (wrap64 (wrap64 (Int.tmod l 3) - wrap64 (Int.tmod u 3))) = some x)) (s1 s2 : ByteArray) (h1 : Aside0 (laws_FnKubeMade_1.f k l a c = some s1)) (h2 : Aside0 (laws_FnKubeMade_1.f k u b d = some s2)) (t y : Int) (h3 : Aside0 (impl_KubeCompare.f k s1 s2 = some t)) (hy : Aside0 (spec_Sign.f t = some y)) (w : World) (hV : Vars.Vars w) :
    Calls Tryd.prog 5 #[.int .u8 l, .int .u8 u, .int .u32 a, .int .u32 b, .int .u32 c, .int .u32 d] w fun e w' => e = .returned (.bool (y == x)) ∧ Below w.heap.size w w' := by
  have c0 : (Int.tmod l 3 != Int.tmod u 3) = true := bne_iff_ne.mpr hc
  clear hc
  go_enter Tryd.func5, Tryd.ntmps5
  go_wp2_with fail
  (with_reducible refine (spec_Sign.calls _ x _ hx.out).mono ?_)
  rintro e w1 ⟨rfl, hd1⟩
  obtain ⟨n1, rfl⟩ := hd1
  go_wp2_with fail
  (with_reducible refine (laws_FnKubeMade_1.calls k l a c s1 _ h1.out).mono ?_)
  rintro e w2 ⟨rfl, hb2⟩
  have B2 : Below w.heap.size w w2 := (pw_below_drewN (Below.refl _ _) n1).trans (hb2.mono (Nat.le_refl _))
  have HB2 := Aside0.mk B2
  clear B2 hb2
  go_wp2_with fail
  (with_reducible refine (laws_FnKubeMade_1.calls k u b d s2 _ h2.out).mono ?_)
  rintro e w3 ⟨rfl, hb3⟩
  have HB3 := Aside0.mk (HB2.out.trans (hb3.mono HB2.out.size))
  clear hb3
  go_wp2_with fail
  (with_reducible refine (impl_KubeCompare.calls k s1 s2 t _ h3.out (hV.below HB3.out)).mono ?_)
  rintro e w4 ⟨rfl, hb4⟩
  have HB4 := Aside0.mk (HB3.out.trans (hb4.mono HB3.out.size))
  clear hb4
  go_wp2_with fail
  (with_reducible refine (spec_Sign.calls t y _ hy.out).mono ?_)
  rintro e w5 ⟨rfl, hd5⟩
  obtain ⟨n5, rfl⟩ := hd5
  go_wp2_with fail
  go_ret
  exact ⟨rfl, pw_below_drewN HB4.out _⟩
theorem way2 (k : Nat) (l u a b c d : Int) (hc : Int.tmod l 3 = Int.tmod u 3) (hd : ¬ a = b) (x : Int) (hx : Aside0 (spec_Sign.f (wrap64 (wrap64 a - wrap64 b)) = some x)) (s1 s2 : ByteArray) (h1 : Aside0 (laws_FnKubeMade_1.f k l a c = some s1)) (h2 : Aside0 (laws_FnKubeMade_1.f k u b d = some s2)) (t y : Int) (h3 : Aside0 (impl_KubeCompare.f k s1 s2 = some t)) (hy : Aside0 (spec_Sign.f t = some y)) (w : World) (hV : Vars.Vars w) :
    Calls Tryd.prog 5 #[.int .u8 l, .int .u8 u, .int .u32 a, .int .u32 b, .int .u32 c, .int .u32 d] w fun e w' => e = .returned (.bool (y == x)) ∧ Below w.heap.size w w' := by
  have c0 : (Int.tmod l 3 != Int.tmod u 3) = false := bne_eq_false_iff_eq.mpr hc
  clear hc
  have c1 : (a != b) = true := bne_iff_ne.mpr hd
  clear hd
  go_enter Tryd.func5, Tryd.ntmps5
  go_wp2_with fail
  (with_reducible refine (spec_Sign.calls _ x _ hx.out).mono ?_)
  rintro e w1 ⟨rfl, hd1⟩
  obtain ⟨n1, rfl⟩ := hd1
  go_wp2_with fail
  (with_reducible refine (laws_FnKubeMade_1.calls k l a c s1 _ h1.out).mono ?_)
  rintro e w2 ⟨rfl, hb2⟩
  have B2 : Below w.heap.size w w2 := (pw_below_drewN (Below.refl _ _) n1).trans (hb2.mono (Nat.le_refl _))
  have HB2 := Aside0.mk B2
  clear B2 hb2
  go_wp2_with fail
  (with_reducible refine (laws_FnKubeMade_1.calls k u b d s2 _ h2.out).mono ?_)
  rintro e w3 ⟨rfl, hb3⟩
  have HB3 := Aside0.mk (HB2.out.trans (hb3.mono HB2.out.size))
  clear hb3
  go_wp2_with fail
  (with_reducible refine (impl_KubeCompare.calls k s1 s2 t _ h3.out (hV.below HB3.out)).mono ?_)
  rintro e w4 ⟨rfl, hb4⟩
  have HB4 := Aside0.mk (HB3.out.trans (hb4.mono HB3.out.size))
  clear hb4
  go_wp2_with fail
  (with_reducible refine (spec_Sign.calls t y _ hy.out).mono ?_)
  rintro e w5 ⟨rfl, hd5⟩
  obtain ⟨n5, rfl⟩ := hd5
  go_wp2_with fail
  go_ret
  exact ⟨rfl, pw_below_drewN HB4.out _⟩
theorem way3 (k : Nat) (l u a b c d : Int) (hc : Int.tmod l 3 = Int.tmod u 3) (hd : a = b) (he : ¬ Int.tmod l 3 = 2) (x : Int) (hx : Aside0 (spec_Sign.f (wrap64 (wrap64 c - wrap64 d)) = some x)) (s1 s2 : ByteArray) (h1 : Aside0 (laws_FnKubeMade_1.f k l a c = some s1)) (h2 : Aside0 (laws_FnKubeMade_1.f k u b d = some s2)) (t y : Int) (h3 : Aside0 (impl_KubeCompare.f k s1 s2 = some t)) (hy : Aside0 (spec_Sign.f t = some y)) (w : World) (hV : Vars.Vars w) :
    Calls Tryd.prog 5 #[.int .u8 l, .int .u8 u, .int .u32 a, .int .u32 b, .int .u32 c, .int .u32 d] w fun e w' => e = .returned (.bool (y == x)) ∧ Below w.heap.size w w' := by
  have c0 : (Int.tmod l 3 != Int.tmod u 3) = false := bne_eq_false_iff_eq.mpr hc
  clear hc
  have c1 : (a != b) = false := bne_eq_false_iff_eq.mpr hd
  clear hd
  have c2 : (Int.tmod l 3 != 2) = true := bne_iff_ne.mpr he
  clear he
  go_enter Tryd.func5, Tryd.ntmps5
  go_wp2_with fail
  (with_reducible refine (spec_Sign.calls _ x _ hx.out).mono ?_)
  rintro e w1 ⟨rfl, hd1⟩
  obtain ⟨n1, rfl⟩ := hd1
  go_wp2_with fail
  (with_reducible refine (laws_FnKubeMade_1.calls k l a c s1 _ h1.out).mono ?_)
  rintro e w2 ⟨rfl, hb2⟩
  have B2 : Below w.heap.size w w2 := (pw_below_drewN (Below.refl _ _) n1).trans (hb2.mono (Nat.le_refl _))
  have HB2 := Aside0.mk B2
  clear B2 hb2
  go_wp2_with fail
  (with_reducible refine (laws_FnKubeMade_1.calls k u b d s2 _ h2.out).mono ?_)
  rintro e w3 ⟨rfl, hb3⟩
  have HB3 := Aside0.mk (HB2.out.trans (hb3.mono HB2.out.size))
  clear hb3
  go_wp2_with fail
  (with_reducible refine (impl_KubeCompare.calls k s1 s2 t _ h3.out (hV.below HB3.out)).mono ?_)
  rintro e w4 ⟨rfl, hb4⟩
  have HB4 := Aside0.mk (HB3.out.trans (hb4.mono HB3.out.size))
  clear hb4
  go_wp2_with fail
  (with_reducible refine (spec_Sign.calls t y _ hy.out).mono ?_)
  rintro e w5 ⟨rfl, hd5⟩
  obtain ⟨n5, rfl⟩ := hd5
  go_wp2_with fail
  go_ret
  exact ⟨rfl, pw_below_drewN HB4.out _⟩
theorem way4 (k : Nat) (l u a b c d : Int) (hc : Int.tmod l 3 = Int.tmod u 3) (hd : a = b) (he : Int.tmod l 3 = 2) (x : Int) (hx : x = 0) (s1 s2 : ByteArray) (h1 : Aside0 (laws_FnKubeMade_1.f k l a c = some s1)) (h2 : Aside0 (laws_FnKubeMade_1.f k u b d = some s2)) (t y : Int) (h3 : Aside0 (impl_KubeCompare.f k s1 s2 = some t)) (hy : Aside0 (spec_Sign.f t = some y)) (w : World) (hV : Vars.Vars w) :
    Calls Tryd.prog 5 #[.int .u8 l, .int .u8 u, .int .u32 a, .int .u32 b, .int .u32 c, .int .u32 d] w fun e w' => e = .returned (.bool (y == x)) ∧ Below w.heap.size w w' := by
  subst hx
  have c0 : (Int.tmod l 3 != Int.tmod u 3) = false := bne_eq_false_iff_eq.mpr hc
  clear hc
  have c1 : (a != b) = false := bne_eq_false_iff_eq.mpr hd
  clear hd
  have c2 : (Int.tmod l 3 != 2) = false := bne_eq_false_iff_eq.mpr he
  clear he
  go_enter Tryd.func5, Tryd.ntmps5
  go_wp2_with fail
  (with_reducible refine (laws_FnKubeMade_1.calls k l a c s1 _ h1.out).mono ?_)
  rintro e w2 ⟨rfl, hb2⟩
  have B2 : Below w.heap.size w w2 := hb2
  have HB2 := Aside0.mk B2
  clear B2 hb2
  go_wp2_with fail
  (with_reducible refine (laws_FnKubeMade_1.calls k u b d s2 _ h2.out).mono ?_)
  rintro e w3 ⟨rfl, hb3⟩
  have HB3 := Aside0.mk (HB2.out.trans (hb3.mono HB2.out.size))
  clear hb3
  go_wp2_with fail
  (with_reducible refine (impl_KubeCompare.calls k s1 s2 t _ h3.out (hV.below HB3.out)).mono ?_)
  rintro e w4 ⟨rfl, hb4⟩
  have HB4 := Aside0.mk (HB3.out.trans (hb4.mono HB3.out.size))
  clear hb4
  go_wp2_with fail
  (with_reducible refine (spec_Sign.calls t y _ hy.out).mono ?_)
  rintro e w5 ⟨rfl, hd5⟩
  obtain ⟨n5, rfl⟩ := hd5
  go_wp2_with fail
  go_ret
  exact ⟨rfl, pw_below_drewN HB4.out _⟩
/-- What the law wants. -/
def wants (l u a b c d : Int) : Option Int :=
  if ¬ Int.tmod l 3 = Int.tmod u 3 then spec_Sign.f (wrap64 (wrap64 (Int.tmod l 3) - wrap64 (Int.tmod u 3))) else if ¬ a = b then spec_Sign.f (wrap64 (wrap64 a - wrap64 b)) else if ¬ Int.tmod l 3 = 2 then spec_Sign.f (wrap64 (wrap64 c - wrap64 d)) else some 0
def laws_FnKubeMade.f (k : Nat) (a0 a1 a2 a3 a4 a5 : Int) : Option Bool :=
  (wants a0 a1 a2 a3 a4 a5).bind fun x => (laws_FnKubeMade_1.f k a0 a2 a4).bind fun s1 => (laws_FnKubeMade_1.f k a1 a3 a5).bind fun s2 => (impl_KubeCompare.f k s1 s2).bind fun t => (spec_Sign.f t).bind fun y => some (y == x)
theorem laws_FnKubeMade.calls (k : Nat) (a0 : Int) (a1 : Int) (a2 : Int) (a3 : Int) (a4 : Int) (a5 : Int) (r : Bool) (w : World) (h : laws_FnKubeMade.f k a0 a1 a2 a3 a4 a5 = some r) (hV : Vars.Vars w) :
    Calls Tryd.prog 5 #[.int .u8 a0, .int .u8 a1, .int .u32 a2, .int .u32 a3, .int .u32 a4, .int .u32 a5] w fun e w' => e = .returned (.bool r) ∧ Below w.heap.size w w' := by
  unfold laws_FnKubeMade.f at h
  obtain ⟨x, hx, h⟩ := Option.bind_eq_some_iff.1 h
  obtain ⟨s1, h1, h⟩ := Option.bind_eq_some_iff.1 h
  obtain ⟨s2, h2, h⟩ := Option.bind_eq_some_iff.1 h
  obtain ⟨t, h3, h⟩ := Option.bind_eq_some_iff.1 h
  obtain ⟨y, hy, h⟩ := Option.bind_eq_some_iff.1 h
  obtain rfl := Option.some.inj h
  unfold wants at hx
  by_cases hc : Int.tmod a0 3 = Int.tmod a1 3
  · rw [if_neg (fun n => n hc)] at hx
    by_cases hd : a2 = a3
    · rw [if_neg (fun n => n hd)] at hx
      by_cases he : Int.tmod a0 3 = 2
      · rw [if_neg (fun n => n he)] at hx
        exact way4 k a0 a1 a2 a3 a4 a5 hc hd he x (Option.some.inj hx).symm s1 s2 ⟨h1⟩ ⟨h2⟩ t y ⟨h3⟩ ⟨hy⟩ w hV
      · rw [if_pos he] at hx
        exact way3 k a0 a1 a2 a3 a4 a5 hc hd he x ⟨hx⟩ s1 s2 ⟨h1⟩ ⟨h2⟩ t y ⟨h3⟩ ⟨hy⟩ w hV
    · rw [if_pos hd] at hx
      exact way2 k a0 a1 a2 a3 a4 a5 hc hd x ⟨hx⟩ s1 s2 ⟨h1⟩ ⟨h2⟩ t y ⟨h3⟩ ⟨hy⟩ w hV
  · rw [if_pos hc] at hx
    exact way1 k a0 a1 a2 a3 a4 a5 hc x ⟨hx⟩ s1 s2 ⟨h1⟩ ⟨h2⟩ t y ⟨h3⟩ ⟨hy⟩ w hV
end Go.Proofs.YtmkpkpkcoieeiaaDoor.XFnKubeMade
