/- A text of this session: the functions of the law FnPortsWrong, by a program that calls the kit's print and lays this session's own contracts of single functions beside. -/
import Derived.Test.YtmkpkpkcoieeiabDoorXFnPortsWrongx0
namespace Go.Proofs.YtmkpkpkcoieeiabDoor.XFnPortsWrong
open Go.RowKit Go.Proofs.YtmkpkpkcoieeiabDoorW.PrintWords Go.Proofs.YtmkpkpkcoieeiabDoorW.PrintLast Go.Proofs.YtmkpkpkcoieeiabDoorW.PrintMore
attribute [local go_sem] max2_int min2_int max_two min_two max_three min_three max_four min_four   -- for this text's walks alone
set_option linter.unusedVariables false
set_option linter.unusedSimpArgs false

-- NOT PRINTED: function 36 (errors_New)

-- NOT PRINTED: function 58 (utf8_decodeRuneInStringSlow)

/-! ### utf8_DecodeRuneInString: function 49 -/
def utf8_DecodeRuneInString.f (_ : Nat) (a0 : ByteArray) : Option (Int × Int) := if 0 < a0.size ∧ bt a0 0 < 128 then some (bt a0 0, 1) else none
theorem utf8_DecodeRuneInString.mono : ∀ a0 k, LeO (utf8_DecodeRuneInString.f k a0) (utf8_DecodeRuneInString.f (k + 1) a0) := by
  intro a0 k
  exact LeO.refl _
theorem utf8_DecodeRuneInString.calls (k : Nat) (a0 : ByteArray) (r1 r2 : Int) (w : World) (h : utf8_DecodeRuneInString.f k a0 = some (r1, r2)) :
    Calls Tryd.prog 49 #[.string a0] w fun e w' => e = .returned (.tuple #[.int .i32 r1, .int .i64 r2]) ∧ Below w.heap.size w w' := by
  unfold utf8_DecodeRuneInString.f at h
  by_cases hs : 0 < a0.size ∧ bt a0 0 < 128
  · rw [if_pos hs] at h
    simp only [Option.some.injEq, Prod.mk.injEq] at h
    obtain ⟨rfl, rfl⟩ := h
    obtain ⟨z0, z1⟩ := hs
    have hb : bt a0 0 = (((a0[0]'z0).toNat : Nat) : Int) := by
      unfold bt
      rw [dif_pos (show (0 : Int).toNat < a0.size from z0)]
      rfl
    have h0 : a0.data.toList[0]? = some (a0[0]'z0) := by
      rw [List.getElem?_eq_getElem (by simp; exact z0)]
      rfl
    rw [hb] at z1 ⊢
    refine (Tryd.utf8_DecodeRuneInString_ascii a0 _ w h0 (by omega)).mono ?_
    rintro e w' ⟨rfl, rfl⟩
    exact ⟨rfl, Below.refl _ _⟩
  · rw [if_neg hs] at h; cases h

/-! ### net_zzSpace: function 50 -/
def net_zzSpace.f (a0 : Int) : Option (Bool) := if a0 = 32 then (some true) else (if a0 = 9 then (some true) else (if a0 = 10 then (some true) else (if a0 = 11 then (some true) else (if a0 = 12 then (some true) else (if a0 = 13 then (some true) else (if a0 = 133 then (some true) else (if a0 = 160 then (some true) else (if a0 = 5760 then (some true) else (if a0 = 8232 then (some true) else (if a0 = 8233 then (some true) else (if a0 = 8239 then (some true) else (if a0 = 8287 then (some true) else (if a0 = 12288 then (some true) else (if 8192 ≤ a0 then (some (decide (a0 ≤ 8202))) else (some false)))))))))))))))
set_option maxHeartbeats 8000000 in
set_option maxRecDepth 100000 in
theorem net_zzSpace.calls (a0 : Int) (r : Bool) (w : World) (h : net_zzSpace.f a0 = some r) :
    Calls Tryd.prog 50 #[.int .i32 a0] w fun e w' => e = .returned (.bool r) ∧ Drawn0 w w' := by
  have H : (if a0 = 32 then (some true) else (if a0 = 9 then (some true) else (if a0 = 10 then (some true) else (if a0 = 11 then (some true) else (if a0 = 12 then (some true) else (if a0 = 13 then (some true) else (if a0 = 133 then (some true) else (if a0 = 160 then (some true) else (if a0 = 5760 then (some true) else (if a0 = 8232 then (some true) else (if a0 = 8233 then (some true) else (if a0 = 8239 then (some true) else (if a0 = 8287 then (some true) else (if a0 = 12288 then (some true) else (if 8192 ≤ a0 then (some (decide (a0 ≤ 8202))) else (some false)))))))))))))))) = some r := h
  clear h
  by_cases c2 : a0 = 32
  · rw [if_pos c2] at H
    have c2b0 : (a0 == 32) = true := beq_iff_eq.mpr c2
    have c2b1 : (a0 != 32) = false := bne_eq_false_iff_eq.mpr c2
    clear c2
    obtain rfl := Option.some.inj H
    go_enter Tryd.func50, Tryd.ntmps50
    go_wp2
    go_ret
    exact ⟨by first | rfl | (simp; done) | (simp [*]; done), by repeat (first | exact Drawn0.refl _ | apply Drawn0.step)⟩
  · rw [if_neg c2] at H
    have c2b0 : (a0 == 32) = false := beq_eq_false_iff_ne.mpr c2
    have c2b1 : (a0 != 32) = true := bne_iff_ne.mpr c2
    by_cases c3 : a0 = 9
    · rw [if_pos c3] at H
      have c3b0 : (a0 == 9) = true := beq_iff_eq.mpr c3
      have c3b1 : (a0 != 9) = false := bne_eq_false_iff_eq.mpr c3
      clear c3
      obtain rfl := Option.some.inj H
      go_enter Tryd.func50, Tryd.ntmps50
      go_wp2
      go_ret
      exact ⟨by first | rfl | (simp; done) | (simp [*]; done), by repeat (first | exact Drawn0.refl _ | apply Drawn0.step)⟩
    · rw [if_neg c3] at H
      have c3b0 : (a0 == 9) = false := beq_eq_false_iff_ne.mpr c3
      have c3b1 : (a0 != 9) = true := bne_iff_ne.mpr c3
      by_cases c4 : a0 = 10
      · rw [if_pos c4] at H
        have c4b0 : (a0 == 10) = true := beq_iff_eq.mpr c4
        have c4b1 : (a0 != 10) = false := bne_eq_false_iff_eq.mpr c4
        clear c4
        obtain rfl := Option.some.inj H
        go_enter Tryd.func50, Tryd.ntmps50
        go_wp2
        go_ret
        exact ⟨by first | rfl | (simp; done) | (simp [*]; done), by repeat (first | exact Drawn0.refl _ | apply Drawn0.step)⟩
      · rw [if_neg c4] at H
        have c4b0 : (a0 == 10) = false := beq_eq_false_iff_ne.mpr c4
        have c4b1 : (a0 != 10) = true := bne_iff_ne.mpr c4
        by_cases c5 : a0 = 11
        · rw [if_pos c5] at H
          have c5b0 : (a0 == 11) = true := beq_iff_eq.mpr c5
          have c5b1 : (a0 != 11) = false := bne_eq_false_iff_eq.mpr c5
          clear c5
          obtain rfl := Option.some.inj H
          go_enter Tryd.func50, Tryd.ntmps50
          go_wp2
          go_ret
          exact ⟨by first | rfl | (simp; done) | (simp [*]; done), by repeat (first | exact Drawn0.refl _ | apply Drawn0.step)⟩
        · rw [if_neg c5] at H
          have c5b0 : (a0 == 11) = false := beq_eq_false_iff_ne.mpr c5
          have c5b1 : (a0 != 11) = true := bne_iff_ne.mpr c5
          by_cases c6 : a0 = 12
          · rw [if_pos c6] at H
            have c6b0 : (a0 == 12) = true := beq_iff_eq.mpr c6
            have c6b1 : (a0 != 12) = false := bne_eq_false_iff_eq.mpr c6
            clear c6
            obtain rfl := Option.some.inj H
            go_enter Tryd.func50, Tryd.ntmps50
            go_wp2
            go_ret
            exact ⟨by first | rfl | (simp; done) | (simp [*]; done), by repeat (first | exact Drawn0.refl _ | apply Drawn0.step)⟩
          · rw [if_neg c6] at H
            have c6b0 : (a0 == 12) = false := beq_eq_false_iff_ne.mpr c6
            have c6b1 : (a0 != 12) = true := bne_iff_ne.mpr c6
            by_cases c7 : a0 = 13
            · rw [if_pos c7] at H
              have c7b0 : (a0 == 13) = true := beq_iff_eq.mpr c7
              have c7b1 : (a0 != 13) = false := bne_eq_false_iff_eq.mpr c7
              clear c7
              obtain rfl := Option.some.inj H
              go_enter Tryd.func50, Tryd.ntmps50
              go_wp2
              go_ret
              exact ⟨by first | rfl | (simp; done) | (simp [*]; done), by repeat (first | exact Drawn0.refl _ | apply Drawn0.step)⟩
            · rw [if_neg c7] at H
              have c7b0 : (a0 == 13) = false := beq_eq_false_iff_ne.mpr c7
              have c7b1 : (a0 != 13) = true := bne_iff_ne.mpr c7
              by_cases c8 : a0 = 133
              · rw [if_pos c8] at H
                have c8b0 : (a0 == 133) = true := beq_iff_eq.mpr c8
                have c8b1 : (a0 != 133) = false := bne_eq_false_iff_eq.mpr c8
                clear c8
                obtain rfl := Option.some.inj H
                go_enter Tryd.func50, Tryd.ntmps50
                go_wp2
                go_ret
                exact ⟨by first | rfl | (simp; done) | (simp [*]; done), by repeat (first | exact Drawn0.refl _ | apply Drawn0.step)⟩
              · rw [if_neg c8] at H
                have c8b0 : (a0 == 133) = false := beq_eq_false_iff_ne.mpr c8
                have c8b1 : (a0 != 133) = true := bne_iff_ne.mpr c8
                by_cases c9 : a0 = 160
                · rw [if_pos c9] at H
                  have c9b0 : (a0 == 160) = true := beq_iff_eq.mpr c9
                  have c9b1 : (a0 != 160) = false := bne_eq_false_iff_eq.mpr c9
                  clear c9
                  obtain rfl := Option.some.inj H
                  go_enter Tryd.func50, Tryd.ntmps50
                  go_wp2
                  go_ret
                  exact ⟨by first | rfl | (simp; done) | (simp [*]; done), by repeat (first | exact Drawn0.refl _ | apply Drawn0.step)⟩
                · rw [if_neg c9] at H
                  have c9b0 : (a0 == 160) = false := beq_eq_false_iff_ne.mpr c9
                  have c9b1 : (a0 != 160) = true := bne_iff_ne.mpr c9
                  by_cases c10 : a0 = 5760
                  · rw [if_pos c10] at H
                    have c10b0 : (a0 == 5760) = true := beq_iff_eq.mpr c10
                    have c10b1 : (a0 != 5760) = false := bne_eq_false_iff_eq.mpr c10
                    clear c10
                    obtain rfl := Option.some.inj H
                    go_enter Tryd.func50, Tryd.ntmps50
                    go_wp2
                    go_ret
                    exact ⟨by first | rfl | (simp; done) | (simp [*]; done), by repeat (first | exact Drawn0.refl _ | apply Drawn0.step)⟩
                  · rw [if_neg c10] at H
                    have c10b0 : (a0 == 5760) = false := beq_eq_false_iff_ne.mpr c10
                    have c10b1 : (a0 != 5760) = true := bne_iff_ne.mpr c10
                    by_cases c11 : a0 = 8232
                    · rw [if_pos c11] at H
                      have c11b0 : (a0 == 8232) = true := beq_iff_eq.mpr c11
                      have c11b1 : (a0 != 8232) = false := bne_eq_false_iff_eq.mpr c11
                      clear c11
                      obtain rfl := Option.some.inj H
                      go_enter Tryd.func50, Tryd.ntmps50
                      go_wp2
                      go_ret
                      exact ⟨by first | rfl | (simp; done) | (simp [*]; done), by repeat (first | exact Drawn0.refl _ | apply Drawn0.step)⟩
                    · rw [if_neg c11] at H
                      have c11b0 : (a0 == 8232) = false := beq_eq_false_iff_ne.mpr c11
                      have c11b1 : (a0 != 8232) = true := bne_iff_ne.mpr c11
                      by_cases c12 : a0 = 8233
                      · rw [if_pos c12] at H
                        have c12b0 : (a0 == 8233) = true := beq_iff_eq.mpr c12
                        have c12b1 : (a0 != 8233) = false := bne_eq_false_iff_eq.mpr c12
                        clear c12
                        obtain rfl := Option.some.inj H
                        go_enter Tryd.func50, Tryd.ntmps50
                        go_wp2
                        go_ret
                        exact ⟨by first | rfl | (simp; done) | (simp [*]; done), by repeat (first | exact Drawn0.refl _ | apply Drawn0.step)⟩
                      · rw [if_neg c12] at H
                        have c12b0 : (a0 == 8233) = false := beq_eq_false_iff_ne.mpr c12
                        have c12b1 : (a0 != 8233) = true := bne_iff_ne.mpr c12
                        by_cases c13 : a0 = 8239
                        · rw [if_pos c13] at H
                          have c13b0 : (a0 == 8239) = true := beq_iff_eq.mpr c13
                          have c13b1 : (a0 != 8239) = false := bne_eq_false_iff_eq.mpr c13
                          clear c13
                          obtain rfl := Option.some.inj H
                          go_enter Tryd.func50, Tryd.ntmps50
                          go_wp2
                          go_ret
                          exact ⟨by first | rfl | (simp; done) | (simp [*]; done), by repeat (first | exact Drawn0.refl _ | apply Drawn0.step)⟩
                        · rw [if_neg c13] at H
                          have c13b0 : (a0 == 8239) = false := beq_eq_false_iff_ne.mpr c13
                          have c13b1 : (a0 != 8239) = true := bne_iff_ne.mpr c13
                          by_cases c14 : a0 = 8287
                          · rw [if_pos c14] at H
                            have c14b0 : (a0 == 8287) = true := beq_iff_eq.mpr c14
                            have c14b1 : (a0 != 8287) = false := bne_eq_false_iff_eq.mpr c14
                            clear c14
                            obtain rfl := Option.some.inj H
                            go_enter Tryd.func50, Tryd.ntmps50
                            go_wp2
                            go_ret
                            exact ⟨by first | rfl | (simp; done) | (simp [*]; done), by repeat (first | exact Drawn0.refl _ | apply Drawn0.step)⟩
                          · rw [if_neg c14] at H
                            have c14b0 : (a0 == 8287) = false := beq_eq_false_iff_ne.mpr c14
                            have c14b1 : (a0 != 8287) = true := bne_iff_ne.mpr c14
                            by_cases c15 : a0 = 12288
                            · rw [if_pos c15] at H
                              have c15b0 : (a0 == 12288) = true := beq_iff_eq.mpr c15
                              have c15b1 : (a0 != 12288) = false := bne_eq_false_iff_eq.mpr c15
                              clear c15
                              obtain rfl := Option.some.inj H
                              go_enter Tryd.func50, Tryd.ntmps50
                              go_wp2
                              go_ret
                              exact ⟨by first | rfl | (simp; done) | (simp [*]; done), by repeat (first | exact Drawn0.refl _ | apply Drawn0.step)⟩
                            · rw [if_neg c15] at H
                              have c15b0 : (a0 == 12288) = false := beq_eq_false_iff_ne.mpr c15
                              have c15b1 : (a0 != 12288) = true := bne_iff_ne.mpr c15
                              by_cases c16 : 8192 ≤ a0
                              · rw [if_pos c16] at H
                                have c16b0 : decide (8192 ≤ a0) = true := decide_eq_true c16
                                clear c16
                                obtain rfl := Option.some.inj H
                                go_enter Tryd.func50, Tryd.ntmps50
                                go_wp2
                                go_ret
                                exact ⟨by first | rfl | (simp; done) | (simp [*]; done), by repeat (first | exact Drawn0.refl _ | apply Drawn0.step)⟩
                              · rw [if_neg c16] at H
                                have c16b0 : decide (8192 ≤ a0) = false := decide_eq_false c16
                                clear c16
                                obtain rfl := Option.some.inj H
                                go_enter Tryd.func50, Tryd.ntmps50
                                go_wp2
                                go_ret
                                exact ⟨by first | rfl | (simp; done) | (simp [*]; done), by repeat (first | exact Drawn0.refl _ | apply Drawn0.step)⟩

-- NOT PRINTED: function 59 (utf8_RuneStart)

/-! ### utf8_DecodeLastRuneInString: function 51 -/
def utf8_DecodeLastRuneInString.f (_ : Nat) (a0 : ByteArray) : Option (Int × Int) := if 0 < a0.size ∧ a0.size ≤ 9223372036854775807 ∧ bt a0 ((a0.size : Int) - 1) < 128 then some (bt a0 ((a0.size : Int) - 1), 1) else none
theorem utf8_DecodeLastRuneInString.mono : ∀ a0 k, LeO (utf8_DecodeLastRuneInString.f k a0) (utf8_DecodeLastRuneInString.f (k + 1) a0) := by
  intro a0 k
  exact LeO.refl _
theorem utf8_DecodeLastRuneInString.calls (k : Nat) (a0 : ByteArray) (r1 r2 : Int) (w : World) (h : utf8_DecodeLastRuneInString.f k a0 = some (r1, r2)) :
    Calls Tryd.prog 51 #[.string a0] w fun e w' => e = .returned (.tuple #[.int .i32 r1, .int .i64 r2]) ∧ Below w.heap.size w w' := by
  unfold utf8_DecodeLastRuneInString.f at h
  by_cases hs : 0 < a0.size ∧ a0.size ≤ 9223372036854775807 ∧ bt a0 ((a0.size : Int) - 1) < 128
  · rw [if_pos hs] at h
    simp only [Option.some.injEq, Prod.mk.injEq] at h
    obtain ⟨rfl, rfl⟩ := h
    obtain ⟨z0, z1, z2⟩ := hs
    have c0 : ((a0.size : Int) == 0) = false := beq_eq_false_iff_ne.mpr (by omega)
    have hidx : ((a0.size : Int) - 1).toNat = a0.size - 1 := by omega
    have hb : bt a0 ((a0.size : Int) - 1) = (((a0[a0.size - 1]'(by omega)).toNat : Nat) : Int) := by
      unfold bt
      rw [dif_pos (by omega)]
      simp only [hidx]
    rw [hb] at z2 ⊢
    have hw : wrap32 (((a0[a0.size - 1]'(by omega)).toNat : Nat) : Int) = (((a0[a0.size - 1]'(by omega)).toNat : Nat) : Int) := by unfold wrap32; omega
    have c1 : decide (wrap32 (((a0[a0.size - 1]'(by omega)).toNat : Nat) : Int) < 128) = true := by rw [hw]; exact decide_eq_true z2
    have HW := Aside0.mk hw
    clear hw hb hidx z2
    go_enter Tryd.func51, Tryd.ntmps51
    go_wp2_with fail
    refine bodyPost_ret (results_tmp2 rfl _ _ _) rfl ?_
    exact ⟨congrArg (fun x => Ending.returned (.tuple #[.int .i32 x, .int .i64 1])) HW.out, Below.refl _ _⟩
  · rw [if_neg hs] at h; cases h

/-! ### net_zzTrimSpace: function 39 -/
mutual
def net_zzTrimSpace.j1 : Nat → ByteArray → Option (ByteArray)
  | 0, _ => none
  | k + 1, x0 => net_zzTrimSpace.l1 k x0
def net_zzTrimSpace.l1 : Nat → ByteArray → Option (ByteArray)
  | 0, _ => none
  | k + 1, x0 => if (x0.size : Int) > 0 then ((utf8_DecodeLastRuneInString.f k x0).bind fun bt104 => ((net_zzSpace.f bt104.1).bind fun t106 => (if t106 = true then (if 0 ≤ (wrap64 ((x0.size : Int) - bt104.2)) then (if (wrap64 ((x0.size : Int) - bt104.2)) ≤ (x0.size : Int) then (net_zzTrimSpace.l1 k (x0.extract 0 ((wrap64 ((x0.size : Int) - bt104.2)) : Int).toNat)) else (none)) else (none)) else (some x0)))) else (some x0)
def net_zzTrimSpace.l0 : Nat → ByteArray → Option (ByteArray)
  | 0, _ => none
  | k + 1, x0 => if (x0.size : Int) > 0 then ((utf8_DecodeRuneInString.f k x0).bind fun bt101 => ((net_zzSpace.f bt101.1).bind fun t103 => (if t103 = true then (if 0 ≤ bt101.2 then (if bt101.2 ≤ (x0.size : Int) then (net_zzTrimSpace.l0 k (x0.extract (bt101.2 : Int).toNat x0.size)) else (none)) else (none)) else (net_zzTrimSpace.j1 k x0)))) else (net_zzTrimSpace.j1 k x0)
end
def net_zzTrimSpace.f (k : Nat) (a0 : ByteArray) : Option (ByteArray) := net_zzTrimSpace.l0 k a0
theorem net_zzTrimSpace.mono_l : ∀ k, (∀ y0, LeO (net_zzTrimSpace.j1 k y0) (net_zzTrimSpace.j1 (k + 1) y0)) ∧ (∀ y0, LeO (net_zzTrimSpace.l1 k y0) (net_zzTrimSpace.l1 (k + 1) y0)) ∧ (∀ y0, LeO (net_zzTrimSpace.l0 k y0) (net_zzTrimSpace.l0 (k + 1) y0))
  | 0 => ⟨fun _ r h => by simp [net_zzTrimSpace.j1] at h, fun _ r h => by simp [net_zzTrimSpace.l1] at h, fun _ r h => by simp [net_zzTrimSpace.l0] at h⟩
  | k + 1 => by
    obtain ⟨ih0, ih1, ih2⟩ := net_zzTrimSpace.mono_l k
    refine ⟨?_, ?_, ?_⟩
    · intro y0
      unfold net_zzTrimSpace.j1
      repeat' first
      | (with_reducible exact ih0 _)
      | (with_reducible exact ih1 _)
      | (with_reducible exact ih2 _)
      | (with_reducible exact utf8_DecodeLastRuneInString.mono _ _)
      | (with_reducible exact utf8_DecodeRuneInString.mono _ _)
      | (with_reducible exact LeO.refl _)
      | (with_reducible exact LeO.none _)
      | (with_reducible refine LeO.ite ?_ ?_)
      | (with_reducible refine LeO.bind ?_ (fun _ => ?_))
      | exact ih0 _
      | exact ih1 _
      | exact ih2 _
      | exact utf8_DecodeLastRuneInString.mono _ _
      | exact utf8_DecodeRuneInString.mono _ _
      | exact LeO.none _
      | refine LeO.ite ?_ ?_
      | refine LeO.bind ?_ (fun _ => ?_)
    · intro y0
      unfold net_zzTrimSpace.l1
      repeat' first
      | (with_reducible exact ih0 _)
      | (with_reducible exact ih1 _)
      | (with_reducible exact ih2 _)
      | (with_reducible exact utf8_DecodeLastRuneInString.mono _ _)
      | (with_reducible exact utf8_DecodeRuneInString.mono _ _)
      | (with_reducible exact LeO.refl _)
      | (with_reducible exact LeO.none _)
      | (with_reducible refine LeO.ite ?_ ?_)
      | (with_reducible refine LeO.bind ?_ (fun _ => ?_))
      | exact ih0 _
      | exact ih1 _
      | exact ih2 _
      | exact utf8_DecodeLastRuneInString.mono _ _
      | exact utf8_DecodeRuneInString.mono _ _
      | exact LeO.none _
      | refine LeO.ite ?_ ?_
      | refine LeO.bind ?_ (fun _ => ?_)
    · intro y0
      unfold net_zzTrimSpace.l0
      repeat' first
      | (with_reducible exact ih0 _)
      | (with_reducible exact ih1 _)
      | (with_reducible exact ih2 _)
      | (with_reducible exact utf8_DecodeLastRuneInString.mono _ _)
      | (with_reducible exact utf8_DecodeRuneInString.mono _ _)
      | (with_reducible exact LeO.refl _)
      | (with_reducible exact LeO.none _)
      | (with_reducible refine LeO.ite ?_ ?_)
      | (with_reducible refine LeO.bind ?_ (fun _ => ?_))
      | exact ih0 _
      | exact ih1 _
      | exact ih2 _
      | exact utf8_DecodeLastRuneInString.mono _ _
      | exact utf8_DecodeRuneInString.mono _ _
      | exact LeO.none _
      | refine LeO.ite ?_ ?_
      | refine LeO.bind ?_ (fun _ => ?_)
theorem net_zzTrimSpace.mono : ∀ a0 k, LeO (net_zzTrimSpace.f k a0) (net_zzTrimSpace.f (k + 1) a0) := by
  intro a0 k
  obtain ⟨ih0, ih1, ih2⟩ := net_zzTrimSpace.mono_l k
  unfold net_zzTrimSpace.f
  repeat' first
      | (with_reducible exact ih0 _)
      | (with_reducible exact ih1 _)
      | (with_reducible exact ih2 _)
      | (with_reducible exact utf8_DecodeLastRuneInString.mono _ _)
      | (with_reducible exact utf8_DecodeRuneInString.mono _ _)
      | (with_reducible exact LeO.refl _)
      | (with_reducible exact LeO.none _)
      | (with_reducible refine LeO.ite ?_ ?_)
      | (with_reducible refine LeO.bind ?_ (fun _ => ?_))
      | exact ih0 _
      | exact ih1 _
      | exact ih2 _
      | exact utf8_DecodeLastRuneInString.mono _ _
      | exact utf8_DecodeRuneInString.mono _ _
      | exact LeO.none _
      | refine LeO.ite ?_ ?_
      | refine LeO.bind ?_ (fun _ => ?_)
set_option maxHeartbeats 8000000 in
set_option maxRecDepth 100000 in
theorem net_zzTrimSpace.calls (k : Nat) (a0 : ByteArray) (r : ByteArray) (w : World) (h : net_zzTrimSpace.f k a0 = some r) :
    Calls Tryd.prog 39 #[.string a0] w fun e w' => e = .returned (.string r) ∧ Below w.heap.size w w' := by
  have HB := Aside0.mk (Below.refl w.heap.size w)
  have H : (net_zzTrimSpace.l0 k a0) = some r := h
  clear h
  have HC2 := Aside0.mk H
  clear H
  go_enter Tryd.func39, Tryd.ntmps39
  go_upto_block 0 with (fail)
  go_cut [0] (fun v0 wc => ∃ (kq : Nat) (x0_1 : ByteArray), v0 = .string x0_1 ∧ Aside0 (net_zzTrimSpace.j1 kq x0_1 = some r) ∧ Aside0 (kq ≤ k) ∧ Aside0 (Below w.heap.size w wc))
  case first =>
    have H := HC2.out
    clear HC2
    have H' := Aside0.mk H
    clear H
    go_wp2
    go_loopg [0] k (fun kq v0 w' => ∃ (x0_1 : ByteArray), v0 = .string x0_1 ∧ Aside0 (net_zzTrimSpace.l0 kq x0_1 = some r) ∧ Aside0 (kq ≤ k) ∧ Aside0 (Below w.heap.size w w'))
    case atStart => exact ⟨(a0), (by first | rfl | (simp; done) | (simp [*]; done)), H', ⟨Nat.le_refl _⟩, ⟨by repeat (first | (with_reducible first | exact HB.out | apply below_alloc | apply pw_below_drewN | apply below_drew1) | exact HB.out)⟩⟩
    case round =>
      clear H'
      try clear p2
      obtain ⟨x0_1, rfl, HA, HK1, HB⟩ := hrel
      cases gk with
      | zero => exact absurd HA.out (by simp [net_zzTrimSpace.l0])
      | succ k1 =>
        have H := HA.out
        clear HA
        simp only [net_zzTrimSpace.l0] at H
        by_cases c3 : (x0_1.size : Int) > 0
        · rw [if_pos c3] at H
          have c3b0 : decide (0 < (x0_1.size : Int)) = true := decide_eq_true c3
          have c3b1 : decide (0 < x0_1.size) = true := decide_eq_true (by omega)
          clear c3
          (first | rw [c3b0] | (simp only [i64_w, i32_w]; rw [c3b0]) | skip)
          replace H := Option.bind_eq_some_iff.mp H
          obtain ⟨⟨t101, t102⟩, A40, H⟩ := H
          replace H : ((net_zzSpace.f t101).bind fun t103 => (if t103 = true then (if 0 ≤ t102 then (if t102 ≤ (x0_1.size : Int) then (net_zzTrimSpace.l0 k1 (x0_1.extract (t102 : Int).toNat x0_1.size)) else (none)) else (none)) else (net_zzTrimSpace.j1 k1 x0_1))) = some r := H
          have A4 := Aside0.mk A40
          clear A40
          replace H := Option.bind_eq_some_iff.mp H
          obtain ⟨t103, A50, H⟩ := H
          replace H : (if t103 = true then (if 0 ≤ t102 then (if t102 ≤ (x0_1.size : Int) then (net_zzTrimSpace.l0 k1 (x0_1.extract (t102 : Int).toNat x0_1.size)) else (none)) else (none)) else (net_zzTrimSpace.j1 k1 x0_1)) = some r := H
          have A5 := Aside0.mk A50
          clear A50
          by_cases c6 : t103 = true
          · subst c6
            have H1 : (if 0 ≤ t102 then (if t102 ≤ (x0_1.size : Int) then (net_zzTrimSpace.l0 k1 (x0_1.extract (t102 : Int).toNat x0_1.size)) else (none)) else (none)) = some r := by rw [if_pos rfl] at H; exact H
            clear H
            have H := H1
            clear H1
            by_cases c7 : 0 ≤ t102
            · rw [if_pos c7] at H
              have c7b0 := eq_true c7
              have c7b1 : decide (0 ≤ t102) = true := decide_eq_true c7
              clear c7
              by_cases c8 : t102 ≤ (x0_1.size : Int)
              · rw [if_pos c8] at H
                have c8b0 := eq_true c8
                have c8b1 : decide (t102 ≤ (x0_1.size : Int)) = true := decide_eq_true c8
                clear c8
                have H' := Aside0.mk H
                clear H
                go_wp2_with (first | ((with_reducible refine gate_callee (f := 49) rfl ?_); refine goesL_ (some 12) rfl rfl Tryd.func49 (by kernel_rfl) rfl #[.string x0_1] rfl (by (try simp only [List.map_toArray, List.map_cons, List.map_nil]); first | done | rfl | (simp only [List.length_drop, List.length_take]; rfl)) ?_; (with_reducible refine (utf8_DecodeRuneInString.calls k1 x0_1 t101 t102 _ A4.out).mono ?_); rintro e w9 ⟨rfl, hb⟩; refine ⟨_, rfl, ?_⟩; have n0_ := Aside0.mk (below_step (by repeat (first | (with_reducible first | exact HB.out | apply below_alloc | apply pw_below_drewN | apply below_drew1) | exact HB.out)) hb); clear HB; have HB := n0_; clear n0_; (try clear hb); (try clear hb2); (try clear hk); (try clear hi)) | ((with_reducible refine gate_callee (f := 50) rfl ?_); refine goesL_ (some 16) rfl rfl Tryd.func50 (by kernel_rfl) rfl #[.int .i32 t101] rfl (by (try simp only [List.map_toArray, List.map_cons, List.map_nil]); first | done | rfl | (simp only [List.length_drop, List.length_take]; rfl)) ?_; (with_reducible refine (net_zzSpace.calls t101 true _ A5.out).mono ?_); rintro e w' ⟨rfl, ⟨nd, rfl⟩⟩; refine ⟨_, rfl, ?_⟩))
                go_roundg k1
                case measure => have := HK1.out; omega
                case rel => exact ⟨(x0_1.extract (t102 : Int).toNat x0_1.size), (by first | rfl | (simp; done) | (simp [*]; done)), H', ⟨by have := HK1.out; omega⟩, ⟨by repeat (first | (with_reducible first | exact HB.out | apply below_alloc | apply pw_below_drewN | apply below_drew1) | exact HB.out)⟩⟩
              · rw [if_neg c8] at H
                exact absurd H (by simp)
            · rw [if_neg c7] at H
              exact absurd H (by simp)
          · replace c6 := Bool.eq_false_iff.mpr c6
            subst c6
            have H1 : (net_zzTrimSpace.j1 k1 x0_1) = some r := by rw [if_neg (show ¬ (false = true) by decide)] at H; exact H
            clear H
            have H := H1
            clear H1
            have H' := Aside0.mk H
            clear H
            go_wp2_with (first | ((with_reducible refine gate_callee (f := 49) rfl ?_); refine goesL_ (some 12) rfl rfl Tryd.func49 (by kernel_rfl) rfl #[.string x0_1] rfl (by (try simp only [List.map_toArray, List.map_cons, List.map_nil]); first | done | rfl | (simp only [List.length_drop, List.length_take]; rfl)) ?_; (with_reducible refine (utf8_DecodeRuneInString.calls k1 x0_1 t101 t102 _ A4.out).mono ?_); rintro e w10 ⟨rfl, hb⟩; refine ⟨_, rfl, ?_⟩; have n0_ := Aside0.mk (below_step (by repeat (first | (with_reducible first | exact HB.out | apply below_alloc | apply pw_below_drewN | apply below_drew1) | exact HB.out)) hb); clear HB; have HB := n0_; clear n0_; (try clear hb); (try clear hb2); (try clear hk); (try clear hi)) | ((with_reducible refine gate_callee (f := 50) rfl ?_); refine goesL_ (some 16) rfl rfl Tryd.func50 (by kernel_rfl) rfl #[.int .i32 t101] rfl (by (try simp only [List.map_toArray, List.map_cons, List.map_nil]); first | done | rfl | (simp only [List.length_drop, List.length_take]; rfl)) ?_; (with_reducible refine (net_zzSpace.calls t101 false _ A5.out).mono ?_); rintro e w' ⟨rfl, ⟨nd, rfl⟩⟩; refine ⟨_, rfl, ?_⟩))
            go_meet
            case rel => exact ⟨_, (x0_1), (by first | rfl | (simp; done) | (simp [*]; done)), H', ⟨by have := HK1.out; first | omega | exact Nat.le_refl _⟩, ⟨by repeat (first | (with_reducible first | exact HB.out | apply below_alloc | apply pw_below_drewN | apply below_drew1) | exact HB.out)⟩⟩
        · rw [if_neg c3] at H
          have c3b0 : decide (0 < (x0_1.size : Int)) = false := decide_eq_false c3
          have c3b1 : decide (0 < x0_1.size) = false := decide_eq_false (by omega)
          clear c3
          (first | rw [c3b0] | (simp only [i64_w, i32_w]; rw [c3b0]) | skip)
          have H' := Aside0.mk H
          clear H
          go_wp2
          go_meet
          case rel => exact ⟨_, (x0_1), (by first | rfl | (simp; done) | (simp [*]; done)), H', ⟨by have := HK1.out; first | omega | exact Nat.le_refl _⟩, ⟨by repeat (first | (with_reducible first | exact HB.out | apply below_alloc | apply pw_below_drewN | apply below_drew1) | exact HB.out)⟩⟩
  case rest =>
    clear HC2
    try clear p2
    try clear c3
    try clear c3b0
    try clear c3b1
    try clear c4
    try clear c5
    try clear c6
    try clear c7
    try clear c7b0
    try clear c7b1
    try clear c8
    try clear c8b0
    try clear c8b1
    try clear p2
    obtain ⟨kq, x0_1, rfl, HA, HJ1, HB⟩ := hcut
    cases kq with
    | zero => exact absurd HA.out (by simp [net_zzTrimSpace.j1])
    | succ kj1 =>
      have H := HA.out
      clear HA
      simp only [net_zzTrimSpace.j1] at H
      have H' := Aside0.mk H
      clear H
      go_wp2
      go_loopg [0] kj1 (fun kq v0 w' => ∃ (x0_2 : ByteArray), v0 = .string x0_2 ∧ Aside0 (net_zzTrimSpace.l1 kq x0_2 = some r) ∧ Aside0 (kq ≤ kj1) ∧ Aside0 (Below w.heap.size w w'))
      case atStart => exact ⟨(x0_1), (by first | rfl | (simp; done) | (simp [*]; done)), H', ⟨Nat.le_refl _⟩, ⟨by repeat (first | (with_reducible first | exact HB.out | apply below_alloc | apply pw_below_drewN | apply below_drew1) | exact HB.out)⟩⟩
      case round =>
        clear H'
        try clear p2
        try clear c3
        try clear c3b0
        try clear c3b1
        try clear c4
        try clear c5
        try clear c6
        try clear c7
        try clear c7b0
        try clear c7b1
        try clear c8
        try clear c8b0
        try clear c8b1
        try clear p2
        obtain ⟨x0_2, rfl, HA, HK2, HB⟩ := hrel
        cases gk with
        | zero => exact absurd HA.out (by simp [net_zzTrimSpace.l1])
        | succ k2 =>
          have H := HA.out
          clear HA
          simp only [net_zzTrimSpace.l1] at H
          by_cases c11 : (x0_2.size : Int) > 0
          · rw [if_pos c11] at H
            have c11b0 : decide (0 < (x0_2.size : Int)) = true := decide_eq_true c11
            have c11b1 : decide (0 < x0_2.size) = true := decide_eq_true (by omega)
            clear c11
            replace H := Option.bind_eq_some_iff.mp H
            obtain ⟨⟨t104, t105⟩, A120, H⟩ := H
            replace H : ((net_zzSpace.f t104).bind fun t106 => (if t106 = true then (if 0 ≤ (wrap64 ((x0_2.size : Int) - t105)) then (if (wrap64 ((x0_2.size : Int) - t105)) ≤ (x0_2.size : Int) then (net_zzTrimSpace.l1 k2 (x0_2.extract 0 ((wrap64 ((x0_2.size : Int) - t105)) : Int).toNat)) else (none)) else (none)) else (some x0_2))) = some r := H
            have A12 := Aside0.mk A120
            clear A120
            replace H := Option.bind_eq_some_iff.mp H
            obtain ⟨t106, A130, H⟩ := H
            replace H : (if t106 = true then (if 0 ≤ (wrap64 ((x0_2.size : Int) - t105)) then (if (wrap64 ((x0_2.size : Int) - t105)) ≤ (x0_2.size : Int) then (net_zzTrimSpace.l1 k2 (x0_2.extract 0 ((wrap64 ((x0_2.size : Int) - t105)) : Int).toNat)) else (none)) else (none)) else (some x0_2)) = some r := H
            have A13 := Aside0.mk A130
            clear A130
            by_cases c14 : t106 = true
            · subst c14
              have H1 : (if 0 ≤ (wrap64 ((x0_2.size : Int) - t105)) then (if (wrap64 ((x0_2.size : Int) - t105)) ≤ (x0_2.size : Int) then (net_zzTrimSpace.l1 k2 (x0_2.extract 0 ((wrap64 ((x0_2.size : Int) - t105)) : Int).toNat)) else (none)) else (none)) = some r := by rw [if_pos rfl] at H; exact H
              clear H
              have H := H1
              clear H1
              obtain ⟨ji15, hji15⟩ : ∃ j_ : Int, (wrap64 ((x0_2.size : Int) - t105)) = j_ := ⟨_, rfl⟩
              replace H : (if 0 ≤ (ji15) then (if (ji15) ≤ (x0_2.size : Int) then (net_zzTrimSpace.l1 k2 (x0_2.extract 0 ((ji15) : Int).toNat)) else (none)) else (none)) = some r := by first | (rw [hji15] at H; exact H) | (simp only [hji15] at H ⊢; exact H)
              (try rw [hji15] at A12)
              (try rw [hji15] at A13)
              have hji15w : (IntKind.i64.wrap ((x0_2.size : Int) - t105)) = ji15 := (i64_w _).trans hji15
              by_cases c16 : 0 ≤ (ji15)
              · rw [if_pos c16] at H
                have c16b0 := eq_true c16
                have c16b1 : decide (0 ≤ (ji15)) = true := decide_eq_true c16
                clear c16
                by_cases c17 : (ji15) ≤ (x0_2.size : Int)
                · rw [if_pos c17] at H
                  have c17b0 := eq_true c17
                  have c17b1 : decide ((ji15) ≤ (x0_2.size : Int)) = true := decide_eq_true c17
                  clear c17
                  have H' := Aside0.mk H
                  clear H
                  go_wp2_with (first | ((with_reducible refine gate_callee (f := 51) rfl ?_); refine goesL_ (some 26) rfl rfl Tryd.func51 (by kernel_rfl) rfl #[.string x0_2] rfl (by (try simp only [List.map_toArray, List.map_cons, List.map_nil]); first | done | rfl | (simp only [List.length_drop, List.length_take]; rfl)) ?_; (with_reducible refine (utf8_DecodeLastRuneInString.calls k2 x0_2 t104 t105 _ A12.out).mono ?_); rintro e w18 ⟨rfl, hb⟩; refine ⟨_, rfl, ?_⟩; have n0_ := Aside0.mk (below_step (by repeat (first | (with_reducible first | exact HB.out | apply below_alloc | apply pw_below_drewN | apply below_drew1) | exact HB.out)) hb); clear HB; have HB := n0_; clear n0_; (try clear hb); (try clear hb2); (try clear hk); (try clear hi)) | ((with_reducible refine gate_callee (f := 50) rfl ?_); refine goesL_ (some 30) rfl rfl Tryd.func50 (by kernel_rfl) rfl #[.int .i32 t104] rfl (by (try simp only [List.map_toArray, List.map_cons, List.map_nil]); first | done | rfl | (simp only [List.length_drop, List.length_take]; rfl)) ?_; (with_reducible refine (net_zzSpace.calls t104 true _ A13.out).mono ?_); rintro e w' ⟨rfl, ⟨nd, rfl⟩⟩; refine ⟨_, rfl, ?_⟩))
                  go_roundg k2
                  case measure => have := HJ1.out; have := HK2.out; omega
                  case rel => exact ⟨(x0_2.extract 0 ((ji15) : Int).toNat), (by first | rfl | (simp; done) | (simp only [← hji15] <;> (first | rfl | simp)) | (simp [*]; done)), H', ⟨by have := HJ1.out; have := HK2.out; omega⟩, ⟨by repeat (first | (with_reducible first | exact HB.out | apply below_alloc | apply pw_below_drewN | apply below_drew1) | exact HB.out)⟩⟩
                · rw [if_neg c17] at H
                  exact absurd H (by simp)
              · rw [if_neg c16] at H
                exact absurd H (by simp)
            · replace c14 := Bool.eq_false_iff.mpr c14
              subst c14
              have H1 : (some x0_2) = some r := by rw [if_neg (show ¬ (false = true) by decide)] at H; exact H
              clear H
              have H := H1
              clear H1
              obtain rfl := Option.some.inj H
              go_wp2_with (first | ((with_reducible refine gate_callee (f := 51) rfl ?_); refine goesL_ (some 26) rfl rfl Tryd.func51 (by kernel_rfl) rfl #[.string x0_2] rfl (by (try simp only [List.map_toArray, List.map_cons, List.map_nil]); first | done | rfl | (simp only [List.length_drop, List.length_take]; rfl)) ?_; (with_reducible refine (utf8_DecodeLastRuneInString.calls k2 x0_2 t104 t105 _ A12.out).mono ?_); rintro e w19 ⟨rfl, hb⟩; refine ⟨_, rfl, ?_⟩; have n0_ := Aside0.mk (below_step (by repeat (first | (with_reducible first | exact HB.out | apply below_alloc | apply pw_below_drewN | apply below_drew1) | exact HB.out)) hb); clear HB; have HB := n0_; clear n0_; (try clear hb); (try clear hb2); (try clear hk); (try clear hi)) | ((with_reducible refine gate_callee (f := 50) rfl ?_); refine goesL_ (some 30) rfl rfl Tryd.func50 (by kernel_rfl) rfl #[.int .i32 t104] rfl (by (try simp only [List.map_toArray, List.map_cons, List.map_nil]); first | done | rfl | (simp only [List.length_drop, List.length_take]; rfl)) ?_; (with_reducible refine (net_zzSpace.calls t104 false _ A13.out).mono ?_); rintro e w' ⟨rfl, ⟨nd, rfl⟩⟩; refine ⟨_, rfl, ?_⟩))
              go_ret
              exact ⟨by first | rfl | (simp [errW_none, errW_some] <;> rfl) | (simp [*, errW_none, errW_some] <;> rfl), by repeat (first | (with_reducible first | exact HB.out | apply below_alloc | apply pw_below_drewN | apply below_drew1) | exact HB.out)⟩
          · rw [if_neg c11] at H
            have c11b0 : decide (0 < (x0_2.size : Int)) = false := decide_eq_false c11
            have c11b1 : decide (0 < x0_2.size) = false := decide_eq_false (by omega)
            clear c11
            obtain rfl := Option.some.inj H
            go_wp2
            go_ret
            exact ⟨by first | rfl | (simp [errW_none, errW_some] <;> rfl) | (simp [*, errW_none, errW_some] <;> rfl), by repeat (first | (with_reducible first | exact HB.out | apply below_alloc | apply pw_below_drewN | apply below_drew1) | exact HB.out)⟩

/-! ### net_zzIndex: function 40 -/
def net_zzIndex.l0 : Nat → ByteArray → ByteArray → Int → Option (Int)
  | 0, _, _, _ => none
  | k + 1, x0, x1, x5 => if (wrap64 (x5 + (x1.size : Int))) ≤ (x0.size : Int) then (if 0 ≤ x5 then (if x5 ≤ (wrap64 (x5 + (x1.size : Int))) then (if (x0.extract (x5 : Int).toNat ((wrap64 (x5 + (x1.size : Int))) : Int).toNat).toList = x1.toList then (some x5) else (net_zzIndex.l0 k x0 x1 (wrap64 (x5 + 1)))) else (none)) else (none)) else (some (-1))
def net_zzIndex.f (k : Nat) (a0 : ByteArray) (a1 : ByteArray) : Option (Int) := net_zzIndex.l0 k a0 a1 0
theorem net_zzIndex.mono_l : ∀ k, (∀ y0 y1 y2, LeO (net_zzIndex.l0 k y0 y1 y2) (net_zzIndex.l0 (k + 1) y0 y1 y2))
  | 0 => fun _ _ _ r h => by simp [net_zzIndex.l0] at h
  | k + 1 => by
    have ih0 := net_zzIndex.mono_l k
    · intro y0 y1 y2
      unfold net_zzIndex.l0
      repeat' first
      | (with_reducible exact ih0 _ _ _)
      | (with_reducible exact LeO.refl _)
      | (with_reducible exact LeO.none _)
      | (with_reducible refine LeO.ite ?_ ?_)
      | (with_reducible refine LeO.bind ?_ (fun _ => ?_))
      | exact ih0 _ _ _
      | exact LeO.none _
      | refine LeO.ite ?_ ?_
      | refine LeO.bind ?_ (fun _ => ?_)
theorem net_zzIndex.mono : ∀ a0 a1 k, LeO (net_zzIndex.f k a0 a1) (net_zzIndex.f (k + 1) a0 a1) := by
  intro a0 a1 k
  have ih0 := net_zzIndex.mono_l k
  unfold net_zzIndex.f
  repeat' first
      | (with_reducible exact ih0 _ _ _)
      | (with_reducible exact LeO.refl _)
      | (with_reducible exact LeO.none _)
      | (with_reducible refine LeO.ite ?_ ?_)
      | (with_reducible refine LeO.bind ?_ (fun _ => ?_))
      | exact ih0 _ _ _
      | exact LeO.none _
      | refine LeO.ite ?_ ?_
      | refine LeO.bind ?_ (fun _ => ?_)
set_option maxHeartbeats 8000000 in
set_option maxRecDepth 100000 in
theorem net_zzIndex.calls (k : Nat) (a0 : ByteArray) (a1 : ByteArray) (r : Int) (w : World) (h : net_zzIndex.f k a0 a1 = some r) :
    Calls Tryd.prog 40 #[.string a0, .string a1] w fun e w' => e = .returned (.int .i64 r) ∧ Drawn0 w w' := by
  have H : (net_zzIndex.l0 k a0 a1 0) = some r := h
  clear h
  have H' := Aside0.mk H
  clear H
  go_enter Tryd.func40, Tryd.ntmps40
  go_wp2
  go_loopg [5] k (fun kq v5 w' => ∃ (x5_1 : Int), v5 = .int .i64 x5_1 ∧ Aside0 (net_zzIndex.l0 kq a0 a1 x5_1 = some r) ∧ Aside0 (kq ≤ k) ∧ Drawn0 w w')
  case atStart => exact ⟨(0), (by first | rfl | (simp; done) | (simp [*]; done)), H', ⟨Nat.le_refl _⟩, by repeat (first | exact Drawn0.refl _ | apply Drawn0.step)⟩
  case round =>
    clear H'
    try clear p2
    obtain ⟨x5_1, rfl, HA, HK1, ⟨m1, rfl⟩⟩ := hrel
    cases gk with
    | zero => exact absurd HA.out (by simp [net_zzIndex.l0])
    | succ k1 =>
      have H := HA.out
      clear HA
      simp only [net_zzIndex.l0] at H
      by_cases c3 : (wrap64 (x5_1 + (a1.size : Int))) ≤ (a0.size : Int)
      · rw [if_pos c3] at H
        have c3b0 : decide ((wrap64 (x5_1 + (a1.size : Int))) ≤ (a0.size : Int)) = true := decide_eq_true c3
        clear c3
        by_cases c4 : 0 ≤ x5_1
        · rw [if_pos c4] at H
          have c4b0 := eq_true c4
          have c4b1 : decide (0 ≤ x5_1) = true := decide_eq_true c4
          clear c4
          by_cases c5 : x5_1 ≤ (wrap64 (x5_1 + (a1.size : Int)))
          · rw [if_pos c5] at H
            have c5b0 := eq_true c5
            have c5b1 : decide (x5_1 ≤ (wrap64 (x5_1 + (a1.size : Int)))) = true := decide_eq_true c5
            have c6b0 := eq_true (of_decide_eq_true (by first | (with_reducible assumption) | assumption) : (wrap64 (x5_1 + (a1.size : Int))) ≤ (a0.size : Int))
            by_cases c7 : (a0.extract (x5_1 : Int).toNat ((wrap64 (x5_1 + (a1.size : Int))) : Int).toNat).toList = a1.toList
            · rw [if_pos c7] at H
              have c7b0 : ((a0.extract (x5_1 : Int).toNat ((wrap64 (x5_1 + (a1.size : Int))) : Int).toNat).toList == a1.toList) = true := beq_iff_eq.mpr c7
              have c7b1 : ((a0.extract (x5_1 : Int).toNat ((wrap64 (x5_1 + (a1.size : Int))) : Int).toNat).toList != a1.toList) = false := bne_eq_false_iff_eq.mpr c7
              clear c7
              obtain rfl := Option.some.inj H
              go_wp2
              go_ret
              exact ⟨by first | rfl | (simp; done) | (simp [*]; done), by repeat (first | exact Drawn0.refl _ | apply Drawn0.step)⟩
            · rw [if_neg c7] at H
              have c7b0 : ((a0.extract (x5_1 : Int).toNat ((wrap64 (x5_1 + (a1.size : Int))) : Int).toNat).toList == a1.toList) = false := beq_eq_false_iff_ne.mpr c7
              have c7b1 : ((a0.extract (x5_1 : Int).toNat ((wrap64 (x5_1 + (a1.size : Int))) : Int).toNat).toList != a1.toList) = true := bne_iff_ne.mpr c7
              have H' := Aside0.mk H
              clear H
              go_wp2
              go_roundg k1
              case measure => have := HK1.out; omega
              case rel => exact ⟨(wrap64 (x5_1 + 1)), (by first | rfl | (simp; done) | (simp [*]; done)), H', ⟨by have := HK1.out; omega⟩, by repeat (first | exact Drawn0.refl _ | apply Drawn0.step)⟩
          · rw [if_neg c5] at H
            exact absurd H (by simp)
        · rw [if_neg c4] at H
          exact absurd H (by simp)
      · rw [if_neg c3] at H
        have c3b0 : decide ((wrap64 (x5_1 + (a1.size : Int))) ≤ (a0.size : Int)) = false := decide_eq_false c3
        clear c3
        obtain rfl := Option.some.inj H
        go_wp2
        go_ret
        exact ⟨by first | rfl | (simp; done) | (simp [*]; done), by repeat (first | exact Drawn0.refl _ | apply Drawn0.step)⟩

-- NOT PRINTED: function 69 (strconv_lower)

-- NOT PRINTED: function 70 (strconv_underscoreOK)

-- NOT PRINTED: function 66 (strconv_ParseUint)

-- NOT PRINTED: function 60 (strconv_ParseInt)

-- NOT PRINTED: function 52 (strconv_Atoi_52)

-- NOT PRINTED: function 67 (stringslite_Clone)

-- NOT PRINTED: function 61 (strconv_syntaxError)

-- NOT PRINTED: function 62 (strconv_rangeError)

-- NOT PRINTED: function 73 (strconv_small)

-- NOT PRINTED: function 48 (bits_Len64)

-- NOT PRINTED: function 77 (strconv_log10Pow2)

-- NOT PRINTED: function 78 (strconv_bool2_int)

-- NOT PRINTED: function 74 (strconv_numDigits)

-- NOT PRINTED: function 75 (strconv_formatBase10)

-- NOT PRINTED: function 79 (strconv_isPowerOfTwo)

-- NOT PRINTED: function 81 (bits_TrailingZeros32)

-- NOT PRINTED: function 82 (bits_TrailingZeros64)

-- NOT PRINTED: function 80 (bits_TrailingZeros)

-- NOT PRINTED: function 76 (strconv_formatBits)

-- NOT PRINTED: function 72 (strconv_FormatInt)

-- NOT PRINTED: function 71 (strconv_Itoa_71)

-- NOT PRINTED: function 68 (strconv_Itoa_68)

-- NOT PRINTED: function 63 (strconv_baseError)

-- NOT PRINTED: function 64 (strconv_bitSizeError)

-- NOT PRINTED: function 53 (strconv_toError)

-- NOT PRINTED: function 41 (strconv_Atoi_41)

-- NOT PRINTED: function 29 (net_PortRange_Set)

-- NOT PRINTED: function 20 (net_ParsePortRange)

end Go.Proofs.YtmkpkpkcoieeiabDoor.XFnPortsWrong
