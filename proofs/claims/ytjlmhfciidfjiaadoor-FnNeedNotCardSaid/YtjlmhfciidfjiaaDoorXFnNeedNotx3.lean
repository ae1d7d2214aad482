/- A text of this session: the functions of the law FnNeedNot, by a program that calls the kit's print and lays this session's own contracts of single functions beside. -/
import Derived.Test.YtjlmhfciidfjiaaDoorXFnNeedNotx0
import Derived.Test.YtjlmhfciidfjiaaDoorXFnNeedNotx2
namespace Go.Proofs.YtjlmhfciidfjiaaDoor.XFnNeedNot
open Go.RowKit Go.Proofs.YtjlmhfciidfjiaaDoorW.PrintWords Go.Proofs.YtjlmhfciidfjiaaDoorW.PrintLast Go.Proofs.YtjlmhfciidfjiaaDoorW.PrintMore
attribute [local go_sem] max2_int min2_int max_two min_two max_three min_three max_four min_four   -- for this text's walks alone
set_option linter.unusedVariables false
set_option linter.unusedSimpArgs false

/-! ### spec_NeedNumber: function 22 -/
/-- What NeedNumber tells. -/
def needF (l : List UInt8) : Int × Bool :=
  match Num.whole (-9223372036854775808) 9223372036854775807 l with
  | some v => (v, true)
  | none => if Num.body l ≠ [] ∧ Num.digs (Num.body l) ∧ Num.neg l = false ∧ Num.val 0 (Num.body l) = 9223372036854775808 then (-9223372036854775808, false) else (0, false)
theorem digits_iff (l : List UInt8) : (l.all fun b => digitB b.toNat) = true ↔ Num.digs l := by
  rw [List.all_eq_true]
  unfold Num.digs Num.dig digitB
  constructor
  · intro h c hc
    have := h c hc
    simpa using this
  · intro h c hc
    have := h c hc
    simpa using this
theorem val_snoc (c : UInt8) : ∀ (l : List UInt8) (acc : Nat), Num.val acc (l ++ [c]) = Num.val acc l * 10 + (c.toNat - 48)
  | [], acc => rfl
  | b :: l, acc => by
    show Num.val _ (l ++ [c]) = Num.val _ l * 10 + _
    exact val_snoc c l _
theorem val_le_append : ∀ (l r : List UInt8) (acc : Nat), Num.val acc l ≤ Num.val acc (l ++ r)
  | [], r, acc => Num.val_ge r acc
  | b :: l, r, acc => val_le_append l r _
theorem ret_two {a c : Int} {b d : Bool} (h1 : a = c) (h2 : b = d) : Ending.returned (.tuple #[.int .i64 a, .bool b]) = .returned (.tuple #[.int .i64 c, .bool d]) := by rw [h1, h2]
theorem need_none_body (l : List UInt8) (h : Num.body l = []) : needF l = (0, false) := by
  unfold needF Num.whole
  rw [if_neg (fun q => q.1 h)]
  simp only
  rw [if_neg (fun q => q.1 h)]
theorem need_none_digs (l : List UInt8) (h : ¬ Num.digs (Num.body l)) : needF l = (0, false) := by
  unfold needF Num.whole
  rw [if_neg (fun q => h q.2.1)]
  simp only
  rw [if_neg (fun q => h q.2.1)]
theorem need_none_big (l : List UInt8) (h : 9223372036854775808 < Num.val 0 (Num.body l)) : needF l = (0, false) := by
  unfold needF Num.whole Num.num
  rw [if_neg (fun q => by
    obtain ⟨_, _, q1, q2⟩ := q
    split at q1
    · omega
    · rename_i hn
      rw [if_neg hn] at q2
      omega)]
  simp only
  rw [if_neg (fun q => by omega)]
theorem need_neg (l : List UInt8) (hb : Num.body l ≠ []) (hd : Num.digs (Num.body l)) (hn : Num.neg l = true) (h : Num.val 0 (Num.body l) ≤ 9223372036854775808) : needF l = (-(Num.val 0 (Num.body l) : Int), true) := by
  unfold needF Num.whole Num.num
  rw [hn]
  simp only [if_true]
  rw [if_pos ⟨hb, hd, by omega, by omega⟩]
theorem need_pos (l : List UInt8) (hb : Num.body l ≠ []) (hd : Num.digs (Num.body l)) (hn : Num.neg l = false) (h : Num.val 0 (Num.body l) ≤ 9223372036854775807) : needF l = ((Num.val 0 (Num.body l) : Int), true) := by
  unfold needF Num.whole Num.num
  rw [hn]
  simp only [Bool.false_eq_true, if_false]
  rw [if_pos ⟨hb, hd, by omega, by omega⟩]
theorem need_edge (l : List UInt8) (hb : Num.body l ≠ []) (hd : Num.digs (Num.body l)) (hn : Num.neg l = false) (h : Num.val 0 (Num.body l) = 9223372036854775808) : needF l = (-9223372036854775808, false) := by
  unfold needF Num.whole Num.num
  rw [hn]
  simp only [Bool.false_eq_true, if_false]
  rw [if_neg (fun q => by obtain ⟨_, _, _, q2⟩ := q; omega)]
  simp only
  rw [if_pos ⟨hb, hd, trivial, h⟩]
set_option maxHeartbeats 8000000 in
set_option maxRecDepth 100000 in
theorem needNumber_walk (s : ByteArray) (hs : s.size ≤ maxLen) (w : World) : Calls Tryd.prog 22 #[.string s] w fun e w' => e = .returned (.tuple #[.int .i64 (needF s.data.toList).1, .bool (needF s.data.toList).2]) ∧ Below w.heap.size w w' := by
  have HS := Aside0.mk hs
  unfold maxLen at hs
  by_cases hz : s.size = 0
  · obtain rfl : s = ⟨#[]⟩ := by
      apply ByteArray.ext; exact Array.eq_empty_of_size_eq_zero (by simpa using hz)
    clear hz hs
    have hnb : needF (⟨#[]⟩ : ByteArray).data.toList = (0, false) := rfl
    replace hnb := Aside0.mk hnb
    go_enter Tryd.func22, Tryd.ntmps22
    go_wp2_with fail
    go_ret2
    exact ⟨by rw [hnb.out]; rfl, Below.refl _ _⟩
  have z1 : 0 < s.size := by omega
  obtain ⟨c, r, hcr⟩ : ∃ c r, s.data.toList = c :: r := by
    rcases hd : s.data.toList with _ | ⟨c, r⟩
    · exact absurd (by have := congrArg List.length hd; simpa using this) hz
    · exact ⟨c, r, rfl⟩
  have h0 : s[0] = c := by
    have : s.data.toList[0]'(by rw [hcr]; simp) = c := by simp [hcr]
    exact this
  have hext : (s.extract 1 s.size).data.toList = r := by
    rw [Lib.extract_to_end, hcr]; rfl
  by_cases h45 : c.toNat = 45
  · have b1 : ((s[0].toNat : Int) == 45) = true := by rw [h0, h45]; rfl
    obtain ⟨t, ht⟩ : ∃ t, t = s.extract 1 s.size := ⟨_, rfl⟩
    have hbody : t.data.toList = Num.body s.data.toList := by
      rw [ht, hext, hcr]; show r = (if c.toNat = 43 ∨ c.toNat = 45 then r else c :: r); rw [if_pos (by omega)]
    have hneg : Num.neg s.data.toList = true := by rw [hcr]; show decide (c.toNat = 45) = _; exact decide_eq_true h45
    have hts : t.size ≤ maxLen := by
      have h2 : t.data.toList.length ≤ s.data.toList.length := by rw [ht, hext, hcr]; simp
      have h3 : s.data.toList.length = s.size := by simp
      have h4 : t.data.toList.length = t.size := by simp
      unfold maxLen; omega
    have hts1 : Aside0 (t.size = s.size - 1) := ⟨by
      have h2 : t.data.toList.length = s.data.toList.length - 1 := by rw [ht, hext, hcr]; simp
      simpa using h2⟩
    clear h0 hcr hext
    have hts63 : t.size ≤ 9223372036854775807 := hts

    obtain ⟨rb, hrb⟩ : ∃ rb, (t.data.toList.all fun b => digitB b.toNat) = rb := ⟨_, rfl⟩
    have hA := Aside0.mk (fun W => by have := all_digit t hts W; rw [hrb] at this; rw [ht] at this; exact this)
    by_cases htz : s.size - 1 = 0
    · have hnb : needF s.data.toList = (0, false) := need_none_body _ (by rw [← hbody]; exact List.eq_nil_of_length_eq_zero ((show t.data.toList.length = t.size by simp).trans (by rw [hts1.out]; exact htz)))
      replace hnb := Aside0.mk hnb
      replace hrb := Aside0.mk hrb
      replace hbody := Aside0.mk hbody
      replace hneg := Aside0.mk hneg
      go_enter Tryd.func22, Tryd.ntmps22
      skip
      go_wp2_with fail
      go_ret2
      exact ⟨by rw [hnb.out]; rfl, Below.refl _ _⟩
    have htl : 0 < t.size := by rw [hts1.out]; omega
    have hbne : Num.body s.data.toList ≠ [] := by
      rw [← hbody]; intro e
      have h4 : t.data.toList.length = t.size := by simp
      rw [e] at h4; simp at h4; omega
    replace htl := Aside0.mk htl
    rcases rb with _ | _
    · have hnb : needF s.data.toList = (0, false) := need_none_digs _ (by rw [← hbody, ← digits_iff, hrb]; decide)
      replace hnb := Aside0.mk hnb
      replace hrb := Aside0.mk hrb
      replace hbody := Aside0.mk hbody
      replace hneg := Aside0.mk hneg
      replace hbne := Aside0.mk hbne
      go_enter Tryd.func22, Tryd.ntmps22
      skip
      go_wp2_with fail
      refine (hA.out _).mono ?_
      rintro e w1 ⟨rfl, hb⟩
      replace hb := Aside0.mk hb
      go_wp2_with fail
      go_ret2
      exact ⟨by rw [hnb.out]; rfl, hb.out⟩
    have hdg : Num.digs t.data.toList := (digits_iff _).1 hrb
    have hdg2 : Num.digs (Num.body s.data.toList) := by rw [← hbody]; exact hdg
    replace hrb := Aside0.mk hrb
    replace hbody := Aside0.mk hbody
    replace hneg := Aside0.mk hneg
    replace hbne := Aside0.mk hbne
    replace hdg := Aside0.mk hdg
    replace hdg2 := Aside0.mk hdg2
    go_enter Tryd.func22, Tryd.ntmps22
    skip
    go_wp2_with fail
    refine (hA.out _).mono ?_
    rintro e w1 ⟨rfl, hb⟩
    replace hb := Aside0.mk hb
    go_wp2_with fail
    go_loopw [5, 6, 7] (fun n i _ wr => ∃ k v : Nat, i = .int .i64 (k : Int) ∧ n = .int .i64 (-(v : Int)) ∧ k ≤ s.size - 1 ∧ v ≤ 9223372036854775808 ∧ Aside0 (v = Num.val 0 (t.data.toList.take k)) ∧ wr = w1) (fun _ i _ _ => measA (s.size - 1) i)
    case atStart => exact ⟨0, 0, rfl, rfl, Nat.zero_le _, Nat.zero_le _, ⟨rfl⟩, rfl⟩
    case round =>
      obtain ⟨k, v, rfl, rfl, hk, hv, hval, rfl⟩ := hrel
      have hv := Aside0.mk hv
      by_cases hlt : k < s.size - 1
      · have hlt2 : k < t.size := by rw [hts1.out]; exact hlt
        have hl : k < t.data.toList.length := by simpa using hlt2
        obtain ⟨c8, hc8⟩ : ∃ c8, c8 = t.data.toList[k] := ⟨_, rfl⟩
        have hcd := hdg.out c8 (by rw [hc8]; exact List.getElem_mem hl)
        unfold Num.dig at hcd
        obtain ⟨d, hd⟩ : ∃ d : Nat, c8.toNat = 48 + d := ⟨c8.toNat - 48, by omega⟩
        have e0 : (t[k]'hlt2).toNat = 48 + d := by rw [← hd, hc8]; rfl
        have e1 : ((((s.extract 1 s.size)[k]'(by simp; omega)).toNat : Int) - 48) % 256 = (d : Int) := by
          have e2 : ((s.extract 1 s.size)[k]'(by simp; omega)).toNat = 48 + d := by subst ht; exact e0
          rw [e2]; omega
        have hd9 : d ≤ 9 := by omega
        obtain ⟨q, hq⟩ : ∃ q, q = (9223372036854775808 - d) / 10 := ⟨_, rfl⟩
        have e3 : (-9223372036854775808 + (d : Int)).tdiv 10 = -(q : Int) := by
          rw [show (-9223372036854775808 + (d : Int)) = -((9223372036854775808 - d : Nat) : Int) by omega, Int.neg_tdiv, hq]
          rfl
        have e4 : wrap64 (-(q : Int)) = -(q : Int) := by unfold wrap64; omega
        have hv2 : Num.val 0 (t.data.toList.take (k + 1)) = v * 10 + d := by
          rw [List.take_succ_eq_append_getElem hl, val_snoc, ← hval.out, ← hc8, hd]
          omega
        have hbig : Num.val 0 (t.data.toList.take (k + 1)) ≤ Num.val 0 t.data.toList := by
          have := val_le_append (t.data.toList.take (k + 1)) (t.data.toList.drop (k + 1)) 0
          rwa [List.take_append_drop] at this
        replace hv2 := Aside0.mk hv2
        replace hbig := Aside0.mk hbig
        replace hd := Aside0.mk hd
        replace hc8 := Aside0.mk hc8
        replace e0 := Aside0.mk e0
        replace hq := Aside0.mk hq
        have hd9 := Aside0.mk hd9
        clear hcd
        by_cases hqv : q < v
        · have hnb : needF s.data.toList = (0, false) := need_none_big _ (by
            rw [← hbody.out]
            have h1 := hv2.out
            have h2 := hbig.out
            have h3 := hq.out
            omega)
          replace hnb := Aside0.mk hnb
          go_wp2_with fail
          go_ret2
          exact ⟨by rw [hnb.out]; rfl, hb.out⟩
        · have hnx : v * 10 + d ≤ 9223372036854775808 := by
            have h3 := hq.out
            have h4 := hd9.out
            omega
          have hwx : wrap64 (wrap64 (-(v : Int) * 10) - (d : Int)) = -((v * 10 + d : Nat) : Int) := by
            rw [show wrap64 (-(v : Int) * 10) = -(v : Int) * 10 by unfold wrap64; omega]
            unfold wrap64; omega
          replace hwx := Aside0.mk hwx
          replace hnx := Aside0.mk hnx
          have hqv2 : v ≤ q := by omega
          go_wp2_with fail
          go_roundw
          case rel => exact ⟨k + 1, v * 10 + d, by go_num, by rw [hwx.out], hlt, hnx.out, ⟨hv2.out.symm⟩, trivial⟩
          case measure => clear e1 e3 e4; simp [measA]; omega
      · have hke : k = s.size - 1 := by omega
        have hvb : v = Num.val 0 (Num.body s.data.toList) := by
          have hll : t.data.toList.length = t.size := by simp
          rw [← hbody.out, hval.out, List.take_of_length_le (by rw [hll, hke]; rw [hts1.out]; exact Nat.le_refl _)]
        have hv9 := hv.out
        have hr := need_neg s.data.toList hbne.out hdg2.out hneg.out (by rw [← hvb]; exact hv9)
        rw [← hvb] at hr
        replace hr := Aside0.mk hr
        replace hvb := Aside0.mk hvb
        clear hke
        go_wp2_with fail
        go_ret2
        exact ⟨by rw [hr.out]; rfl, hb.out⟩
  by_cases h43 : c.toNat = 43
  · have b1 : ((s[0].toNat : Int) == 45) = false := by rw [h0, h43]; rfl
    have b2 : ((s[0].toNat : Int) == 43) = true := by rw [h0, h43]; rfl
    obtain ⟨t, ht⟩ : ∃ t, t = s.extract 1 s.size := ⟨_, rfl⟩
    have hbody : t.data.toList = Num.body s.data.toList := by
      rw [ht, hext, hcr]; show r = (if c.toNat = 43 ∨ c.toNat = 45 then r else c :: r); rw [if_pos (by omega)]
    have hneg : Num.neg s.data.toList = false := by rw [hcr]; show decide (c.toNat = 45) = _; exact decide_eq_false (by omega)
    have hts : t.size ≤ maxLen := by
      have h2 : t.data.toList.length ≤ s.data.toList.length := by rw [ht, hext, hcr]; simp
      have h3 : s.data.toList.length = s.size := by simp
      have h4 : t.data.toList.length = t.size := by simp
      unfold maxLen; omega
    have hts1 : Aside0 (t.size = s.size - 1) := ⟨by
      have h2 : t.data.toList.length = s.data.toList.length - 1 := by rw [ht, hext, hcr]; simp
      simpa using h2⟩
    clear h0 hcr hext
    have hts63 : t.size ≤ 9223372036854775807 := hts

    obtain ⟨rb, hrb⟩ : ∃ rb, (t.data.toList.all fun b => digitB b.toNat) = rb := ⟨_, rfl⟩
    have hA := Aside0.mk (fun W => by have := all_digit t hts W; rw [hrb] at this; rw [ht] at this; exact this)
    by_cases htz : s.size - 1 = 0
    · have hnb : needF s.data.toList = (0, false) := need_none_body _ (by rw [← hbody]; exact List.eq_nil_of_length_eq_zero ((show t.data.toList.length = t.size by simp).trans (by rw [hts1.out]; exact htz)))
      replace hnb := Aside0.mk hnb
      replace hrb := Aside0.mk hrb
      replace hbody := Aside0.mk hbody
      replace hneg := Aside0.mk hneg
      go_enter Tryd.func22, Tryd.ntmps22
      skip
      go_wp2_with fail
      go_ret2
      exact ⟨by rw [hnb.out]; rfl, Below.refl _ _⟩
    have htl : 0 < t.size := by rw [hts1.out]; omega
    have hbne : Num.body s.data.toList ≠ [] := by
      rw [← hbody]; intro e
      have h4 : t.data.toList.length = t.size := by simp
      rw [e] at h4; simp at h4; omega
    replace htl := Aside0.mk htl
    rcases rb with _ | _
    · have hnb : needF s.data.toList = (0, false) := need_none_digs _ (by rw [← hbody, ← digits_iff, hrb]; decide)
      replace hnb := Aside0.mk hnb
      replace hrb := Aside0.mk hrb
      replace hbody := Aside0.mk hbody
      replace hneg := Aside0.mk hneg
      replace hbne := Aside0.mk hbne
      go_enter Tryd.func22, Tryd.ntmps22
      skip
      go_wp2_with fail
      refine (hA.out _).mono ?_
      rintro e w1 ⟨rfl, hb⟩
      replace hb := Aside0.mk hb
      go_wp2_with fail
      go_ret2
      exact ⟨by rw [hnb.out]; rfl, hb.out⟩
    have hdg : Num.digs t.data.toList := (digits_iff _).1 hrb
    have hdg2 : Num.digs (Num.body s.data.toList) := by rw [← hbody]; exact hdg
    replace hrb := Aside0.mk hrb
    replace hbody := Aside0.mk hbody
    replace hneg := Aside0.mk hneg
    replace hbne := Aside0.mk hbne
    replace hdg := Aside0.mk hdg
    replace hdg2 := Aside0.mk hdg2
    go_enter Tryd.func22, Tryd.ntmps22
    skip
    go_wp2_with fail
    refine (hA.out _).mono ?_
    rintro e w1 ⟨rfl, hb⟩
    replace hb := Aside0.mk hb
    go_wp2_with fail
    go_loopw [5, 6, 7] (fun n i _ wr => ∃ k v : Nat, i = .int .i64 (k : Int) ∧ n = .int .i64 (-(v : Int)) ∧ k ≤ s.size - 1 ∧ v ≤ 9223372036854775808 ∧ Aside0 (v = Num.val 0 (t.data.toList.take k)) ∧ wr = w1) (fun _ i _ _ => measA (s.size - 1) i)
    case atStart => exact ⟨0, 0, rfl, rfl, Nat.zero_le _, Nat.zero_le _, ⟨rfl⟩, rfl⟩
    case round =>
      obtain ⟨k, v, rfl, rfl, hk, hv, hval, rfl⟩ := hrel
      have hv := Aside0.mk hv
      by_cases hlt : k < s.size - 1
      · have hlt2 : k < t.size := by rw [hts1.out]; exact hlt
        have hl : k < t.data.toList.length := by simpa using hlt2
        obtain ⟨c8, hc8⟩ : ∃ c8, c8 = t.data.toList[k] := ⟨_, rfl⟩
        have hcd := hdg.out c8 (by rw [hc8]; exact List.getElem_mem hl)
        unfold Num.dig at hcd
        obtain ⟨d, hd⟩ : ∃ d : Nat, c8.toNat = 48 + d := ⟨c8.toNat - 48, by omega⟩
        have e0 : (t[k]'hlt2).toNat = 48 + d := by rw [← hd, hc8]; rfl
        have e1 : ((((s.extract 1 s.size)[k]'(by simp; omega)).toNat : Int) - 48) % 256 = (d : Int) := by
          have e2 : ((s.extract 1 s.size)[k]'(by simp; omega)).toNat = 48 + d := by subst ht; exact e0
          rw [e2]; omega
        have hd9 : d ≤ 9 := by omega
        obtain ⟨q, hq⟩ : ∃ q, q = (9223372036854775808 - d) / 10 := ⟨_, rfl⟩
        have e3 : (-9223372036854775808 + (d : Int)).tdiv 10 = -(q : Int) := by
          rw [show (-9223372036854775808 + (d : Int)) = -((9223372036854775808 - d : Nat) : Int) by omega, Int.neg_tdiv, hq]
          rfl
        have e4 : wrap64 (-(q : Int)) = -(q : Int) := by unfold wrap64; omega
        have hv2 : Num.val 0 (t.data.toList.take (k + 1)) = v * 10 + d := by
          rw [List.take_succ_eq_append_getElem hl, val_snoc, ← hval.out, ← hc8, hd]
          omega
        have hbig : Num.val 0 (t.data.toList.take (k + 1)) ≤ Num.val 0 t.data.toList := by
          have := val_le_append (t.data.toList.take (k + 1)) (t.data.toList.drop (k + 1)) 0
          rwa [List.take_append_drop] at this
        replace hv2 := Aside0.mk hv2
        replace hbig := Aside0.mk hbig
        replace hd := Aside0.mk hd
        replace hc8 := Aside0.mk hc8
        replace e0 := Aside0.mk e0
        replace hq := Aside0.mk hq
        have hd9 := Aside0.mk hd9
        clear hcd
        by_cases hqv : q < v
        · have hnb : needF s.data.toList = (0, false) := need_none_big _ (by
            rw [← hbody.out]
            have h1 := hv2.out
            have h2 := hbig.out
            have h3 := hq.out
            omega)
          replace hnb := Aside0.mk hnb
          go_wp2_with fail
          go_ret2
          exact ⟨by rw [hnb.out]; rfl, hb.out⟩
        · have hnx : v * 10 + d ≤ 9223372036854775808 := by
            have h3 := hq.out
            have h4 := hd9.out
            omega
          have hwx : wrap64 (wrap64 (-(v : Int) * 10) - (d : Int)) = -((v * 10 + d : Nat) : Int) := by
            rw [show wrap64 (-(v : Int) * 10) = -(v : Int) * 10 by unfold wrap64; omega]
            unfold wrap64; omega
          replace hwx := Aside0.mk hwx
          replace hnx := Aside0.mk hnx
          have hqv2 : v ≤ q := by omega
          go_wp2_with fail
          go_roundw
          case rel => exact ⟨k + 1, v * 10 + d, by go_num, by rw [hwx.out], hlt, hnx.out, ⟨hv2.out.symm⟩, trivial⟩
          case measure => clear e1 e3 e4; simp [measA]; omega
      · have hke : k = s.size - 1 := by omega
        have hvb : v = Num.val 0 (Num.body s.data.toList) := by
          have hll : t.data.toList.length = t.size := by simp
          rw [← hbody.out, hval.out, List.take_of_length_le (by rw [hll, hke]; rw [hts1.out]; exact Nat.le_refl _)]
        have hv9 := hv.out
        by_cases hed : v = 9223372036854775808
        · have hr := need_edge s.data.toList hbne.out hdg2.out hneg.out (by rw [← hvb]; exact hed)
          have hw : wrap64 (v : Int) = -9223372036854775808 := by rw [hed]; unfold wrap64; omega
          have ht : ¬ v < 9223372036854775808 := by omega
          replace hr := Aside0.mk hr
          replace hw := Aside0.mk hw
          replace hvb := Aside0.mk hvb
          replace hed := Aside0.mk hed
          clear hke
          go_wp2_with fail
          go_ret2
          exact ⟨by rw [hr.out]; exact ret_two hw.out (decide_eq_false (by omega)), hb.out⟩
        · have hr := need_pos s.data.toList hbne.out hdg2.out hneg.out (by rw [← hvb]; omega)
          rw [← hvb] at hr
          have hw : wrap64 (v : Int) = (v : Int) := by unfold wrap64; omega
          have ht : v < 9223372036854775808 := by omega
          replace hr := Aside0.mk hr
          replace hw := Aside0.mk hw
          replace hvb := Aside0.mk hvb
          replace hed := Aside0.mk hed
          clear hke
          go_wp2_with fail
          go_ret2
          exact ⟨by rw [hr.out]; first | exact ret_two hw.out (decide_eq_true (by omega)) | exact ret_two rfl (decide_eq_true (by omega)) | exact ret_two rfl rfl, hb.out⟩
  · have b1 : ((s[0].toNat : Int) == 45) = false := by rw [h0]; exact beq_eq_false_iff_ne.mpr (by omega)
    have b2 : ((s[0].toNat : Int) == 43) = false := by rw [h0]; exact beq_eq_false_iff_ne.mpr (by omega)
    have hbody : s.data.toList = Num.body s.data.toList := by
      rw [hcr]; show c :: r = (if c.toNat = 43 ∨ c.toNat = 45 then r else c :: r); rw [if_neg (by omega)]
    have hneg : Num.neg s.data.toList = false := by rw [hcr]; exact decide_eq_false (by omega)
    have hts := HS.out
    clear h0 hcr hext
    have hts63 : s.size ≤ 9223372036854775807 := hts

    obtain ⟨rb, hrb⟩ : ∃ rb, (s.data.toList.all fun b => digitB b.toNat) = rb := ⟨_, rfl⟩
    have hA := Aside0.mk (fun W => by have := all_digit s hts W; rw [hrb] at this; exact this)
    by_cases htz : s.size = 0
    · have hnb : needF s.data.toList = (0, false) := need_none_body _ (by rw [← hbody]; exact List.eq_nil_of_length_eq_zero ((show s.data.toList.length = s.size by simp).trans (by exact htz)))
      replace hnb := Aside0.mk hnb
      replace hrb := Aside0.mk hrb
      replace hbody := Aside0.mk hbody
      replace hneg := Aside0.mk hneg
      go_enter Tryd.func22, Tryd.ntmps22
      skip
      go_wp2_with fail
      go_ret2
      exact ⟨by rw [hnb.out]; rfl, Below.refl _ _⟩
    have htl : 0 < s.size := by omega
    have hbne : Num.body s.data.toList ≠ [] := by
      rw [← hbody]; intro e
      have h4 : s.data.toList.length = s.size := by simp
      rw [e] at h4; simp at h4; omega
    replace htl := Aside0.mk htl
    rcases rb with _ | _
    · have hnb : needF s.data.toList = (0, false) := need_none_digs _ (by rw [← hbody, ← digits_iff, hrb]; decide)
      replace hnb := Aside0.mk hnb
      replace hrb := Aside0.mk hrb
      replace hbody := Aside0.mk hbody
      replace hneg := Aside0.mk hneg
      replace hbne := Aside0.mk hbne
      go_enter Tryd.func22, Tryd.ntmps22
      skip
      go_wp2_with fail
      refine (hA.out _).mono ?_
      rintro e w1 ⟨rfl, hb⟩
      replace hb := Aside0.mk hb
      go_wp2_with fail
      go_ret2
      exact ⟨by rw [hnb.out]; rfl, hb.out⟩
    have hdg : Num.digs s.data.toList := (digits_iff _).1 hrb
    have hdg2 : Num.digs (Num.body s.data.toList) := by rw [← hbody]; exact hdg
    replace hrb := Aside0.mk hrb
    replace hbody := Aside0.mk hbody
    replace hneg := Aside0.mk hneg
    replace hbne := Aside0.mk hbne
    replace hdg := Aside0.mk hdg
    replace hdg2 := Aside0.mk hdg2
    go_enter Tryd.func22, Tryd.ntmps22
    skip
    go_wp2_with fail
    refine (hA.out _).mono ?_
    rintro e w1 ⟨rfl, hb⟩
    replace hb := Aside0.mk hb
    go_wp2_with fail
    go_loopw [5, 6, 7] (fun n i _ wr => ∃ k v : Nat, i = .int .i64 (k : Int) ∧ n = .int .i64 (-(v : Int)) ∧ k ≤ s.size ∧ v ≤ 9223372036854775808 ∧ Aside0 (v = Num.val 0 (s.data.toList.take k)) ∧ wr = w1) (fun _ i _ _ => measA (s.size) i)
    case atStart => exact ⟨0, 0, rfl, rfl, Nat.zero_le _, Nat.zero_le _, ⟨rfl⟩, rfl⟩
    case round =>
      obtain ⟨k, v, rfl, rfl, hk, hv, hval, rfl⟩ := hrel
      have hv := Aside0.mk hv
      by_cases hlt : k < s.size
      · have hlt2 : k < s.size := by exact hlt
        have hl : k < s.data.toList.length := by simpa using hlt2
        obtain ⟨c8, hc8⟩ : ∃ c8, c8 = s.data.toList[k] := ⟨_, rfl⟩
        have hcd := hdg.out c8 (by rw [hc8]; exact List.getElem_mem hl)
        unfold Num.dig at hcd
        obtain ⟨d, hd⟩ : ∃ d : Nat, c8.toNat = 48 + d := ⟨c8.toNat - 48, by omega⟩
        have e0 : (s[k]'hlt2).toNat = 48 + d := by rw [← hd, hc8]; rfl
        have e1 : ((((s)[k]'(by exact hlt)).toNat : Int) - 48) % 256 = (d : Int) := by
          have e2 : ((s)[k]'(by exact hlt)).toNat = 48 + d := by exact e0
          rw [e2]; omega
        have hd9 : d ≤ 9 := by omega
        obtain ⟨q, hq⟩ : ∃ q, q = (9223372036854775808 - d) / 10 := ⟨_, rfl⟩
        have e3 : (-9223372036854775808 + (d : Int)).tdiv 10 = -(q : Int) := by
          rw [show (-9223372036854775808 + (d : Int)) = -((9223372036854775808 - d : Nat) : Int) by omega, Int.neg_tdiv, hq]
          rfl
        have e4 : wrap64 (-(q : Int)) = -(q : Int) := by unfold wrap64; omega
        have hv2 : Num.val 0 (s.data.toList.take (k + 1)) = v * 10 + d := by
          rw [List.take_succ_eq_append_getElem hl, val_snoc, ← hval.out, ← hc8, hd]
          omega
        have hbig : Num.val 0 (s.data.toList.take (k + 1)) ≤ Num.val 0 s.data.toList := by
          have := val_le_append (s.data.toList.take (k + 1)) (s.data.toList.drop (k + 1)) 0
          rwa [List.take_append_drop] at this
        replace hv2 := Aside0.mk hv2
        replace hbig := Aside0.mk hbig
        replace hd := Aside0.mk hd
        replace hc8 := Aside0.mk hc8
        replace e0 := Aside0.mk e0
        replace hq := Aside0.mk hq
        have hd9 := Aside0.mk hd9
        clear hcd
        by_cases hqv : q < v
        · have hnb : needF s.data.toList = (0, false) := need_none_big _ (by
            rw [← hbody.out]
            have h1 := hv2.out
            have h2 := hbig.out
            have h3 := hq.out
            omega)
          replace hnb := Aside0.mk hnb
          go_wp2_with fail
          go_ret2
          exact ⟨by rw [hnb.out]; rfl, hb.out⟩
        · have hnx : v * 10 + d ≤ 9223372036854775808 := by
            have h3 := hq.out
            have h4 := hd9.out
            omega
          have hwx : wrap64 (wrap64 (-(v : Int) * 10) - (d : Int)) = -((v * 10 + d : Nat) : Int) := by
            rw [show wrap64 (-(v : Int) * 10) = -(v : Int) * 10 by unfold wrap64; omega]
            unfold wrap64; omega
          replace hwx := Aside0.mk hwx
          replace hnx := Aside0.mk hnx
          have hqv2 : v ≤ q := by omega
          go_wp2_with fail
          go_roundw
          case rel => exact ⟨k + 1, v * 10 + d, by go_num, by rw [hwx.out], hlt, hnx.out, ⟨hv2.out.symm⟩, trivial⟩
          case measure => clear e1 e3 e4; simp [measA]; omega
      · have hke : k = s.size := by omega
        have hvb : v = Num.val 0 (Num.body s.data.toList) := by
          have hll : s.data.toList.length = s.size := by simp
          rw [← hbody.out, hval.out, List.take_of_length_le (by rw [hll, hke]; exact Nat.le_refl _)]
        have hv9 := hv.out
        by_cases hed : v = 9223372036854775808
        · have hr := need_edge s.data.toList hbne.out hdg2.out hneg.out (by rw [← hvb]; exact hed)
          have hw : wrap64 (v : Int) = -9223372036854775808 := by rw [hed]; unfold wrap64; omega
          have ht : ¬ v < 9223372036854775808 := by omega
          replace hr := Aside0.mk hr
          replace hw := Aside0.mk hw
          replace hvb := Aside0.mk hvb
          replace hed := Aside0.mk hed
          clear hke
          go_wp2_with fail
          go_ret2
          exact ⟨by rw [hr.out]; exact ret_two hw.out (decide_eq_false (by omega)), hb.out⟩
        · have hr := need_pos s.data.toList hbne.out hdg2.out hneg.out (by rw [← hvb]; omega)
          rw [← hvb] at hr
          have hw : wrap64 (v : Int) = (v : Int) := by unfold wrap64; omega
          have ht : v < 9223372036854775808 := by omega
          replace hr := Aside0.mk hr
          replace hw := Aside0.mk hw
          replace hvb := Aside0.mk hvb
          replace hed := Aside0.mk hed
          clear hke
          go_wp2_with fail
          go_ret2
          exact ⟨by rw [hr.out]; first | exact ret_two hw.out (decide_eq_true (by omega)) | exact ret_two rfl (decide_eq_true (by omega)) | exact ret_two rfl rfl, hb.out⟩
def spec_NeedNumber.f (_ : Nat) (a0 : ByteArray) : Option (Int × Bool) := if a0.size ≤ maxLen then some (needF a0.data.toList) else none
theorem spec_NeedNumber.mono : ∀ a0 k, LeO (spec_NeedNumber.f k a0) (spec_NeedNumber.f (k + 1) a0) := fun _ _ => LeO.refl _
theorem spec_NeedNumber.calls (k : Nat) (a0 : ByteArray) (r1 : Int) (r2 : Bool) (w : World) (h : spec_NeedNumber.f k a0 = some (r1, r2)) :
    Calls Tryd.prog 22 #[.string a0] w fun e w' => e = .returned (.tuple #[.int .i64 r1, .bool r2]) ∧ Below w.heap.size w w' := by
  unfold spec_NeedNumber.f at h
  split at h
  · rename_i hs
    have h3 := Option.some.inj h
    have := needNumber_walk a0 hs w
    rw [h3] at this
    exact this
  · cases h

/-! ### spec_NeedCount: function 12 -/
mutual
def spec_NeedCount.j0 : Nat → ByteArray → Bool → ByteArray → ByteArray → List ByteArray → Option (Bool)
  | 0, _, _, _, _, _ => none
  | k + 1, x6, x7, x126000, x126001, x126002 => if x7 = true then (some (decide ((x126002.length : Int) > 0))) else (if x6.toList = ([101, 120, 105, 115, 116, 115] : List UInt8) then (spec_NeedCount.j1 k (x6.toList == ([101, 120, 105, 115, 116, 115] : List UInt8)) x126000 x126001 x126002) else (spec_NeedCount.j1 k (x6.toList == ([33] : List UInt8)) x126000 x126001 x126002))
def spec_NeedCount.j1 : Nat → Bool → ByteArray → ByteArray → List ByteArray → Option (Bool)
  | 0, _, _, _, _ => none
  | k + 1, x14, x126000, x126001, x126002 => if x14 = true then (some ((x126002.length : Int) == 0)) else (if (x126002.length : Int) = 1 then (if 0 < (x126002.length : Int) then ((spec_NeedNumber.f k (rdOf ByteArray.empty x126002 0)).bind fun bt127 => (if bt127.2 = true then (some true) else (if x126001.toList = ([103, 116] : List UInt8) then (some false) else (some (x126001.toList != ([108, 116] : List UInt8)))))) else (none)) else (some false))
end
def spec_NeedCount.f (k : Nat) (a0_0 : ByteArray) (a0_1 : ByteArray) (l0_2 : List ByteArray) : Option (Bool) := if a0_1.toList = ([105, 110] : List UInt8) then (spec_NeedCount.j0 k a0_1 (a0_1.toList == ([105, 110] : List UInt8)) a0_0 a0_1 l0_2) else (spec_NeedCount.j0 k a0_1 (a0_1.toList == ([110, 111, 116, 105, 110] : List UInt8)) a0_0 a0_1 l0_2)
theorem spec_NeedCount.mono_l : ∀ k, (∀ y0 y1 y2 y3 y4, LeO (spec_NeedCount.j0 k y0 y1 y2 y3 y4) (spec_NeedCount.j0 (k + 1) y0 y1 y2 y3 y4)) ∧ (∀ y0 y1 y2 y3, LeO (spec_NeedCount.j1 k y0 y1 y2 y3) (spec_NeedCount.j1 (k + 1) y0 y1 y2 y3))
  | 0 => ⟨fun _ _ _ _ _ r h => by simp [spec_NeedCount.j0] at h, fun _ _ _ _ r h => by simp [spec_NeedCount.j1] at h⟩
  | k + 1 => by
    obtain ⟨ih0, ih1⟩ := spec_NeedCount.mono_l k
    refine ⟨?_, ?_⟩
    · intro y0 y1 y2 y3 y4
      unfold spec_NeedCount.j0
      repeat' first
      | (with_reducible exact ih0 _ _ _ _ _)
      | (with_reducible exact ih1 _ _ _ _)
      | (with_reducible exact spec_NeedNumber.mono _ _)
      | (with_reducible exact LeO.refl _)
      | (with_reducible exact LeO.none _)
      | (with_reducible refine LeO.ite ?_ ?_)
      | (with_reducible refine LeO.bind ?_ (fun _ => ?_))
      | exact ih0 _ _ _ _ _
      | exact ih1 _ _ _ _
      | exact spec_NeedNumber.mono _ _
      | exact LeO.none _
      | refine LeO.ite ?_ ?_
      | refine LeO.bind ?_ (fun _ => ?_)
    · intro y0 y1 y2 y3
      unfold spec_NeedCount.j1
      repeat' first
      | (with_reducible exact ih0 _ _ _ _ _)
      | (with_reducible exact ih1 _ _ _ _)
      | (with_reducible exact spec_NeedNumber.mono _ _)
      | (with_reducible exact LeO.refl _)
      | (with_reducible exact LeO.none _)
      | (with_reducible refine LeO.ite ?_ ?_)
      | (with_reducible refine LeO.bind ?_ (fun _ => ?_))
      | exact ih0 _ _ _ _ _
      | exact ih1 _ _ _ _
      | exact spec_NeedNumber.mono _ _
      | exact LeO.none _
      | refine LeO.ite ?_ ?_
      | refine LeO.bind ?_ (fun _ => ?_)
theorem spec_NeedCount.mono : ∀ a0 a1 a2 k, LeO (spec_NeedCount.f k a0 a1 a2) (spec_NeedCount.f (k + 1) a0 a1 a2) := by
  intro a0 a1 a2 k
  obtain ⟨ih0, ih1⟩ := spec_NeedCount.mono_l k
  unfold spec_NeedCount.f
  repeat' first
      | (with_reducible exact ih0 _ _ _ _ _)
      | (with_reducible exact ih1 _ _ _ _)
      | (with_reducible exact spec_NeedNumber.mono _ _)
      | (with_reducible exact LeO.refl _)
      | (with_reducible exact LeO.none _)
      | (with_reducible refine LeO.ite ?_ ?_)
      | (with_reducible refine LeO.bind ?_ (fun _ => ?_))
      | exact ih0 _ _ _ _ _
      | exact ih1 _ _ _ _
      | exact spec_NeedNumber.mono _ _
      | exact LeO.none _
      | refine LeO.ite ?_ ?_
      | refine LeO.bind ?_ (fun _ => ?_)
set_option maxHeartbeats 8000000 in
set_option maxRecDepth 100000 in
theorem spec_NeedCount.calls (k : Nat) (a0_0 : ByteArray) (a0_1 : ByteArray) (A0_2 : Option Addr) (c0_2 : Nat) (l0_2 : List ByteArray) (r : Bool) (w : World) (hr0_2 : Kd.C Kd.string w A0_2 l0_2.length l0_2) (hc0_2 : l0_2.length ≤ c0_2) (h : spec_NeedCount.f k a0_0 a0_1 l0_2 = some r) :
    Calls Tryd.prog 12 #[.agg #[.string a0_0, .string a0_1, .slice A0_2 l0_2.length c0_2]] w fun e w' => e = .returned (.bool r) ∧ Below w.heap.size w w' := by
  have hu29 := Tryd.underlying29
  have HR0_2 := Aside0.mk hr0_2
  have HC0_2 := Aside0.mk hc0_2
  clear hr0_2 hc0_2
  have HB := Aside0.mk (Below.refl w.heap.size w)
  have H : (if a0_1.toList = ([105, 110] : List UInt8) then (spec_NeedCount.j0 k a0_1 (a0_1.toList == ([105, 110] : List UInt8)) a0_0 a0_1 l0_2) else (spec_NeedCount.j0 k a0_1 (a0_1.toList == ([110, 111, 116, 105, 110] : List UInt8)) a0_0 a0_1 l0_2)) = some r := h
  clear h
  have HC2 := Aside0.mk H
  clear H
  go_enter Tryd.func12, Tryd.ntmps12
  go_upto_if 7 with (first | ((with_reducible refine gate_dst (N := 1) rfl ?_); refine box_event ?hg (N := 1) ?hd (cs := #[.string a0_0, .string a0_1, .slice A0_2 l0_2.length c0_2]) (t := 29) ?hr ?_; (case hd => rfl); (case hg => rfl); (case hr => first | (go_simp; done) | (go_simp; rfl)); intro gb125 hg w3 hbox hb; have n0_ := Aside0.mk (below_step (by repeat (first | (with_reducible first | exact HB.out | apply below_alloc | apply pw_below_drewN | apply below_drew1) | exact HB.out)) hb); have n1_ := Aside0.mk (hbox); have n2_ := Aside0.mk ((by rw [hg]; exact (below_size (by repeat (first | (with_reducible first | exact HB.out | apply below_alloc | apply pw_below_drewN | apply below_drew1) | exact HB.out))) : w.heap.size ≤ gb125)); have n3_ := Aside0.mk ((by rw [hg]; exact (below_size (by repeat (first | (with_reducible first | exact HB.out | apply below_alloc | apply pw_below_drewN | apply below_drew1) | exact HB.out))) : w.heap.size ≤ gb125)); clear HB; have HB := n0_; have BK125 := n1_; have GW125 := n2_; have GE125 := n3_; clear n0_ n1_ n2_ n3_; clear hb hbox hg; have hcz4_0 : w3.cell? ⟨gb125, 0, none⟩ = some (.string a0_0) := (blk_cell BK125.out 0).trans rfl; have hcz4_1 : w3.cell? ⟨gb125, 1, none⟩ = some (.string a0_1) := (blk_cell BK125.out 1).trans rfl; have hcz4_2 : w3.cell? ⟨gb125, 2, none⟩ = some (.slice A0_2 l0_2.length c0_2) := (blk_cell BK125.out 2).trans rfl; have hfz4_0 := blk_frozen BK125.out 0; have hfz4_1 := blk_frozen BK125.out 1; have hfz4_2 := blk_frozen BK125.out 2))
  (try simp only [Act.put, List.setIfInBounds_toArray, List.set_cons_zero, List.set_cons_succ])
  go_cut [7] (fun v7 wc => ∃ (kq : Nat) (x7_1 : Bool), v7 = .bool x7_1 ∧ Aside0 (spec_NeedCount.j0 kq a0_1 x7_1 a0_0 a0_1 l0_2 = some r) ∧ Aside0 (kq ≤ k) ∧ Aside0 (wc.heap[gb125]? = some (.cells #[.string a0_0, .string a0_1, (.slice A0_2 l0_2.length c0_2)] 29 (0, 0))) ∧ Aside0 (Below w.heap.size w wc))
  case first =>
    have H := HC2.out
    clear HC2
    by_cases c5 : a0_1.toList = ([105, 110] : List UInt8)
    · rw [if_pos c5] at H
      have c5b0 : (a0_1.toList == ([105, 110] : List UInt8)) = true := beq_iff_eq.mpr c5
      have c5b1 : (a0_1.toList != ([105, 110] : List UInt8)) = false := bne_eq_false_iff_eq.mpr c5
      clear c5
      (first | rw [c5b0] | (simp only [i64_w, i32_w]; rw [c5b0]) | skip)
      have H' := Aside0.mk H
      clear H
      go_wp2
      go_meet
      case rel => exact ⟨_, ((a0_1.toList == ([105, 110] : List UInt8))), (by first | rfl | (simp; done) | (simp [*]; done)), H', ⟨by first | omega | exact Nat.le_refl _⟩, ⟨by (with_reducible repeat (first | refine blk_drewN ?_ _ | refine blk_drew ?_ | refine blk_alloc ?_ _)); exact BK125.out⟩, ⟨by repeat (first | (with_reducible first | exact HB.out | apply below_alloc | apply pw_below_drewN | apply below_drew1 | refine below_set ?_ GE125.out) | exact HB.out)⟩⟩
    · rw [if_neg c5] at H
      have c5b0 : (a0_1.toList == ([105, 110] : List UInt8)) = false := beq_eq_false_iff_ne.mpr c5
      have c5b1 : (a0_1.toList != ([105, 110] : List UInt8)) = true := bne_iff_ne.mpr c5
      (first | rw [c5b0] | (simp only [i64_w, i32_w]; rw [c5b0]) | skip)
      have H' := Aside0.mk H
      clear H
      go_wp2
      go_meet
      case rel => exact ⟨_, ((a0_1.toList == ([110, 111, 116, 105, 110] : List UInt8))), (by first | rfl | (simp; done) | (simp [*]; done)), H', ⟨by first | omega | exact Nat.le_refl _⟩, ⟨by (with_reducible repeat (first | refine blk_drewN ?_ _ | refine blk_drew ?_ | refine blk_alloc ?_ _)); exact BK125.out⟩, ⟨by repeat (first | (with_reducible first | exact HB.out | apply below_alloc | apply pw_below_drewN | apply below_drew1 | refine below_set ?_ GE125.out) | exact HB.out)⟩⟩
  case rest =>
    clear HC2
    try clear c1
    try clear p2
    try clear c5
    try clear c5b0
    try clear c5b1
    try clear hcz4_0
    try clear hcz4_1
    try clear hcz4_2
    try clear hfz4_0
    try clear hfz4_1
    try clear hfz4_2
    obtain ⟨kq, x7_1, rfl, HA, HJ1, BK125, HB⟩ := hcut
    cases kq with
    | zero => exact absurd HA.out (by simp [spec_NeedCount.j0])
    | succ kj1 =>
      have H := HA.out
      clear HA
      simp only [spec_NeedCount.j0] at H
      by_cases c6 : x7_1 = true
      · subst c6
        have H1 : (some (decide ((l0_2.length : Int) > 0))) = some r := by rw [if_pos rfl] at H; exact H
        clear H
        have H := H1
        clear H1
        obtain rfl := Option.some.inj H
        have hcz7_0 : wc.cell? ⟨gb125, 0, none⟩ = some (.string a0_0) := (blk_cell BK125.out 0).trans rfl
        have hcz7_1 : wc.cell? ⟨gb125, 1, none⟩ = some (.string a0_1) := (blk_cell BK125.out 1).trans rfl
        have hcz7_2 : wc.cell? ⟨gb125, 2, none⟩ = some (.slice A0_2 l0_2.length c0_2) := (blk_cell BK125.out 2).trans rfl
        have hfz7_0 := blk_frozen BK125.out 0
        have hfz7_1 := blk_frozen BK125.out 1
        have hfz7_2 := blk_frozen BK125.out 2
        go_wp2
        go_ret
        exact ⟨by first | rfl | (simp [errW_none, errW_some] <;> rfl) | (simp [*, errW_none, errW_some] <;> rfl), by repeat (first | (with_reducible first | exact HB.out | apply below_alloc | apply pw_below_drewN | apply below_drew1 | refine below_set ?_ GE125.out) | exact HB.out)⟩
      · replace c6 := Bool.eq_false_iff.mpr c6
        subst c6
        have H1 : (if a0_1.toList = ([101, 120, 105, 115, 116, 115] : List UInt8) then (spec_NeedCount.j1 kj1 (a0_1.toList == ([101, 120, 105, 115, 116, 115] : List UInt8)) a0_0 a0_1 l0_2) else (spec_NeedCount.j1 kj1 (a0_1.toList == ([33] : List UInt8)) a0_0 a0_1 l0_2)) = some r := by rw [if_neg (show ¬ (false = true) by decide)] at H; exact H
        clear H
        have H := H1
        clear H1
        have HC8 := Aside0.mk H
        clear H
        go_upto_if 14 with (fail)
        go_cut [14] (fun v14 wc => ∃ (kq : Nat) (x14_7 : Bool), v14 = .bool x14_7 ∧ Aside0 (spec_NeedCount.j1 kq x14_7 a0_0 a0_1 l0_2 = some r) ∧ Aside0 (kq ≤ kj1) ∧ Aside0 (wc.heap[gb125]? = some (.cells #[.string a0_0, .string a0_1, (.slice A0_2 l0_2.length c0_2)] 29 (0, 0))) ∧ Aside0 (Below w.heap.size w wc))
        case first =>
          have H := HC8.out
          clear HC8
          by_cases c9 : a0_1.toList = ([101, 120, 105, 115, 116, 115] : List UInt8)
          · rw [if_pos c9] at H
            have c9b0 : (a0_1.toList == ([101, 120, 105, 115, 116, 115] : List UInt8)) = true := beq_iff_eq.mpr c9
            have c9b1 : (a0_1.toList != ([101, 120, 105, 115, 116, 115] : List UInt8)) = false := bne_eq_false_iff_eq.mpr c9
            clear c9
            (first | rw [c9b0] | (simp only [i64_w, i32_w]; rw [c9b0]) | skip)
            have H' := Aside0.mk H
            clear H
            go_wp2
            go_meet
            case rel => exact ⟨_, ((a0_1.toList == ([101, 120, 105, 115, 116, 115] : List UInt8))), (by first | rfl | (simp; done) | (simp [*]; done)), H', ⟨by have := HJ1.out; first | omega | exact Nat.le_refl _⟩, ⟨by (with_reducible repeat (first | refine blk_drewN ?_ _ | refine blk_drew ?_ | refine blk_alloc ?_ _)); exact BK125.out⟩, ⟨by repeat (first | (with_reducible first | exact HB.out | apply below_alloc | apply pw_below_drewN | apply below_drew1 | refine below_set ?_ GE125.out) | exact HB.out)⟩⟩
          · rw [if_neg c9] at H
            have c9b0 : (a0_1.toList == ([101, 120, 105, 115, 116, 115] : List UInt8)) = false := beq_eq_false_iff_ne.mpr c9
            have c9b1 : (a0_1.toList != ([101, 120, 105, 115, 116, 115] : List UInt8)) = true := bne_iff_ne.mpr c9
            (first | rw [c9b0] | (simp only [i64_w, i32_w]; rw [c9b0]) | skip)
            have H' := Aside0.mk H
            clear H
            go_wp2
            go_meet
            case rel => exact ⟨_, ((a0_1.toList == ([33] : List UInt8))), (by first | rfl | (simp; done) | (simp [*]; done)), H', ⟨by have := HJ1.out; first | omega | exact Nat.le_refl _⟩, ⟨by (with_reducible repeat (first | refine blk_drewN ?_ _ | refine blk_drew ?_ | refine blk_alloc ?_ _)); exact BK125.out⟩, ⟨by repeat (first | (with_reducible first | exact HB.out | apply below_alloc | apply pw_below_drewN | apply below_drew1 | refine below_set ?_ GE125.out) | exact HB.out)⟩⟩
        case rest =>
          clear HC8
          try clear c1
          try clear p2
          try clear c5
          try clear c5b0
          try clear c5b1
          try clear c6
          try clear c9
          try clear c9b0
          try clear c9b1
          try clear hcz4_0
          try clear hcz4_1
          try clear hcz4_2
          try clear hcz7_0
          try clear hcz7_1
          try clear hcz7_2
          try clear hfz4_0
          try clear hfz4_1
          try clear hfz4_2
          try clear hfz7_0
          try clear hfz7_1
          try clear hfz7_2
          try clear p2
          obtain ⟨kq, x14_7, rfl, HA, HJ7, BK125, HB⟩ := hcut
          cases kq with
          | zero => exact absurd HA.out (by simp [spec_NeedCount.j1])
          | succ kj7 =>
            have H := HA.out
            clear HA
            simp only [spec_NeedCount.j1] at H
            by_cases c10 : x14_7 = true
            · subst c10
              have H1 : (some ((l0_2.length : Int) == 0)) = some r := by rw [if_pos rfl] at H; exact H
              clear H
              have H := H1
              clear H1
              obtain rfl := Option.some.inj H
              have hcz11_0 : wc.cell? ⟨gb125, 0, none⟩ = some (.string a0_0) := (blk_cell BK125.out 0).trans rfl
              have hcz11_1 : wc.cell? ⟨gb125, 1, none⟩ = some (.string a0_1) := (blk_cell BK125.out 1).trans rfl
              have hcz11_2 : wc.cell? ⟨gb125, 2, none⟩ = some (.slice A0_2 l0_2.length c0_2) := (blk_cell BK125.out 2).trans rfl
              have hfz11_0 := blk_frozen BK125.out 0
              have hfz11_1 := blk_frozen BK125.out 1
              have hfz11_2 := blk_frozen BK125.out 2
              go_wp2
              go_ret
              exact ⟨by first | rfl | (simp [errW_none, errW_some] <;> rfl) | (simp [*, errW_none, errW_some] <;> rfl), by repeat (first | (with_reducible first | exact HB.out | apply below_alloc | apply pw_below_drewN | apply below_drew1 | refine below_set ?_ GE125.out) | exact HB.out)⟩
            · replace c10 := Bool.eq_false_iff.mpr c10
              subst c10
              have H1 : (if (l0_2.length : Int) = 1 then (if 0 < (l0_2.length : Int) then ((spec_NeedNumber.f kj7 (rdOf ByteArray.empty l0_2 0)).bind fun bt127 => (if bt127.2 = true then (some true) else (if a0_1.toList = ([103, 116] : List UInt8) then (some false) else (some (a0_1.toList != ([108, 116] : List UInt8)))))) else (none)) else (some false)) = some r := by rw [if_neg (show ¬ (false = true) by decide)] at H; exact H
              clear H
              have H := H1
              clear H1
              by_cases c12 : (l0_2.length : Int) = 1
              · rw [if_pos c12] at H
                have c12b0 : ((l0_2.length : Int) == 1) = true := beq_iff_eq.mpr c12
                have c12b1 : ((l0_2.length : Int) != 1) = false := bne_eq_false_iff_eq.mpr c12
                clear c12
                by_cases c13 : 0 < (l0_2.length : Int)
                · rw [if_pos c13] at H
                  have c13b0 : decide (0 < (l0_2.length : Int)) = true := decide_eq_true c13
                  have c13b1 : decide (0 < l0_2.length) = true := decide_eq_true (by omega)
                  clear c13
                  replace H := Option.bind_eq_some_iff.mp H
                  obtain ⟨⟨t127, t128⟩, A140, H⟩ := H
                  replace H : (if t128 = true then (some true) else (if a0_1.toList = ([103, 116] : List UInt8) then (some false) else (some (a0_1.toList != ([108, 116] : List UInt8))))) = some r := H
                  have A14 := Aside0.mk A140
                  clear A140
                  by_cases c15 : t128 = true
                  · subst c15
                    have H1 : (some true) = some r := by rw [if_pos rfl] at H; exact H
                    clear H
                    have H := H1
                    clear H1
                    obtain rfl := Option.some.inj H
                    have hcz16_0 : wc.cell? ⟨gb125, 0, none⟩ = some (.string a0_0) := (blk_cell BK125.out 0).trans rfl
                    have hcz16_1 : wc.cell? ⟨gb125, 1, none⟩ = some (.string a0_1) := (blk_cell BK125.out 1).trans rfl
                    have hcz16_2 : wc.cell? ⟨gb125, 2, none⟩ = some (.slice A0_2 l0_2.length c0_2) := (blk_cell BK125.out 2).trans rfl
                    have hfz16_0 := blk_frozen BK125.out 0
                    have hfz16_1 := blk_frozen BK125.out 1
                    have hfz16_2 := blk_frozen BK125.out 2
                    have p126 : 0 ≤ (0 : Int) := (by omega)
                    have q126 : 0 < (l0_2.length : Int) := of_decide_eq_true (by first | (with_reducible assumption) | assumption)
                    obtain ⟨ad126, e126, hx126_0⟩ := Kd.at_string HR0_2.out 0 p126 q126
                    cases e126
                    have qi126 : (0 < l0_2.length) = True := eq_true (by omega)
                    (try rw [show ((0 : Int)).toNat = 0 from rfl] at hx126_0)
                    (try rw [Addr.add_zero'] at hx126_0)
                    replace hx126_0 := (HB.out.cell (World.block_lt_of_cell? w _ hx126_0)).trans hx126_0
                    replace p126 := eq_true p126
                    replace q126 := eq_true q126
                    go_wp2_with (first | ((with_reducible refine gate_callee (f := 22) rfl ?_); refine goesL_ (some 30) rfl rfl Tryd.func22 (by kernel_rfl) rfl #[.string (rdOf ByteArray.empty l0_2 0)] rfl (by (try simp only [List.map_toArray, List.map_cons, List.map_nil]); first | done | rfl | (simp only [List.length_drop, List.length_take]; rfl)) ?_; (with_reducible refine (spec_NeedNumber.calls kj7 (rdOf ByteArray.empty l0_2 0) t127 true _ A14.out).mono ?_); rintro e w17 ⟨rfl, hb⟩; refine ⟨_, rfl, ?_⟩; have n0_ := Aside0.mk (blk_below (g := gb125) (o := .cells #[.string a0_0, .string a0_1, .slice (some ad126) l0_2.length c0_2] 29 (0, 0)) (by (with_reducible repeat (first | refine blk_drewN ?_ _ | refine blk_drew ?_ | refine blk_alloc ?_ _)); exact BK125.out) hb); have n1_ := Aside0.mk (below_step (by repeat (first | (with_reducible first | exact HB.out | apply below_alloc | apply pw_below_drewN | apply below_drew1 | refine below_set ?_ GE125.out) | exact HB.out)) hb); clear BK125; clear HB; have BK125 := n0_; have HB := n1_; clear n0_ n1_; (try clear hb); (try clear hb2); (try clear hk); (try clear hi)))
                    go_ret
                    exact ⟨by first | rfl | (simp [errW_none, errW_some] <;> rfl) | (simp [*, errW_none, errW_some] <;> rfl), by repeat (first | (with_reducible first | exact HB.out | apply below_alloc | apply pw_below_drewN | apply below_drew1 | refine below_set ?_ GE125.out) | exact HB.out)⟩
                  · replace c15 := Bool.eq_false_iff.mpr c15
                    subst c15
                    have H1 : (if a0_1.toList = ([103, 116] : List UInt8) then (some false) else (some (a0_1.toList != ([108, 116] : List UInt8)))) = some r := by rw [if_neg (show ¬ (false = true) by decide)] at H; exact H
                    clear H
                    have H := H1
                    clear H1
                    by_cases c18 : a0_1.toList = ([103, 116] : List UInt8)
                    · rw [if_pos c18] at H
                      have c18b0 : (a0_1.toList == ([103, 116] : List UInt8)) = true := beq_iff_eq.mpr c18
                      have c18b1 : (a0_1.toList != ([103, 116] : List UInt8)) = false := bne_eq_false_iff_eq.mpr c18
                      clear c18
                      obtain rfl := Option.some.inj H
                      have hcz19_0 : wc.cell? ⟨gb125, 0, none⟩ = some (.string a0_0) := (blk_cell BK125.out 0).trans rfl
                      have hcz19_1 : wc.cell? ⟨gb125, 1, none⟩ = some (.string a0_1) := (blk_cell BK125.out 1).trans rfl
                      have hcz19_2 : wc.cell? ⟨gb125, 2, none⟩ = some (.slice A0_2 l0_2.length c0_2) := (blk_cell BK125.out 2).trans rfl
                      have hfz19_0 := blk_frozen BK125.out 0
                      have hfz19_1 := blk_frozen BK125.out 1
                      have hfz19_2 := blk_frozen BK125.out 2
                      have p126 : 0 ≤ (0 : Int) := (by omega)
                      have q126 : 0 < (l0_2.length : Int) := of_decide_eq_true (by first | (with_reducible assumption) | assumption)
                      obtain ⟨ad126, e126, hx126_0⟩ := Kd.at_string HR0_2.out 0 p126 q126
                      cases e126
                      have qi126 : (0 < l0_2.length) = True := eq_true (by omega)
                      (try rw [show ((0 : Int)).toNat = 0 from rfl] at hx126_0)
                      (try rw [Addr.add_zero'] at hx126_0)
                      replace hx126_0 := (HB.out.cell (World.block_lt_of_cell? w _ hx126_0)).trans hx126_0
                      replace p126 := eq_true p126
                      replace q126 := eq_true q126
                      go_wp2_with (first | ((with_reducible refine gate_callee (f := 22) rfl ?_); refine goesL_ (some 30) rfl rfl Tryd.func22 (by kernel_rfl) rfl #[.string (rdOf ByteArray.empty l0_2 0)] rfl (by (try simp only [List.map_toArray, List.map_cons, List.map_nil]); first | done | rfl | (simp only [List.length_drop, List.length_take]; rfl)) ?_; (with_reducible refine (spec_NeedNumber.calls kj7 (rdOf ByteArray.empty l0_2 0) t127 false _ A14.out).mono ?_); rintro e w20 ⟨rfl, hb⟩; refine ⟨_, rfl, ?_⟩; have n0_ := Aside0.mk (blk_below (g := gb125) (o := .cells #[.string a0_0, .string a0_1, .slice (some ad126) l0_2.length c0_2] 29 (0, 0)) (by (with_reducible repeat (first | refine blk_drewN ?_ _ | refine blk_drew ?_ | refine blk_alloc ?_ _)); exact BK125.out) hb); have n1_ := Aside0.mk (below_step (by repeat (first | (with_reducible first | exact HB.out | apply below_alloc | apply pw_below_drewN | apply below_drew1 | refine below_set ?_ GE125.out) | exact HB.out)) hb); clear BK125; clear HB; have BK125 := n0_; have HB := n1_; clear n0_ n1_; (try clear hb); (try clear hb2); (try clear hk); (try clear hi); have hcz21_0 : w20.cell? ⟨gb125, 0, none⟩ = some (.string a0_0) := (blk_cell BK125.out 0).trans rfl; have hcz21_1 : w20.cell? ⟨gb125, 1, none⟩ = some (.string a0_1) := (blk_cell BK125.out 1).trans rfl; have hcz21_2 : w20.cell? ⟨gb125, 2, none⟩ = some (.slice (some ad126) l0_2.length c0_2) := (blk_cell BK125.out 2).trans rfl; have hfz21_0 := blk_frozen BK125.out 0; have hfz21_1 := blk_frozen BK125.out 1; have hfz21_2 := blk_frozen BK125.out 2))
                      go_ret
                      exact ⟨by first | rfl | (simp [errW_none, errW_some] <;> rfl) | (simp [*, errW_none, errW_some] <;> rfl), by repeat (first | (with_reducible first | exact HB.out | apply below_alloc | apply pw_below_drewN | apply below_drew1 | refine below_set ?_ GE125.out) | exact HB.out)⟩
                    · rw [if_neg c18] at H
                      have c18b0 : (a0_1.toList == ([103, 116] : List UInt8)) = false := beq_eq_false_iff_ne.mpr c18
                      have c18b1 : (a0_1.toList != ([103, 116] : List UInt8)) = true := bne_iff_ne.mpr c18
                      obtain rfl := Option.some.inj H
                      have hcz22_0 : wc.cell? ⟨gb125, 0, none⟩ = some (.string a0_0) := (blk_cell BK125.out 0).trans rfl
                      have hcz22_1 : wc.cell? ⟨gb125, 1, none⟩ = some (.string a0_1) := (blk_cell BK125.out 1).trans rfl
                      have hcz22_2 : wc.cell? ⟨gb125, 2, none⟩ = some (.slice A0_2 l0_2.length c0_2) := (blk_cell BK125.out 2).trans rfl
                      have hfz22_0 := blk_frozen BK125.out 0
                      have hfz22_1 := blk_frozen BK125.out 1
                      have hfz22_2 := blk_frozen BK125.out 2
                      have p126 : 0 ≤ (0 : Int) := (by omega)
                      have q126 : 0 < (l0_2.length : Int) := of_decide_eq_true (by first | (with_reducible assumption) | assumption)
                      obtain ⟨ad126, e126, hx126_0⟩ := Kd.at_string HR0_2.out 0 p126 q126
                      cases e126
                      have qi126 : (0 < l0_2.length) = True := eq_true (by omega)
                      (try rw [show ((0 : Int)).toNat = 0 from rfl] at hx126_0)
                      (try rw [Addr.add_zero'] at hx126_0)
                      replace hx126_0 := (HB.out.cell (World.block_lt_of_cell? w _ hx126_0)).trans hx126_0
                      replace p126 := eq_true p126
                      replace q126 := eq_true q126
                      go_wp2_with (first | ((with_reducible refine gate_callee (f := 22) rfl ?_); refine goesL_ (some 30) rfl rfl Tryd.func22 (by kernel_rfl) rfl #[.string (rdOf ByteArray.empty l0_2 0)] rfl (by (try simp only [List.map_toArray, List.map_cons, List.map_nil]); first | done | rfl | (simp only [List.length_drop, List.length_take]; rfl)) ?_; (with_reducible refine (spec_NeedNumber.calls kj7 (rdOf ByteArray.empty l0_2 0) t127 false _ A14.out).mono ?_); rintro e w23 ⟨rfl, hb⟩; refine ⟨_, rfl, ?_⟩; have n0_ := Aside0.mk (blk_below (g := gb125) (o := .cells #[.string a0_0, .string a0_1, .slice (some ad126) l0_2.length c0_2] 29 (0, 0)) (by (with_reducible repeat (first | refine blk_drewN ?_ _ | refine blk_drew ?_ | refine blk_alloc ?_ _)); exact BK125.out) hb); have n1_ := Aside0.mk (below_step (by repeat (first | (with_reducible first | exact HB.out | apply below_alloc | apply pw_below_drewN | apply below_drew1 | refine below_set ?_ GE125.out) | exact HB.out)) hb); clear BK125; clear HB; have BK125 := n0_; have HB := n1_; clear n0_ n1_; (try clear hb); (try clear hb2); (try clear hk); (try clear hi); have hcz24_0 : w23.cell? ⟨gb125, 0, none⟩ = some (.string a0_0) := (blk_cell BK125.out 0).trans rfl; have hcz24_1 : w23.cell? ⟨gb125, 1, none⟩ = some (.string a0_1) := (blk_cell BK125.out 1).trans rfl; have hcz24_2 : w23.cell? ⟨gb125, 2, none⟩ = some (.slice (some ad126) l0_2.length c0_2) := (blk_cell BK125.out 2).trans rfl; have hfz24_0 := blk_frozen BK125.out 0; have hfz24_1 := blk_frozen BK125.out 1; have hfz24_2 := blk_frozen BK125.out 2))
                      go_ret
                      exact ⟨by first | rfl | (simp [errW_none, errW_some] <;> rfl) | (simp [*, errW_none, errW_some] <;> rfl), by repeat (first | (with_reducible first | exact HB.out | apply below_alloc | apply pw_below_drewN | apply below_drew1 | refine below_set ?_ GE125.out) | exact HB.out)⟩
                · rw [if_neg c13] at H
                  exact absurd H (by simp)
              · rw [if_neg c12] at H
                have c12b0 : ((l0_2.length : Int) == 1) = false := beq_eq_false_iff_ne.mpr c12
                have c12b1 : ((l0_2.length : Int) != 1) = true := bne_iff_ne.mpr c12
                obtain rfl := Option.some.inj H
                have hcz25_0 : wc.cell? ⟨gb125, 0, none⟩ = some (.string a0_0) := (blk_cell BK125.out 0).trans rfl
                have hcz25_1 : wc.cell? ⟨gb125, 1, none⟩ = some (.string a0_1) := (blk_cell BK125.out 1).trans rfl
                have hcz25_2 : wc.cell? ⟨gb125, 2, none⟩ = some (.slice A0_2 l0_2.length c0_2) := (blk_cell BK125.out 2).trans rfl
                have hfz25_0 := blk_frozen BK125.out 0
                have hfz25_1 := blk_frozen BK125.out 1
                have hfz25_2 := blk_frozen BK125.out 2
                go_wp2
                go_ret
                exact ⟨by first | rfl | (simp [errW_none, errW_some] <;> rfl) | (simp [*, errW_none, errW_some] <;> rfl), by repeat (first | (with_reducible first | exact HB.out | apply below_alloc | apply pw_below_drewN | apply below_drew1 | refine below_set ?_ GE125.out) | exact HB.out)⟩

end Go.Proofs.YtjlmhfciidfjiaaDoor.XFnNeedNot
