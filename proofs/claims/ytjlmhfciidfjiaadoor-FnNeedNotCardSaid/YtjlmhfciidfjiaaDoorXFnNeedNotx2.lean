/- A text of this session: the functions of the law FnNeedNot, by a program that calls the kit's print and lays this session's own contracts of single functions beside. -/
import Derived.Test.YtjlmhfciidfjiaaDoorXFnNeedNotx0
import Derived.Test.YtjlmhfciidfjiaaDoorXFnNeedNotx1
namespace Go.Proofs.YtjlmhfciidfjiaaDoor.XFnNeedNot
open Go.RowKit Go.Proofs.YtjlmhfciidfjiaaDoorW.PrintWords Go.Proofs.YtjlmhfciidfjiaaDoorW.PrintLast Go.Proofs.YtjlmhfciidfjiaaDoorW.PrintMore
attribute [local go_sem] max2_int min2_int max_two min_two max_three min_three max_four min_four   -- for this text's walks alone
set_option linter.unusedVariables false
set_option linter.unusedSimpArgs false

/-! ### spec_NameValue: function 11 -/
/-- Letters, digits, signs, by their bytes. -/
def lowB (c : Nat) : Bool := decide (97 ≤ c) && decide (c ≤ 122)
def digitB (c : Nat) : Bool := decide (48 ≤ c) && decide (c ≤ 57)
def highB (c : Nat) : Bool := decide (65 ≤ c) && decide (c ≤ 90)
def smallB (c : Nat) : Bool := lowB c || digitB c
def plainB (c : Nat) : Bool := smallB c || highB c
def wordB (c : Nat) : Bool := plainB c || decide (c = 45) || decide (c = 95) || decide (c = 46)
def domB (c : Nat) : Bool := smallB c || decide (c = 45)
theorem low_f (c : Nat) : spec_low.f (c : Int) = some (lowB c) := by
  unfold spec_low.f lowB
  by_cases h : 97 ≤ c
  · rw [if_pos (by omega)]; simp [h] <;> omega
  · rw [if_neg (by omega)]; simp [h]
theorem digit_f (c : Nat) : spec_digit.f (c : Int) = some (digitB c) := by
  unfold spec_digit.f digitB
  by_cases h : 48 ≤ c
  · rw [if_pos (by omega)]; simp [h]; omega
  · rw [if_neg (by omega)]; simp [h]
theorem high_f (c : Nat) : spec_high.f (c : Int) = some (highB c) := by
  unfold spec_high.f highB
  by_cases h : 65 ≤ c
  · rw [if_pos (by omega)]; simp [h]; omega
  · rw [if_neg (by omega)]; simp [h]
theorem small_f (c : Nat) : spec_small.f (c : Int) = some (smallB c) := by
  unfold spec_small.f smallB
  rw [low_f, digit_f]
  cases lowB c <;> simp
theorem plain_f (c : Nat) : spec_plain.f (c : Int) = some (plainB c) := by
  unfold spec_plain.f plainB
  rw [small_f, high_f]
  cases smallB c <;> simp
theorem word_f (c : Nat) : spec_word.f (c : Int) = some (wordB c) := by
  unfold spec_word.f wordB
  rw [plain_f]
  cases plainB c
  · by_cases h1 : c = 45
    · subst h1; rfl
    · by_cases h2 : c = 95
      · subst h2; rfl
      · simp only [Option.bind_some, Bool.false_eq_true, if_false]
        rw [if_neg (by omega), if_neg (by omega)]
        simp [h1, h2]
        by_cases h3 : c = 46
        · subst h3; rfl
        · rw [decide_eq_false h3]; simp; omega
  · simp
theorem small_c (c : Nat) (b : Bool) (h : smallB c = b) (w : World) : Calls Tryd.prog 27 #[.int .u8 (c : Int)] w fun e w' => e = .returned (.bool b) ∧ Below w.heap.size w w' := (spec_small.calls (c : Int) b w (by rw [small_f, h])).mono (fun _ _ hd => ⟨hd.1, hd.2.below⟩)
theorem plain_c (c : Nat) (b : Bool) (h : plainB c = b) (w : World) : Calls Tryd.prog 20 #[.int .u8 (c : Int)] w fun e w' => e = .returned (.bool b) ∧ Below w.heap.size w w' := (spec_plain.calls (c : Int) b w (by rw [plain_f, h])).mono (fun _ _ hd => ⟨hd.1, hd.2.below⟩)
theorem word_c (c : Nat) (b : Bool) (h : wordB c = b) (w : World) : Calls Tryd.prog 21 #[.int .u8 (c : Int)] w fun e w' => e = .returned (.bool b) ∧ Below w.heap.size w w' := (spec_word.calls (c : Int) b w (by rw [word_f, h])).mono (fun _ _ hd => ⟨hd.1, hd.2.below⟩)
theorem digit_c (c : Nat) (b : Bool) (h : digitB c = b) (w : World) : Calls Tryd.prog 31 #[.int .u8 (c : Int)] w fun e w' => e = .returned (.bool b) ∧ Below w.heap.size w w' := (spec_digit.calls (c : Int) b w (by rw [digit_f, h])).mono (fun _ _ hd => ⟨hd.1, hd.2.below⟩)
theorem dom_c (c : Nat) (b : Bool) (h : domB c = b) (w : World) : Calls Tryd.prog 28 #[.int .u8 (c : Int)] w fun e w' => e = .returned (.bool b) ∧ Below w.heap.size w w' := by
  rcases hs : smallB c with _ | _
  · have hd : ((c : Int) == 45) = b := by
      rw [← h]; unfold domB; rw [hs]
      by_cases e : c = 45
      · subst e; rfl
      · simp [e]; omega
    replace h := Aside0.mk h
    replace hs := Aside0.mk hs
    go_enter Tryd.func28, Tryd.ntmps28
    go_wp2_with (go_at_call 27; refine (small_c c false hs.out _).mono ?_; rintro e w1 ⟨rfl, hb⟩; replace hb := Aside0.mk hb)
    go_ret
    exact ⟨rfl, hb.out⟩
  · obtain rfl : true = b := by rw [← h]; unfold domB; rw [hs]; rfl
    replace h := Aside0.mk h
    replace hs := Aside0.mk hs
    go_enter Tryd.func28, Tryd.ntmps28
    go_wp2_with (go_at_call 27; refine (small_c c true hs.out _).mono ?_; rintro e w1 ⟨rfl, hb⟩; replace hb := Aside0.mk hb)
    go_ret
    exact ⟨rfl, hb.out⟩
theorem all_take (p : Nat → Bool) (l : List UInt8) (k : Nat) (h : k < l.length) : (l.take (k + 1)).all (fun b => p b.toNat) = ((l.take k).all (fun b => p b.toNat) && p (l[k]).toNat) := by
  rw [List.take_succ_eq_append_getElem h, List.all_append]; simp
theorem all_no (p : Nat → Bool) (l : List UInt8) (k : Nat) (h : k < l.length) (hp : p (l[k]).toNat = false) : l.all (fun b => p b.toNat) = false := by
  rw [List.all_eq_false]
  exact ⟨l[k], List.getElem_mem h, by rw [hp]; decide⟩
def measA (n : Nat) : Value → Nat
  | .int _ q => n - q.toNat
  | _ => 0
set_option maxHeartbeats 4000000 in
set_option maxRecDepth 100000 in
theorem all_word (s : ByteArray) (hs : s.size ≤ maxLen) (w : World) : Calls Tryd.prog 29 #[.string s, .func (.func 21) #[] #[]] w fun e w' => e = .returned (.bool (s.data.toList.all fun b => wordB b.toNat)) ∧ Below w.heap.size w w' := by
  unfold maxLen at hs
  have HB := Aside0.mk (Below.refl w.heap.size w)
  go_enter Tryd.func29, Tryd.ntmps29
  go_wp2
  go_loopw [5] (fun i wr => ∃ k : Nat, i = .int .i64 (k : Int) ∧ k ≤ s.size ∧ Aside0 ((s.data.toList.take k).all (fun b => wordB b.toNat) = true) ∧ Aside0 (Below w.heap.size w wr)) (fun i _ => measA s.size i)
  case atStart => exact ⟨0, rfl, Nat.zero_le _, ⟨rfl⟩, HB⟩
  case round =>
    clear HB
    obtain ⟨k, rfl, hk, ha, HB⟩ := hrel
    by_cases hlt : k < s.size
    · have hl : k < s.data.toList.length := by simpa using hlt
      have e1 : s.data.toList[k] = s[k] := rfl
      rcases hp : wordB (s[k]).toNat with _ | _
      · have hn := Aside0.mk (all_no wordB s.data.toList k hl hp)
        replace hp := Aside0.mk hp
        replace e1 := Aside0.mk e1
        go_wp2_with (go_at_call 21; refine (word_c _ false hp.out _).mono ?_; rintro e w1 ⟨rfl, hb⟩; replace HB := Aside0.mk (below_then HB.out HB.out.size hb); clear hb)
        go_ret
        exact ⟨by rw [hn.out]; rfl, HB.out⟩
      · have hy : (s.data.toList.take (k + 1)).all (fun b => wordB b.toNat) = true := by rw [all_take wordB s.data.toList k hl, ha.out, e1, hp]; rfl
        replace hy := Aside0.mk hy
        replace hp := Aside0.mk hp
        replace e1 := Aside0.mk e1
        go_wp2_with (go_at_call 21; refine (word_c _ true hp.out _).mono ?_; rintro e w1 ⟨rfl, hb⟩; replace HB := Aside0.mk (below_then HB.out HB.out.size hb); clear hb)
        go_roundw
        case rel => exact ⟨k + 1, by go_num, hlt, hy, HB⟩
        case measure => simp [measA]; omega
    · obtain rfl : k = s.size := by omega
      have hy : s.data.toList.all (fun b => wordB b.toNat) = true := by have := ha.out; rwa [List.take_of_length_le (by simp)] at this
      replace hy := Aside0.mk hy
      go_wp2_with fail
      go_ret
      exact ⟨by rw [hy.out]; rfl, HB.out⟩
set_option maxHeartbeats 4000000 in
set_option maxRecDepth 100000 in
theorem all_dom (s : ByteArray) (hs : s.size ≤ maxLen) (w : World) : Calls Tryd.prog 29 #[.string s, .func (.func 28) #[] #[]] w fun e w' => e = .returned (.bool (s.data.toList.all fun b => domB b.toNat)) ∧ Below w.heap.size w w' := by
  unfold maxLen at hs
  have HB := Aside0.mk (Below.refl w.heap.size w)
  go_enter Tryd.func29, Tryd.ntmps29
  go_wp2
  go_loopw [5] (fun i wr => ∃ k : Nat, i = .int .i64 (k : Int) ∧ k ≤ s.size ∧ Aside0 ((s.data.toList.take k).all (fun b => domB b.toNat) = true) ∧ Aside0 (Below w.heap.size w wr)) (fun i _ => measA s.size i)
  case atStart => exact ⟨0, rfl, Nat.zero_le _, ⟨rfl⟩, HB⟩
  case round =>
    clear HB
    obtain ⟨k, rfl, hk, ha, HB⟩ := hrel
    by_cases hlt : k < s.size
    · have hl : k < s.data.toList.length := by simpa using hlt
      have e1 : s.data.toList[k] = s[k] := rfl
      rcases hp : domB (s[k]).toNat with _ | _
      · have hn := Aside0.mk (all_no domB s.data.toList k hl hp)
        replace hp := Aside0.mk hp
        replace e1 := Aside0.mk e1
        go_wp2_with (go_at_call 28; refine (dom_c _ false hp.out _).mono ?_; rintro e w1 ⟨rfl, hb⟩; replace HB := Aside0.mk (below_then HB.out HB.out.size hb); clear hb)
        go_ret
        exact ⟨by rw [hn.out]; rfl, HB.out⟩
      · have hy : (s.data.toList.take (k + 1)).all (fun b => domB b.toNat) = true := by rw [all_take domB s.data.toList k hl, ha.out, e1, hp]; rfl
        replace hy := Aside0.mk hy
        replace hp := Aside0.mk hp
        replace e1 := Aside0.mk e1
        go_wp2_with (go_at_call 28; refine (dom_c _ true hp.out _).mono ?_; rintro e w1 ⟨rfl, hb⟩; replace HB := Aside0.mk (below_then HB.out HB.out.size hb); clear hb)
        go_roundw
        case rel => exact ⟨k + 1, by go_num, hlt, hy, HB⟩
        case measure => simp [measA]; omega
    · obtain rfl : k = s.size := by omega
      have hy : s.data.toList.all (fun b => domB b.toNat) = true := by have := ha.out; rwa [List.take_of_length_le (by simp)] at this
      replace hy := Aside0.mk hy
      go_wp2_with fail
      go_ret
      exact ⟨by rw [hy.out]; rfl, HB.out⟩
set_option maxHeartbeats 4000000 in
set_option maxRecDepth 100000 in
theorem all_digit (s : ByteArray) (hs : s.size ≤ maxLen) (w : World) : Calls Tryd.prog 29 #[.string s, .func (.func 31) #[] #[]] w fun e w' => e = .returned (.bool (s.data.toList.all fun b => digitB b.toNat)) ∧ Below w.heap.size w w' := by
  unfold maxLen at hs
  have HB := Aside0.mk (Below.refl w.heap.size w)
  go_enter Tryd.func29, Tryd.ntmps29
  go_wp2
  go_loopw [5] (fun i wr => ∃ k : Nat, i = .int .i64 (k : Int) ∧ k ≤ s.size ∧ Aside0 ((s.data.toList.take k).all (fun b => digitB b.toNat) = true) ∧ Aside0 (Below w.heap.size w wr)) (fun i _ => measA s.size i)
  case atStart => exact ⟨0, rfl, Nat.zero_le _, ⟨rfl⟩, HB⟩
  case round =>
    clear HB
    obtain ⟨k, rfl, hk, ha, HB⟩ := hrel
    by_cases hlt : k < s.size
    · have hl : k < s.data.toList.length := by simpa using hlt
      have e1 : s.data.toList[k] = s[k] := rfl
      rcases hp : digitB (s[k]).toNat with _ | _
      · have hn := Aside0.mk (all_no digitB s.data.toList k hl hp)
        replace hp := Aside0.mk hp
        replace e1 := Aside0.mk e1
        go_wp2_with (go_at_call 31; refine (digit_c _ false hp.out _).mono ?_; rintro e w1 ⟨rfl, hb⟩; replace HB := Aside0.mk (below_then HB.out HB.out.size hb); clear hb)
        go_ret
        exact ⟨by rw [hn.out]; rfl, HB.out⟩
      · have hy : (s.data.toList.take (k + 1)).all (fun b => digitB b.toNat) = true := by rw [all_take digitB s.data.toList k hl, ha.out, e1, hp]; rfl
        replace hy := Aside0.mk hy
        replace hp := Aside0.mk hp
        replace e1 := Aside0.mk e1
        go_wp2_with (go_at_call 31; refine (digit_c _ true hp.out _).mono ?_; rintro e w1 ⟨rfl, hb⟩; replace HB := Aside0.mk (below_then HB.out HB.out.size hb); clear hb)
        go_roundw
        case rel => exact ⟨k + 1, by go_num, hlt, hy, HB⟩
        case measure => simp [measA]; omega
    · obtain rfl : k = s.size := by omega
      have hy : s.data.toList.all (fun b => digitB b.toNat) = true := by have := ha.out; rwa [List.take_of_length_le (by simp)] at this
      replace hy := Aside0.mk hy
      go_wp2_with fail
      go_ret
      exact ⟨by rw [hy.out]; rfl, HB.out⟩
/-- A text with an end of one kind, and bytes of another kind alone. -/
def framedB (e m : Nat → Bool) (l : List UInt8) : Bool := !l.isEmpty && e (l.headD 0).toNat && e (l.getLastD 0).toNat && l.all (fun b => m b.toNat)
set_option maxHeartbeats 4000000 in
set_option maxRecDepth 100000 in
theorem framed_val (s : ByteArray) (hs : s.size ≤ maxLen) (w : World) : Calls Tryd.prog 19 #[.string s, .func (.func 20) #[] #[], .func (.func 21) #[] #[]] w fun e w' => e = .returned (.bool (framedB plainB wordB s.data.toList)) ∧ Below w.heap.size w w' := by
  have HS := Aside0.mk hs
  unfold maxLen at hs
  have HB := Aside0.mk (Below.refl w.heap.size w)
  by_cases hz : s.size = 0
  · have e0 : framedB plainB wordB s.data.toList = false := by
      have : s.data.toList = [] := List.eq_nil_of_length_eq_zero (by simpa using hz)
      rw [this]; rfl
    have z1 : ¬ 0 < s.size := by omega
    replace e0 := Aside0.mk e0
    replace hz := Aside0.mk hz
    go_enter Tryd.func19, Tryd.ntmps19
    go_wp2_with fail
    go_ret
    exact ⟨by rw [e0.out]; rfl, HB.out⟩
  · have z1 : 0 < s.size := by omega
    have hl : 0 < s.data.toList.length := by simpa using z1
    have h1 : s.data.toList.headD 0 = s[0] := by
      rcases hd : s.data.toList with _ | ⟨x, r⟩
      · rw [hd] at hl; simp at hl
      · have : s.data.toList[0] = x := by simp [hd]
        exact this.symm
    have h2 : s.data.toList.getLastD 0 = s[s.size - 1] := by
      rw [List.getLastD_eq_getLast?, List.getLast?_eq_getElem?, List.getElem?_eq_getElem (by omega)]
      simp only [Option.getD_some, Array.length_toList]
      rfl
    have he : s.data.toList.isEmpty = false := by rcases hd : s.data.toList with _ | ⟨x, r⟩; (rw [hd] at hl; simp at hl); rfl
    have fr : framedB plainB wordB s.data.toList = (plainB (s[0]).toNat && plainB (s[s.size - 1]).toNat && s.data.toList.all (fun b => wordB b.toNat)) := by
      unfold framedB
      rw [h1, h2, he]; rfl
    have i1 : ((s.size : Int) - 1).toNat = s.size - 1 := by omega
    rcases b0 : plainB (s[0]).toNat with _ | _
    · have r0 : framedB plainB wordB s.data.toList = false := by rw [fr, b0]; rfl
      replace r0 := Aside0.mk r0
      replace b0 := Aside0.mk b0
      clear fr h1 h2 he
      replace i1 := Aside0.mk i1
      go_enter Tryd.func19, Tryd.ntmps19
      go_wp2_with (go_at_call 20; refine (plain_c _ false b0.out _).mono ?_; rintro e w1 ⟨rfl, hb⟩; replace HB := Aside0.mk (below_then HB.out HB.out.size hb); clear hb)
      go_ret
      exact ⟨by rw [r0.out]; rfl, HB.out⟩
    · rcases b1 : plainB (s[s.size - 1]).toNat with _ | _
      · have r0 : framedB plainB wordB s.data.toList = false := by rw [fr, b0, b1]; rfl
        replace r0 := Aside0.mk r0
        replace b0 := Aside0.mk b0
        replace b1 := Aside0.mk b1
        clear fr h1 h2 he
        replace i1 := Aside0.mk i1
        go_enter Tryd.func19, Tryd.ntmps19
        go_wp2_with fail
        refine (plain_c _ true b0.out _).mono ?_
        rintro e w1 ⟨rfl, hb⟩
        replace HB := Aside0.mk (below_then HB.out HB.out.size hb)
        clear hb
        go_wp2_with fail
        try simp only [i1.out]
        refine (plain_c _ false b1.out _).mono ?_
        rintro e w2 ⟨rfl, hb⟩
        replace HB := Aside0.mk (below_then HB.out HB.out.size hb)
        clear hb
        go_wp2_with fail
        go_ret
        exact ⟨by rw [r0.out]; rfl, HB.out⟩
      · obtain ⟨rb, hrb⟩ : ∃ rb, (s.data.toList.all fun b => wordB b.toNat) = rb := ⟨_, rfl⟩
        have hA := Aside0.mk (fun W => by have := all_word s HS.out W; rw [hrb] at this; exact this)
        have r0 : framedB plainB wordB s.data.toList = rb := by rw [fr, b0, b1, hrb]; rfl
        replace hrb := Aside0.mk hrb
        replace r0 := Aside0.mk r0
        replace b0 := Aside0.mk b0
        replace b1 := Aside0.mk b1
        clear fr h1 h2 he
        replace i1 := Aside0.mk i1
        go_enter Tryd.func19, Tryd.ntmps19
        go_wp2_with fail
        refine (plain_c _ true b0.out _).mono ?_
        rintro e w1 ⟨rfl, hb⟩
        replace HB := Aside0.mk (below_then HB.out HB.out.size hb)
        clear hb
        go_wp2_with fail
        try simp only [i1.out]
        refine (plain_c _ true b1.out _).mono ?_
        rintro e w2 ⟨rfl, hb⟩
        replace HB := Aside0.mk (below_then HB.out HB.out.size hb)
        clear hb
        go_wp2_with fail
        refine (hA.out _).mono ?_
        rintro e w3 ⟨rfl, hb⟩
        replace HB := Aside0.mk (below_then HB.out HB.out.size hb)
        clear hb
        go_wp2_with fail
        go_ret
        exact ⟨by rw [r0.out]; rfl, HB.out⟩
set_option maxHeartbeats 4000000 in
set_option maxRecDepth 100000 in
theorem framed_lab (s : ByteArray) (hs : s.size ≤ maxLen) (w : World) : Calls Tryd.prog 19 #[.string s, .func (.func 27) #[] #[], .func (.func 28) #[] #[]] w fun e w' => e = .returned (.bool (framedB smallB domB s.data.toList)) ∧ Below w.heap.size w w' := by
  have HS := Aside0.mk hs
  unfold maxLen at hs
  have HB := Aside0.mk (Below.refl w.heap.size w)
  by_cases hz : s.size = 0
  · have e0 : framedB smallB domB s.data.toList = false := by
      have : s.data.toList = [] := List.eq_nil_of_length_eq_zero (by simpa using hz)
      rw [this]; rfl
    have z1 : ¬ 0 < s.size := by omega
    replace e0 := Aside0.mk e0
    replace hz := Aside0.mk hz
    go_enter Tryd.func19, Tryd.ntmps19
    go_wp2_with fail
    go_ret
    exact ⟨by rw [e0.out]; rfl, HB.out⟩
  · have z1 : 0 < s.size := by omega
    have hl : 0 < s.data.toList.length := by simpa using z1
    have h1 : s.data.toList.headD 0 = s[0] := by
      rcases hd : s.data.toList with _ | ⟨x, r⟩
      · rw [hd] at hl; simp at hl
      · have : s.data.toList[0] = x := by simp [hd]
        exact this.symm
    have h2 : s.data.toList.getLastD 0 = s[s.size - 1] := by
      rw [List.getLastD_eq_getLast?, List.getLast?_eq_getElem?, List.getElem?_eq_getElem (by omega)]
      simp only [Option.getD_some, Array.length_toList]
      rfl
    have he : s.data.toList.isEmpty = false := by rcases hd : s.data.toList with _ | ⟨x, r⟩; (rw [hd] at hl; simp at hl); rfl
    have fr : framedB smallB domB s.data.toList = (smallB (s[0]).toNat && smallB (s[s.size - 1]).toNat && s.data.toList.all (fun b => domB b.toNat)) := by
      unfold framedB
      rw [h1, h2, he]; rfl
    have i1 : ((s.size : Int) - 1).toNat = s.size - 1 := by omega
    rcases b0 : smallB (s[0]).toNat with _ | _
    · have r0 : framedB smallB domB s.data.toList = false := by rw [fr, b0]; rfl
      replace r0 := Aside0.mk r0
      replace b0 := Aside0.mk b0
      clear fr h1 h2 he
      replace i1 := Aside0.mk i1
      go_enter Tryd.func19, Tryd.ntmps19
      go_wp2_with (go_at_call 27; refine (small_c _ false b0.out _).mono ?_; rintro e w1 ⟨rfl, hb⟩; replace HB := Aside0.mk (below_then HB.out HB.out.size hb); clear hb)
      go_ret
      exact ⟨by rw [r0.out]; rfl, HB.out⟩
    · rcases b1 : smallB (s[s.size - 1]).toNat with _ | _
      · have r0 : framedB smallB domB s.data.toList = false := by rw [fr, b0, b1]; rfl
        replace r0 := Aside0.mk r0
        replace b0 := Aside0.mk b0
        replace b1 := Aside0.mk b1
        clear fr h1 h2 he
        replace i1 := Aside0.mk i1
        go_enter Tryd.func19, Tryd.ntmps19
        go_wp2_with fail
        refine (small_c _ true b0.out _).mono ?_
        rintro e w1 ⟨rfl, hb⟩
        replace HB := Aside0.mk (below_then HB.out HB.out.size hb)
        clear hb
        go_wp2_with fail
        try simp only [i1.out]
        refine (small_c _ false b1.out _).mono ?_
        rintro e w2 ⟨rfl, hb⟩
        replace HB := Aside0.mk (below_then HB.out HB.out.size hb)
        clear hb
        go_wp2_with fail
        go_ret
        exact ⟨by rw [r0.out]; rfl, HB.out⟩
      · obtain ⟨rb, hrb⟩ : ∃ rb, (s.data.toList.all fun b => domB b.toNat) = rb := ⟨_, rfl⟩
        have hA := Aside0.mk (fun W => by have := all_dom s HS.out W; rw [hrb] at this; exact this)
        have r0 : framedB smallB domB s.data.toList = rb := by rw [fr, b0, b1, hrb]; rfl
        replace hrb := Aside0.mk hrb
        replace r0 := Aside0.mk r0
        replace b0 := Aside0.mk b0
        replace b1 := Aside0.mk b1
        clear fr h1 h2 he
        replace i1 := Aside0.mk i1
        go_enter Tryd.func19, Tryd.ntmps19
        go_wp2_with fail
        refine (small_c _ true b0.out _).mono ?_
        rintro e w1 ⟨rfl, hb⟩
        replace HB := Aside0.mk (below_then HB.out HB.out.size hb)
        clear hb
        go_wp2_with fail
        try simp only [i1.out]
        refine (small_c _ true b1.out _).mono ?_
        rintro e w2 ⟨rfl, hb⟩
        replace HB := Aside0.mk (below_then HB.out HB.out.size hb)
        clear hb
        go_wp2_with fail
        refine (hA.out _).mono ?_
        rintro e w3 ⟨rfl, hb⟩
        replace HB := Aside0.mk (below_then HB.out HB.out.size hb)
        clear hb
        go_wp2_with fail
        go_ret
        exact ⟨by rw [r0.out]; rfl, HB.out⟩
/-- A label's value. -/
def valueB (l : List UInt8) : Bool := l.isEmpty || (decide (l.length ≤ 63) && framedB plainB wordB l)
set_option maxHeartbeats 4000000 in
set_option maxRecDepth 100000 in
theorem value_walk (s : ByteArray) (hs : s.size ≤ maxLen) (w : World) : Calls Tryd.prog 11 #[.string s] w fun e w' => e = .returned (.bool (valueB s.data.toList)) ∧ Below w.heap.size w w' := by
  have HS := Aside0.mk hs
  unfold maxLen at hs
  by_cases hz : s.size = 0
  · obtain rfl : s = ⟨#[]⟩ := by
      apply ByteArray.ext; exact Array.eq_empty_of_size_eq_zero (by simpa using hz)
    clear hz hs
    go_enter Tryd.func11, Tryd.ntmps11
    go_wp2_with fail
    go_ret
    exact ⟨rfl, Below.refl _ _⟩
  · have he : s.toList.isEmpty = false := by
      rw [ByteArray.toList_eq]
      rcases hd : s.data.toList with _ | ⟨x, r⟩
      · exact absurd (by have := congrArg List.length hd; simpa using this) hz
      · rfl
    have he2 : s.data.toList.isEmpty = false := by rw [← ByteArray.toList_eq]; exact he
    have hll : s.data.toList.length = s.size := by simp
    by_cases h63 : s.size ≤ 63
    · have c1 : decide (s.size ≤ 63) = true := decide_eq_true h63
      have r0 : valueB s.data.toList = framedB plainB wordB s.data.toList := by unfold valueB; rw [he2, hll, c1]; rfl
      replace r0 := Aside0.mk r0
      clear he2 hll
      go_enter Tryd.func11, Tryd.ntmps11
      go_wp2_with fail
      refine (framed_val s HS.out _).mono ?_
      rintro e w1 ⟨rfl, hb⟩
      replace hb := Aside0.mk hb
      go_wp2_with fail
      go_ret
      exact ⟨by rw [r0.out]; rfl, hb.out⟩
    · have c1 : decide (s.size ≤ 63) = false := decide_eq_false h63
      have r0 : valueB s.data.toList = false := by unfold valueB; rw [he2, hll, c1]; rfl
      replace r0 := Aside0.mk r0
      clear he2 hll
      go_enter Tryd.func11, Tryd.ntmps11
      go_wp2_with fail
      go_ret
      exact ⟨by rw [r0.out]; rfl, Below.refl _ _⟩
def spec_NameValue.f (_ : Nat) (a0 : ByteArray) : Option Bool := if a0.size ≤ maxLen then some (valueB a0.data.toList) else none
theorem spec_NameValue.mono : ∀ a0 k, LeO (spec_NameValue.f k a0) (spec_NameValue.f (k + 1) a0) := fun _ _ => LeO.refl _
theorem spec_NameValue.calls (k : Nat) (a0 : ByteArray) (r : Bool) (w : World) (h : spec_NameValue.f k a0 = some r) :
    Calls Tryd.prog 11 #[.string a0] w fun e w' => e = .returned (.bool r) ∧ Below w.heap.size w w' := by
  unfold spec_NameValue.f at h
  split at h
  · rename_i hs
    obtain rfl := Option.some.inj h
    exact value_walk a0 hs w
  · cases h

/-! ### spec_Split: function 17 -/
/-- A list of bytes cut at a byte: behind what is cut already. -/
def splitG (c : Int) : List UInt8 → List ByteArray → List ByteArray
  | [], out => out
  | b :: l, out => if (b.toNat : Int) = c then splitG c l (out ++ [⟨#[]⟩]) else splitG c l (out.set (out.length - 1) (out.getLastD ⟨#[]⟩ ++ ⟨#[b]⟩))
def measS (n : Nat) : Value → Nat
  | .int _ q => n - q.toNat
  | _ => 0
theorem split_step (s : ByteArray) (c j : Int) (out : List ByteArray) (h0 : 0 ≤ j) (h1 : j < (s.size : Int)) :
    splitG c (s.data.toList.drop j.toNat) out = if bt s j = c then splitG c (s.data.toList.drop (j + 1).toNat) (out ++ [⟨#[]⟩]) else splitG c (s.data.toList.drop (j + 1).toNat) (out.set (out.length - 1) (out.getLastD ⟨#[]⟩ ++ ⟨#[(bt s j).toNat.toUInt8]⟩)) := by
  have hl : j.toNat < s.data.toList.length := by simp; omega
  have hb : bt s j = ((s.data.toList[j.toNat]).toNat : Int) := by
    unfold bt
    rw [dif_pos (by omega)]
    rfl
  rw [List.drop_eq_getElem_cons hl, show (j + 1).toNat = j.toNat + 1 from by omega, hb]
  show (if _ then _ else _) = _
  rw [show ((((s.data.toList[j.toNat]).toNat : Nat) : Int)).toNat.toUInt8 = s.data.toList[j.toNat] from by simp]
theorem conv_one {P : Program} (w : World) (src dst e : TypeId) (hs : P.underlying src = some (.slice e)) (he : P.underlying e = some (.int .u8)) (hd : P.underlying dst = some .string) (k : Nat) (x : Int) (b : UInt8) (hx : x = (b.toNat : Int))
    (h : w.cell? ⟨k, 0, none⟩ = some (.int .u8 x)) : (convert src dst (.slice (some ⟨k, 0, none⟩) 1 1)).run P w = .ok (.string ⟨#[b]⟩) w := by
  subst hx
  exact run_convert_bytes_back w src dst e ⟨k, 0, none⟩ 1 [b] hs he hd (fun j hj => by
    obtain rfl : j = 0 := by simpa using hj
    exact h)
theorem rdOf_last (out : List ByteArray) (h : 0 < out.length) : rdOf ByteArray.empty out ((out.length : Int) - 1) = out.getLastD ⟨#[]⟩ := by
  unfold rdOf
  rw [show ((out.length : Int) - 1).toNat = out.length - 1 from by omega, List.getLastD_eq_getLast?, List.getLast?_eq_getElem?, List.getD_eq_getElem?_getD]
  rfl
theorem last_set (out : List ByteArray) (x : ByteArray) (h : 0 < out.length) : (out.set (out.length - 1) x).getLastD ⟨#[]⟩ = x := by
  rw [List.getLastD_eq_getLast?, List.getLast?_eq_getElem?, List.length_set, List.getElem?_set]
  rw [if_pos rfl, if_pos (by omega)]
  rfl
theorem bt_byte (s : ByteArray) (j : Int) (h0 : 0 ≤ j) (h1 : j < (s.size : Int)) : ∃ b : UInt8, bt s j = (b.toNat : Int) := by
  have hl : j.toNat < s.size := by omega
  exact ⟨s[j.toNat]'hl, by unfold bt; rw [dif_pos (by omega)]⟩
theorem split_walk (s : ByteArray) (c : Int) (hs : s.size < 4398046511104) (w : World) :
    Calls Tryd.prog 17 #[.string s, .int .u8 c] w fun e w' => ∃ v0_ : Value, e = .returned v0_ ∧ Kd.R Kd.string 9 w' w.heap.size (fun _ => True) v0_ (splitG c s.data.toList [⟨#[]⟩]) ∧ Below w.heap.size w w' := by
  go_enter Tryd.func17, Tryd.ntmps17
  go_wp2_with (first | ((with_reducible refine gate_dst (N := 7) rfl ?_); refine Kd.R_lit Kd.string w.heap.size 9 ?hg (N := 7) ?hd (xs := ([⟨#[]⟩] : List ByteArray)) (inner := [.string ⟨#[]⟩]) (ok := fun _ => True) (okp := fun _ => True) ?hr ?hp (fun _ hk => hk) trivial (Below.refl _ _) (Nat.le_refl _) (by simp) ?_; (case hd => rfl); (case hg => rfl); (case hr => first | (go_simp; done) | (go_simp; rfl)); (case hp => exact (Reps.one (show Kd.M Kd.string _ _ _ (⟨#[]⟩ : ByteArray) [.string ⟨#[]⟩] from rfl) (Reps.none _ _))); intro v1 w1 ho hb hg_ hnew_))
  have HO := Aside0.mk ho
  have HB := Aside0.mk hb
  clear ho hb hg_ hnew_
  go_loopw [5, 6] (fun v n wz => ∃ (j : Int) (out : List ByteArray), n = .int .i64 j ∧ 0 ≤ j ∧ j ≤ (s.size : Int) ∧ 0 < out.length ∧ (out.length : Int) ≤ j + 1 ∧ ((out.getLastD ⟨#[]⟩).size : Int) ≤ j ∧ Aside0 (Kd.R Kd.string 9 wz w.heap.size (fun _ => True) v out) ∧ Aside0 (Below w.heap.size w wz) ∧ Aside0 (splitG c (s.data.toList.drop j.toNat) out = splitG c s.data.toList [⟨#[]⟩])) (fun _ n _ => measS s.size n)
  case atStart => exact ⟨0, [⟨#[]⟩], rfl, by omega, by omega, by simp, by simp, by show ((0 : Nat) : Int) ≤ 0; omega, HO, HB, ⟨rfl⟩⟩
  case round =>
    obtain ⟨j, out, rfl, hj0, hjs, h0, h1, hz, hR, hB, hS⟩ := hrel
    obtain ⟨A, cp, rfl⟩ := Kd.R_slice hR.out
    by_cases hlt : j < (s.size : Int)
    · have c1 : decide (j < (s.size : Int)) = true := decide_eq_true hlt
      have q0 : decide (0 ≤ j) = true := decide_eq_true hj0
      by_cases hc : bt s j = c
      · have hcb : (bt s j == c) = true := beq_iff_eq.mpr hc
        have hx := bt_at s j
        have HA := Aside0.mk hc
        clear hc
        have hl : out.length < 8796093022208 := by omega
        go_wp2_with (first | ((with_reducible refine gate_builtin (b := .append) (xs := #[.tmp 19, .tmp 20]) rfl ?_); at_builtin; refine Kd.R_append Kd.string (w0 := w) w.heap.size rfl (.tmp 19) (.tmp 20) 22 9 (.string ⟨#[]⟩) 16 rfl Tryd.underlying22 info9 rfl (by decide) (by omega) (.slice A out.length cp) out (⟨#[]⟩ : ByteArray) [.string ⟨#[]⟩] (fun _ => True) (fun _ => False) rfl rfl ?aP (fun _ hk => hk.elim) ?aF ?aO ?aB ?aS ?aL ?_; (case aP => exact rfl); (case aB => exact (by repeat (first | (with_reducible first | exact hB.out | apply below_alloc | apply pw_below_drewN | apply below_drew1) | exact hB.out))); (case aF => exact (fun _ _ => trivial)); (case aO => exact (by (with_reducible repeat (first | apply Kd.R_alloc | apply Kd.R_drewN | apply Kd.R_drew)); exact hR.out)); (case aS => exact (below_size (by repeat (first | (with_reducible first | exact hB.out | apply below_alloc | apply pw_below_drewN | apply below_drew1) | exact hB.out)))); (case aL => omega); intro v2 w2 ho hb hg hat))
        refine ⟨⟨j + 1, out ++ [⟨#[]⟩], rfl, by omega, by omega, by simp, by simp; omega, by rw [List.getLastD_concat]; show (0 : Int) ≤ _; omega, ⟨ho⟩, ⟨hb⟩, ⟨?_⟩⟩, ?_⟩
        · rw [← hS.out, split_step s c j out hj0 hlt, if_pos HA.out]
        · show s.size - (j + 1).toNat < s.size - j.toNat
          omega
      · have hcb : (bt s j == c) = false := beq_eq_false_iff_ne.mpr hc
        have hx := bt_at s j
        have HA := Aside0.mk hc
        clear hc
        obtain ⟨g, cap, hv, hbase, hglt, cells, hcells⟩ := Kd.R_form hR.out h0
        obtain ⟨rfl, rfl⟩ : A = some ⟨g, 0, none⟩ ∧ cp = cap := by injection hv with e1 e2 e3; exact ⟨e1, e3⟩
        have rc := Kd.R_cell (ByteArray.empty) hR.out ((out.length : Int) - 1) (by omega) (by omega)
        have HL := Aside0.mk hcells
        clear hv hcells
        rw [show ((out.length : Int) - 1).toNat = out.length - 1 from by omega] at rc
        obtain ⟨rc1, rc2⟩ := rc
        have rc3 : (wr.alloc (.cells #[.int .u8 (bt s j)] 5)).cell? ⟨g, out.length - 1, none⟩ = _ := (World.cell?_alloc_lt _ _ _ hglt).trans rc1
        obtain ⟨la, hla⟩ : ∃ la, rdOf ByteArray.empty out ((out.length : Int) - 1) = la := ⟨_, rfl⟩
        rw [hla] at rc1 rc3
        have hlast : la = out.getLastD ⟨#[]⟩ := by rw [← hla]; exact rdOf_last out h0
        have hsz : la.size + 1 ≤ 9223372036854775807 := by rw [hlast]; omega
        have hszb : (9223372036854775807 < la.size + 1) = False := eq_false (by omega)
        have HLA := Aside0.mk hlast
        clear hla hlast
        have hw1 : IntKind.i64.wrap ((out.length : Int) - 1) = ((out.length - 1 : Nat) : Int) := (i64_w _).trans (by unfold wrap64; omega)
        obtain ⟨b, hb8⟩ := bt_byte s j hj0 hlt
        have hcv := conv_one (P := Tryd.prog) ((wr.alloc (.cells #[.int .u8 (bt s j)] 5)).drew) 64 9 5 Tryd.underlying64 Tryd.underlying5 Tryd.underlying9 wr.heap.size (bt s j) b hb8 ((blk_cell (t := 5) (cs := #[.int .u8 (bt s j)]) (blk_drew (heap_alloc_new wr _)) 0).trans rfl)
        have HB8 := Aside0.mk hb8
        clear hb8
        go_wp2_with fail
        go_region
        go_wp2_with fail
        have hi1 : ((out.length : Int) - 1).toNat = out.length - 1 := by omega
        have hp := Kd.R_put hR.out ((out.length : Int) - 1) (la ++ ⟨#[b]⟩)
        rw [hi1] at hp
        refine ⟨⟨j + 1, out.set (out.length - 1) (la ++ ⟨#[b]⟩), rfl, by omega, by omega, by simp; omega, by simp; omega, ?_, ⟨?_⟩, ⟨?_⟩, ⟨?_⟩⟩, ?_⟩
        · rw [last_set out _ h0, ByteArray.size_append]
          have e1 : (⟨#[b]⟩ : ByteArray).size = 1 := rfl
          rw [HLA.out]; omega
        · exact Kd.R_drew (Kd.R_alloc hp.1 _)
        · exact below_drew1 (below_alloc (below_set hB.out hbase) _)
        · rw [← hS.out, split_step s c j out hj0 hlt, if_neg HA.out, ← HLA.out, HB8.out]
          simp
        · show s.size - (j + 1).toNat < s.size - j.toNat
          omega
    · have c1 : decide (j < (s.size : Int)) = false := decide_eq_false hlt
      have hfin : splitG c s.data.toList [⟨#[]⟩] = out := by
        have hd : s.data.toList.drop j.toNat = [] := List.drop_eq_nil_of_le (by simp; omega)
        rw [← hS.out, hd]; rfl
      have HF := Aside0.mk hfin
      clear hfin
      go_wp2_with fail
      go_ret
      exact ⟨.slice A out.length cp, rfl, by rw [HF.out]; exact hR.out, hB.out⟩
def spec_Split.f (_ : Nat) (a0 : ByteArray) (a1 : Int) : Option (List ByteArray) := if a0.size < 4398046511104 then some (splitG a1 a0.data.toList [⟨#[]⟩]) else none
theorem spec_Split.mono : ∀ a0 a1 k, LeO (spec_Split.f k a0 a1) (spec_Split.f (k + 1) a0 a1) := by
  intro a0 a1 k
  exact LeO.refl _
theorem spec_Split.calls (k : Nat) (a0 : ByteArray) (a1 : Int) (r : List ByteArray) (w : World) (h : spec_Split.f k a0 a1 = some r) :
    Calls Tryd.prog 17 #[.string a0, .int .u8 a1] w fun e w' => ∃ v0_ : Value, e = .returned (v0_) ∧ Kd.R Kd.string 9 w' w.heap.size (fun _ => True) v0_ r ∧ Below w.heap.size w w' := by
  unfold spec_Split.f at h
  by_cases hs : a0.size < 4398046511104
  · rw [if_pos hs] at h
    obtain rfl := Option.some.inj h
    exact split_walk a0 a1 hs w
  · rw [if_neg hs] at h; cases h

/-! ### spec_NameDomain: function 18 -/
/-- A subdomain: labels, with points between. -/
def domainB (s : ByteArray) : Bool := (splitG 46 s.data.toList [⟨#[]⟩]).all (fun x => framedB smallB domB x.data.toList) && decide (s.size ≤ 253)
theorem splitG_size (c : Int) : ∀ (l : List UInt8) (out : List ByteArray) (n : Nat), (∀ x ∈ out, x.size ≤ n) → ∀ x ∈ splitG c l out, x.size ≤ n + l.length
  | [], out, n, h, x, hx => h x hx
  | b :: l, out, n, h, x, hx => by
    unfold splitG at hx
    split at hx
    · have := splitG_size c l (out ++ [⟨#[]⟩]) n (fun y hy => by
        rcases List.mem_append.1 hy with hy | hy
        · exact h y hy
        · rw [List.mem_singleton.1 hy]; exact Nat.zero_le _) x hx
      simp only [List.length_cons]; omega
    · have := splitG_size c l (out.set (out.length - 1) (out.getLastD ⟨#[]⟩ ++ ⟨#[b]⟩)) (n + 1) (fun y hy => by
        rcases List.mem_or_eq_of_mem_set hy with hy | rfl
        · have := h y hy; omega
        · rw [ByteArray.size_append]
          have e1 : (⟨#[b]⟩ : ByteArray).size = 1 := rfl
          have e2 : (out.getLastD ⟨#[]⟩).size ≤ n := by
            rcases List.eq_nil_or_concat out with rfl | ⟨q, z, rfl⟩
            · exact Nat.zero_le _
            · rw [List.concat_eq_append, List.getLastD_concat]; exact h z (by simp)
          omega) x hx
      simp only [List.length_cons]; omega
theorem splitG_pos (c : Int) : ∀ (l : List UInt8) (out : List ByteArray), 0 < out.length → 0 < (splitG c l out).length ∧ (splitG c l out).length ≤ out.length + l.length
  | [], out, h => ⟨h, Nat.le_refl _⟩
  | b :: l, out, h => by
    unfold splitG
    split
    · have := splitG_pos c l (out ++ [⟨#[]⟩]) (by simp)
      simp only [List.length_append, List.length_cons, List.length_nil] at this ⊢; omega
    · have := splitG_pos c l (out.set (out.length - 1) (out.getLastD ⟨#[]⟩ ++ ⟨#[b]⟩)) (by simpa using h)
      simp only [List.length_set, List.length_cons] at this ⊢; omega
set_option maxHeartbeats 4000000 in
set_option maxRecDepth 100000 in
theorem domain_walk (s : ByteArray) (hs : s.size < 4398046511104) (w : World) : Calls Tryd.prog 18 #[.string s] w fun e w' => e = .returned (.bool (domainB s)) ∧ Below w.heap.size w w' := by
  obtain ⟨xs, hxs⟩ : ∃ xs, xs = splitG 46 s.data.toList [⟨#[]⟩] := ⟨_, rfl⟩
  have hsp : ∀ W, Calls Tryd.prog 17 #[.string s, .int .u8 46] W fun e w' => ∃ v0_ : Value, e = .returned v0_ ∧ Kd.R Kd.string 9 w' W.heap.size (fun _ => True) v0_ xs ∧ Below W.heap.size W w' := fun W => by
    rw [hxs]; exact spec_Split.calls 0 s 46 _ W (by unfold spec_Split.f; rw [if_pos hs])
  have hok : ∀ x ∈ xs, x.size ≤ maxLen := fun x hx => by
    rw [hxs] at hx
    have := splitG_size 46 s.data.toList [⟨#[]⟩] 0 (fun y hy => by rw [List.mem_singleton.1 hy]; exact Nat.zero_le _) x hx
    have h2 : s.data.toList.length = s.size := by simp
    unfold maxLen; omega
  have hln : xs.length ≤ 4398046511105 := by
    rw [hxs]
    have := (splitG_pos 46 s.data.toList [⟨#[]⟩] (by simp)).2
    have h2 : s.data.toList.length = s.size := by simp
    simp only [List.length_cons, List.length_nil] at this
    omega
  have hD : domainB s = (xs.all (fun x => framedB smallB domB x.data.toList) && decide (s.size ≤ 253)) := by unfold domainB; rw [hxs]
  replace hsp := Aside0.mk hsp
  replace hok := Aside0.mk hok
  replace hD := Aside0.mk hD
  replace hxs := Aside0.mk hxs
  replace hln := Aside0.mk hln
  go_enter Tryd.func18, Tryd.ntmps18
  go_wp2_with fail
  refine (hsp.out _).mono ?_
  rintro e w1 ⟨v, rfl, hR, hB⟩
  obtain ⟨A, c, rfl, hc, hC⟩ := Kd.R_reads hR
  replace hC := Aside0.mk hC
  replace hB := Aside0.mk hB
  clear hR hc
  go_wp2_with fail
  go_loopw [4] (fun i wr => ∃ k : Nat, i = .int .i64 (k : Int) ∧ k ≤ xs.length ∧ Aside0 ((xs.take k).all (fun x => framedB smallB domB x.data.toList) = true) ∧ Aside0 (Below w1.heap.size w1 wr)) (fun i _ => measA xs.length i)
  case atStart => exact ⟨0, rfl, Nat.zero_le _, ⟨rfl⟩, ⟨Below.refl _ _⟩⟩
  case round =>
    obtain ⟨k, rfl, hk, ha, HB⟩ := hrel
    by_cases hlt : k < xs.length
    · obtain ⟨ad, e1, hcell⟩ := Kd.at_string hC.out (k : Int) (Int.natCast_nonneg k) (by omega)
      obtain ⟨x, hx⟩ : ∃ x, x = xs[k] := ⟨_, rfl⟩
      have hx2 : rdOf ByteArray.empty xs (k : Int) = x := by rw [hx]; unfold rdOf; simp [hlt]
      rw [hx2, Int.toNat_natCast] at hcell
      cases e1
      have hxm := Aside0.mk (hok.out x (by rw [hx]; exact List.getElem_mem hlt))
      have hcell := (HB.out.cell (World.block_lt_of_cell? w1 _ hcell)).trans hcell
      have hln2 : (k : Int) + 1 ≤ 9223372036854775807 := by have := hln.out; omega
      have htk : (xs.take (k + 1)).all (fun x => framedB smallB domB x.data.toList) = framedB smallB domB x.data.toList := by
        rw [List.take_succ_eq_append_getElem hlt, List.all_append, ha.out, ← hx]; simp
      rcases hp : framedB smallB domB x.data.toList with _ | _
      · have hno : domainB s = false := by
          rw [hD.out]
          have : xs.all (fun x => framedB smallB domB x.data.toList) = false := List.all_eq_false.2 ⟨x, by rw [hx]; exact List.getElem_mem hlt, by rw [hp]; decide⟩
          rw [this]; rfl
        replace hno := Aside0.mk hno
        replace hx := Aside0.mk hx
        replace htk := Aside0.mk htk
        have hfc := Aside0.mk (fun W => by have := framed_lab x hxm.out W; rw [hp] at this; exact this)
        replace hp := Aside0.mk hp
        clear hx2
        go_wp2_with fail
        refine (hfc.out _).mono ?_
        rintro e w2 ⟨rfl, hb⟩
        replace hb := Aside0.mk hb
        clear hcell
        go_wp2_with fail
        go_ret
        exact ⟨by rw [hno.out]; rfl, below_then hB.out hB.out.size (below_then HB.out HB.out.size hb.out)⟩
      · rw [hp] at htk
        replace hx := Aside0.mk hx
        replace htk := Aside0.mk htk
        have hfc := Aside0.mk (fun W => by have := framed_lab x hxm.out W; rw [hp] at this; exact this)
        replace hp := Aside0.mk hp
        clear hx2
        go_wp2_with fail
        refine (hfc.out _).mono ?_
        rintro e w2 ⟨rfl, hb⟩
        replace hb := Aside0.mk hb
        clear hcell
        go_wp2_with fail
        go_roundw
        case rel => exact ⟨k + 1, by go_num, hlt, htk, ⟨below_then HB.out HB.out.size hb.out⟩⟩
        case measure => simp [measA]; omega
    · obtain rfl : k = xs.length := by omega
      have hy : domainB s = decide ((s.size : Int) ≤ 253) := by
        rw [hD.out]
        have := ha.out
        rw [List.take_length] at this
        rw [this, Bool.true_and]
        exact decide_eq_decide.2 (by omega)
      replace hy := Aside0.mk hy
      have c0 := hlt
      clear hlt
      go_wp2_with fail
      go_ret
      exact ⟨by rw [hy.out]; rfl, below_then hB.out hB.out.size HB.out⟩
def spec_NameDomain.f (_ : Nat) (a0 : ByteArray) : Option Bool := if a0.size < 4398046511104 then some (domainB a0) else none
theorem spec_NameDomain.mono : ∀ a0 k, LeO (spec_NameDomain.f k a0) (spec_NameDomain.f (k + 1) a0) := fun _ _ => LeO.refl _
theorem spec_NameDomain.calls (k : Nat) (a0 : ByteArray) (r : Bool) (w : World) (h : spec_NameDomain.f k a0 = some r) :
    Calls Tryd.prog 18 #[.string a0] w fun e w' => e = .returned (.bool r) ∧ Below w.heap.size w w' := by
  unfold spec_NameDomain.f at h
  split at h
  · rename_i hs
    obtain rfl := Option.some.inj h
    exact domain_walk a0 hs w
  · cases h

/-! ### spec_NameKey: function 10 -/
def spec_NameKey.f (k : Nat) (a0 : ByteArray) : Option (Bool) := (spec_Split.f k a0 47).bind fun t116 => (if (t116.length : Int) = 2 then (if 0 < (t116.length : Int) then ((spec_NameDomain.f k (rdOf ByteArray.empty t116 0)).bind fun t120 => (if t120 = true then (if (t116.length : Int) > 2 then (some false) else (if 0 ≤ (wrap64 ((t116.length : Int) - 1)) then (if (wrap64 ((t116.length : Int) - 1)) < (t116.length : Int) then (if (rdOf ByteArray.empty t116 (wrap64 ((t116.length : Int) - 1))).toList = ([] : List UInt8) then (some false) else ((spec_NameValue.f k (rdOf ByteArray.empty t116 (wrap64 ((t116.length : Int) - 1)))).bind fun t122 => (some t122))) else (none)) else (none))) else (some false))) else (none)) else (if (t116.length : Int) > 2 then (some false) else (if 0 ≤ (wrap64 ((t116.length : Int) - 1)) then (if (wrap64 ((t116.length : Int) - 1)) < (t116.length : Int) then (if (rdOf ByteArray.empty t116 (wrap64 ((t116.length : Int) - 1))).toList = ([] : List UInt8) then (some false) else ((spec_NameValue.f k (rdOf ByteArray.empty t116 (wrap64 ((t116.length : Int) - 1)))).bind fun t124 => (some t124))) else (none)) else (none))))
theorem spec_NameKey.mono : ∀ a0 k, LeO (spec_NameKey.f k a0) (spec_NameKey.f (k + 1) a0) := by
  intro a0 k
  unfold spec_NameKey.f
  repeat' first
      | (with_reducible exact spec_NameDomain.mono _ _)
      | (with_reducible exact spec_NameValue.mono _ _)
      | (with_reducible exact spec_Split.mono _ _ _)
      | (with_reducible exact LeO.refl _)
      | (with_reducible exact LeO.none _)
      | (with_reducible refine LeO.ite ?_ ?_)
      | (with_reducible refine LeO.bind ?_ (fun _ => ?_))
      | exact spec_NameDomain.mono _ _
      | exact spec_NameValue.mono _ _
      | exact spec_Split.mono _ _ _
      | exact LeO.none _
      | refine LeO.ite ?_ ?_
      | refine LeO.bind ?_ (fun _ => ?_)
set_option maxHeartbeats 8000000 in
set_option maxRecDepth 100000 in
theorem spec_NameKey.calls (k : Nat) (a0 : ByteArray) (r : Bool) (w : World) (h : spec_NameKey.f k a0 = some r) :
    Calls Tryd.prog 10 #[.string a0] w fun e w' => e = .returned (.bool r) ∧ Below w.heap.size w w' := by
  have HB := Aside0.mk (Below.refl w.heap.size w)
  have H : ((spec_Split.f k a0 47).bind fun t116 => (if (t116.length : Int) = 2 then (if 0 < (t116.length : Int) then ((spec_NameDomain.f k (rdOf ByteArray.empty t116 0)).bind fun t120 => (if t120 = true then (if (t116.length : Int) > 2 then (some false) else (if 0 ≤ (wrap64 ((t116.length : Int) - 1)) then (if (wrap64 ((t116.length : Int) - 1)) < (t116.length : Int) then (if (rdOf ByteArray.empty t116 (wrap64 ((t116.length : Int) - 1))).toList = ([] : List UInt8) then (some false) else ((spec_NameValue.f k (rdOf ByteArray.empty t116 (wrap64 ((t116.length : Int) - 1)))).bind fun t122 => (some t122))) else (none)) else (none))) else (some false))) else (none)) else (if (t116.length : Int) > 2 then (some false) else (if 0 ≤ (wrap64 ((t116.length : Int) - 1)) then (if (wrap64 ((t116.length : Int) - 1)) < (t116.length : Int) then (if (rdOf ByteArray.empty t116 (wrap64 ((t116.length : Int) - 1))).toList = ([] : List UInt8) then (some false) else ((spec_NameValue.f k (rdOf ByteArray.empty t116 (wrap64 ((t116.length : Int) - 1)))).bind fun t124 => (some t124))) else (none)) else (none))))) = some r := h
  clear h
  replace H := Option.bind_eq_some_iff.mp H
  obtain ⟨t116, A20, H⟩ := H
  replace H : (if (t116.length : Int) = 2 then (if 0 < (t116.length : Int) then ((spec_NameDomain.f k (rdOf ByteArray.empty t116 0)).bind fun t120 => (if t120 = true then (if (t116.length : Int) > 2 then (some false) else (if 0 ≤ (wrap64 ((t116.length : Int) - 1)) then (if (wrap64 ((t116.length : Int) - 1)) < (t116.length : Int) then (if (rdOf ByteArray.empty t116 (wrap64 ((t116.length : Int) - 1))).toList = ([] : List UInt8) then (some false) else ((spec_NameValue.f k (rdOf ByteArray.empty t116 (wrap64 ((t116.length : Int) - 1)))).bind fun t122 => (some t122))) else (none)) else (none))) else (some false))) else (none)) else (if (t116.length : Int) > 2 then (some false) else (if 0 ≤ (wrap64 ((t116.length : Int) - 1)) then (if (wrap64 ((t116.length : Int) - 1)) < (t116.length : Int) then (if (rdOf ByteArray.empty t116 (wrap64 ((t116.length : Int) - 1))).toList = ([] : List UInt8) then (some false) else ((spec_NameValue.f k (rdOf ByteArray.empty t116 (wrap64 ((t116.length : Int) - 1)))).bind fun t124 => (some t124))) else (none)) else (none)))) = some r := H
  have A2 := Aside0.mk A20
  clear A20
  by_cases c3 : (t116.length : Int) = 2
  · rw [if_pos c3] at H
    have c3b0 : ((t116.length : Int) == 2) = true := beq_iff_eq.mpr c3
    have c3b1 : ((t116.length : Int) != 2) = false := bne_eq_false_iff_eq.mpr c3
    clear c3
    by_cases c4 : 0 < (t116.length : Int)
    · rw [if_pos c4] at H
      have c4b0 : decide (0 < (t116.length : Int)) = true := decide_eq_true c4
      have c4b1 : decide (0 < t116.length) = true := decide_eq_true (by omega)
      clear c4
      replace H := Option.bind_eq_some_iff.mp H
      obtain ⟨t120, A50, H⟩ := H
      replace H : (if t120 = true then (if (t116.length : Int) > 2 then (some false) else (if 0 ≤ (wrap64 ((t116.length : Int) - 1)) then (if (wrap64 ((t116.length : Int) - 1)) < (t116.length : Int) then (if (rdOf ByteArray.empty t116 (wrap64 ((t116.length : Int) - 1))).toList = ([] : List UInt8) then (some false) else ((spec_NameValue.f k (rdOf ByteArray.empty t116 (wrap64 ((t116.length : Int) - 1)))).bind fun t122 => (some t122))) else (none)) else (none))) else (some false)) = some r := H
      have A5 := Aside0.mk A50
      clear A50
      by_cases c6 : t120 = true
      · subst c6
        have H1 : (if (t116.length : Int) > 2 then (some false) else (if 0 ≤ (wrap64 ((t116.length : Int) - 1)) then (if (wrap64 ((t116.length : Int) - 1)) < (t116.length : Int) then (if (rdOf ByteArray.empty t116 (wrap64 ((t116.length : Int) - 1))).toList = ([] : List UInt8) then (some false) else ((spec_NameValue.f k (rdOf ByteArray.empty t116 (wrap64 ((t116.length : Int) - 1)))).bind fun t122 => (some t122))) else (none)) else (none))) = some r := by rw [if_pos rfl] at H; exact H
        clear H
        have H := H1
        clear H1
        by_cases c7 : (t116.length : Int) > 2
        · rw [if_pos c7] at H
          have c7b0 : decide (2 < (t116.length : Int)) = true := decide_eq_true c7
          have c7b1 : decide (2 < t116.length) = true := decide_eq_true (by omega)
          clear c7
          obtain rfl := Option.some.inj H
          go_enter Tryd.func10, Tryd.ntmps10
          go_wp2_with (first | ((with_reducible refine gate_callee (f := 17) rfl ?_); refine goesL_ (some 6) rfl rfl Tryd.func17 (by kernel_rfl) rfl #[.string a0, .int .u8 47] rfl (by (try simp only [List.map_toArray, List.map_cons, List.map_nil]); first | done | rfl | (simp only [List.length_drop, List.length_take]; rfl)) ?_; (with_reducible refine (spec_Split.calls k a0 47 t116 _ A2.out).mono ?_); rintro e w8 ⟨v117, rfl, ho0, hb⟩; refine ⟨_, rfl, ?_⟩; have n0_ := Aside0.mk (Kd.R_lower ho0 (below_size (by repeat (first | (with_reducible first | exact HB.out | apply below_alloc | apply pw_below_drewN | apply below_drew1) | exact HB.out)))); have n1_ := Aside0.mk (below_step (by repeat (first | (with_reducible first | exact HB.out | apply below_alloc | apply pw_below_drewN | apply below_drew1) | exact HB.out)) hb); clear HB; have HO118 := n0_; have HB := n1_; clear n0_ n1_; (try clear hb); (try clear hb2); (try clear hk); (try clear hi); (try clear ho0); obtain ⟨Ao9, co9, eo9⟩ := Kd.R_slice HO118.out; subst eo9; have p119 : 0 ≤ (0 : Int) := (by omega); have q119 : 0 < (t116.length : Int) := of_decide_eq_true (by first | (with_reducible assumption) | assumption); obtain ⟨ad119, e119, hx119_0⟩ := Kd.at_string (Kd.R_reads' HO118.out).2.2 0 p119 q119; cases e119; have qi119 : (0 < t116.length) = True := eq_true (by omega); (try rw [show ((0 : Int)).toNat = 0 from rfl] at hx119_0); (try rw [Addr.add_zero'] at hx119_0); replace p119 := eq_true p119; replace q119 := eq_true q119) | (go_at_call 18; (with_reducible refine (spec_NameDomain.calls k (rdOf ByteArray.empty t116 0) true _ A5.out).mono ?_); rintro e w10 ⟨rfl, hb⟩; have n0_ := Aside0.mk (Kd.R_below (by (with_reducible repeat (first | apply Kd.R_alloc | apply Kd.R_drewN | apply Kd.R_drew)); exact HO118.out) hb); have n1_ := Aside0.mk (below_step (by repeat (first | (with_reducible first | exact HB.out | apply below_alloc | apply pw_below_drewN | apply below_drew1) | exact HB.out)) hb); clear HO118; clear HB; have HO118 := n0_; have HB := n1_; clear n0_ n1_; (try clear hb); (try clear hb2); (try clear hk); (try clear hi)))
          go_ret
          exact ⟨by first | rfl | (simp [errW_none, errW_some] <;> rfl) | (simp [*, errW_none, errW_some] <;> rfl), by repeat (first | (with_reducible first | exact HB.out | apply below_alloc | apply pw_below_drewN | apply below_drew1) | exact HB.out)⟩
        · rw [if_neg c7] at H
          have c7b0 : decide (2 < (t116.length : Int)) = false := decide_eq_false c7
          have c7b1 : decide (2 < t116.length) = false := decide_eq_false (by omega)
          clear c7
          obtain ⟨ji11, hji11⟩ : ∃ j_ : Int, (wrap64 ((t116.length : Int) - 1)) = j_ := ⟨_, rfl⟩
          replace H : (if 0 ≤ (ji11) then (if (ji11) < (t116.length : Int) then (if (rdOf ByteArray.empty t116 (ji11)).toList = ([] : List UInt8) then (some false) else ((spec_NameValue.f k (rdOf ByteArray.empty t116 (ji11))).bind fun t122 => (some t122))) else (none)) else (none)) = some r := by first | (rw [hji11] at H; exact H) | (simp only [hji11] at H ⊢; exact H)
          (try rw [hji11] at A2)
          (try rw [hji11] at A5)
          have hji11w : (IntKind.i64.wrap ((t116.length : Int) - 1)) = ji11 := (i64_w _).trans hji11
          by_cases c12 : 0 ≤ (ji11)
          · rw [if_pos c12] at H
            have c12b0 : decide (0 ≤ (ji11)) = true := decide_eq_true c12
            clear c12
            by_cases c13 : (ji11) < (t116.length : Int)
            · rw [if_pos c13] at H
              have c13b0 : decide ((ji11) < (t116.length : Int)) = true := decide_eq_true c13
              clear c13
              by_cases c14 : (rdOf ByteArray.empty t116 (ji11)).toList = ([] : List UInt8)
              · rw [if_pos c14] at H
                have c14b0 : ((rdOf ByteArray.empty t116 (ji11)).toList == ([] : List UInt8)) = true := beq_iff_eq.mpr c14
                have c14b1 : ((rdOf ByteArray.empty t116 (ji11)).toList != ([] : List UInt8)) = false := bne_eq_false_iff_eq.mpr c14
                clear c14
                obtain rfl := Option.some.inj H
                go_enter Tryd.func10, Tryd.ntmps10
                go_wp2_with (first | ((with_reducible refine gate_callee (f := 17) rfl ?_); refine goesL_ (some 6) rfl rfl Tryd.func17 (by kernel_rfl) rfl #[.string a0, .int .u8 47] rfl (by (try simp only [List.map_toArray, List.map_cons, List.map_nil]); first | done | rfl | (simp only [List.length_drop, List.length_take]; rfl)) ?_; (with_reducible refine (spec_Split.calls k a0 47 t116 _ A2.out).mono ?_); rintro e w15 ⟨v117, rfl, ho0, hb⟩; refine ⟨_, rfl, ?_⟩; have n0_ := Aside0.mk (Kd.R_lower ho0 (below_size (by repeat (first | (with_reducible first | exact HB.out | apply below_alloc | apply pw_below_drewN | apply below_drew1) | exact HB.out)))); have n1_ := Aside0.mk (below_step (by repeat (first | (with_reducible first | exact HB.out | apply below_alloc | apply pw_below_drewN | apply below_drew1) | exact HB.out)) hb); clear HB; have HO118 := n0_; have HB := n1_; clear n0_ n1_; (try clear hb); (try clear hb2); (try clear hk); (try clear hi); (try clear ho0); obtain ⟨Ao16, co16, eo16⟩ := Kd.R_slice HO118.out; subst eo16; have p119 : 0 ≤ (0 : Int) := (by omega); have q119 : 0 < (t116.length : Int) := of_decide_eq_true (by first | (with_reducible assumption) | assumption); obtain ⟨ad119, e119, hx119_0⟩ := Kd.at_string (Kd.R_reads' HO118.out).2.2 0 p119 q119; cases e119; have qi119 : (0 < t116.length) = True := eq_true (by omega); (try rw [show ((0 : Int)).toNat = 0 from rfl] at hx119_0); (try rw [Addr.add_zero'] at hx119_0); replace p119 := eq_true p119; replace q119 := eq_true q119) | (go_at_call 18; (with_reducible refine (spec_NameDomain.calls k (rdOf ByteArray.empty t116 0) true _ A5.out).mono ?_); rintro e w17 ⟨rfl, hb⟩; have n0_ := Aside0.mk (Kd.R_below (by (with_reducible repeat (first | apply Kd.R_alloc | apply Kd.R_drewN | apply Kd.R_drew)); exact HO118.out) hb); have n1_ := Aside0.mk (below_step (by repeat (first | (with_reducible first | exact HB.out | apply below_alloc | apply pw_below_drewN | apply below_drew1) | exact HB.out)) hb); clear HO118; clear HB; have HO118 := n0_; have HB := n1_; clear n0_ n1_; (try clear hb); (try clear hb2); (try clear hk); (try clear hi); have p121 : 0 ≤ ((ji11) : Int) := of_decide_eq_true (by first | (with_reducible assumption) | assumption); have q121 : (ji11) < (t116.length : Int) := of_decide_eq_true (by first | (with_reducible assumption) | assumption); obtain ⟨ad121, e121, hx121_0⟩ := Kd.at_string (Kd.R_reads' HO118.out).2.2 (ji11) p121 q121; obtain rfl : ad119 = ad121 := (by injection e121); replace p121 := eq_true p121; replace q121 := eq_true q121))
                go_ret
                exact ⟨by first | rfl | (simp [errW_none, errW_some] <;> rfl) | (simp only [← hji11]; first | rfl | (simp [errW_none, errW_some] <;> rfl)) | (simp [*, errW_none, errW_some] <;> rfl), by repeat (first | (with_reducible first | exact HB.out | apply below_alloc | apply pw_below_drewN | apply below_drew1) | exact HB.out)⟩
              · rw [if_neg c14] at H
                have c14b0 : ((rdOf ByteArray.empty t116 (ji11)).toList == ([] : List UInt8)) = false := beq_eq_false_iff_ne.mpr c14
                have c14b1 : ((rdOf ByteArray.empty t116 (ji11)).toList != ([] : List UInt8)) = true := bne_iff_ne.mpr c14
                replace H := Option.bind_eq_some_iff.mp H
                obtain ⟨t122, A180, H⟩ := H
                replace H : (some t122) = some r := H
                have A18 := Aside0.mk A180
                clear A180
                obtain rfl := Option.some.inj H
                go_enter Tryd.func10, Tryd.ntmps10
                go_wp2_with (first | ((with_reducible refine gate_callee (f := 17) rfl ?_); refine goesL_ (some 6) rfl rfl Tryd.func17 (by kernel_rfl) rfl #[.string a0, .int .u8 47] rfl (by (try simp only [List.map_toArray, List.map_cons, List.map_nil]); first | done | rfl | (simp only [List.length_drop, List.length_take]; rfl)) ?_; (with_reducible refine (spec_Split.calls k a0 47 t116 _ A2.out).mono ?_); rintro e w19 ⟨v117, rfl, ho0, hb⟩; refine ⟨_, rfl, ?_⟩; have n0_ := Aside0.mk (Kd.R_lower ho0 (below_size (by repeat (first | (with_reducible first | exact HB.out | apply below_alloc | apply pw_below_drewN | apply below_drew1) | exact HB.out)))); have n1_ := Aside0.mk (below_step (by repeat (first | (with_reducible first | exact HB.out | apply below_alloc | apply pw_below_drewN | apply below_drew1) | exact HB.out)) hb); clear HB; have HO118 := n0_; have HB := n1_; clear n0_ n1_; (try clear hb); (try clear hb2); (try clear hk); (try clear hi); (try clear ho0); obtain ⟨Ao20, co20, eo20⟩ := Kd.R_slice HO118.out; subst eo20; have p119 : 0 ≤ (0 : Int) := (by omega); have q119 : 0 < (t116.length : Int) := of_decide_eq_true (by first | (with_reducible assumption) | assumption); obtain ⟨ad119, e119, hx119_0⟩ := Kd.at_string (Kd.R_reads' HO118.out).2.2 0 p119 q119; cases e119; have qi119 : (0 < t116.length) = True := eq_true (by omega); (try rw [show ((0 : Int)).toNat = 0 from rfl] at hx119_0); (try rw [Addr.add_zero'] at hx119_0); replace p119 := eq_true p119; replace q119 := eq_true q119) | (go_at_call 18; (with_reducible refine (spec_NameDomain.calls k (rdOf ByteArray.empty t116 0) true _ A5.out).mono ?_); rintro e w21 ⟨rfl, hb⟩; have n0_ := Aside0.mk (Kd.R_below (by (with_reducible repeat (first | apply Kd.R_alloc | apply Kd.R_drewN | apply Kd.R_drew)); exact HO118.out) hb); have n1_ := Aside0.mk (below_step (by repeat (first | (with_reducible first | exact HB.out | apply below_alloc | apply pw_below_drewN | apply below_drew1) | exact HB.out)) hb); clear HO118; clear HB; have HO118 := n0_; have HB := n1_; clear n0_ n1_; (try clear hb); (try clear hb2); (try clear hk); (try clear hi); have p121 : 0 ≤ ((ji11) : Int) := of_decide_eq_true (by first | (with_reducible assumption) | assumption); have q121 : (ji11) < (t116.length : Int) := of_decide_eq_true (by first | (with_reducible assumption) | assumption); obtain ⟨ad121, e121, hx121_0⟩ := Kd.at_string (Kd.R_reads' HO118.out).2.2 (ji11) p121 q121; obtain rfl : ad119 = ad121 := (by injection e121); replace p121 := eq_true p121; replace q121 := eq_true q121) | (go_at_call 11; (with_reducible refine (spec_NameValue.calls k (rdOf ByteArray.empty t116 (ji11)) t122 _ A18.out).mono ?_); rintro e w22 ⟨rfl, hb⟩; have n0_ := Aside0.mk (Kd.R_below (by (with_reducible repeat (first | apply Kd.R_alloc | apply Kd.R_drewN | apply Kd.R_drew)); exact HO118.out) hb); have n1_ := Aside0.mk (below_step (by repeat (first | (with_reducible first | exact HB.out | apply below_alloc | apply pw_below_drewN | apply below_drew1) | exact HB.out)) hb); clear HO118; clear HB; have HO118 := n0_; have HB := n1_; clear n0_ n1_; (try clear hb); (try clear hb2); (try clear hk); (try clear hi)))
                go_ret
                exact ⟨by first | rfl | (simp [errW_none, errW_some] <;> rfl) | (simp only [← hji11]; first | rfl | (simp [errW_none, errW_some] <;> rfl)) | (simp [*, errW_none, errW_some] <;> rfl), by repeat (first | (with_reducible first | exact HB.out | apply below_alloc | apply pw_below_drewN | apply below_drew1) | exact HB.out)⟩
            · rw [if_neg c13] at H
              exact absurd H (by simp)
          · rw [if_neg c12] at H
            exact absurd H (by simp)
      · replace c6 := Bool.eq_false_iff.mpr c6
        subst c6
        have H1 : (some false) = some r := by rw [if_neg (show ¬ (false = true) by decide)] at H; exact H
        clear H
        have H := H1
        clear H1
        obtain rfl := Option.some.inj H
        go_enter Tryd.func10, Tryd.ntmps10
        go_wp2_with (first | ((with_reducible refine gate_callee (f := 17) rfl ?_); refine goesL_ (some 6) rfl rfl Tryd.func17 (by kernel_rfl) rfl #[.string a0, .int .u8 47] rfl (by (try simp only [List.map_toArray, List.map_cons, List.map_nil]); first | done | rfl | (simp only [List.length_drop, List.length_take]; rfl)) ?_; (with_reducible refine (spec_Split.calls k a0 47 t116 _ A2.out).mono ?_); rintro e w23 ⟨v117, rfl, ho0, hb⟩; refine ⟨_, rfl, ?_⟩; have n0_ := Aside0.mk (Kd.R_lower ho0 (below_size (by repeat (first | (with_reducible first | exact HB.out | apply below_alloc | apply pw_below_drewN | apply below_drew1) | exact HB.out)))); have n1_ := Aside0.mk (below_step (by repeat (first | (with_reducible first | exact HB.out | apply below_alloc | apply pw_below_drewN | apply below_drew1) | exact HB.out)) hb); clear HB; have HO118 := n0_; have HB := n1_; clear n0_ n1_; (try clear hb); (try clear hb2); (try clear hk); (try clear hi); (try clear ho0); obtain ⟨Ao24, co24, eo24⟩ := Kd.R_slice HO118.out; subst eo24; have p119 : 0 ≤ (0 : Int) := (by omega); have q119 : 0 < (t116.length : Int) := of_decide_eq_true (by first | (with_reducible assumption) | assumption); obtain ⟨ad119, e119, hx119_0⟩ := Kd.at_string (Kd.R_reads' HO118.out).2.2 0 p119 q119; cases e119; have qi119 : (0 < t116.length) = True := eq_true (by omega); (try rw [show ((0 : Int)).toNat = 0 from rfl] at hx119_0); (try rw [Addr.add_zero'] at hx119_0); replace p119 := eq_true p119; replace q119 := eq_true q119) | (go_at_call 18; (with_reducible refine (spec_NameDomain.calls k (rdOf ByteArray.empty t116 0) false _ A5.out).mono ?_); rintro e w25 ⟨rfl, hb⟩; have n0_ := Aside0.mk (Kd.R_below (by (with_reducible repeat (first | apply Kd.R_alloc | apply Kd.R_drewN | apply Kd.R_drew)); exact HO118.out) hb); have n1_ := Aside0.mk (below_step (by repeat (first | (with_reducible first | exact HB.out | apply below_alloc | apply pw_below_drewN | apply below_drew1) | exact HB.out)) hb); clear HO118; clear HB; have HO118 := n0_; have HB := n1_; clear n0_ n1_; (try clear hb); (try clear hb2); (try clear hk); (try clear hi)))
        go_ret
        exact ⟨by first | rfl | (simp [errW_none, errW_some] <;> rfl) | (simp [*, errW_none, errW_some] <;> rfl), by repeat (first | (with_reducible first | exact HB.out | apply below_alloc | apply pw_below_drewN | apply below_drew1) | exact HB.out)⟩
    · rw [if_neg c4] at H
      exact absurd H (by simp)
  · rw [if_neg c3] at H
    have c3b0 : ((t116.length : Int) == 2) = false := beq_eq_false_iff_ne.mpr c3
    have c3b1 : ((t116.length : Int) != 2) = true := bne_iff_ne.mpr c3
    by_cases c26 : (t116.length : Int) > 2
    · rw [if_pos c26] at H
      have c26b0 : decide (2 < (t116.length : Int)) = true := decide_eq_true c26
      have c26b1 : decide (2 < t116.length) = true := decide_eq_true (by omega)
      clear c26
      obtain rfl := Option.some.inj H
      go_enter Tryd.func10, Tryd.ntmps10
      go_wp2_with (first | ((with_reducible refine gate_callee (f := 17) rfl ?_); refine goesL_ (some 6) rfl rfl Tryd.func17 (by kernel_rfl) rfl #[.string a0, .int .u8 47] rfl (by (try simp only [List.map_toArray, List.map_cons, List.map_nil]); first | done | rfl | (simp only [List.length_drop, List.length_take]; rfl)) ?_; (with_reducible refine (spec_Split.calls k a0 47 t116 _ A2.out).mono ?_); rintro e w27 ⟨v117, rfl, ho0, hb⟩; refine ⟨_, rfl, ?_⟩; have n0_ := Aside0.mk (Kd.R_lower ho0 (below_size (by repeat (first | (with_reducible first | exact HB.out | apply below_alloc | apply pw_below_drewN | apply below_drew1) | exact HB.out)))); have n1_ := Aside0.mk (below_step (by repeat (first | (with_reducible first | exact HB.out | apply below_alloc | apply pw_below_drewN | apply below_drew1) | exact HB.out)) hb); clear HB; have HO118 := n0_; have HB := n1_; clear n0_ n1_; (try clear hb); (try clear hb2); (try clear hk); (try clear hi); (try clear ho0); obtain ⟨Ao28, co28, eo28⟩ := Kd.R_slice HO118.out; subst eo28))
      go_ret
      exact ⟨by first | rfl | (simp [errW_none, errW_some] <;> rfl) | (simp [*, errW_none, errW_some] <;> rfl), by repeat (first | (with_reducible first | exact HB.out | apply below_alloc | apply pw_below_drewN | apply below_drew1) | exact HB.out)⟩
    · rw [if_neg c26] at H
      have c26b0 : decide (2 < (t116.length : Int)) = false := decide_eq_false c26
      have c26b1 : decide (2 < t116.length) = false := decide_eq_false (by omega)
      clear c26
      obtain ⟨ji29, hji29⟩ : ∃ j_ : Int, (wrap64 ((t116.length : Int) - 1)) = j_ := ⟨_, rfl⟩
      replace H : (if 0 ≤ (ji29) then (if (ji29) < (t116.length : Int) then (if (rdOf ByteArray.empty t116 (ji29)).toList = ([] : List UInt8) then (some false) else ((spec_NameValue.f k (rdOf ByteArray.empty t116 (ji29))).bind fun t124 => (some t124))) else (none)) else (none)) = some r := by first | (rw [hji29] at H; exact H) | (simp only [hji29] at H ⊢; exact H)
      (try rw [hji29] at A2)
      have hji29w : (IntKind.i64.wrap ((t116.length : Int) - 1)) = ji29 := (i64_w _).trans hji29
      by_cases c30 : 0 ≤ (ji29)
      · rw [if_pos c30] at H
        have c30b0 : decide (0 ≤ (ji29)) = true := decide_eq_true c30
        clear c30
        by_cases c31 : (ji29) < (t116.length : Int)
        · rw [if_pos c31] at H
          have c31b0 : decide ((ji29) < (t116.length : Int)) = true := decide_eq_true c31
          clear c31
          by_cases c32 : (rdOf ByteArray.empty t116 (ji29)).toList = ([] : List UInt8)
          · rw [if_pos c32] at H
            have c32b0 : ((rdOf ByteArray.empty t116 (ji29)).toList == ([] : List UInt8)) = true := beq_iff_eq.mpr c32
            have c32b1 : ((rdOf ByteArray.empty t116 (ji29)).toList != ([] : List UInt8)) = false := bne_eq_false_iff_eq.mpr c32
            clear c32
            obtain rfl := Option.some.inj H
            go_enter Tryd.func10, Tryd.ntmps10
            go_wp2_with (first | ((with_reducible refine gate_callee (f := 17) rfl ?_); refine goesL_ (some 6) rfl rfl Tryd.func17 (by kernel_rfl) rfl #[.string a0, .int .u8 47] rfl (by (try simp only [List.map_toArray, List.map_cons, List.map_nil]); first | done | rfl | (simp only [List.length_drop, List.length_take]; rfl)) ?_; (with_reducible refine (spec_Split.calls k a0 47 t116 _ A2.out).mono ?_); rintro e w33 ⟨v117, rfl, ho0, hb⟩; refine ⟨_, rfl, ?_⟩; have n0_ := Aside0.mk (Kd.R_lower ho0 (below_size (by repeat (first | (with_reducible first | exact HB.out | apply below_alloc | apply pw_below_drewN | apply below_drew1) | exact HB.out)))); have n1_ := Aside0.mk (below_step (by repeat (first | (with_reducible first | exact HB.out | apply below_alloc | apply pw_below_drewN | apply below_drew1) | exact HB.out)) hb); clear HB; have HO118 := n0_; have HB := n1_; clear n0_ n1_; (try clear hb); (try clear hb2); (try clear hk); (try clear hi); (try clear ho0); obtain ⟨Ao34, co34, eo34⟩ := Kd.R_slice HO118.out; subst eo34; have p123 : 0 ≤ ((ji29) : Int) := of_decide_eq_true (by first | (with_reducible assumption) | assumption); have q123 : (ji29) < (t116.length : Int) := of_decide_eq_true (by first | (with_reducible assumption) | assumption); obtain ⟨ad123, e123, hx123_0⟩ := Kd.at_string (Kd.R_reads' HO118.out).2.2 (ji29) p123 q123; cases e123; replace p123 := eq_true p123; replace q123 := eq_true q123))
            go_ret
            exact ⟨by first | rfl | (simp [errW_none, errW_some] <;> rfl) | (simp only [← hji29]; first | rfl | (simp [errW_none, errW_some] <;> rfl)) | (simp [*, errW_none, errW_some] <;> rfl), by repeat (first | (with_reducible first | exact HB.out | apply below_alloc | apply pw_below_drewN | apply below_drew1) | exact HB.out)⟩
          · rw [if_neg c32] at H
            have c32b0 : ((rdOf ByteArray.empty t116 (ji29)).toList == ([] : List UInt8)) = false := beq_eq_false_iff_ne.mpr c32
            have c32b1 : ((rdOf ByteArray.empty t116 (ji29)).toList != ([] : List UInt8)) = true := bne_iff_ne.mpr c32
            replace H := Option.bind_eq_some_iff.mp H
            obtain ⟨t124, A350, H⟩ := H
            replace H : (some t124) = some r := H
            have A35 := Aside0.mk A350
            clear A350
            obtain rfl := Option.some.inj H
            go_enter Tryd.func10, Tryd.ntmps10
            go_wp2_with (first | ((with_reducible refine gate_callee (f := 17) rfl ?_); refine goesL_ (some 6) rfl rfl Tryd.func17 (by kernel_rfl) rfl #[.string a0, .int .u8 47] rfl (by (try simp only [List.map_toArray, List.map_cons, List.map_nil]); first | done | rfl | (simp only [List.length_drop, List.length_take]; rfl)) ?_; (with_reducible refine (spec_Split.calls k a0 47 t116 _ A2.out).mono ?_); rintro e w36 ⟨v117, rfl, ho0, hb⟩; refine ⟨_, rfl, ?_⟩; have n0_ := Aside0.mk (Kd.R_lower ho0 (below_size (by repeat (first | (with_reducible first | exact HB.out | apply below_alloc | apply pw_below_drewN | apply below_drew1) | exact HB.out)))); have n1_ := Aside0.mk (below_step (by repeat (first | (with_reducible first | exact HB.out | apply below_alloc | apply pw_below_drewN | apply below_drew1) | exact HB.out)) hb); clear HB; have HO118 := n0_; have HB := n1_; clear n0_ n1_; (try clear hb); (try clear hb2); (try clear hk); (try clear hi); (try clear ho0); obtain ⟨Ao37, co37, eo37⟩ := Kd.R_slice HO118.out; subst eo37; have p123 : 0 ≤ ((ji29) : Int) := of_decide_eq_true (by first | (with_reducible assumption) | assumption); have q123 : (ji29) < (t116.length : Int) := of_decide_eq_true (by first | (with_reducible assumption) | assumption); obtain ⟨ad123, e123, hx123_0⟩ := Kd.at_string (Kd.R_reads' HO118.out).2.2 (ji29) p123 q123; cases e123; replace p123 := eq_true p123; replace q123 := eq_true q123) | (go_at_call 11; (with_reducible refine (spec_NameValue.calls k (rdOf ByteArray.empty t116 (ji29)) t124 _ A35.out).mono ?_); rintro e w38 ⟨rfl, hb⟩; have n0_ := Aside0.mk (Kd.R_below (by (with_reducible repeat (first | apply Kd.R_alloc | apply Kd.R_drewN | apply Kd.R_drew)); exact HO118.out) hb); have n1_ := Aside0.mk (below_step (by repeat (first | (with_reducible first | exact HB.out | apply below_alloc | apply pw_below_drewN | apply below_drew1) | exact HB.out)) hb); clear HO118; clear HB; have HO118 := n0_; have HB := n1_; clear n0_ n1_; (try clear hb); (try clear hb2); (try clear hk); (try clear hi)))
            go_ret
            exact ⟨by first | rfl | (simp [errW_none, errW_some] <;> rfl) | (simp only [← hji29]; first | rfl | (simp [errW_none, errW_some] <;> rfl)) | (simp [*, errW_none, errW_some] <;> rfl), by repeat (first | (with_reducible first | exact HB.out | apply below_alloc | apply pw_below_drewN | apply below_drew1) | exact HB.out)⟩
        · rw [if_neg c31] at H
          exact absurd H (by simp)
      · rw [if_neg c30] at H
        exact absurd H (by simp)

end Go.Proofs.YtjlmhfciidfjiaaDoor.XFnNeedNot
