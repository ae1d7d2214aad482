/- For all levels and numbers: a version of kinds that is written out of its parts stands above each that is less by its level, by its first number, by its second one, and below each that is more. -/
import Derived.Test.YtmkpkpkcoieeiaaDoorXFnKubeMadexz
import Derived.Test.YtmkpkpkcoieeiaaDoorStr
import Derived.Test.YtmkpkpkcoieeiaaDoorNum
import Derived.Test.YtmkpkpkcoieeiaaDoorQFnKubeMade
namespace Go.Proofs.YtmkpkpkcoieeiaaDoor.Pure
open Go.RowKit Go.Proofs.YtmkpkpkcoieeiaaDoor.XFnKubeMade Go.Proofs.YtmkpkpkcoieeiaaDoorW.PrintWords Go.Proofs.YtmkpkpkcoieeiaaDoorW.PrintLast Go.Proofs.YtmkpkpkcoieeiaaDoorW.PrintMore Go.Proofs.YtmkpkpkcoieeiaaDoor.EvL Go.Proofs.YtmkpkpkcoieeiaaDoor.Str Go.Proofs.YtmkpkpkcoieeiaaDoor.Num

theorem zzDigits_l0 (s : ByteArray) (hs : s.size ≤ 2147483648) (n : Nat) : ∀ i : Nat, (L s).length - i = n → i ≤ (L s).length →
    Ev (fun k => version_zzDigits.l0 k s i) ((i + (lead ((L s).drop i)).length : Nat) : Int) := by
  have hz := size_L s
  induction n with
  | zero =>
    intro i hn hi
    have e : (L s).drop i = [] := List.drop_eq_nil_of_le (by omega)
    rw [e]
    exact Ev.step (fun k => version_zzDigits.l0.eq_2 ..) (ifn (by omega) (now rfl))
  | succ n ih =>
    intro i hn hi
    have hlt : i < (L s).length := by omega
    refine Ev.step (fun k => version_zzDigits.l0.eq_2 ..) (ifp (by omega) (ifp (by omega) ?_))
    rw [bt_L s i hlt, List.drop_eq_getElem_cons hlt, lead_cons, w64 (x := (i : Int) + 1) (by omega) (by omega)]
    generalize (L s)[i] = c
    by_cases h48 : 48 ≤ (c.toNat : Int)
    · refine ifp h48 ?_
      by_cases h57 : (c.toNat : Int) ≤ 57
      · refine ifp h57 ?_
        rw [if_pos (by unfold dig; omega), List.length_cons, show i + ((lead ((L s).drop (i + 1))).length + 1) = (i + 1) + (lead ((L s).drop (i + 1))).length from by omega]
        exact ih (i + 1) (by omega) (by omega)
      · refine ifn h57 (now ?_)
        rw [if_neg (by unfold dig; omega)]; rfl
    · refine ifn h48 (now ?_)
      rw [if_neg (by unfold dig; omega)]; rfl

theorem zzDigits_ev (s : ByteArray) (hs : s.size ≤ 2147483648) (i : Nat) (hi : i ≤ (L s).length) : Ev (fun k => version_zzDigits.f k s i) ((i + (lead ((L s).drop i)).length : Nat) : Int) :=
  zzDigits_l0 s hs _ i rfl hi

/-- A version of kinds: how far it is, its two numbers, its word. -/
structure IsKube (t : Int) (M D W : ByteArray) : Prop where
  word : (t = 0 ∧ L W = [97, 108, 112, 104, 97] ∧ L D ≠ []) ∨ (t = 1 ∧ L W = [98, 101, 116, 97] ∧ L D ≠ []) ∨ (t = 2 ∧ L W = [] ∧ L D = [])
  major : digs (L M)
  some : L M ≠ []
  minor : digs (L D)

/-- How two numbers stand. -/
def cmpn (x y : Nat) : Int := if x < y then -1 else if y < x then 1 else 0

/-- The sign. -/
def sg (x : Int) : Int := if x < 0 then -1 else if x > 0 then 1 else 0

theorem sign_eq (x : Int) : spec_verSign.f x = some (sg x) := by
  unfold spec_verSign.f sg
  by_cases h : x < 0
  · rw [if_pos h, if_pos h]
  · rw [if_neg h, if_neg h]
    by_cases h2 : x > 0
    · rw [if_pos h2, if_pos h2]
    · rw [if_neg h2, if_neg h2]

theorem Sign_eq (x : Int) : spec_Sign.f x = some (sg x) := by unfold spec_Sign.f; rw [sign_eq]; rfl

theorem whole_digs {l : List UInt8} (hd : digs l) (hne : l ≠ []) (h18 : l.length ≤ 18) : whole (-9223372036854775808) 9223372036854775807 l = some ((val 0 l : Nat) : Int) := by
  have h1 := val_lt l 0 hd
  have h2 : (10 : Nat) ^ l.length ≤ 10 ^ 18 := Nat.pow_le_pow_right (by decide) h18
  have h3 : (10 : Nat) ^ 18 = 1000000000000000000 := by decide
  cases l with
  | nil => exact absurd rfl hne
  | cons c r =>
    obtain ⟨hc, hr⟩ := digs_cons.1 hd
    unfold dig at hc
    have hb : body (c :: r) = c :: r := by show (if _ then _ else _) = _; rw [if_neg (by omega)]
    have hn : neg (c :: r) = false := by show decide _ = _; exact decide_eq_false (by omega)
    unfold whole num
    rw [hb, hn]
    simp only [Bool.false_eq_true, if_false]
    rw [if_pos ⟨hne, hd, by omega, by omega⟩]

theorem parse_yes (s : ByteArray) (t : Int) (M D W : ByteArray) (hk : IsKube t M D W) (hM : M.size ≤ 18) (hD : D.size ≤ 18) (h : Ev (fun k => version_zzKube.f k s) [s, M, W, D]) :
    Ev (fun k => version_parseKubeVersion.f k s) (((val 0 (L M) : Nat) : Int), t, ((val 0 (L D) : Nat) : Int), true) := by
  unfold version_parseKubeVersion.f
  have r1 : rdOf ByteArray.empty [s, M, W, D] 1 = M := rfl
  have r2 : rdOf ByteArray.empty [s, M, W, D] 2 = W := rfl
  have r3 : rdOf ByteArray.empty [s, M, W, D] 3 = D := rfl
  have zM := size_L M
  have zD := size_L D
  refine h.bind (ifp (by rw [r1, r3]; omega) (now ?_))
  have wM : whole (-9223372036854775808) 9223372036854775807 M.data.toList = some ((val 0 (L M) : Nat) : Int) := whole_digs hk.major hk.some (show (L M).length ≤ 18 from by omega)
  unfold kubeOf kubeRest
  rw [r1, r2, r3, wM, if_pos (show (([s, M, W, D].length : Nat) : Int) = 4 from rfl), toList_L]
  rcases hk.word with ⟨rfl, hw, hd⟩ | ⟨rfl, hw, hd⟩ | ⟨rfl, hw, hd⟩
  · have wD : whole (-9223372036854775808) 9223372036854775807 D.data.toList = some ((val 0 (L D) : Nat) : Int) := whole_digs hk.minor hd (show (L D).length ≤ 18 from by omega)
    rw [if_pos hw, wD]
    rfl
  · have wD : whole (-9223372036854775808) 9223372036854775807 D.data.toList = some ((val 0 (L D) : Nat) : Int) := whole_digs hk.minor hd (show (L D).length ≤ 18 from by omega)
    rw [if_neg (by rw [hw]; decide), if_pos hw, wD]
    rfl
  · rw [if_neg (by rw [hw]; decide), if_neg (by rw [hw]; decide), if_pos hw, hd]
    rfl

abbrev CK := version_CompareKubeAwareVersionStrings.f

theorem ck_same (a : ByteArray) : Ev (fun k => CK k a a) 0 := by
  unfold CK version_CompareKubeAwareVersionStrings.f
  exact ifp rfl (Ev.now _)

theorem ck_yy (a b : ByteArray) (x t y x2 u y2 : Int) (hab : ¬ a.toList = b.toList) (ha : Ev (fun k => version_parseKubeVersion.f k a) (x, t, y, true)) (hb : Ev (fun k => version_parseKubeVersion.f k b) (x2, u, y2, true)) :
    Ev (fun k => CK k a b) (if t = u then (if x = x2 then wrap64 (y - y2) else wrap64 (x - x2)) else wrap64 (t - u)) := by
  unfold CK version_CompareKubeAwareVersionStrings.f
  refine ifn hab (ha.bind (hb.bind (ifp rfl ?_)))
  refine Ev.step (fun k => version_CompareKubeAwareVersionStrings.j0.eq_2 ..) (ifn (by simp) (ifp rfl ?_))
  refine Ev.step (fun k => version_CompareKubeAwareVersionStrings.j1.eq_2 ..) (ifn (by simp) (ifp rfl (ifp rfl ?_)))
  refine Ev.step (fun k => version_CompareKubeAwareVersionStrings.j2.eq_2 ..) ?_
  dsimp only
  by_cases h : t = u
  · refine ifp h ?_
    by_cases h2 : x = x2
    · exact ifp h2 (now (by rw [if_pos h, if_pos h2]))
    · exact ifn h2 (now (by rw [if_pos h, if_neg h2]))
  · exact ifn h (now (by rw [if_neg h]))

theorem small (M : ByteArray) (d : digs (L M)) (h : M.size ≤ 18) : val 0 (L M) < 1000000000000000000 := by
  have h1 := val_lt (L M) 0 d
  have z := size_L M
  have h2 : (10 : Nat) ^ (L M).length ≤ 10 ^ 18 := Nat.pow_le_pow_right (by decide) (by omega)
  have h3 : (10 : Nat) ^ 18 = 1000000000000000000 := by decide
  omega

theorem lead_append {m r : List UInt8} (hm : digs m) (hr : ∀ c t, r = c :: t → ¬ dig c) : lead (m ++ r) = m := by
  induction m with
  | nil =>
    cases r with
    | nil => rfl
    | cons c t => rw [List.nil_append, lead_cons, if_neg (hr c t rfl)]
  | cons c m ih =>
    obtain ⟨hc, hm2⟩ := digs_cons.1 hm
    rw [List.cons_append, lead_cons, if_pos hc, ih hm2]

/-- A text that is written out of a version's parts is read as these. -/
theorem zz_yes (s : ByteArray) (hs : s.size ≤ 2147483647) (t : Int) (M D W : ByteArray) (hk : IsKube t M D W) (h : L s = 118 :: (L M ++ (L W ++ L D))) : Ev (fun k => version_zzKube.f k s) [s, M, W, D] := by
  have hz := size_L s
  have hlt : (L s).length = 1 + (L M).length + ((L W).length + (L D).length) := by rw [h]; simp; omega
  have hb : bt s 0 = 118 := by
    have h1 := bt_L s 0 (by omega)
    have h2 : (L s)[0]'(by omega) = 118 := by simp [h]
    rw [h2] at h1
    exact h1
  have hM0 := List.length_pos_iff.2 hk.some
  unfold version_zzKube.f
  refine ifn (by omega) (ifp (by omega) ?_)
  rw [hb]
  have hr : ∀ c u, L W ++ L D = c :: u → ¬ dig c := by
    intro c u e
    rcases hk.word with ⟨_, hw, _⟩ | ⟨_, hw, _⟩ | ⟨_, hw, hd⟩
    · rw [hw] at e; injection e with e1; subst e1; decide
    · rw [hw] at e; injection e with e1; subst e1; decide
    · rw [hw, hd] at e; cases e
  have hl := lead_append hk.major hr
  have hd := zzDigits_ev s (by omega) 1 (by omega)
  have ed : (L s).drop 1 = L M ++ (L W ++ L D) := by rw [h]; rfl
  rw [ed, hl] at hd
  have hR1 : ∀ j : Nat, (L s).drop (1 + (L M).length + j) = (L W ++ L D).drop j := by
    intro j
    rw [h, show 1 + (L M).length + j = ((L M).length + j) + 1 from by omega, List.drop_succ_cons, ← List.drop_drop]
    simp
  have hR2 : ∀ j : Nat, L (s.extract (1 + (L M).length) (1 + (L M).length + j)) = (L W ++ L D).take j := by
    intro j
    rw [L_extract, show 1 + (L M).length + j - (1 + (L M).length) = j from by omega, show 1 + (L M).length = 1 + (L M).length + 0 from rfl, hR1]; rfl
  have eM2 : s.extract 1 (1 + (L M).length) = M := by
    apply L_inj
    rw [L_extract, h, show 1 + (L M).length - 1 = (L M).length from by omega]
    simp
  have eD2 : ∀ j : Nat, j = (L W).length → s.extract (1 + (L M).length + j) s.size = D := by
    intro j hj
    apply L_inj
    rw [L_from, hR1, hj]; simp
  refine Ev.step (fun k => version_zzKube.j0.eq_2 ..) (ifn (by simp) (hd.bind (ifn (by omega) ?_)))
  have lD := lead_all hk.minor
  rcases hk.word with ⟨_, hw, hd0⟩ | ⟨_, hw, hd0⟩ | ⟨_, hw, hd0⟩
  · have hD0 := List.length_pos_iff.2 hd0
    have hw5 : (L W).length = 5 := by rw [hw]; rfl
    have hd5 := zzDigits_ev s (by omega) (1 + (L M).length + 5) (by omega)
    have hd6 : (L W ++ L D).drop 5 = L D := by rw [← hw5]; simp
    have hd7 : (L W ++ L D).take 5 = [97, 108, 112, 104, 97] := by rw [← hw5, ← hw]; simp
    rw [hR1, hd6, lD] at hd5
    refine ifn (by omega) ?_
    rw [w64 (x := ((1 + (L M).length : Nat) : Int) + 5) (by omega) (by omega)]
    refine ifp (by omega) (ifp (by omega) (ifp (by omega) (ifp (by omega) ?_)))
    rw [toList_L, show (((1 + (L M).length : Nat) : Int)).toNat = 1 + (L M).length from by omega, show (((1 + (L M).length : Nat) : Int) + 5).toNat = 1 + (L M).length + 5 from by omega, hR2, hd7]
    refine Ev.step (fun k => version_zzKube.j1.eq_2 ..) (ifp rfl ?_)
    rw [w64 (x := ((1 + (L M).length : Nat) : Int) + 5) (by omega) (by omega), show ((1 + (L M).length : Nat) : Int) + 5 = ((1 + (L M).length + 5 : Nat) : Int) from by omega]
    refine hd5.bind (ifn (by omega) (ifn (by omega) (ifp (by omega) (ifp (by omega) (ifp (by omega) (ifp (by omega) (now ?_)))))))
    rw [show (((1 + (L M).length : Nat) : Int)).toNat = 1 + (L M).length from by omega, show (((1 + (L M).length + 5 : Nat) : Int)).toNat = 1 + (L M).length + 5 from by omega, eM2, eD2 5 hw5.symm]
    rw [show W = (⟨#[97, 108, 112, 104, 97]⟩ : ByteArray) from L_inj (by rw [hw]; rfl)]
  · have hD0 := List.length_pos_iff.2 hd0
    have hw5 : (L W).length = 4 := by rw [hw]; rfl
    have hd5 := zzDigits_ev s (by omega) (1 + (L M).length + 4) (by omega)
    have hd6 : (L W ++ L D).drop 4 = L D := by rw [← hw5]; simp
    have hd7 : (L W ++ L D).take 4 = [98, 101, 116, 97] := by rw [← hw5, ← hw]; simp
    have hd8 : ¬ (L W ++ L D).take 5 = [97, 108, 112, 104, 97] := by rw [hw]; simp
    rw [hR1, hd6, lD] at hd5
    refine ifn (by omega) ?_
    rw [w64 (x := ((1 + (L M).length : Nat) : Int) + 5) (by omega) (by omega)]
    refine ifp (by omega) (ifp (by omega) (ifp (by omega) (ifp (by omega) ?_)))
    rw [toList_L, show (((1 + (L M).length : Nat) : Int)).toNat = 1 + (L M).length from by omega, show (((1 + (L M).length : Nat) : Int) + 5).toNat = 1 + (L M).length + 5 from by omega, hR2, beq_eq_false_iff_ne.mpr hd8]
    refine Ev.step (fun k => version_zzKube.j1.eq_2 ..) (ifn (by simp) ?_)
    rw [w64 (x := ((1 + (L M).length : Nat) : Int) + 4) (by omega) (by omega)]
    refine ifp (by omega) (ifp (by omega) (ifp (by omega) (ifp (by omega) ?_)))
    rw [toList_L, show (((1 + (L M).length : Nat) : Int)).toNat = 1 + (L M).length from by omega, show (((1 + (L M).length : Nat) : Int) + 4).toNat = 1 + (L M).length + 4 from by omega, hR2, hd7]
    refine Ev.step (fun k => version_zzKube.j2.eq_2 ..) (ifp rfl ?_)
    rw [w64 (x := ((1 + (L M).length : Nat) : Int) + 4) (by omega) (by omega), show ((1 + (L M).length : Nat) : Int) + 4 = ((1 + (L M).length + 4 : Nat) : Int) from by omega]
    refine hd5.bind (ifn (by omega) (ifn (by omega) (ifp (by omega) (ifp (by omega) (ifp (by omega) (ifp (by omega) (now ?_)))))))
    rw [show (((1 + (L M).length : Nat) : Int)).toNat = 1 + (L M).length from by omega, show (((1 + (L M).length + 4 : Nat) : Int)).toNat = 1 + (L M).length + 4 from by omega, eM2, eD2 4 hw5.symm]
    rw [show W = (⟨#[98, 101, 116, 97]⟩ : ByteArray) from L_inj (by rw [hw]; rfl)]
  · have hw5 : (L W).length = 0 := by rw [hw]; rfl
    have hd6 : (L D).length = 0 := by rw [hd0]; rfl
    refine ifp (by omega) (ifp (by omega) (now ?_))
    rw [show W = (⟨#[]⟩ : ByteArray) from L_inj (by rw [hw]; rfl), show D = (⟨#[]⟩ : ByteArray) from L_inj (by rw [hd0]; rfl)]
    have e : s.extract 1 s.size = M := by
      apply L_inj
      rw [L_from, ed, hw, hd0]; simp
    rw [e]

theorem val_app : ∀ (a : List UInt8) (acc : Nat) (c : UInt8), val acc (a ++ [c]) = val acc a * 10 + (c.toNat - 48)
  | [], _, _ => rfl
  | x :: a, acc, c => val_app a (acc * 10 + (x.toNat - 48)) c

/-- A number's decimal digits. -/
theorem text_ev : ∀ (j n : Nat), n < 10 ^ (j + 1) → j < 18 → ∃ s : ByteArray, Ev (fun k => spec_VerUintText.f k (n : Int)) s ∧ digs (L s) ∧ L s ≠ [] ∧ val 0 (L s) = n ∧ s.size ≤ j + 1 := by
  have dg : ∀ n : Nat, (IntKind.u64.wrap (48 + (Int.tmod (n : Int) 10))) % 256 = ((48 + n % 10 : Nat) : Int) := by
    intro n
    have e : Int.tmod (n : Int) 10 = ((n % 10 : Nat) : Int) := by rw [Int.tmod_eq_emod_of_nonneg (by omega)]; omega
    rw [e, IntKind.wrap_u64]; omega
  have one : ∀ n : Nat, L (strOfNums [((48 + n % 10 : Nat) : Int)]) = [UInt8.ofNat (48 + n % 10)] := fun n => rfl
  have tn : ∀ n : Nat, (UInt8.ofNat (48 + n % 10)).toNat = 48 + n % 10 := fun n => by
    have : (UInt8.ofNat (48 + n % 10)).toNat = (48 + n % 10) % 256 := rfl
    omega
  have dd : ∀ n : Nat, dig (UInt8.ofNat (48 + n % 10)) := fun n => by unfold dig; rw [tn]; omega
  intro j
  induction j with
  | zero =>
    intro n hn _
    refine ⟨_, Ev.step (fun k => spec_VerUintText.f.eq_2 ..) (sb (ifp (by omega) (Ev.now _))), ?_⟩
    rw [dg, size_L, one]
    refine ⟨fun c hc => by rw [List.mem_singleton.1 hc]; exact dd n, by simp, ?_, by simp⟩
    show 0 * 10 + ((UInt8.ofNat (48 + n % 10)).toNat - 48) = n
    rw [tn]; omega
  | succ j ih =>
    intro n hn hj
    by_cases h10 : n < 10
    · refine ⟨_, Ev.step (fun k => spec_VerUintText.f.eq_2 ..) (sb (ifp (by omega) (Ev.now _))), ?_⟩
      rw [dg, size_L, one]
      refine ⟨fun c hc => by rw [List.mem_singleton.1 hc]; exact dd n, by simp, ?_, by simp⟩
      show 0 * 10 + ((UInt8.ofNat (48 + n % 10)).toNat - 48) = n
      rw [tn]; omega
    · obtain ⟨s, hs, h1, h2, h3, h4⟩ := ih (n / 10) (by rw [Nat.pow_succ] at hn; omega) (by omega)
      have e18 : (10 : Nat) ^ (j + 1 + 1) ≤ 10 ^ 18 := Nat.pow_le_pow_right (by decide) (by omega)
      have e18b : (10 : Nat) ^ 18 = 1000000000000000000 := by decide
      have e : IntKind.u64.wrap (Int.tdiv (n : Int) 10) = ((n / 10 : Nat) : Int) := by
        rw [Int.tdiv_eq_ediv_of_nonneg (by omega), IntKind.wrap_u64]; omega
      have z1 : (strOfNums [((48 + n % 10 : Nat) : Int)]).size = 1 := rfl
      refine ⟨s ++ strOfNums [((48 + n % 10 : Nat) : Int)], Ev.step (fun k => spec_VerUintText.f.eq_2 ..) (sb (ifn (by omega) ?_)), ?_, ?_, ?_, ?_⟩
      · rw [e, dg]
        exact hs.bind (ifp (by rw [z1]; omega) (Ev.now _))
      · rw [L_append, one]
        intro c hc
        rcases List.mem_append.1 hc with h | h
        · exact h1 c h
        · rw [List.mem_singleton.1 h]; exact dd n
      · rw [L_append, one]; simp
      · rw [L_append, one, val_app, h3, tn]; omega
      · rw [ByteArray.size_append, z1]; omega

/-- A version that is written out of its parts. -/
theorem made_ev (l a c : Int) (hl : 0 ≤ l ∧ l ≤ 255) (ha : 0 ≤ a ∧ a ≤ 4294967295) (hc : 0 ≤ c ∧ c ≤ 4294967295) :
    ∃ s M D W, Ev (fun k => laws_FnKubeMade_1.f k l a c) s ∧ s.size ≤ 2147483647 ∧ L s = 118 :: (L M ++ (L W ++ L D)) ∧ IsKube (Int.tmod l 3) M D W ∧ M.size ≤ 18 ∧ D.size ≤ 18 ∧ ((val 0 (L M) : Nat) : Int) = a ∧ (¬ Int.tmod l 3 = 2 → ((val 0 (L D) : Nat) : Int) = c) := by
  obtain ⟨M, eM, dM, nM, vM, zM⟩ := text_ev 9 a.toNat (by rw [show (10 : Nat) ^ (9 + 1) = 10000000000 from by decide]; omega) (by omega)
  obtain ⟨D, eD, dD, nD, vD, zD⟩ := text_ev 9 c.toNat (by rw [show (10 : Nat) ^ (9 + 1) = 10000000000 from by decide]; omega) (by omega)
  rw [show ((a.toNat : Nat) : Int) = a from by omega] at eM
  rw [show ((c.toNat : Nat) : Int) = c from by omega] at eD
  have wa : IntKind.u64.wrap a = a := by rw [IntKind.wrap_u64]; omega
  have wc : IntKind.u64.wrap c = c := by rw [IntKind.wrap_u64]; omega
  have ht : Int.tmod l 3 = l % 3 := Int.tmod_eq_emod_of_nonneg hl.1
  have z1 : (⟨#[118]⟩ : ByteArray).size = 1 := rfl
  have z5 : (⟨#[97, 108, 112, 104, 97]⟩ : ByteArray).size = 5 := rfl
  have z4 : (⟨#[98, 101, 116, 97]⟩ : ByteArray).size = 4 := rfl
  have l1 : L (⟨#[118]⟩ : ByteArray) = [118] := rfl
  have l5 : L (⟨#[97, 108, 112, 104, 97]⟩ : ByteArray) = [97, 108, 112, 104, 97] := rfl
  have l4 : L (⟨#[98, 101, 116, 97]⟩ : ByteArray) = [98, 101, 116, 97] := rfl
  unfold laws_FnKubeMade_1.f
  rw [wa, wc]
  by_cases h0 : Int.tmod l 3 = 0
  · refine ⟨_, M, D, (⟨#[97, 108, 112, 104, 97]⟩ : ByteArray), eM.bind (ifp (by omega) (ifp h0 (ifp (by rw [ByteArray.size_append, z1]; omega) (eD.bind (ifp (by rw [ByteArray.size_append, ByteArray.size_append, z1, z5]; omega) (Ev.now _)))))), ?_, ?_, ⟨.inl ⟨h0, rfl, nD⟩, dM, nM, dD⟩, by omega, by omega, by omega, fun _ => by omega⟩
    · simp only [ByteArray.size_append, z1, z5]; omega
    · simp only [L_append, l1, l5]; simp
  · by_cases h1 : Int.tmod l 3 = 1
    · refine ⟨_, M, D, (⟨#[98, 101, 116, 97]⟩ : ByteArray), eM.bind (ifp (by omega) (ifn h0 (ifp h1 (ifp (by rw [ByteArray.size_append, z1]; omega) (eD.bind (ifp (by rw [ByteArray.size_append, ByteArray.size_append, z1, z4]; omega) (Ev.now _))))))), ?_, ?_, ⟨.inr (.inl ⟨h1, rfl, nD⟩), dM, nM, dD⟩, by omega, by omega, by omega, fun _ => by omega⟩
      · simp only [ByteArray.size_append, z1, z4]; omega
      · simp only [L_append, l1, l4]; simp
    · refine ⟨_, M, (⟨#[]⟩ : ByteArray), (⟨#[]⟩ : ByteArray), eM.bind (ifp (by omega) (ifn h0 (ifn h1 (Ev.now _)))), ?_, ?_, ⟨.inr (.inr ⟨by omega, rfl, rfl⟩), dM, nM, fun c hc => by simp [L_nil] at hc⟩, by omega, by rw [size_nil]; omega, by omega, fun h2 => absurd (by omega) h2⟩
      · simp only [ByteArray.size_append, z1]; omega
      · simp only [L_append, l1, L_nil]; simp

theorem Ev.unique {α : Type} {g : Nat → Option α} {a b : α} (h1 : Ev g a) (h2 : Ev g b) : a = b := by
  obtain ⟨K1, h1⟩ := h1
  obtain ⟨K2, h2⟩ := h2
  have e1 := h1 (max K1 K2) (Nat.le_max_left _ _)
  have e2 := h2 (max K1 K2) (Nat.le_max_right _ _)
  exact Option.some.inj (e1.symm.trans e2)

theorem FnKubeMade : QFnKubeMade.Pure := by
  intro l u a b c d wl wu wa wb wc wd
  have bnd8 : ∀ x : Int, (Lit.int .u8 x).wf = true → 0 ≤ x ∧ x ≤ 255 := by
    intro x h
    have e1 : IntKind.u8.min = 0 := rfl
    have e2 : IntKind.u8.max = 255 := rfl
    simpa [Lit.wf, e1, e2] using h
  have bnd32 : ∀ x : Int, (Lit.int .u32 x).wf = true → 0 ≤ x ∧ x ≤ 4294967295 := by
    intro x h
    have e1 : IntKind.u32.min = 0 := rfl
    have e2 : IntKind.u32.max = 4294967295 := rfl
    simpa [Lit.wf, e1, e2] using h
  have hl := bnd8 l wl
  have hu := bnd8 u wu
  have ha := bnd32 a wa
  have hb := bnd32 b wb
  have hc := bnd32 c wc
  have hd := bnd32 d wd
  refine Ev.rounds ?_
  unfold laws_FnKubeMade.f
  obtain ⟨s, M, D, W, e1, zs, h1, k1, m1, d1, v1, w1⟩ := made_ev l a c hl ha hc
  obtain ⟨r, P, Q, X, e2, zr, h2, k2, m2, d2, v2, w2⟩ := made_ev u b d hu hb hd
  have p1 := parse_yes s _ M D W k1 m1 d1 (zz_yes s zs _ M D W k1 h1)
  have p2 := parse_yes r _ P Q X k2 m2 d2 (zz_yes r zr _ P Q X k2 h2)
  have hlm : Int.tmod l 3 = l % 3 := Int.tmod_eq_emod_of_nonneg hl.1
  have hum : Int.tmod u 3 = u % 3 := Int.tmod_eq_emod_of_nonneg hu.1
  have n2 : Int.tmod l 3 = 2 → L D = [] := by
    intro h
    rcases k1.word with ⟨q, _⟩ | ⟨q, _⟩ | ⟨_, _, q⟩
    · omega
    · omega
    · exact q
  have n3 : Int.tmod u 3 = 2 → L Q = [] := by
    intro h
    rcases k2.word with ⟨q, _⟩ | ⟨q, _⟩ | ⟨_, _, q⟩
    · omega
    · omega
    · exact q
  -- what the law wants
  have want : ∃ x, wants l u a b c d = some x ∧ ∃ t, Ev (fun k => CK k s r) t ∧ sg t = x := by
    have b3 := small D k1.minor d1
    have b4 := small Q k2.minor d2
    by_cases hsr : s.toList = r.toList
    · have e : s = r := L_inj (by rw [← toList_L, ← toList_L]; exact hsr)
      subst e
      have hq := Ev.unique p1 p2
      simp only [Prod.mk.injEq] at hq
      obtain ⟨q1, q2, q3, _⟩ := hq
      refine ⟨0, ?_, 0, ck_same s, rfl⟩
      unfold wants
      rw [if_neg (fun h => h q2), if_neg (fun h => h (by omega))]
      by_cases hg : Int.tmod l 3 = 2
      · rw [if_neg (fun h => h hg)]
      · have hg2 : ¬ Int.tmod u 3 = 2 := by omega
        have := w1 hg
        have := w2 hg2
        rw [if_pos hg, Sign_eq, show c = d from by omega]
        congr 1
        rw [w64 (x := d) (by omega) (by omega), w64 (by omega) (by omega)]
        unfold sg
        rw [if_neg (by omega), if_neg (by omega)]
    · refine ⟨_, ?_, _, ck_yy s r _ _ _ _ _ _ hsr p1 p2, rfl⟩
      unfold wants
      by_cases q1 : Int.tmod l 3 = Int.tmod u 3
      · rw [if_neg (fun h => h q1), if_pos q1, v1, v2]
        by_cases q2 : a = b
        · rw [if_neg (fun h => h q2), if_pos q2]
          by_cases hg : Int.tmod l 3 = 2
          · rw [if_neg (fun h => h hg), n2 hg, n3 (by omega)]
            show some 0 = some (sg (wrap64 ((0 : Int) - 0)))
            rw [w64 (by omega) (by omega)]
            rfl
          · have hg2 : ¬ Int.tmod u 3 = 2 := by omega
            rw [if_pos hg, Sign_eq, w1 hg, w2 hg2, w64 (x := c) (by omega) (by omega), w64 (x := d) (by omega) (by omega)]
        · rw [if_pos q2, if_neg q2, Sign_eq, w64 (x := a) (by omega) (by omega), w64 (x := b) (by omega) (by omega)]
      · rw [if_pos q1, if_neg q1, Sign_eq, w64 (x := Int.tmod l 3) (by omega) (by omega), w64 (x := Int.tmod u 3) (by omega) (by omega)]
  obtain ⟨x, hx, t, ht, hsg⟩ := want
  refine cb hx (e1.bind (e2.bind ?_))
  unfold impl_KubeCompare.f
  have hI : Ev (fun k => (version_CompareKubeAwareVersionStrings.f k s r).bind fun t123 => some t123) t := ht.bind (Ev.now _)
  refine hI.bind (cb (Sign_eq t) (now ?_))
  rw [hsg]; simp

end Go.Proofs.YtmkpkpkcoieeiaaDoor.Pure
