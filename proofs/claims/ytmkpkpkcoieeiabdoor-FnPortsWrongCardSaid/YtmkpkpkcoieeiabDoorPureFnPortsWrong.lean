/- For all first and last ports (of at most 2^20): a text of two numbers with a hyphen between in which a small letter is put somewhere, or whose last port is below its first one, or above 65535, is no range of ports. -/
import Derived.Test.YtmkpkpkcoieeiabDoorLFnPortsWrong
import Derived.Test.YtmkpkpkcoieeiabDoorQFnPortsWrong
namespace Go.Proofs.YtmkpkpkcoieeiabDoor.Pure
open Go.RowKit Go.Proofs.YtmkpkpkcoieeiabDoor.XFnPortsWrong Go.Proofs.YtmkpkpkcoieeiabDoorW.PrintWords Go.Proofs.YtmkpkpkcoieeiabDoorW.PrintLast Go.Proofs.YtmkpkpkcoieeiabDoor.EvL Go.Proofs.YtmkpkpkcoieeiabDoor.Str Go.Proofs.YtmkpkpkcoieeiabDoor.LFnPortsWrong Go.Proofs.YtmkpkpkcoieeiabDoor.Num

/-- A text with a letter among digits is no number. -/
theorem whole_letter {x y : List UInt8} {c : UInt8} (hx : digs x) (hc : 97 ≤ c.toNat) (a b : Int) : whole a b (x ++ c :: y) = none := by
  have hm : c ∈ body (x ++ c :: y) := by
    cases x with
    | nil =>
      have e : body ([] ++ c :: y) = c :: y := by show (if _ then _ else _) = _; rw [if_neg (by omega)]
      rw [e]; simp
    | cons d x =>
      obtain ⟨hd, _⟩ := digs_cons.1 hx
      unfold dig at hd
      have e : body ((d :: x) ++ c :: y) = (d :: x) ++ c :: y := by show (if _ then _ else _) = _; rw [if_neg (by omega)]; rfl
      rw [e]; simp
  unfold whole
  refine if_neg ?_
  rintro ⟨_, h, _⟩
  have := h c hm
  unfold dig at this
  omega

theorem letter_of (z : Int) (hz : 0 ≤ z ∧ z ≤ 255) : ∃ c : UInt8, L (strOfNums [(97 + (Int.tmod z 26)) % 256]) = [c] ∧ 97 ≤ c.toNat ∧ c.toNat < 128 := by
  have e : Int.tmod z 26 = z % 26 := Int.tmod_eq_emod_of_nonneg hz.1
  refine ⟨UInt8.ofNat ((97 + (Int.tmod z 26)) % 256).toNat, rfl, ?_, ?_⟩
  · have : (UInt8.ofNat ((97 + (Int.tmod z 26)) % 256).toNat).toNat = ((97 + (Int.tmod z 26)) % 256).toNat % 256 := rfl
    omega
  · have : (UInt8.ofNat ((97 + (Int.tmod z 26)) % 256).toNat).toNat = ((97 + (Int.tmod z 26)) % 256).toNat % 256 := rfl
    omega

theorem FnPortsWrong : QFnPortsWrong.Pure := by
  intro a b x z wa wb wx wz
  have bnd8 : ∀ x : Int, (Lit.int .u8 x).wf = true → 0 ≤ x ∧ x ≤ 255 := by
    intro x h
    have e1 : IntKind.u8.min = 0 := rfl
    have e2 : IntKind.u8.max = 255 := rfl
    simpa [Lit.wf, e1, e2] using h
  have hx := bnd8 x wx
  have hz := bnd8 z wz
  refine Ev.rounds ?_
  unfold laws_FnPortsWrong.f
  have stop : Ev (fun k => laws_FnPortsWrong.j0 k a b x z true) true := Ev.step (fun k => laws_FnPortsWrong.j0.eq_2 ..) (ifp rfl (Ev.now _))
  by_cases a0 : a < 1
  · exact ifp a0 stop
  refine ifn a0 ?_
  by_cases b0 : b < 1
  · exact ifp b0 stop
  refine ifn b0 ?_
  by_cases a1 : a > 1048576
  · exact ifp a1 stop
  refine ifn a1 ?_
  by_cases b1 : b > 1048576
  · rw [decide_eq_true b1]; exact stop
  rw [decide_eq_false b1]
  obtain ⟨s, eS, dS, nS, vS, zS⟩ := number_ev a (by omega) (by omega)
  obtain ⟨t, eT, dT, nT, vT, zT⟩ := number_ev b (by omega) (by omega)
  have wS := whole_text dS nS zS
  have wT := whole_text dT nT zT
  have zzS := size_L s
  have zzT := size_L t
  have lS := List.length_pos_iff.2 nS
  have lT := List.length_pos_iff.2 nT
  obtain ⟨p, hp⟩ : ∃ p, (s ++ (⟨#[45]⟩ : ByteArray)) ++ t = p := ⟨_, rfl⟩
  have eP : L p = L s ++ 45 :: L t := by rw [← hp, L_append, L_append, minus]; simp
  have zP : p.size = s.size + 1 + t.size := by rw [← hp, ByteArray.size_append, ByteArray.size_append, one1]
  have hText : Ev (fun k => spec_PortsText.f k 1 a b) p := by
    unfold spec_PortsText.f
    refine ifn (by omega) (ifp rfl (eS.bind (ifp (by omega) (eT.bind (ifp (by rw [ByteArray.size_append, one1]; omega) (now hp))))))
  have hE : Edges p := by
    refine edges_of _ (by omega) (by rw [eP]; simp) ?_
    rw [eP]
    intro c hc
    rcases List.mem_append.1 hc with h | h
    · exact dig_in dS c h
    · rcases List.mem_cons.1 h with h | h
      · subst h; decide
      · exact dig_in dT c h
  have hParse := parse_hyph _ (L s) (L t) hE eP (digs_no dS).1 (by
    rw [eP]; intro h
    rcases List.mem_append.1 h with h | h
    · exact (digs_no dS).2 h
    · rcases List.mem_cons.1 h with h | h
      · exact absurd h (by decide)
      · exact (digs_no dT).2 h)
  have e2 : two portRes (L s) (L t) = portRes a b := by
    unfold two
    rw [wS, wT, vS, vT]
  rw [e2] at hParse
  refine Ev.step (fun k => laws_FnPortsWrong.j0.eq_2 ..) (ifn (by simp) (hText.bind (hParse.bind ?_)))
  by_cases q1 : b < a
  · refine ifp q1 (now ?_)
    unfold portRes
    by_cases l1 : a > 65535
    · rw [if_pos l1]; rfl
    · rw [if_neg l1]
      by_cases l2 : b > 65535
      · rw [if_pos l2]; rfl
      · rw [if_neg l2, if_pos q1]; rfl
  refine ifn q1 ?_
  by_cases q2 : b > 65535
  · refine ifp q2 (now ?_)
    unfold portRes
    by_cases l1 : a > 65535
    · rw [if_pos l1]; rfl
    · rw [if_neg l1, if_pos q2]; rfl
  refine ifn q2 ?_
  rw [w64 (x := (p.size : Int) + 1) (by omega) (by omega), w64 (x := x) (by omega) (by omega)]
  obtain ⟨i, hi⟩ : ∃ i : Nat, Int.tmod x ((p.size : Int) + 1) = (i : Int) := ⟨(x % ((p.size : Int) + 1)).toNat, by
    rw [Int.tmod_eq_emod_of_nonneg hx.1]
    have := Int.emod_nonneg x (show (p.size : Int) + 1 ≠ 0 by omega)
    omega⟩
  have hile : i ≤ p.size := by
    have h1 := Int.emod_lt_of_pos x (show (0 : Int) < (p.size : Int) + 1 by omega)
    rw [Int.tmod_eq_emod_of_nonneg hx.1] at hi
    omega
  rw [hi]
  obtain ⟨c, hc, c0, c1⟩ := letter_of z hz
  have zc : (strOfNums [(97 + (Int.tmod z 26)) % 256]).size = 1 := rfl
  have z1 : (p.extract 0 ((i : Int)).toNat).size ≤ p.size := by rw [ByteArray.size_extract]; omega
  have z2 : (p.extract ((i : Int)).toNat p.size).size ≤ p.size := by rw [ByteArray.size_extract]; omega
  refine ifn (by omega) (ifp (by omega) (ifp (by omega) (sb (ifp (by rw [zc]; omega) (ifp (by rw [ByteArray.size_append, zc]; omega) ?_)))))
  obtain ⟨r, hr⟩ : ∃ r, ((p.extract 0 ((i : Int)).toNat) ++ (strOfNums [(97 + (Int.tmod z 26)) % 256])) ++ (p.extract ((i : Int)).toNat p.size) = r := ⟨_, rfl⟩
  rw [hr]
  have eR : L r = (L p).take i ++ c :: (L p).drop i := by
    rw [← hr, L_append, L_append, hc, show ((i : Int)).toNat = i from by omega, L_upto, L_from]; simp
  have zR : r.size ≤ 140737488351232 := by rw [← hr, ByteArray.size_append, ByteArray.size_append, zc]; omega
  have cne : ∀ d : UInt8, d.toNat < 97 → d ≠ c := fun d hd e => by subst e; omega
  have c45 : (45 : UInt8) ≠ c := cne 45 (by decide)
  have c43 : (43 : UInt8) ≠ c := cne 43 (by decide)
  have memR : ∀ d ∈ L r, d = c ∨ d ∈ L p := by
    intro d hd
    rw [eR] at hd
    rcases List.mem_append.1 hd with h | h
    · exact .inr (List.mem_of_mem_take h)
    · rcases List.mem_cons.1 h with h | h
      · exact .inl h
      · exact .inr (List.mem_of_mem_drop h)
  have memP : ∀ d ∈ L p, d = 45 ∨ dig d := by
    intro d hd
    rw [eP] at hd
    rcases List.mem_append.1 hd with h | h
    · exact .inr (dS d h)
    · rcases List.mem_cons.1 h with h | h
      · exact .inl h
      · exact .inr (dT d h)
  have hER : Edges r := by
    refine edges_of _ zR (by rw [eR]; simp) ?_
    intro d hd
    rcases memR d hd with h | h
    · subst h; omega
    · rcases memP d h with h | h
      · subst h; decide
      · unfold dig at h; omega
  have n43 : 43 ∉ L r := by
    intro h
    rcases memR _ h with h | h
    · exact c43 h
    · rcases memP _ h with h | h
      · exact absurd h (by decide)
      · exact absurd h (by decide)
  have worse : Ev (fun k => impl_PortsParse.f k r) (0, 0, true) := by
    by_cases hil : i ≤ (L s).length
    · have eA : L r = ((L s).take i ++ c :: (L s).drop i) ++ 45 :: L t := by
        rw [eR, eP, List.take_append_of_le_length hil, List.drop_append_of_le_length hil]; simp
      have := parse_hyph r _ (L t) hER eA (by
        intro h
        rcases List.mem_append.1 h with h | h
        · exact (digs_no dS).1 (List.mem_of_mem_take h)
        · rcases List.mem_cons.1 h with h | h
          · exact c45 h
          · exact (digs_no dS).1 (List.mem_of_mem_drop h)) n43
      unfold two at this
      rw [whole_letter (fun d hd => dS d (List.mem_of_mem_take hd)) c0] at this
      exact this
    · have hj : i = (L s).length + 1 + (i - (L s).length - 1) := by omega
      generalize i - (L s).length - 1 = j at hj
      have eA : L r = L s ++ 45 :: ((L t).take j ++ c :: (L t).drop j) := by
        rw [eR, eP, hj, show L s ++ 45 :: L t = (L s ++ [45]) ++ L t from by simp, show (L s).length + 1 + j = (L s ++ [45]).length + j from by simp, List.take_length_add_append, List.drop_length_add_append]; simp
      have := parse_hyph r (L s) _ hER eA (digs_no dS).1 n43
      unfold two at this
      rw [wS, whole_letter (fun d hd => dT d (List.mem_of_mem_take hd)) c0] at this
      exact this
  refine worse.bind ?_
  rw [portRes_ok (by omega) (by omega) (by omega)]
  exact ifn (by simp [portsV]) (now rfl)

end Go.Proofs.YtmkpkpkcoieeiabDoor.Pure
