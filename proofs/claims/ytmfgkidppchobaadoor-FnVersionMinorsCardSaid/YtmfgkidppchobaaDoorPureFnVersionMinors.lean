/- For all major and minor numbers, and all steps, the law tells true: so many minor versions forward, and as many back, are the version's two numbers. No condition. -/
import Derived.Test.YtmfgkidppchobaaDoorQFnVersionMinors
import Derived.Test.YtmfgkidppchobaaDoorVerN
import Derived.Test.YtmfgkidppchobaaDoorVerR
set_option linter.unusedSimpArgs false
set_option linter.unusedVariables false
namespace Go.Proofs.YtmfgkidppchobaaDoor.Pure
open Go.RowKit Go.Proofs.YtmfgkidppchobaaDoorW.PrintWords Go.Proofs.YtmfgkidppchobaaDoorW.PrintLast Go.Proofs.YtmfgkidppchobaaDoor.XFnVersionMinors Go.Proofs.YtmfgkidppchobaaDoor.Ver3
theorem same_f (M x : Nat) (hM : M < 18446744073709551616) (hx : x < 18446744073709551616) : spec_SameVer.f 24 [(M : Int), (x : Int)] false ⟨#[]⟩ ⟨#[]⟩ true [(M : Int), (x : Int)] ⟨#[]⟩ ⟨#[]⟩ (text [(M : Int), (x : Int)] ⟨#[]⟩ ⟨#[]⟩) (M : Int) (x : Int) 0 = some true := by
  have p0 : spec_Version_part.f [(M : Int), (x : Int)] false ⟨#[]⟩ ⟨#[]⟩ 0 = some (M : Int) := rfl
  have p1 : spec_Version_part.f [(M : Int), (x : Int)] false ⟨#[]⟩ ⟨#[]⟩ 1 = some (x : Int) := rfl
  have p2 : spec_Version_part.f [(M : Int), (x : Int)] false ⟨#[]⟩ ⟨#[]⟩ 2 = some 0 := rfl
  have w1 : wrap64 (0 + 1) = 1 := by unfold wrap64; omega
  have w2 : wrap64 (1 + 1) = 2 := by unfold wrap64; omega
  unfold spec_SameVer.f
  rw [if_pos rfl, if_pos rfl, if_pos rfl, if_pos rfl, VerN.text_f M x hM hx]
  simp only [Option.bind_some, p0, p1]
  rw [if_pos trivial, if_pos trivial, show ((x : Int) != (x : Int)) = false by simp, show (24 : Nat) = 23 + 1 from rfl]
  unfold spec_SameVer.j0
  dsimp only
  rw [if_neg (by decide), show (23 : Nat) = 22 + 1 from rfl]
  unfold spec_SameVer.l0
  dsimp only
  rw [if_pos (by simp), if_pos (by omega), if_pos (by simp), if_pos rfl, w1, show (22 : Nat) = 21 + 1 from rfl]
  unfold spec_SameVer.l0
  dsimp only
  rw [if_pos (by simp), if_pos (by omega), if_pos (by simp), if_pos rfl, w2, show (21 : Nat) = 20 + 1 from rfl]
  unfold spec_SameVer.l0
  dsimp only
  rw [if_neg (by simp), if_neg (by decide), if_neg (by simp), p2]
  rfl
theorem text_size (M m : Nat) (hM : M < 18446744073709551616) (hm : m < 18446744073709551616) : (text [(M : Int), (m : Int)] ⟨#[]⟩ ⟨#[]⟩).size ≤ 2147483647 := by
  have hu : U64 [(M : Int), (m : Int)] := fun x hx => by
    rcases List.mem_cons.1 hx with rfl | hx
    · omega
    · rw [List.mem_singleton.1 hx]; omega
  have h1 := nt_len [(M : Int), (m : Int)] hu
  have tl : (⟨#[]⟩ : ByteArray).toList = [] := by rw [ByteArray.toList_eq]
  have h2 : (text [(M : Int), (m : Int)] ⟨#[]⟩ ⟨#[]⟩).size = (nt [(M : Int), (m : Int)]).length := by
    unfold text textB
    rw [if_pos tl, if_pos tl, List.append_nil, List.append_nil]
    exact List.size_toArray
  rw [h2]
  have h3 : [(M : Int), (m : Int)].length = 2 := rfl
  omega
theorem parsed_text (M m : Nat) (hM : M < 18446744073709551616) (hm : m < 18446744073709551616) : VerQ.parsedL 1 (text [(M : Int), (m : Int)] ⟨#[]⟩ ⟨#[]⟩) = some (false, [(M : Int), (m : Int)], ⟨#[]⟩, ⟨#[]⟩) := by
  have hu : U64 [(M : Int), (m : Int)] := fun x hx => by
    rcases List.mem_cons.1 hx with rfl | hx
    · omega
    · rw [List.mem_singleton.1 hx]; omega
  unfold VerQ.parsedL
  rw [if_pos rfl, VerR.parse_back (VerR.good_gen (ns := [(M : Int), (m : Int)]) (by simp) (by simp) hu)]
  rfl
theorem steps_f (M m n : Nat) (hM : M < 18446744073709551616) (hm : m < 18446744073709551616) (hmn : m + n ≤ 9223372036854775807) : impl_VersionSteps.f 24 1 (text [(M : Int), (m : Int)] ⟨#[]⟩ ⟨#[]⟩) (stepsL (n : Int)) = some (outs (M : Int) (m : Int) (n : Int)) := by
  unfold impl_VersionSteps.f
  rw [parsed_text M m hM hm]
  have e1 : (rd_T42 (stepsL (n : Int)) 0).f1 = (n : Int) := rfl
  simp only [e1]
  rw [if_pos ⟨trivial, text_size M m hM hm, trivial, trivial, trivial, by omega, by omega, by omega, by omega, by omega⟩]
theorem law_f (M m n : Nat) (a2 : Int) (hM : M < 18446744073709551616) (hm : m < 4294967296) (hn : n < 2147483648) (ha : Int.tmod a2 2147483648 = (n : Int)) : laws_FnVersionMinors.f 24 (M : Int) (m : Int) a2 = some true := by
  have u1 : IntKind.u64.wrap (m : Int) = (m : Int) := by rw [IntKind.wrap_u64]; omega
  have u2 : IntKind.u64.wrap (n : Int) = (n : Int) := by rw [IntKind.wrap_u64]; omega
  have u3 : wrap64 (n : Int) = (n : Int) := by unfold wrap64; omega
  have u4 : wrap64 (-(n : Int)) = -(n : Int) := by unfold wrap64; omega
  have u5 : IntKind.u64.wrap ((m : Int) + (n : Int)) = ((m + n : Nat) : Int) := by rw [IntKind.wrap_u64]; omega
  unfold laws_FnVersionMinors.f
  simp only [ha, u1, u2, u3, u4, u5, Option.bind_some]
  rw [VerN.text_f M m hM (by omega)]
  simp only [Option.bind_some]
  have hs := steps_f M m n hM (by omega) (by omega)
  unfold stepsL at hs
  rw [hs]
  simp only [Option.bind_some]
  have s0 := same_f M m hM (by omega)
  have s1 := same_f M (m + n) hM (by omega)
  have r0 : rd_T46 (outs (M : Int) (m : Int) (n : Int)) 0 = ⟨true, [(M : Int), (m : Int)], ⟨#[]⟩, ⟨#[]⟩, text [(M : Int), (m : Int)] ⟨#[]⟩ ⟨#[]⟩, (M : Int), (m : Int), 0⟩ := rfl
  have r1 : rd_T46 (outs (M : Int) (m : Int) (n : Int)) 1 = ⟨true, [(M : Int), ((m + n : Nat) : Int)], ⟨#[]⟩, ⟨#[]⟩, text [(M : Int), ((m + n : Nat) : Int)] ⟨#[]⟩ ⟨#[]⟩, (M : Int), ((m + n : Nat) : Int), 0⟩ := rfl
  have r2 : rd_T46 (outs (M : Int) (m : Int) (n : Int)) 2 = ⟨true, [(M : Int), (m : Int)], ⟨#[]⟩, ⟨#[]⟩, text [(M : Int), (m : Int)] ⟨#[]⟩ ⟨#[]⟩, (M : Int), (m : Int), 0⟩ := rfl
  have r3 : rd_T46 (outs (M : Int) (m : Int) (n : Int)) 3 = ⟨true, [(M : Int), ((m + n : Nat) : Int)], ⟨#[]⟩, ⟨#[]⟩, text [(M : Int), ((m + n : Nat) : Int)] ⟨#[]⟩ ⟨#[]⟩, (M : Int), ((m + n : Nat) : Int), 0⟩ := rfl
  have r4 : rd_T46 (outs (M : Int) (m : Int) (n : Int)) 4 = ⟨true, [(M : Int), (m : Int)], ⟨#[]⟩, ⟨#[]⟩, text [(M : Int), (m : Int)] ⟨#[]⟩ ⟨#[]⟩, (M : Int), (m : Int), 0⟩ := rfl
  have l5 : ((outs (M : Int) (m : Int) (n : Int)).length : Int) = 5 := rfl
  rw [l5]
  simp only [r0, r1, r2, r3, r4, s0, s1, Option.bind_some]
  rfl
theorem FnVersionMinors : Go.Proofs.YtmfgkidppchobaaDoor.QFnVersionMinors.Pure := fun x0 x1 x2 h0 h1 h2 => by
  have e1 : Go.IntKind.u64.min = 0 := rfl
  have e2 : Go.IntKind.u64.max = 18446744073709551615 := rfl
  have e3 : Go.IntKind.u32.min = 0 := rfl
  have e4 : Go.IntKind.u32.max = 4294967295 := rfl
  have g0 : 0 ≤ x0 ∧ x0 ≤ 18446744073709551615 := by simpa [Go.Lit.wf, e1, e2] using h0
  have g1 : 0 ≤ x1 ∧ x1 ≤ 4294967295 := by simpa [Go.Lit.wf, e3, e4] using h1
  have g2 : 0 ≤ x2 ∧ x2 ≤ 4294967295 := by simpa [Go.Lit.wf, e3, e4] using h2
  obtain ⟨M, rfl⟩ : ∃ M : Nat, x0 = (M : Int) := ⟨x0.toNat, by omega⟩
  obtain ⟨m, rfl⟩ : ∃ m : Nat, x1 = (m : Int) := ⟨x1.toNat, by omega⟩
  have ht : Int.tmod x2 2147483648 = x2 % 2147483648 := Int.tmod_eq_emod_of_nonneg g2.1
  obtain ⟨n, hn⟩ : ∃ n : Nat, x2 % 2147483648 = (n : Int) := ⟨(x2 % 2147483648).toNat, by omega⟩
  exact ⟨24, law_f M m n x2 (by omega) (by omega) (by omega) (by rw [ht, hn])⟩
end Go.Proofs.YtmfgkidppchobaaDoor.Pure
