/- For all texts group, name and s (none longer than 2^31 - 1 bytes): what is told of a name without a point is read as it was; what is read of a text that does not end with its first point is told as that text; of kinds and of resources alike. -/
import Derived.Test.YtehgokciafpnbaaLFnNamedBack
namespace Go.Proofs.Ytehgokciafpnbaa.Pure
open Go.RowKit Go.Proofs.Ytehgokciafpnbaa.PFnNamedBack Go.Proofs.YtehgokciafpnbaaW.PrintWords Go.Proofs.YtehgokciafpnbaaW.PrintLast Go.Proofs.Ytehgokciafpnbaa.EvL Go.Proofs.Ytehgokciafpnbaa.Str Go.Proofs.Ytehgokciafpnbaa.LFnNamedBack

/-- What a text is cut into at its first point. -/
def Cut (s g n : ByteArray) : Prop := (46 ∉ L s ∧ g = ⟨#[]⟩ ∧ n = s) ∨ (L s = L n ++ 46 :: L g ∧ 46 ∉ L n)

/-- What a name and a group are told as. -/
def joined (g n : ByteArray) : ByteArray := if L g = [] then n else (n ++ (⟨#[46]⟩ : ByteArray)) ++ g

theorem dot : L (⟨#[46]⟩ : ByteArray) = [46] := rfl

theorem cut_ev (s : ByteArray) (hs : s.size < 4611686018427387904) (f : Nat → Option (ByteArray × ByteArray)) (g n : ByteArray)
    (h1 : place (L s) 46 = -1 → Ev f ((⟨#[]⟩ : ByteArray), s)) (h2 : ∀ i : Nat, place (L s) 46 = (i : Int) → i + 1 ≤ s.size → Ev f (s.extract (i + 1) s.size, s.extract 0 i)) (hc : Cut s g n) : Ev f (g, n) := by
  rcases hc with ⟨hn, rfl, rfl⟩ | ⟨he, hn⟩
  · exact h1 (place_neg hn)
  · have hp := place_split (m := L g) hn
    rw [← he] at hp
    have hl : s.size = (L n).length + (1 + (L g).length) := by rw [size_L, he]; simp; omega
    have := h2 (L n).length hp (by omega)
    have e1 : s.extract ((L n).length + 1) s.size = g := by
      apply L_inj; rw [L_from, he]
      rw [show L n ++ 46 :: L g = (L n ++ [46]) ++ L g from by simp, List.drop_append_of_le_length (by simp)]
      simp
    have e2 : s.extract 0 (L n).length = n := by
      apply L_inj; rw [L_upto, he]; simp
    rw [e1, e2] at this
    exact this

theorem cut_of (s : ByteArray) : ∃ g n, Cut s g n := by
  rcases place_cases (L s) 46 with ⟨hn, _⟩ | ⟨a, b, e, hn, _⟩
  · exact ⟨_, _, .inl ⟨hn, rfl, rfl⟩⟩
  · refine ⟨⟨b.toArray⟩, ⟨a.toArray⟩, .inr ⟨?_, ?_⟩⟩
    · rw [L_mk, L_mk]; exact e
    · rw [L_mk]; exact hn

theorem kind_ev (s g n : ByteArray) (hs : s.size < 4611686018427387904) (hc : Cut s g n) : Ev (fun k => impl_GroupKindParse.f k s) (g, (⟨#[]⟩ : ByteArray), n) := by
  have : Ev (fun k => schema_ParseGroupKind.f k s) (g, n) := by
    refine cut_ev s hs _ g n ?_ ?_ hc
    · intro hp
      unfold schema_ParseGroupKind.f
      refine (zzIndex_ev s 46 _ dot hs).bind ?_
      rw [hp]; exact ifp rfl (Ev.now _)
    · intro i hp hi
      unfold schema_ParseGroupKind.f
      refine (zzIndex_ev s 46 _ dot hs).bind ?_
      rw [hp, w64 (x := (i : Int) + 1) (by omega) (by omega)]
      refine ifn (by omega) (ifp (by omega) (ifp (by omega) ?_))
      exact ifp (by omega) (ifp (by omega) (now rfl))
  unfold impl_GroupKindParse.f
  exact this.bind (Ev.now _)

theorem resource_ev (s g n : ByteArray) (hs : s.size < 4611686018427387904) (hc : Cut s g n) : Ev (fun k => impl_GroupResourceParse.f k s) (g, (⟨#[]⟩ : ByteArray), n) := by
  have : Ev (fun k => schema_ParseGroupResource.f k s) (g, n) := by
    refine cut_ev s hs _ g n ?_ ?_ hc
    · intro hp
      unfold schema_ParseGroupResource.f
      refine (zzIndex_ev s 46 _ dot hs).bind ?_
      rw [hp]; exact ifn (by omega) (Ev.now _)
    · intro i hp hi
      unfold schema_ParseGroupResource.f
      refine (zzIndex_ev s 46 _ dot hs).bind ?_
      rw [hp, w64 (x := (i : Int) + 1) (by omega) (by omega)]
      refine ifp (by omega) (ifp (by omega) (ifp (by omega) ?_))
      exact ifp (by omega) (ifp (by omega) (now rfl))
  unfold impl_GroupResourceParse.f
  exact this.bind (Ev.now _)

theorem text_eq (g n : ByteArray) (hg : g.size < 4611686018427387904) (hn : n.size < 4611686018427387904) : impl_GroupKindText.f g n = some (joined g n) ∧ impl_GroupResourceText.f g n = some (joined g n) := by
  unfold impl_GroupKindText.f schema_GroupKind_String.f impl_GroupResourceText.f schema_GroupResource_String.f joined
  have hz := size_L g
  have hd : (⟨#[46]⟩ : ByteArray).size = 1 := rfl
  have hs : (n ++ (⟨#[46]⟩ : ByteArray)).size = n.size + 1 := by rw [size_L, L_append, dot, size_L n]; simp
  by_cases h : L g = []
  · rw [if_pos h]
    rw [h] at hz
    simp only [List.length_nil] at hz
    rw [if_pos (by omega)]
    exact ⟨rfl, rfl⟩
  · have : 0 < (L g).length := List.length_pos_iff.2 h
    rw [if_neg h, if_neg (by omega), if_pos (by omega), if_pos (by omega)]
    exact ⟨rfl, rfl⟩

theorem joined_cut (g n : ByteArray) (hn : 46 ∉ L n) : Cut (joined g n) g n := by
  unfold joined Cut
  by_cases h : L g = []
  · rw [if_pos h]
    exact .inl ⟨hn, L_inj (by rw [h]; rfl), rfl⟩
  · rw [if_neg h]
    refine .inr ⟨?_, hn⟩
    rw [L_append, L_append, dot]; simp

theorem joined_size (g n : ByteArray) : (joined g n).size ≤ g.size + n.size + 1 := by
  unfold joined
  split
  · omega
  · rw [size_L, L_append, L_append, dot, size_L g, size_L n]; simp; omega

theorem back_j2 (s : ByteArray) (hs : s.size ≤ 2147483647) : Ev (fun k => laws_FnNamedBack.j2 k s false) true := by
  obtain ⟨g, n, hc⟩ := cut_of s
  have hsz := size_L s
  have hgz := size_L g
  have hnz := size_L n
  have hle : g.size ≤ s.size ∧ n.size ≤ s.size := by
    rcases hc with ⟨_, rfl, rfl⟩ | ⟨he, _⟩
    · exact ⟨by rw [size_nil]; omega, Nat.le_refl _⟩
    · rw [he] at hsz; simp at hsz; omega
  obtain ⟨t1, t2⟩ := text_eq g n (by omega) (by omega)
  refine Ev.step (fun k => laws_FnNamedBack.j2.eq_2 ..) (ifn (by simp) ?_)
  refine (kind_ev s g n (by omega) hc).bind ((resource_ev s g n (by omega) hc).bind ?_)
  rw [w64 (x := (s.size : Int) - 1) (by omega) (by omega)]
  have same : L g ≠ [] ∨ 46 ∉ L s → joined g n = s := by
    intro h
    rcases hc with ⟨hno, rfl, rfl⟩ | ⟨he, hno⟩
    · unfold joined; rw [if_pos L_nil]
    · rcases h with h | h
      · unfold joined
        rw [if_neg h]
        apply L_inj
        rw [L_append, L_append, dot, he]; simp
      · exact absurd (by rw [he]; simp) h
  have fin : (L g ≠ [] ∨ 46 ∉ L s) → Ev (fun _ : Nat => (impl_GroupKindText.f g n).bind fun t138 => if t138.toList = s.toList then (impl_GroupResourceText.f g n).bind fun t139 => some (t139.toList == s.toList) else some false) true := by
    intro h
    rw [t1, t2, same h]
    exact cb rfl (ifp rfl (cb rfl (now (by simp))))
  by_cases h1 : (n.size : Int) = (s.size : Int) - 1
  · refine ifp h1 ?_
    rw [toList_L]
    by_cases h2 : L g = []
    · exact ifp h2 (Ev.now _)
    · exact ifn h2 (fin (.inl h2))
  · refine ifn h1 (fin ?_)
    rcases hc with ⟨hno, _, _⟩ | ⟨he, _⟩
    · exact .inr hno
    · left
      intro h
      rw [he, h] at hsz
      simp at hsz
      omega

theorem FnNamedBack : laws_FnNamedBack.Pure := by
  intro g n s _ _ _
  refine Ev.rounds ?_
  unfold laws_FnNamedBack.f
  have stop : Ev (fun k => laws_FnNamedBack.j0 k g n s true) true := Ev.step (fun k => laws_FnNamedBack.j0.eq_2 ..) (ifp rfl (Ev.now _))
  by_cases h0 : (g.size : Int) > 2147483647
  · exact ifp h0 stop
  · refine ifn h0 ?_
    by_cases h1 : (n.size : Int) > 2147483647
    · exact ifp h1 stop
    · refine ifn h1 ?_
      by_cases h2 : (s.size : Int) > 2147483647
      · rw [decide_eq_true h2]; exact stop
      · rw [decide_eq_false h2]
        have last := back_j2 s (by omega)
        obtain ⟨t1, t2⟩ := text_eq g n (by omega) (by omega)
        have hj := joined_size g n
        have good : 46 ∉ L n → (!(g.toList == g.toList) || (!((⟨#[]⟩ : ByteArray).toList == ([] : List UInt8)) || (!(n.toList == n.toList)))) = false := by
          intro _
          simp [toList_L, L_nil]
        have j1 : Ev (fun k => laws_FnNamedBack.j1 k g n s false) true := by
          refine Ev.step (fun k => laws_FnNamedBack.j1.eq_2 ..) (ifn (by simp) ((KindPlain_ev n 46 _ dot (by omega)).bind ?_))
          by_cases hp : 46 ∉ L n
          · refine ifp (by simpa using hp) (cb t2 ((resource_ev _ g n (by omega) (joined_cut g n hp)).bind ?_))
            rw [good hp]; exact last
          · exact ifn (by simpa using hp) last
        refine Ev.step (fun k => laws_FnNamedBack.j0.eq_2 ..) (ifn (by simp) ((KindPlain_ev n 46 _ dot (by omega)).bind ?_))
        by_cases hp : 46 ∉ L n
        · refine ifp (by simpa using hp) (cb t1 ((kind_ev _ g n (by omega) (joined_cut g n hp)).bind ?_))
          rw [good hp]; exact j1
        · exact ifn (by simpa using hp) j1

end Go.Proofs.Ytehgokciafpnbaa.Pure
