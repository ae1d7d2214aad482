/- Versions: what parsing comes to, in plain Lean, for every text. -/
import Derived.Test.YtmfgkidppchobaaDoorVer6
import Derived.Test.YtmfgkidppchobaaDoorVerP
set_option linter.unusedSimpArgs false
set_option linter.unusedVariables false
namespace Go.Proofs.YtmfgkidppchobaaDoor.VerQ
open Go.RowKit Go.Proofs.YtmfgkidppchobaaDoorW.PrintWords Go.Proofs.YtmfgkidppchobaaDoorW.PrintLast Go.Proofs.YtmfgkidppchobaaDoor.XFnVersionWays Go.Proofs.YtmfgkidppchobaaDoor.EvL Go.Proofs.YtmfgkidppchobaaDoor.Str Go.Proofs.YtmfgkidppchobaaDoor.VerP Go.Proofs.YtmfgkidppchobaaDoor.Ver1 Go.Proofs.YtmfgkidppchobaaDoor.Ver3 Go.Proofs.YtmfgkidppchobaaDoor.Ver4 Go.Proofs.YtmfgkidppchobaaDoor.Ver5 Go.Proofs.YtmfgkidppchobaaDoor.Ver6

def pieces (s : ByteArray) : List ByteArray := (spl 46 (L s)).map mk
theorem pieces_ok {s : ByteArray} (hs : s.size ≤ 2147483648) : okC (pieces s) := by
  have hz := size_L s
  refine ⟨fun c hc => ?_, ?_⟩
  · obtain ⟨x, hx, rfl⟩ := List.mem_map.1 hc
    have := (spl_mem hx).1
    rw [size_L, L_mk']; omega
  · have := spl_len 46 (L s)
    unfold pieces
    rw [List.length_map]; omega
theorem verL_cases (s : ByteArray) : verL s = [] ∨ ∃ a b, verL s = [s, a, b] ∧ a.size ≤ s.size ∧ b.size ≤ s.size := by
  unfold verL
  split
  · exact .inl rfl
  · split
    · exact .inl rfl
    · refine .inr ⟨_, _, rfl, ?_, ?_⟩ <;> rw [ByteArray.size_extract] <;> omega
theorem extL_cases (s : ByteArray) : extL s = [] ∨ ∃ a b, extL s = [s, a, b] ∧ a.size ≤ s.size ∧ b.size ≤ s.size := by
  have key : ∀ c i, (sTx c i s).size ≤ s.size := by
    intro c i
    unfold sTx
    split
    · exact Nat.zero_le _
    · rw [ByteArray.size_extract]; omega
  unfold extL
  split
  · exact .inl rfl
  · exact .inr ⟨_, _, rfl, key _ _, key _ _⟩
/-- The rest of a parse. -/
def restL (sv : Bool) (x2 : ByteArray) (cs : List ByteArray) : Option PV :=
  if sv = false then (if cs.length < 2 then none else (compsP false true cs).map fun ns => (ns, E0, E0))
  else if ¬ cs.length = 3 then none
  else if x2.toList = [] then (compsP true true cs).map fun ns => (ns, E0, E0)
  else if extL x2 = [] then none
  else (compsP true true cs).bind (tl (pieces (rdOf ByteArray.empty (extL x2) 1)) (rdOf ByteArray.empty (extL x2) 1) (rdOf ByteArray.empty (extL x2) 2))
/-- What a text is parsed to. -/
def parseL (sv : Bool) (s : ByteArray) : Option PV :=
  if verL s = [] then none else restL sv (rdOf ByteArray.empty (verL s) 2) (pieces (rdOf ByteArray.empty (verL s) 1))
theorem rd1 (a b c : ByteArray) : rdOf ByteArray.empty [a, b, c] 1 = b := rfl
theorem rd2 (a b c : ByteArray) : rdOf ByteArray.empty [a, b, c] 2 = c := rfl
theorem rest_ev (sv : Bool) (x2 : ByteArray) (cs : List ByteArray) (hs : x2.size < 4611686018427387904) (hx : ∀ a b, extL x2 = [x2, a, b] → a.size ≤ 2147483648) : Ev (fun k => restF k sv x2 cs) (restL sv x2 cs) := by
  unfold restF restL
  by_cases h1 : sv = false
  · refine ifp h1 ?_
    rw [if_pos h1]
    by_cases h2 : cs.length < 2
    · simp only [if_pos h2]; exact now rfl
    · simp only [if_neg h2]; exact now rfl
  refine ifn h1 ?_
  rw [if_neg h1]
  by_cases h2 : ¬ cs.length = 3
  · rw [if_pos h2]; exact ifp h2 (now rfl)
  refine ifn h2 ?_
  rw [if_neg h2]
  by_cases h3 : x2.toList = []
  · rw [if_pos h3]; exact ifp h3 (now rfl)
  refine ifn h3 ((zzExtra_ev x2 hs).bind ?_)
  rw [if_neg h3]
  rcases extL_cases x2 with he | ⟨a, b, he, ha, hb⟩
  · rw [he, if_pos rfl]; exact ifp rfl (now rfl)
  · have := hx a b he
    rw [he, if_neg (by simp), rd1, rd2]
    refine ifn (by simp) (ifp rfl ?_)
    refine (split_ev a (by omega)).bind ?_
    exact ifp (pieces_ok (by omega)) (now rfl)
theorem parse_ev2 (sv : Bool) (s : ByteArray) (hs : s.size < 4611686018427387904) (hx : ∀ a b, verL s = [s, a, b] → a.size < 4398046511104 ∧ okC (pieces a) ∧ ∀ c d, extL b = [b, c, d] → c.size ≤ 2147483648) : Ev (fun k => parseF k sv s) (parseL sv s) := by
  unfold parseF parseL
  refine (zzVersion_ev s hs).bind ?_
  rcases verL_cases s with he | ⟨a, b, he, ha, hb⟩
  · rw [he, if_pos rfl]; exact ifp rfl (now rfl)
  · obtain ⟨h1, h2, h3⟩ := hx a b he
    rw [he, if_neg (by simp), rd1, rd2]
    refine ifn (by simp) (ifp rfl ?_)
    refine (split_ev a h1).bind ?_
    exact ifp h2 (rest_ev sv b _ (by omega) h3)
theorem parse_ev (sv : Bool) (s : ByteArray) (hs : s.size ≤ 2147483648) : Ev (fun k => parseF k sv s) (parseL sv s) := by
  refine parse_ev2 sv s (by omega) ?_
  intro a b he
  rcases verL_cases s with h | ⟨a', b', h, ha, hb⟩
  · rw [he] at h; cases h
  · rw [he] at h
    obtain ⟨rfl, rfl⟩ : a = a' ∧ b = b' := by simpa using h
    refine ⟨by omega, pieces_ok (by omega), ?_⟩
    intro c d he2
    rcases extL_cases b with h | ⟨c', d', h, hc, hd⟩
    · rw [he2] at h; cases h
    · rw [he2] at h
      obtain ⟨rfl, rfl⟩ : c = c' ∧ d = d' := by simpa using h
      omega
theorem comps_len {sv : Bool} {first : Bool} {cs : List ByteArray} {ns : List Int} (h : compsP sv first cs = some ns) : ns.length = cs.length := by
  induction cs generalizing first ns with
  | nil => simp [compsP] at h; subst h; rfl
  | cons c cs ih =>
    unfold compsP at h
    obtain ⟨n, _, h⟩ := Option.bind_eq_some_iff.mp h
    obtain ⟨m, h2, rfl⟩ := Option.map_eq_some_iff.mp h
    simp [ih h2]
theorem comps_u64 {sv : Bool} {first : Bool} {cs : List ByteArray} {ns : List Int} (h : compsP sv first cs = some ns) : U64 ns := by
  induction cs generalizing first ns with
  | nil => simp [compsP] at h; subst h; intro x hx; cases hx
  | cons c cs ih =>
    unfold compsP at h
    obtain ⟨n, h1, h⟩ := Option.bind_eq_some_iff.mp h
    obtain ⟨m, h2, rfl⟩ := Option.map_eq_some_iff.mp h
    intro x hx
    rcases List.mem_cons.1 hx with rfl | hx
    · unfold compP at h1
      split at h1
      · cases h1
      · cases hn : numU c with
        | none => rw [hn] at h1; simp at h1
        | some u =>
          rw [hn] at h1
          have e : (u : Int) = x := by simpa using h1
          have := numU_lt hn
          omega
    · exact ih h2 x hx
/-- What is known of a version that was parsed. -/
theorem rest_facts {sv : Bool} {x2 : ByteArray} {cs : List ByteArray} {ns : List Int} {pre bld : ByteArray} (hs : x2.size ≤ 2147483648) (h : restL sv x2 cs = some (ns, pre, bld)) :
    2 ≤ ns.length ∧ ns.length = cs.length ∧ U64 ns ∧ pre.size ≤ 2147483648 ∧ bld.size ≤ 2147483648 := by
  unfold restL at h
  have e0 : E0.size ≤ 2147483648 := by decide
  split at h
  · split at h
    · cases h
    · obtain ⟨m, h2, h3⟩ := Option.map_eq_some_iff.mp h
      obtain ⟨rfl, rfl, rfl⟩ : m = ns ∧ E0 = pre ∧ E0 = bld := by simpa using h3
      have hl := comps_len h2
      exact ⟨by omega, hl, comps_u64 h2, e0, e0⟩
  split at h
  · cases h
  rename_i h3
  split at h
  · obtain ⟨m, h2, h4⟩ := Option.map_eq_some_iff.mp h
    obtain ⟨rfl, rfl, rfl⟩ : m = ns ∧ E0 = pre ∧ E0 = bld := by simpa using h4
    have hl := comps_len h2
    exact ⟨by omega, hl, comps_u64 h2, e0, e0⟩
  split at h
  · cases h
  · obtain ⟨m, h2, h4⟩ := Option.bind_eq_some_iff.mp h
    have hl := comps_len h2
    rcases extL_cases x2 with he | ⟨a, b, he, ha, hb⟩
    · rename_i hne; exact absurd he hne
    · rw [he, rd1, rd2] at h4
      unfold tl at h4
      split at h4
      · cases h4
      · obtain ⟨rfl, rfl, rfl⟩ : m = ns ∧ a = pre ∧ b = bld := by simpa using h4
        exact ⟨by omega, hl, comps_u64 h2, by omega, by omega⟩
theorem parse_facts {sv : Bool} {s : ByteArray} {ns : List Int} {pre bld : ByteArray} (hs : s.size ≤ 2147483647) (h : parseL sv s = some (ns, pre, bld)) :
    2 ≤ ns.length ∧ ns.length ≤ 2147483648 ∧ U64 ns ∧ pre.size ≤ 2147483648 ∧ bld.size ≤ 2147483648 := by
  unfold parseL at h
  rcases verL_cases s with he | ⟨a, b, he, ha, hb⟩
  · rw [he, if_pos rfl] at h; cases h
  · rw [he, if_neg (by simp), rd1, rd2] at h
    obtain ⟨h1, h2, h3, h4, h5⟩ := rest_facts (by omega) h
    have hl := spl_len 46 (L a)
    have hz := size_L a
    unfold pieces at h2
    rw [List.length_map] at h2
    exact ⟨h1, by omega, h3, h4, h5⟩
theorem parse_okV {sv : Bool} {s : ByteArray} (hs : s.size ≤ 2147483647) : okV (parseL sv s) := by
  cases h : parseL sv s with
  | none => trivial
  | some v =>
    obtain ⟨ns, pre, bld⟩ := v
    obtain ⟨h1, h2, _, h4, h5⟩ := parse_facts hs h
    exact ⟨h1, by omega, by omega, by omega⟩
/-- What each of the four ways comes to. -/
def parsedL (kind : Int) (s : ByteArray) : Option (Bool × PV) :=
  if kind = 1 then (parseL false s).map fun v => (false, v)
  else if kind = 2 then (parseL true s).map fun v => (true, v)
  else if kind = 3 then (parseL false s).map fun v => (false, [rd v.1 0, rd v.1 1], E0, E0)
  else match parseL true s with
    | some v => some (true, v)
    | none => (parseL false s).map fun v => (false, v)
theorem ev_map {α β : Type} {g : Nat → Option α} {a : α} {f : α → β} (h : Ev g a) : Ev (fun k => (g k).map f) (f a) := by
  obtain ⟨K, hK⟩ := h
  exact ⟨K, fun k hk => by show (g k).map f = _; rw [hK k hk]; rfl⟩
theorem parsed_ev2 (kind : Int) (s : ByteArray) (hf : Ev (fun k => parseF k false s) (parseL false s)) (ht : Ev (fun k => parseF k true s) (parseL true s)) (h2 : ∀ ns pre bld, parseL false s = some (ns, pre, bld) → 2 ≤ ns.length) : Ev (fun k => parsedF k kind s) (parsedL kind s) := by
  unfold parsedF parsedL
  by_cases h1 : kind = 1
  · rw [if_pos h1]; exact ifp h1 (ev_map hf)
  refine ifn h1 ?_
  rw [if_neg h1]
  by_cases h3 : kind = 2
  · rw [if_pos h3]; exact ifp h3 (ev_map ht)
  refine ifn h3 ?_
  rw [if_neg h3]
  by_cases h4 : kind = 3
  · rw [if_pos h4]
    refine ifp h4 ?_
    unfold twoF
    refine hf.bind ?_
    cases h : parseL false s with
    | none => exact now rfl
    | some v =>
      obtain ⟨ns, pre, bld⟩ := v
      exact ifp (h2 _ _ _ h) (now rfl)
  · rw [if_neg h4]
    refine ifn h4 ?_
    unfold anyF
    refine ht.bind ?_
    cases h : parseL true s with
    | none => exact ev_map hf
    | some v => exact now rfl
theorem parsed_ev (kind : Int) (s : ByteArray) (hs : s.size ≤ 2147483647) : Ev (fun k => parsedF k kind s) (parsedL kind s) :=
  parsed_ev2 kind s (parse_ev false s (by omega)) (parse_ev true s (by omega)) (fun _ _ _ h => (parse_facts hs h).1)
theorem parsed_ok (kind : Int) (s : ByteArray) (hs : s.size ≤ 2147483647) : okP (parsedL kind s) := by
  have f := parse_okV (sv := false) hs
  have t := parse_okV (sv := true) hs
  unfold okP parsedL
  split
  · cases h : parseL false s with
    | none => trivial
    | some v => rw [h] at f; exact f
  split
  · cases h : parseL true s with
    | none => trivial
    | some v => rw [h] at t; exact t
  split
  · cases h : parseL false s with
    | none => trivial
    | some v => exact ⟨by simp, by simp, by decide, by decide⟩
  · cases h : parseL true s with
    | none =>
      cases h2 : parseL false s with
      | none => trivial
      | some v => rw [h2] at f; exact f
    | some v => rw [h] at t; exact t
theorem parsed_facts {kind : Int} {s : ByteArray} {sv : Bool} {ns : List Int} {pre bld : ByteArray} (hs : s.size ≤ 2147483647) (h : parsedL kind s = some (sv, ns, pre, bld)) :
    2 ≤ ns.length ∧ ns.length ≤ 2147483648 ∧ U64 ns ∧ pre.size ≤ 2147483648 ∧ bld.size ≤ 2147483648 := by
  have map : ∀ b c, (parseL b s).map (fun v => (c, v)) = some (sv, ns, pre, bld) → parseL b s = some (ns, pre, bld) := by
    intro b c h
    obtain ⟨v, h1, h2⟩ := Option.map_eq_some_iff.mp h
    obtain ⟨rfl, rfl⟩ := Prod.mk.inj h2
    exact h1
  unfold parsedL at h
  split at h
  · exact parse_facts hs (map _ _ h)
  split at h
  · exact parse_facts hs (map _ _ h)
  split at h
  · obtain ⟨⟨ms, p, b⟩, h1, h2⟩ := Option.map_eq_some_iff.mp h
    obtain ⟨h3, h4, h5, _⟩ := parse_facts hs h1
    obtain ⟨rfl, rfl, rfl, rfl⟩ : false = sv ∧ [rd ms 0, rd ms 1] = ns ∧ E0 = pre ∧ E0 = bld := by simpa using h2
    exact ⟨by simp, by simp, u64_two h5 h3, by decide, by decide⟩
  · cases hq : parseL true s with
    | none => rw [hq] at h; exact parse_facts hs (map _ _ h)
    | some v =>
      rw [hq] at h
      obtain ⟨rfl, rfl⟩ := Prod.mk.inj (Option.some.inj h)
      exact parse_facts hs hq
/-- One number of rounds for some. -/
theorem ev_two {α β : Type} {f : Nat → Option α} {g : Nat → Option β} {a : α} {b : β} (h1 : Ev f a) (h2 : Ev g b) : ∃ K, ∀ k, K ≤ k → f k = some a ∧ g k = some b := by
  obtain ⟨K1, e1⟩ := h1
  obtain ⟨K2, e2⟩ := h2
  exact ⟨K1 + K2, fun k hk => ⟨e1 k (by omega), e2 k (by omega)⟩⟩
end Go.Proofs.YtmfgkidppchobaaDoor.VerQ
