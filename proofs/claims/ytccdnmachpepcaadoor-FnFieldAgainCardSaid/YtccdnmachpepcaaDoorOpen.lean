/- What reads as data at a type is told by the kind of the same build: arguments of any build of numbers, bools, texts, structs and slices are laid open. -/
import Derived.Test.YtccdnmachpepcaaDoorWWords
import Derived.ChangeArms
import Derived.ChangeSlices
import Derived.OpenShut
import Derived.Lib.SmallJoins
namespace Go.Proofs.YtccdnmachpepcaaDoor.Open
open Go.RowKit Go.ChangeShapes Go.WideShapes Go.Proofs.YtccdnmachpepcaaDoorW.PrintWords

section
variable {P : Program} {α β : Type}

/-- Whatever reads as data at type t is told by the kind d, and meets B. -/
def Opens (P : Program) (t : TypeId) {α : Type} (d : Kd α) (B : α → Prop) : Prop :=
  ∀ (H : Type) (enc : TypeId × Value → H) (w : World) (base : Nat) (spare : Nat → Bool) (held : Bool) (n : Nat) (cs : List Value) (y : DataW H × List MemPlace),
    DataW.trod enc P w base spare held n t cs = some y → ∃ x, d.K w x cs ∧ B x

theorem opens_int {t : TypeId} {k : IntKind} (ht : P.underlying t = some (.int k)) : Opens P t (Kd.int k) (fun x => (Lit.int k x).wf = true) := by
  intro H enc w base spare held n cs y h
  obtain ⟨x, rfl, _, hw⟩ := DataW.trod_int ht h
  exact ⟨x, rfl, hw⟩

theorem opens_bool {t : TypeId} (ht : P.underlying t = some .bool) : Opens P t Kd.bool (fun _ => True) := by
  intro H enc w base spare held n cs y h
  obtain ⟨x, rfl, _⟩ := DataW.trod_bool ht h
  exact ⟨x, rfl, trivial⟩

theorem opens_string {t : TypeId} (ht : P.underlying t = some .string) : Opens P t Kd.string (fun s => s.size ≤ maxLen) := by
  intro H enc w base spare held n cs y h
  obtain ⟨x, rfl, _, hw⟩ := DataW.trod_string ht h
  exact ⟨x, rfl, hw⟩

theorem add_add (a : Addr) (i j : Nat) : (a.add i).add j = a.add (i + j) := by
  unfold Addr.add
  by_cases hi : i = 0 <;> by_cases hj : j = 0 <;> simp [hi, hj, Nat.add_assoc]

theorem opens_slice {t e : TypeId} {d : Kd α} {B : α → Prop} (ht : P.underlying t = some (.slice e)) (hc : P.cellsOf e = d.sz) (hd : Opens P e d B) :
    Opens P t (Kd.slice e d) (fun xs => xs.length ≤ maxLen ∧ ∀ x ∈ xs, B x) := by
  intro H enc w base spare held n cs y h
  rcases DataW.trod_slice ht h with ⟨rfl, _⟩ | ⟨a, len, cap, elems, rest, m, _, rfl, _, _, hl, hm, hlen, hel, _, _⟩
  · exact ⟨[], ⟨none, 0, rfl, Nat.le_refl _, ⟨rfl, by simp, fun h => absurd h (by simp)⟩⟩, by simp, by simp⟩
  · have each : ∀ i, i < len → ∃ x c, d.K w x c ∧ B x ∧ c.length = d.sz ∧ ∀ j u, c[j]? = some u → w.cell? (a.add (i * d.sz + j)) = some u := by
      intro i hi
      have h1 := hel i hi
      obtain ⟨y', hy⟩ : ∃ y', elems[i]? = some y' := ⟨_, List.getElem?_eq_getElem (by omega)⟩
      rw [hy, Option.bind_eq_some_iff] at h1
      obtain ⟨c, hc1, hc2⟩ := h1
      obtain ⟨x, hK, hB⟩ := hd H enc w base spare held m c y' hc2
      obtain ⟨_, hcl, hcell⟩ := World.cells?_some hc1
      refine ⟨x, c, hK, hB, d.K_len hK, fun j u hj => ?_⟩
      have hj' : j < P.cellsOf e := by have := (List.getElem?_eq_some_iff.1 hj).1; omega
      have := hcell j hj'
      rw [hj, hc, add_add] at this
      exact this
    have all : ∀ k, k ≤ len → ∃ xs : List α, xs.length = k ∧ ∀ (i : Nat) (x : α), xs[i]? = some x → B x ∧ ∃ c, c.length = d.sz ∧ d.K w x c ∧ ∀ j u, c[j]? = some u → w.cell? (a.add (i * d.sz + j)) = some u := by
      intro k
      induction k with
      | zero => intro _; exact ⟨[], rfl, fun i x h => by simp at h⟩
      | succ k ih =>
        intro hk
        obtain ⟨xs, hx, hp⟩ := ih (by omega)
        obtain ⟨x, c, hK, hB, hcl, hcell⟩ := each k (by omega)
        refine ⟨xs ++ [x], by simp [hx], fun i z hz => ?_⟩
        by_cases hi : i < k
        · rw [List.getElem?_append_left (by omega)] at hz
          exact hp i z hz
        · have hik : i = k := by
            have := (List.getElem?_eq_some_iff.1 hz).1
            simp only [List.length_append, List.length_singleton] at this
            omega
          subst hik
          rw [List.getElem?_append_right (by omega), hx] at hz
          simp at hz
          subst hz
          exact ⟨hB, c, hcl, hK, hcell⟩
    obtain ⟨xs, hx, hp⟩ := all len (Nat.le_refl _)
    refine ⟨xs, ⟨some a, cap, by rw [hx], by omega, ⟨rfl, by have := hm; simp only [maxLen] at this; omega, fun _ => ⟨a, rfl, fun j x hj => ?_⟩⟩⟩, by omega, fun x hxm => ?_⟩
    · exact (hp j x hj).2
    · obtain ⟨i, hi⟩ := List.getElem?_of_mem hxm
      exact (hp i x hi).1

/-- Some fields of a struct, from one place on. -/
def Part (P : Program) (fs : Array Field) (off : Nat) {α : Type} (d : Kd α) (B : α → Prop) : Prop :=
  ∀ (H : Type) (enc : TypeId × Value → H) (w : World) (base : Nat) (spare : Nat → Bool) (held : Bool) (n : Nat) (cs : List Value) (xs : List (DataW H × List MemPlace)),
    xs.length = fs.size → (∀ (i : Nat) (f : Field), fs[i]? = some f → DataW.trod enc P w base spare held n f.type ((cs.drop f.offset).take (P.cellsOf f.type)) = xs[i]?) →
      ∃ x, d.K w x ((cs.drop off).take d.sz) ∧ B x

theorem part_one {fs : Array Field} {off : Nat} {d : Kd α} {B : α → Prop} (i : Nat) (f : Field) (hf : fs[i]? = some f) (ho : f.offset = off) (hc : P.cellsOf f.type = d.sz) (hd : Opens P f.type d B) : Part P fs off d B := by
  intro H enc w base spare held n cs xs hl h
  have h1 := h i f hf
  have hi : i < fs.size := (Array.getElem?_eq_some_iff.1 hf).1
  obtain ⟨y, hy⟩ : ∃ y, xs[i]? = some y := ⟨_, List.getElem?_eq_getElem (by omega)⟩
  rw [hy, ho, hc] at h1
  exact hd H enc w base spare held n _ y h1

theorem part_pair {fs : Array Field} {off : Nat} {a : Kd α} {b : Kd β} {A : α → Prop} {B : β → Prop} (ha : Part P fs off a A) (hb : Part P fs (off + a.sz) b B) : Part P fs off (Kd.pair a b) (fun x => A x.1 ∧ B x.2) := by
  intro H enc w base spare held n cs xs hl h
  obtain ⟨x, hx, hA⟩ := ha H enc w base spare held n cs xs hl h
  obtain ⟨z, hz, hB⟩ := hb H enc w base spare held n cs xs hl h
  refine ⟨(x, z), ⟨_, _, ?_, hx, hz⟩, hA, hB⟩
  show (cs.drop off).take (a.sz + b.sz) = _
  rw [List.take_add, List.drop_drop]

theorem opens_struct {t : TypeId} {fs : Array Field} {d : Kd α} {B : α → Prop} (ht : P.underlying t = some (.struct fs)) (hc : P.cellsOf t = d.sz) (hp : Part P fs 0 d B) : Opens P t d B := by
  intro H enc w base spare held n cs y h
  obtain ⟨xs, m, _, _, hl, hlen, hf⟩ := DataW.trod_struct ht h
  obtain ⟨x, hx, hB⟩ := hp H enc w base spare held m cs xs hlen hf
  rw [List.drop_zero, ← hc, ← hl, List.take_length] at hx
  exact ⟨x, hx, hB⟩

theorem opens_iso {t : TypeId} {d : Kd α} {B : α → Prop} {f : β → α} (g : α → β) (hg : ∀ x, f (g x) = x) (h : Opens P t d B) : Opens P t (Kd.iso d f) (fun y => B (f y)) := by
  intro H enc w base spare held n cs y hy
  obtain ⟨x, hx, hB⟩ := h H enc w base spare held n cs y hy
  exact ⟨g x, by show d.K w (f (g x)) cs; rw [hg]; exact hx, by show B (f (g x)); rw [hg]; exact hB⟩

/-- A parameter's value at such a type. -/
theorem open_of {H : Type} {enc : TypeId × Value → H} {w : World} {base : Nat} {spare : Nat → Bool} {held : Bool} {t : TypeId} {d : Kd α} {B : α → Prop} {v : Value} {y : DataW H} {p : List MemPlace} (ho : Opens P t d B)
    (h : DataW.Trod enc P w base spare held t v y p) : ∃ x, d.K w x v.cells.toList ∧ B x := by
  obtain ⟨n, hn⟩ := h
  exact ho H enc w base spare held n _ _ hn

theorem agg_cells {cs : Array Value} {l : List Value} (h : (Value.agg cs).cells.toList = l) : Value.agg cs = .agg l.toArray := by
  simp [Value.cells] at h
  subst h
  simp
end
end Go.Proofs.YtccdnmachpepcaaDoor.Open
