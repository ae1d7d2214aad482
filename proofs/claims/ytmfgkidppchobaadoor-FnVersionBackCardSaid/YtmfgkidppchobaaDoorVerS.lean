/- Versions: a version is told alike to itself. -/
import Derived.Test.YtmfgkidppchobaaDoorVer6
set_option linter.unusedSimpArgs false
set_option linter.unusedVariables false
namespace Go.Proofs.YtmfgkidppchobaaDoor.VerS
open Go.RowKit Go.Proofs.YtmfgkidppchobaaDoorW.PrintWords Go.Proofs.YtmfgkidppchobaaDoorW.PrintLast Go.Proofs.YtmfgkidppchobaaDoor.XFnVersionWays Go.Proofs.YtmfgkidppchobaaDoor.Ver1 Go.Proofs.YtmfgkidppchobaaDoor.Ver2 Go.Proofs.YtmfgkidppchobaaDoor.Ver3 Go.Proofs.YtmfgkidppchobaaDoor.Ver4 Go.Proofs.YtmfgkidppchobaaDoor.Ver5 Go.Proofs.YtmfgkidppchobaaDoor.Ver6
theorem same_l0 (o : Bool) (l : List Int) (p q t : ByteArray) (a b c : Int) (hl : l.length ≤ 4294967296) : ∀ (j i : Nat), i + j = l.length → laws_verSame.l0 (j + 1) (i : Int) o l p q t a b c o l p q t a b c = some true
  | 0, i, h => by
    unfold laws_verSame.l0
    rw [if_neg (by omega)]
  | j + 1, i, h => by
    unfold laws_verSame.l0
    rw [if_pos (by omega), if_pos (by omega), if_pos (by omega), if_pos rfl, show wrap64 ((i : Int) + 1) = ((i + 1 : Nat) : Int) from by unfold wrap64; omega]
    exact same_l0 o l p q t a b c hl j (i + 1) (by omega)
theorem same_f (d : VD) (hl : d.l.length ≤ 4294967296) : laws_verSame.f (d.l.length + 2) d.ok d.l d.pre d.bld d.txt d.a d.b d.c d.ok d.l d.pre d.bld d.txt d.a d.b d.c = some true := by
  unfold laws_verSame.f
  rw [if_neg (by simp), if_pos rfl, if_pos rfl, if_pos rfl, if_pos rfl, if_pos rfl]
  unfold laws_verSame.j0
  show (if (d.b != d.b) = true then some false else _) = some true
  rw [if_neg (by simp)]
  exact same_l0 d.ok d.l d.pre d.bld d.txt d.a d.b d.c hl d.l.length 0 (by omega)
theorem same_calls (d : VD) (hl : d.l.length ≤ 4294967296) (A A' : Option Addr) (c c' : Nat) (w : World) (h1 : Kd.C (Kd.int .u64) w A d.l.length d.l) (h2 : d.l.length ≤ c) (h3 : Kd.C (Kd.int .u64) w A' d.l.length d.l) (h4 : d.l.length ≤ c') :
    Calls Tryd.prog 19 #[.agg #[.bool d.ok, .slice A d.l.length c, .string d.pre, .string d.bld, .string d.txt, .int .u64 d.a, .int .u64 d.b, .int .u64 d.c], .agg #[.bool d.ok, .slice A' d.l.length c', .string d.pre, .string d.bld, .string d.txt, .int .u64 d.a, .int .u64 d.b, .int .u64 d.c]] w fun e w' => e = .returned (.bool true) ∧ Below w.heap.size w w' :=
  laws_verSame.calls _ d.ok A c d.l d.pre d.bld d.txt d.a d.b d.c d.ok A' c' d.l d.pre d.bld d.txt d.a d.b d.c true w h1 h2 h3 h4 (same_f d hl)
end Go.Proofs.YtmfgkidppchobaaDoor.VerS
