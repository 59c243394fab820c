import Derived.Test.Qxb6605258aOutA
import Derived.Test.Qxb6605258aOutB
import Derived.Test.Qxb6605258aOutC
import Derived.Test.Qxb6605258aOutD
import Derived.Test.Qxb6605258aRenderWalk
namespace Go.Proofs.Qxb6605258a
open Go.RowKit

theorem law_walk (y mo d h mi s nanos f oh om : Int) (west zulu : Bool) (w : World) :
    Calls Try.prog 6 #[.int .i64 y, .int .i64 mo, .int .i64 d, .int .i64 h, .int .i64 mi, .int .i64 s, .int .i64 nanos, .int .i64 f, .int .i64 oh, .int .i64 om, .bool west, .bool zulu] w fun e w' => e = .returned (.bool true) ∧ Below w.heap.size w w' := by
  by_cases c0 : y < 0
  · refine (out0 y mo d h mi s nanos f oh om west zulu w  c0).mono ?_
    rintro e w' ⟨rfl, rfl⟩
    exact ⟨rfl, Below.refl _ _⟩
  by_cases c1 : 9999 < y
  · refine (out1 y mo d h mi s nanos f oh om west zulu w (by omega) c1).mono ?_
    rintro e w' ⟨rfl, rfl⟩
    exact ⟨rfl, Below.refl _ _⟩
  by_cases c2 : mo < 0
  · refine (out2 y mo d h mi s nanos f oh om west zulu w (by omega) (by omega) c2).mono ?_
    rintro e w' ⟨rfl, rfl⟩
    exact ⟨rfl, Below.refl _ _⟩
  by_cases c3 : 99 < mo
  · refine (out3 y mo d h mi s nanos f oh om west zulu w (by omega) (by omega) (by omega) c3).mono ?_
    rintro e w' ⟨rfl, rfl⟩
    exact ⟨rfl, Below.refl _ _⟩
  by_cases c4 : d < 0
  · refine (out4 y mo d h mi s nanos f oh om west zulu w (by omega) (by omega) (by omega) (by omega) c4).mono ?_
    rintro e w' ⟨rfl, rfl⟩
    exact ⟨rfl, Below.refl _ _⟩
  by_cases c5 : 99 < d
  · refine (out5 y mo d h mi s nanos f oh om west zulu w (by omega) (by omega) (by omega) (by omega) (by omega) c5).mono ?_
    rintro e w' ⟨rfl, rfl⟩
    exact ⟨rfl, Below.refl _ _⟩
  by_cases c6 : h < 0
  · refine (out6 y mo d h mi s nanos f oh om west zulu w (by omega) (by omega) (by omega) (by omega) (by omega) (by omega) c6).mono ?_
    rintro e w' ⟨rfl, rfl⟩
    exact ⟨rfl, Below.refl _ _⟩
  by_cases c7 : 99 < h
  · refine (out7 y mo d h mi s nanos f oh om west zulu w (by omega) (by omega) (by omega) (by omega) (by omega) (by omega) (by omega) c7).mono ?_
    rintro e w' ⟨rfl, rfl⟩
    exact ⟨rfl, Below.refl _ _⟩
  by_cases c8 : mi < 0
  · refine (out8 y mo d h mi s nanos f oh om west zulu w (by omega) (by omega) (by omega) (by omega) (by omega) (by omega) (by omega) (by omega) c8).mono ?_
    rintro e w' ⟨rfl, rfl⟩
    exact ⟨rfl, Below.refl _ _⟩
  by_cases c9 : 99 < mi
  · refine (out9 y mo d h mi s nanos f oh om west zulu w (by omega) (by omega) (by omega) (by omega) (by omega) (by omega) (by omega) (by omega) (by omega) c9).mono ?_
    rintro e w' ⟨rfl, rfl⟩
    exact ⟨rfl, Below.refl _ _⟩
  by_cases c10 : s < 0
  · refine (out10 y mo d h mi s nanos f oh om west zulu w (by omega) (by omega) (by omega) (by omega) (by omega) (by omega) (by omega) (by omega) (by omega) (by omega) c10).mono ?_
    rintro e w' ⟨rfl, rfl⟩
    exact ⟨rfl, Below.refl _ _⟩
  by_cases c11 : 99 < s
  · refine (out11 y mo d h mi s nanos f oh om west zulu w (by omega) (by omega) (by omega) (by omega) (by omega) (by omega) (by omega) (by omega) (by omega) (by omega) (by omega) c11).mono ?_
    rintro e w' ⟨rfl, rfl⟩
    exact ⟨rfl, Below.refl _ _⟩
  by_cases c12 : nanos < 0
  · refine (out12 y mo d h mi s nanos f oh om west zulu w (by omega) (by omega) (by omega) (by omega) (by omega) (by omega) (by omega) (by omega) (by omega) (by omega) (by omega) (by omega) c12).mono ?_
    rintro e w' ⟨rfl, rfl⟩
    exact ⟨rfl, Below.refl _ _⟩
  by_cases c13 : 999999999 < nanos
  · refine (out13 y mo d h mi s nanos f oh om west zulu w (by omega) (by omega) (by omega) (by omega) (by omega) (by omega) (by omega) (by omega) (by omega) (by omega) (by omega) (by omega) (by omega) c13).mono ?_
    rintro e w' ⟨rfl, rfl⟩
    exact ⟨rfl, Below.refl _ _⟩
  by_cases c14 : f < 0
  · refine (out14 y mo d h mi s nanos f oh om west zulu w (by omega) (by omega) (by omega) (by omega) (by omega) (by omega) (by omega) (by omega) (by omega) (by omega) (by omega) (by omega) (by omega) (by omega) c14).mono ?_
    rintro e w' ⟨rfl, rfl⟩
    exact ⟨rfl, Below.refl _ _⟩
  by_cases c15 : 9 < f
  · refine (out15 y mo d h mi s nanos f oh om west zulu w (by omega) (by omega) (by omega) (by omega) (by omega) (by omega) (by omega) (by omega) (by omega) (by omega) (by omega) (by omega) (by omega) (by omega) (by omega) c15).mono ?_
    rintro e w' ⟨rfl, rfl⟩
    exact ⟨rfl, Below.refl _ _⟩
  by_cases c16 : oh < 0
  · refine (out16 y mo d h mi s nanos f oh om west zulu w (by omega) (by omega) (by omega) (by omega) (by omega) (by omega) (by omega) (by omega) (by omega) (by omega) (by omega) (by omega) (by omega) (by omega) (by omega) (by omega) c16).mono ?_
    rintro e w' ⟨rfl, rfl⟩
    exact ⟨rfl, Below.refl _ _⟩
  by_cases c17 : 99 < oh
  · refine (out17 y mo d h mi s nanos f oh om west zulu w (by omega) (by omega) (by omega) (by omega) (by omega) (by omega) (by omega) (by omega) (by omega) (by omega) (by omega) (by omega) (by omega) (by omega) (by omega) (by omega) (by omega) c17).mono ?_
    rintro e w' ⟨rfl, rfl⟩
    exact ⟨rfl, Below.refl _ _⟩
  by_cases c18 : om < 0
  · refine (out18 y mo d h mi s nanos f oh om west zulu w (by omega) (by omega) (by omega) (by omega) (by omega) (by omega) (by omega) (by omega) (by omega) (by omega) (by omega) (by omega) (by omega) (by omega) (by omega) (by omega) (by omega) (by omega) c18).mono ?_
    rintro e w' ⟨rfl, rfl⟩
    exact ⟨rfl, Below.refl _ _⟩
  by_cases c19 : 99 < om
  · refine (out19 y mo d h mi s nanos f oh om west zulu w (by omega) (by omega) (by omega) (by omega) (by omega) (by omega) (by omega) (by omega) (by omega) (by omega) (by omega) (by omega) (by omega) (by omega) (by omega) (by omega) (by omega) (by omega) (by omega) c19).mono ?_
    rintro e w' ⟨rfl, rfl⟩
    exact ⟨rfl, Below.refl _ _⟩
  obtain ⟨n, rfl⟩ : ∃ n : Nat, f = (n : Int) := ⟨f.toNat, by omega⟩
  exact render_walk y mo d h mi s nanos n oh om west zulu w ⟨by omega, by omega, by omega, by omega, by omega, by omega, by omega, by omega, by omega, by omega⟩
end Go.Proofs.Qxb6605258a
