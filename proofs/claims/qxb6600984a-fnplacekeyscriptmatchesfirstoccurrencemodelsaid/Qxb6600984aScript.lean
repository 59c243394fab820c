import Derived.Test.Qxb6600984aState
import Derived.Deep.RegionHeld3
import Derived.Deep.QuietTactic
import Derived.BigQuiet
namespace Go.Proofs.Qxb6600984a
open Go.RowKit Go.Maps Go.WideMaps

section
variable {W0 w : World} {adk adl : Option Addr} {keys : List ByteArray} {lines : List Int} {pb gb B : Nat} {top : Int} {n k : Nat} {G : List Nat}

theorem key_st (h : St W0 w adk adl keys lines pb gb B top n k k G) (hk : k < keys.length) (hBp : B ≤ pb) (hpg : pb < gb) (hak : ∀ a, adk = some a → a.block ≠ pb) (hal : ∀ a, adl = some a → a.block ≠ pb) (hsz : (keys.getD k ByteArray.empty).size ≤ maxLen) (hkm : k < maxLen) :
    Calls Try.prog 22 #[.pointer (some ⟨pb, 0, none⟩), .string (keys.getD k ByteArray.empty), .int .i64 (lines.getD k 0)] w fun e w' => ∃ g : Nat, e = .returned (.pointer (some ⟨g, 0, none⟩)) ∧ St W0 w' adk adl keys lines pb gb B top n (k + 1) k (G ++ [g]) := by
  have hgl := h.lt
  have hGl := h.len
  rcases h.tab with ⟨e, hp⟩ | ⟨m, hBm, hp, ht⟩
  · subst e
    have hG : G = [] := List.length_eq_zero_iff.1 hGl
    refine (key_first pb top (lines.getD 0 0) _ w hp hsz).mono ?_
    rintro e w' ⟨rfl, hp', ht', hg, hko⟩
    refine ⟨_, rfl, h.fresh hk hBp hpg hak hal (fun i hi => absurd hi (by omega)) hko (Or.inl rfl) hBp (by omega) hp' ?_ (by omega) hg⟩
    rw [hG]; exact ht'
  · by_cases hin : keys.getD k ByteArray.empty ∈ keys.take k
    · obtain ⟨i, hi, his⟩ := (mem_take (by omega)).1 hin
      refine (key_has pb m k _ top (lines.getD k 0) (keys.take k) G _ w hp ht hsz i (by rw [List.length_take]; omega) (by rw [getD_take hi]; exact his)).mono ?_
      rintro e w' ⟨rfl, rfl⟩
      exact ⟨_, rfl, h.again hk hi his⟩
    · have hpm : pb ≠ m := by
        intro e
        obtain ⟨es, c, hes⟩ := ht.isMap
        rw [← e, hp] at hes; cases hes
      refine (key_new pb m k _ top (lines.getD k 0) (keys.take k) G _ w hpm hp ht hsz hkm hin (by rw [List.length_take]; omega)).mono ?_
      rintro e w' ⟨rfl, hp', ht', hg, hko⟩
      exact ⟨_, rfl, h.fresh hk hBp hpg hak hal (fun i hi e => hin ((mem_take (by omega)).2 ⟨i, hi, e⟩)) hko (Or.inr ht.isMap) hBm hBm hp' ht' (Nat.le_refl _) hg⟩

theorem placeKey_st (h : St W0 w adk adl keys lines pb gb B top n k k G) (hk : k < keys.length) (hBp : B ≤ pb) (hpg : pb < gb) (hak : ∀ a, adk = some a → a.block ≠ pb) (hal : ∀ a, adl = some a → a.block ≠ pb) (hsz : (keys.getD k ByteArray.empty).size ≤ maxLen) (hkm : k < maxLen) :
    Calls Try.prog 15 #[.pointer (some ⟨pb, 0, none⟩), .string (keys.getD k ByteArray.empty), .int .i64 (lines.getD k 0)] w fun e w' => ∃ g : Nat, e = .returned (.pointer (some ⟨g, 0, none⟩)) ∧ St W0 w' adk adl keys lines pb gb B top n (k + 1) k (G ++ [g]) := by
  have H := key_st h hk hBp hpg hak hal hsz hkm
  generalize keys.getD k ByteArray.empty = s at H
  generalize lines.getD k 0 = z at H
  have HH : Hid _ := H
  clear H h
  go_enter Try.func15, Try.ntmps15
  go_wp2_with fail
  refine Calls.mono HH.out ?_
  rintro e w' ⟨g, rfl, hst⟩
  have HS : Hid _ := hst
  clear hst
  go_wp2
  go_ret
  exact ⟨_, rfl, HS.out⟩
end

theorem neq_ptr_same (a : Addr) (w : World) : (binOp .neq 33 (.pointer (some a)) (.pointer (some a))).run Try.prog w = .ok (.bool false) w := by
  obtain ⟨i, hi⟩ : ∃ i, Try.prog.info? 50 = some i := Option.isSome_iff_exists.1 (by kernel_rfl)
  have h := run_eql_ptr_same (P := Try.prog) w a Try.underlying33 hi
  simp only [binOp] at h ⊢
  cases e : (Op.equal 33 (.pointer (some a)) (.pointer (some a))).run Try.prog w with
  | ok b w1 =>
    simp [e, Result.andThen] at h ⊢
    exact h
  | _ => simp [e, Result.andThen] at h
end Go.Proofs.Qxb6600984a
