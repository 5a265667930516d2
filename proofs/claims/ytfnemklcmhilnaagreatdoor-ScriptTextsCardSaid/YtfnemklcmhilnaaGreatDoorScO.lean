/- A line of a script whose word is none of the fifteen. -/
import Derived.Test.YtfnemklcmhilnaaGreatDoorScN
import Derived.Maps.OwnOps
namespace Go.Proofs.YtfnemklcmhilnaaGreatDoor
open Go.RowKit
open Go.Lib hiding intOf
theorem elZ_inv {v : Value} {ps : List MemPlace} (h : formR (H := Unit) v = some (.agg [.lit (.int .i64 0), .lit (.bool false)], ps)) : v = .agg #[.int .i64 0, .slice none 0 0, .bool false] := by
  cases v with
  | agg cs =>
    have h' : formL (H := Unit) cs.toList = some (.agg [.lit (.int .i64 0), .lit (.bool false)], ps) := h
    unfold formL at h'
    split at h'
    · split at h' <;> simp at h'
    · rename_i op n c m hcs
      split at h'
      · rename_i hc
        obtain ⟨rfl, rfl⟩ := hc
        simp only [Option.some.injEq, Prod.mk.injEq, DataW.agg.injEq, List.cons.injEq, and_true, DataW.lit.injEq, Lit.int.injEq, true_and, Lit.bool.injEq] at h'
        obtain ⟨⟨rfl, rfl⟩, -⟩ := h'
        congr 1
        apply Array.toList_inj.1
        exact hcs
      · cases h'
    · cases h'
  | _ => cases h
set_option maxHeartbeats 1000000 in
set_option maxRecDepth 100000 in
theorem line_unknown (s : ByteArray) (w : World) (FB : Nat) (hF : Forms FB w) (hs : s.size ≤ 35184372088000) (hj : formIdx (cutB 32 s.data.toList) = none) :
    Calls Tryz.prog 14 #[.string s, .map (some (FB + 4))] w fun e w' => Below w.heap.size w w' ∧ e = .returned (.tuple #[.agg #[.int .i64 0, .slice none 0 0, .slice none 0 0, .string ⟨#[]⟩], .int .i64 0]) := by
  have hcut := cutB_le 32 s.data.toList
  have hl : s.data.toList.length = s.size := by simp
  have hkey : s.extract 0 (cutB 32 s.data.toList).length = ⟨(cutB 32 s.data.toList).toArray⟩ := by rw [extract_take, cutB_take]
  have hat := formD_at (H := Unit) FB (cutB 32 s.data.toList) (.agg [.lit (.int .i64 0), .lit (.bool false)]) 15
  have hj' : formTo (cutB 32 s.data.toList) 15 = none := hj
  rw [hj'] at hat
  obtain ⟨hat1, hat2⟩ := hat
  have HS : Hid (s.size ≤ maxLen) := by show s.size ≤ maxLen; unfold maxLen; omega
  have HKL : Hid ((cutB 32 s.data.toList).length ≤ maxLen) := by show (cutB 32 s.data.toList).length ≤ maxLen; unfold maxLen; omega
  have HF := Lib.hid hF
  have HAT := Lib.hid hat1
  have HAS := Lib.hid hat2
  generalize hL : (cutB 32 s.data.toList).length = L at *
  have hL2 : (L : Int) ≤ s.size := by omega
  clear hF hat1 hat2 hj hj'
  go_enter Tryz.func14, Tryz.ntmps14
  have HK := Lib.hid (key_str (cutB 32 s.data.toList) (by rw [hL]; exact HKL.out))
  go_wp2_with (first
    | (go_at_call 26; refine (word_any _ _ HS.out).mono ?_; rintro e w1 ⟨rfl, n, rfl⟩)
    | (at_lookup; refine wpList_lookup_own_ok _ rfl _ _ 34 rfl 9 60 (Maps.string_keyed Tryz.underlying9) Tryz.underlying34 formR (zero_form _) (.agg [.lit (.int .i64 0), .lit (.bool false)]) [] rfl (FB + 4) 15 (formD FB 15) rfl (HF.out.own.alloc _) _ _ rfl HK.out ?_))
  intro v ps hv
  rw [HAT.out] at hv
  obtain rfl := elZ_inv hv
  rw [HAS.out]
  clear hv
  go_wp2
  have hb := below_stored (((Below.refl w.heap.size w).alloc (Nat.le_refl _) (.cells #[.int .i64 0, .slice none 0 0, .slice none 0 0, .string ⟨#[]⟩] 29)).trans (below_drewN _ _ n)) (Nat.le_refl _) (.int .i64 0) (.slice none 0 0) (.slice none 0 0) (.string ⟨#[]⟩)
  refine bodyPost_ret (v := .tuple #[.agg #[.int .i64 0, .slice none 0 0, .slice none 0 0, .string ⟨#[]⟩], .int .i64 0]) (by simp only [results, Tryz.results14]; go_simp) rfl ⟨hb.alloc hb.size _, rfl⟩
end Go.Proofs.YtfnemklcmhilnaaGreatDoor
