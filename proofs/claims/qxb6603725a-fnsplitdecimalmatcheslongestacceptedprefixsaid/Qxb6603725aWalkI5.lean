/-
  THE WALKS, I: zzB1IsSplitOf (23) AT THE SPLIT OF THE FIRST p BYTES.
-/
import Derived.Test.Qxb6603725aWalkI1
import Derived.Test.Qxb6603725aWalkI2
import Derived.Test.Qxb6603725aWalkI3
import Derived.Test.Qxb6603725aWalkI4
import Derived.Test.Qxb6603725aWalkS6
namespace Go.Proofs.Qxb6603725a
open Go.RowKit

theorem part_digits (l : List Int) (k : Nat) : ∀ x ∈ (l.take (dEnd l k)).drop k, isD x = true := by
  intro x hx
  rw [List.drop_take] at hx
  have e : dEnd l k - k = digs (l.drop k) := by unfold dEnd; omega
  rw [e] at hx
  exact digs_all _ x hx
theorem whole_digits (l : List Int) : ∀ x ∈ l.take (at0 l), isD x = true := by
  have h := part_digits l 0
  rw [List.drop_zero] at h
  exact h
theorem frac_digits {l : List Int} (h : hasPt l = true) : ∀ x ∈ (l.take (at1 l)).drop (at0 l + 1), isD x = true := by
  rw [at1_pt h]
  exact part_digits l _
theorem cut_join {l : List Int} {i p : Nat} {c : Int} (h : l[i]? = some c) (hp : i + 1 ≤ p) : l.take p = l.take i ++ [c] ++ (l.take p).drop (i + 1) := by
  have h1 : (l.take p).take (i + 1) = l.take (i + 1) := by rw [List.take_take, Nat.min_eq_left hp]
  have h2 : l.take (i + 1) = l.take i ++ [c] := by rw [List.take_add_one, h]; rfl
  rw [← h2, ← h1, List.take_append_drop]
theorem frac_join {l : List Int} (h : hasPt l = true) : l.take (at1 l) = l.take (at0 l) ++ [46] ++ (l.take (at1 l)).drop (at0 l + 1) := by
  have hc : l[at0 l]? = some 46 := by simpa [hasPt] using h
  have hge : at0 l + 1 ≤ at1 l := by rw [at1_pt h]; exact dEnd_ge _ _
  exact cut_join hc hge

/-- The parts are the split. -/
theorem isSplit_any (vt W F E : Value) (l : List Int) (p : Nat) (w : World) (hs : Sc l p) (hmax : l.length ≤ 1048576) (ht : Rd w vt (l.take p)) (hW : Rd w W (l.take (at0 l))) (hF : Rd w F ((l.take (at1 l)).drop (at0 l + 1))) (hE : Rd w E ((l.take p).drop (at1 l + 1))) :
    Calls Try.prog 23 #[vt, W, .bool (hasPt l), F, E] w fun e w' => e = .returned (.bool true) ∧ Kept (fun _ => False) w w' := by
  have l0 := at0_le l
  have l1 := at1_le l
  have l01 := at1_ge l
  have hwl : (l.take (at0 l)).length = at0 l := by rw [List.length_take]; omega
  have hK : (l.take (at1 l)).length = at1 l := by rw [List.length_take]; omega
  have hwd := whole_digits l
  obtain ⟨aW, cW, rfl⟩ := hW.form
  obtain ⟨aF, cF, rfl⟩ := hF.form
  obtain ⟨hne, hs⟩ := hs
  have hw1 : 1 ≤ (l.take (at0 l)).length := by omega
  have hwm : (l.take (at0 l)).length ≤ 1048576 := by omega
  have hfm : ((l.take (at1 l)).drop (at0 l + 1)).length ≤ 1048576 := by rw [List.length_drop]; omega
  rcases hs with ⟨hx, rfl⟩ | ⟨q, hq, hx, rfl⟩
  · -- no exponent
    have hel : (l.take (at1 l)).drop (at1 l + 1) = [] := List.drop_eq_nil_of_le (by omega)
    obtain ⟨aE, cE, rfl⟩ := hE.form
    obtain ⟨aT, cT, rfl⟩ := ht.form
    rw [hel] at hE ⊢
    cases hp : hasPt l with
    | true => exact is_P aW aF aE aT _ cW _ cF cE _ cT (at1 l) _ _ _ (l.take (at1 l)) w hW rfl hw1 hwd hwm hF rfl (frac_digits hp) hfm (frac_join hp) hK (by omega) rfl hK ht
    | false =>
      have hfl : (l.take (at1 l)).drop (at0 l + 1) = [] := List.drop_eq_nil_of_le (by rw [hK, at1_no hp]; omega)
      rw [hfl] at hF ⊢
      exact is_N aW aF aE aT _ cW cF cE _ cT (at1 l) _ _ (l.take (at1 l)) w hW rfl hw1 hwd hwm hF (by show l.take (at1 l) = l.take (at0 l); rw [at1_no hp]) hK (by omega) rfl hK ht
  · -- an exponent of q bytes
    rcases expo_ways l (at1 l) l1 with ⟨k1, hx'⟩ | ⟨ch, k1, k2, k3, k4, hx'⟩ | ⟨ch, hch, k1, k2, k3⟩
    · rw [hx] at hx'; cases hx'
    · rw [hx] at hx'; cases hx'
    have hjoin : l.take (at1 l + q) = l.take (at1 l) ++ [ch] ++ (l.take (at1 l + q)).drop (at1 l + 1) := cut_join k1 (by omega)
    rcases k3 with ⟨m1, m2, hx'⟩ | ⟨c2, hc2, m1, m2, ⟨m3, hx'⟩ | ⟨m3, m4, q', m5, m6, hx'⟩⟩ | ⟨c2, hs1, hs2, m1, m2, ⟨m3, hx'⟩ | ⟨m3, m4, q', m5, m6, hx'⟩⟩
    · rw [hx] at hx'; cases hx'; omega
    · rw [hx] at hx'; cases hx'; omega
    · -- with a sign
      rw [hx] at hx'
      obtain rfl : q = q' := Option.some.inj hx'
      have hlt : (l.take (at1 l + q)).length = at1 l + q := by rw [List.length_take]; omega
      have hle : ((l.take (at1 l + q)).drop (at1 l + 1)).length = q - 1 := by rw [List.length_drop, hlt]; omega
      have he0 : ((l.take (at1 l + q)).drop (at1 l + 1))[0]? = some c2 := by
        rw [List.getElem?_drop, Nat.add_zero, List.getElem?_take, if_pos (by omega)]; exact m1
      have hed : ∀ x ∈ ((l.take (at1 l + q)).drop (at1 l + 1)).drop 1, isD x = true := by
        rw [List.drop_drop, m6]; exact part_digits l _
      obtain ⟨aE, cE, rfl⟩ := hE.form
      obtain ⟨aT, cT, rfl⟩ := ht.form
      obtain ⟨gE, oE, rfl, -, -⟩ := hE.addr (by omega)
      obtain ⟨gt, ot, rfl, -, -⟩ := ht.addr (by omega)
      cases hp : hasPt l with
      | true =>
        rcases hch with rfl | rfl <;> rcases hc2 with rfl | rfl
        · exact is_P_e_1 aW aF _ cW _ cF _ cE _ cT gE oE gt ot (at1 l) _ _ _ _ (l.take (at1 l)) w hW rfl hw1 hwd hwm hF rfl (frac_digits hp) hfm (frac_join hp) hK (by omega) hjoin (by omega) ht (by omega) hE rfl (by omega) he0 hed
        · exact is_P_e_2 aW aF _ cW _ cF _ cE _ cT gE oE gt ot (at1 l) _ _ _ _ (l.take (at1 l)) w hW rfl hw1 hwd hwm hF rfl (frac_digits hp) hfm (frac_join hp) hK (by omega) hjoin (by omega) ht (by omega) hE rfl (by omega) he0 hed
        · exact is_P_E_1 aW aF _ cW _ cF _ cE _ cT gE oE gt ot (at1 l) _ _ _ _ (l.take (at1 l)) w hW rfl hw1 hwd hwm hF rfl (frac_digits hp) hfm (frac_join hp) hK (by omega) hjoin (by omega) ht (by omega) hE rfl (by omega) he0 hed
        · exact is_P_E_2 aW aF _ cW _ cF _ cE _ cT gE oE gt ot (at1 l) _ _ _ _ (l.take (at1 l)) w hW rfl hw1 hwd hwm hF rfl (frac_digits hp) hfm (frac_join hp) hK (by omega) hjoin (by omega) ht (by omega) hE rfl (by omega) he0 hed
      | false =>
        have hfl : (l.take (at1 l)).drop (at0 l + 1) = [] := List.drop_eq_nil_of_le (by rw [hK, at1_no hp]; omega)
        rw [hfl] at hF ⊢
        have hRr : Hid (l.take (at1 l) = l.take (at0 l)) := by show l.take (at1 l) = l.take (at0 l); rw [at1_no hp]
        rcases hch with rfl | rfl <;> rcases hc2 with rfl | rfl
        · exact is_N_e_1 aW aF _ cW cF _ cE _ cT gE oE gt ot (at1 l) _ _ _ (l.take (at1 l)) w hW rfl hw1 hwd hwm hF hRr hK (by omega) hjoin (by omega) ht (by omega) hE rfl (by omega) he0 hed
        · exact is_N_e_2 aW aF _ cW cF _ cE _ cT gE oE gt ot (at1 l) _ _ _ (l.take (at1 l)) w hW rfl hw1 hwd hwm hF hRr hK (by omega) hjoin (by omega) ht (by omega) hE rfl (by omega) he0 hed
        · exact is_N_E_1 aW aF _ cW cF _ cE _ cT gE oE gt ot (at1 l) _ _ _ (l.take (at1 l)) w hW rfl hw1 hwd hwm hF hRr hK (by omega) hjoin (by omega) ht (by omega) hE rfl (by omega) he0 hed
        · exact is_N_E_2 aW aF _ cW cF _ cE _ cT gE oE gt ot (at1 l) _ _ _ (l.take (at1 l)) w hW rfl hw1 hwd hwm hF hRr hK (by omega) hjoin (by omega) ht (by omega) hE rfl (by omega) he0 hed
    · rw [hx] at hx'; cases hx'; omega
    · -- without a sign
      rw [hx] at hx'
      obtain rfl : q = q' := Option.some.inj hx'
      have hlt : (l.take (at1 l + q)).length = at1 l + q := by rw [List.length_take]; omega
      have hle : ((l.take (at1 l + q)).drop (at1 l + 1)).length = q - 1 := by rw [List.length_drop, hlt]; omega
      have he0 : ((l.take (at1 l + q)).drop (at1 l + 1))[0]? = some c2 := by
        rw [List.getElem?_drop, Nat.add_zero, List.getElem?_take, if_pos (by omega)]; exact m1
      have hed : ∀ x ∈ (l.take (at1 l + q)).drop (at1 l + 1), isD x = true := by
        rw [m6]; exact part_digits l _
      obtain ⟨aE, cE, rfl⟩ := hE.form
      obtain ⟨aT, cT, rfl⟩ := ht.form
      obtain ⟨gE, oE, rfl, -, -⟩ := hE.addr (by omega)
      obtain ⟨gt, ot, rfl, -, -⟩ := ht.addr (by omega)
      cases hp : hasPt l with
      | true =>
        rcases hch with rfl | rfl
        · exact is_P_e_3 aW aF _ cW _ cF _ cE _ cT gE oE gt ot (at1 l) _ _ _ _ (l.take (at1 l)) w hW rfl hw1 hwd hwm hF rfl (frac_digits hp) hfm (frac_join hp) hK (by omega) hjoin (by omega) ht (by omega) hE rfl (by omega) c2 he0 hs1 hs2 hed
        · exact is_P_E_3 aW aF _ cW _ cF _ cE _ cT gE oE gt ot (at1 l) _ _ _ _ (l.take (at1 l)) w hW rfl hw1 hwd hwm hF rfl (frac_digits hp) hfm (frac_join hp) hK (by omega) hjoin (by omega) ht (by omega) hE rfl (by omega) c2 he0 hs1 hs2 hed
      | false =>
        have hfl : (l.take (at1 l)).drop (at0 l + 1) = [] := List.drop_eq_nil_of_le (by rw [hK, at1_no hp]; omega)
        rw [hfl] at hF ⊢
        have hRr : Hid (l.take (at1 l) = l.take (at0 l)) := by show l.take (at1 l) = l.take (at0 l); rw [at1_no hp]
        rcases hch with rfl | rfl
        · exact is_N_e_3 aW aF _ cW cF _ cE _ cT gE oE gt ot (at1 l) _ _ _ (l.take (at1 l)) w hW rfl hw1 hwd hwm hF hRr hK (by omega) hjoin (by omega) ht (by omega) hE rfl (by omega) c2 he0 hs1 hs2 hed
        · exact is_N_E_3 aW aF _ cW cF _ cE _ cT gE oE gt ot (at1 l) _ _ _ (l.take (at1 l)) w hW rfl hw1 hwd hwm hF hRr hK (by omega) hjoin (by omega) ht (by omega) hE rfl (by omega) c2 he0 hs1 hs2 hed
end Go.Proofs.Qxb6603725a
