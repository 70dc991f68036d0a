/-
  THE WALKS, S: splitDecimal (27) AT EVERY INPUT; ZZSplitDecimal (20).
-/
import Derived.Test.Qxb6603725aWalkS1
import Derived.Test.Qxb6603725aWalkS2
import Derived.Test.Qxb6603725aWalkS3
import Derived.Test.Qxb6603725aWalkS4
import Derived.Test.Qxb6603725aPlain5
namespace Go.Proofs.Qxb6603725a
open Go.RowKit

/-- What splitDecimal hands back. -/
def SD (l : List Int) (e : Ending) (w' : World) : Prop :=
  if at0 l = 0 then e = zeroOut else match expo (l.drop (at1 l)) with
    | some 0 => e = zeroOut
    | some (m + 1) => SplitOut l l.length (at0 l) (at1 l) (at1 l + (m + 1)) (hasPt l) e w'
    | none => SplitOut l l.length (at0 l) (at1 l) (at1 l) (hasPt l) e w'

theorem SD_zero {l : List Int} {e : Ending} {w' : World} (h : at0 l = 0) (he : e = zeroOut) : SD l e w' := by unfold SD; rw [if_pos h]; exact he
theorem SD_bad {l : List Int} {e : Ending} {w' : World} (h : at0 l ≠ 0) (hx : expo (l.drop (at1 l)) = some 0) (he : e = zeroOut) : SD l e w' := by unfold SD; rw [if_neg h, hx]; exact he
theorem SD_none {l : List Int} {e : Ending} {w' : World} (h : at0 l ≠ 0) (hx : expo (l.drop (at1 l)) = none) (he : SplitOut l l.length (at0 l) (at1 l) (at1 l) (hasPt l) e w') : SD l e w' := by unfold SD; rw [if_neg h, hx]; exact he
theorem SD_some {l : List Int} {e : Ending} {w' : World} {q : Nat} (h : at0 l ≠ 0) (hq : 1 ≤ q) (hx : expo (l.drop (at1 l)) = some q) (he : SplitOut l l.length (at0 l) (at1 l) (at1 l + q) (hasPt l) e w') : SD l e w' := by
  unfold SD
  rw [if_neg h, hx]
  cases q with
  | zero => omega
  | succ m => exact he

/-- The ways of what stands behind the fraction. -/
theorem expo_ways (l : List Int) (k : Nat) (hk : k ≤ l.length) :
    (k = l.length ∧ expo (l.drop k) = none) ∨
    (∃ ch, l[k]? = some ch ∧ k < l.length ∧ (ch == 101) = false ∧ (ch == 69) = false ∧ expo (l.drop k) = none) ∨
    (∃ ch, (ch = 101 ∨ ch = 69) ∧ l[k]? = some ch ∧ k < l.length ∧
      ((k + 1 = l.length ∧ dEnd l (k + 1) = k + 1 ∧ expo (l.drop k) = some 0) ∨
       (∃ c2, (c2 = 43 ∨ c2 = 45) ∧ l[k + 1]? = some c2 ∧ k + 1 < l.length ∧ ((dEnd l (k + 2) = k + 2 ∧ expo (l.drop k) = some 0) ∨ (k + 2 < dEnd l (k + 2) ∧ dEnd l (k + 2) ≤ l.length ∧ ∃ q, 1 ≤ q ∧ k + q = dEnd l (k + 2) ∧ expo (l.drop k) = some q))) ∨
       (∃ c2, (c2 == 43) = false ∧ (c2 == 45) = false ∧ l[k + 1]? = some c2 ∧ k + 1 < l.length ∧ ((dEnd l (k + 1) = k + 1 ∧ expo (l.drop k) = some 0) ∨ (k + 1 < dEnd l (k + 1) ∧ dEnd l (k + 1) ≤ l.length ∧ ∃ q, 1 ≤ q ∧ k + q = dEnd l (k + 1) ∧ expo (l.drop k) = some q))))) := by
  by_cases h : k = l.length
  · left
    refine ⟨h, ?_⟩
    rw [List.drop_eq_nil_of_le (by omega)]
    rfl
  right
  have hlt : k < l.length := by omega
  have hg : l[k]? = some l[k] := List.getElem?_eq_getElem hlt
  have hdr : l.drop k = l[k] :: l.drop (k + 1) := List.drop_eq_getElem_cons hlt
  generalize l[k] = ch at hg hdr
  by_cases he : isE ch = true
  · right
    have hx : expo (l.drop k) = some (expoR (l.drop (k + 1))) := by rw [hdr]; simp [expo, he]
    refine ⟨ch, by simpa [isE] using he, hg, hlt, ?_⟩
    by_cases h1 : k + 1 = l.length
    · left
      refine ⟨h1, dEnd_end (by omega), ?_⟩
      rw [hx, List.drop_eq_nil_of_le (by omega)]
      rfl
    right
    have hlt1 : k + 1 < l.length := by omega
    have hg1 : l[k + 1]? = some l[k + 1] := List.getElem?_eq_getElem hlt1
    have hdr1 : l.drop (k + 1) = l[k + 1] :: l.drop (k + 1 + 1) := List.drop_eq_getElem_cons hlt1
    generalize l[k + 1] = c2 at hg1 hdr1
    by_cases hs : isS c2 = true
    · left
      refine ⟨c2, by simpa [isS] using hs, hg1, hlt1, ?_⟩
      have hxx : expo (l.drop k) = some (if digs (l.drop (k + 1 + 1)) = 0 then 0 else 2 + digs (l.drop (k + 1 + 1))) := by rw [hx, hdr1]; simp [expoR, hs]
      have hle := dEnd_le l (k + 2) (by omega)
      have hde : dEnd l (k + 2) = k + 2 + digs (l.drop (k + 1 + 1)) := rfl
      by_cases hz : digs (l.drop (k + 1 + 1)) = 0
      · left
        refine ⟨by omega, ?_⟩
        rw [hxx, if_pos hz]
      · right
        refine ⟨by omega, hle, 2 + digs (l.drop (k + 1 + 1)), by omega, by omega, ?_⟩
        rw [hxx, if_neg hz]
    · right
      have hs' : c2 ≠ 43 ∧ c2 ≠ 45 := by simpa [isS] using hs
      refine ⟨c2, by simpa using hs'.1, by simpa using hs'.2, hg1, hlt1, ?_⟩
      have hxx : expo (l.drop k) = some (if digs (l.drop (k + 1)) = 0 then 0 else 1 + digs (l.drop (k + 1))) := by rw [hx, hdr1]; simp [expoR, hs]
      have hle := dEnd_le l (k + 1) (by omega)
      have hde : dEnd l (k + 1) = k + 1 + digs (l.drop (k + 1)) := rfl
      by_cases hz : digs (l.drop (k + 1)) = 0
      · left
        refine ⟨by omega, ?_⟩
        rw [hxx, if_pos hz]
      · right
        refine ⟨by omega, hle, 1 + digs (l.drop (k + 1)), by omega, by omega, ?_⟩
        rw [hxx, if_neg hz]
  · left
    have he' : ch ≠ 101 ∧ ch ≠ 69 := by simpa [isE] using he
    refine ⟨ch, hg, hlt, by simpa using he'.1, by simpa using he'.2, ?_⟩
    rw [hdr]
    simp [expo, he]

theorem cell_at {w : World} {g o n c k : Nat} {l : List Int} {x : Int} (h : Rd w (.slice (some ⟨g, o, none⟩) n c) l) (hx : l[k]? = some x) : w.cell? ⟨g, o + k, none⟩ = some (.int .u8 x) := by
  obtain ⟨hk, hv⟩ := List.getElem?_eq_some_iff.1 hx
  obtain ⟨h1, _, _, _, h5⟩ := rd_parts' h
  rw [h5 k (by omega)]
  simp [hx]

/-- splitDecimal. -/
theorem sd_any (v : Value) (l : List Int) (w : World) (h : Rd w v l) (hmax : l.length ≤ 1048576) : Calls Try.prog 27 #[v] w fun e w' => SD l e w' ∧ Kept (fun _ => False) w w' := by
  obtain ⟨a, c, rfl⟩ := h.form
  by_cases hnil : l.length = 0
  · have h0 : at0 l = 0 := by have := at0_le l; omega
    rw [hnil]
    exact (sd_empty a c w).mono fun e w' ⟨h1, h2⟩ => ⟨SD_zero h0 h1, h2⟩
  obtain ⟨g, o, rfl, -, -⟩ := h.addr (by omega)
  by_cases h0 : at0 l = 0
  · exact (sd_nodigit g o _ c l w h hmax h0).mono fun e w' ⟨h1, h2⟩ => ⟨SD_zero h0 h1, h2⟩
  have hge : 1 ≤ at0 l := by omega
  cases hp : hasPt l with
  | false =>
    have h1 : at1 l = at0 l := at1_no hp
    rcases expo_ways l (at1 l) (at1_le l) with ⟨k1, hx⟩ | ⟨ch, k1, k2, k3, k4, hx⟩ | ⟨ch, hch, k1, k2, k3⟩
    · refine (sd_N0_X0 g o _ c (at0 l) l w h hmax rfl hge (by rw [← h1]; exact k1)).mono fun e w' ⟨e1, e2⟩ => ⟨SD_none h0 hx ?_, e2⟩
      rw [hp, h1]; exact e1
    · have hn46 : (ch == 46) = false := by simpa using at1_nopoint l ch hp k1
      rw [h1] at k1 k2
      refine (sd_N1_X1 g o _ c (at0 l) l w h hmax rfl hge k2 ch (cell_at h k1) hn46 k3 k4).mono fun e w' ⟨e1, e2⟩ => ⟨SD_none h0 hx ?_, e2⟩
      rw [hp, h1]; exact e1
    · rw [h1] at k1 k2 k3
      have hc1 := cell_at h k1
      rcases k3 with ⟨m1, m2, hx⟩ | ⟨c2, hc2, m1, m2, ⟨m3, hx⟩ | ⟨m3, m4, q, m5, m6, hx⟩⟩ | ⟨c2, hs1, hs2, m1, m2, ⟨m3, hx⟩ | ⟨m3, m4, q, m5, m6, hx⟩⟩
      · rw [← h1] at hx
        rcases hch with rfl | rfl
        · exact (sd_N1_e_S0i g o _ c (at0 l) _ l w h hmax rfl hge k2 hc1 m1 rfl m2).mono fun e w' ⟨e1, e2⟩ => ⟨SD_bad h0 hx e1, e2⟩
        · exact (sd_N1_E_S0i g o _ c (at0 l) _ l w h hmax rfl hge k2 hc1 m1 rfl m2).mono fun e w' ⟨e1, e2⟩ => ⟨SD_bad h0 hx e1, e2⟩
      · rw [← h1] at hx
        rcases hch with rfl | rfl <;> rcases hc2 with rfl | rfl
        · exact (sd_N1_e_S1i g o _ c (at0 l) _ l w h hmax rfl hge k2 hc1 m2 (cell_at h m1) rfl m3).mono fun e w' ⟨e1, e2⟩ => ⟨SD_bad h0 hx e1, e2⟩
        · exact (sd_N1_e_S2i g o _ c (at0 l) _ l w h hmax rfl hge k2 hc1 m2 (cell_at h m1) rfl m3).mono fun e w' ⟨e1, e2⟩ => ⟨SD_bad h0 hx e1, e2⟩
        · exact (sd_N1_E_S1i g o _ c (at0 l) _ l w h hmax rfl hge k2 hc1 m2 (cell_at h m1) rfl m3).mono fun e w' ⟨e1, e2⟩ => ⟨SD_bad h0 hx e1, e2⟩
        · exact (sd_N1_E_S2i g o _ c (at0 l) _ l w h hmax rfl hge k2 hc1 m2 (cell_at h m1) rfl m3).mono fun e w' ⟨e1, e2⟩ => ⟨SD_bad h0 hx e1, e2⟩
      · rw [← h1] at hx
        have fin : ∀ e w', SplitOut l l.length (at0 l) (at0 l) (dEnd l (at0 l + 2)) false e w' ∧ Kept (fun _ => False) w w' → SD l e w' ∧ Kept (fun _ => False) w w' := fun e w' ⟨e1, e2⟩ => ⟨SD_some h0 m5 hx (by rw [hp, h1, m6]; exact e1), e2⟩
        rcases hch with rfl | rfl <;> rcases hc2 with rfl | rfl
        · exact (sd_N1_e_S1v g o _ c (at0 l) _ l w h hmax rfl hge k2 hc1 m2 (cell_at h m1) rfl m3 m4).mono fin
        · exact (sd_N1_e_S2v g o _ c (at0 l) _ l w h hmax rfl hge k2 hc1 m2 (cell_at h m1) rfl m3 m4).mono fin
        · exact (sd_N1_E_S1v g o _ c (at0 l) _ l w h hmax rfl hge k2 hc1 m2 (cell_at h m1) rfl m3 m4).mono fin
        · exact (sd_N1_E_S2v g o _ c (at0 l) _ l w h hmax rfl hge k2 hc1 m2 (cell_at h m1) rfl m3 m4).mono fin
      · rw [← h1] at hx
        rcases hch with rfl | rfl
        · exact (sd_N1_e_S3i g o _ c (at0 l) _ l w h hmax rfl hge k2 hc1 m2 c2 (cell_at h m1) hs1 hs2 rfl m3).mono fun e w' ⟨e1, e2⟩ => ⟨SD_bad h0 hx e1, e2⟩
        · exact (sd_N1_E_S3i g o _ c (at0 l) _ l w h hmax rfl hge k2 hc1 m2 c2 (cell_at h m1) hs1 hs2 rfl m3).mono fun e w' ⟨e1, e2⟩ => ⟨SD_bad h0 hx e1, e2⟩
      · rw [← h1] at hx
        have fin : ∀ e w', SplitOut l l.length (at0 l) (at0 l) (dEnd l (at0 l + 1)) false e w' ∧ Kept (fun _ => False) w w' → SD l e w' ∧ Kept (fun _ => False) w w' := fun e w' ⟨e1, e2⟩ => ⟨SD_some h0 m5 hx (by rw [hp, h1, m6]; exact e1), e2⟩
        rcases hch with rfl | rfl
        · exact (sd_N1_e_S3v g o _ c (at0 l) _ l w h hmax rfl hge k2 hc1 m2 c2 (cell_at h m1) hs1 hs2 rfl m3 m4).mono fin
        · exact (sd_N1_E_S3v g o _ c (at0 l) _ l w h hmax rfl hge k2 hc1 m2 c2 (cell_at h m1) hs1 hs2 rfl m3 m4).mono fin
  | true =>
    have h1 : dEnd l (at0 l + 1) = at1 l := (at1_pt hp).symm
    have hpl := hasPt_lt hp
    have hpc : w.cell? ⟨g, o + at0 l, none⟩ = some (.int .u8 46) := cell_at h (by simpa [hasPt] using hp)
    have h11 : at0 l + 1 ≤ at1 l := by rw [← h1]; exact dEnd_ge _ _
    rcases expo_ways l (at1 l) (at1_le l) with ⟨k1, hx⟩ | ⟨ch, k1, k2, k3, k4, hx⟩ | ⟨ch, hch, k1, k2, k3⟩
    · by_cases hce : c = at0 l + 1
      · refine (sd_PT_X0_c g o _ c (at0 l) (at1 l) l w h hmax rfl hge hpl hpc h1 h11 k1 hce).mono fun e w' ⟨e1, e2⟩ => ⟨SD_none h0 hx ?_, e2⟩
        rw [hp]; exact e1
      · refine (sd_PT_X0_d g o _ c (at0 l) (at1 l) l w h hmax rfl hge hpl hpc h1 h11 k1 hce).mono fun e w' ⟨e1, e2⟩ => ⟨SD_none h0 hx ?_, e2⟩
        rw [hp]; exact e1
    · refine (sd_PT_X1 g o _ c (at0 l) (at1 l) l w h hmax rfl hge hpl hpc h1 h11 k2 ch (cell_at h k1) k3 k4).mono fun e w' ⟨e1, e2⟩ => ⟨SD_none h0 hx ?_, e2⟩
      rw [hp]; exact e1
    · have hc1 := cell_at h k1
      rcases k3 with ⟨m1, m2, hx⟩ | ⟨c2, hc2, m1, m2, ⟨m3, hx⟩ | ⟨m3, m4, q, m5, m6, hx⟩⟩ | ⟨c2, hs1, hs2, m1, m2, ⟨m3, hx⟩ | ⟨m3, m4, q, m5, m6, hx⟩⟩
      · rcases hch with rfl | rfl
        · exact (sd_PT_e_S0i g o _ c (at0 l) (at1 l) _ l w h hmax rfl hge hpl hpc h1 h11 k2 hc1 m1 rfl m2).mono fun e w' ⟨e1, e2⟩ => ⟨SD_bad h0 hx e1, e2⟩
        · exact (sd_PT_E_S0i g o _ c (at0 l) (at1 l) _ l w h hmax rfl hge hpl hpc h1 h11 k2 hc1 m1 rfl m2).mono fun e w' ⟨e1, e2⟩ => ⟨SD_bad h0 hx e1, e2⟩
      · rcases hch with rfl | rfl <;> rcases hc2 with rfl | rfl
        · exact (sd_PT_e_S1i g o _ c (at0 l) (at1 l) _ l w h hmax rfl hge hpl hpc h1 h11 k2 hc1 m2 (cell_at h m1) rfl m3).mono fun e w' ⟨e1, e2⟩ => ⟨SD_bad h0 hx e1, e2⟩
        · exact (sd_PT_e_S2i g o _ c (at0 l) (at1 l) _ l w h hmax rfl hge hpl hpc h1 h11 k2 hc1 m2 (cell_at h m1) rfl m3).mono fun e w' ⟨e1, e2⟩ => ⟨SD_bad h0 hx e1, e2⟩
        · exact (sd_PT_E_S1i g o _ c (at0 l) (at1 l) _ l w h hmax rfl hge hpl hpc h1 h11 k2 hc1 m2 (cell_at h m1) rfl m3).mono fun e w' ⟨e1, e2⟩ => ⟨SD_bad h0 hx e1, e2⟩
        · exact (sd_PT_E_S2i g o _ c (at0 l) (at1 l) _ l w h hmax rfl hge hpl hpc h1 h11 k2 hc1 m2 (cell_at h m1) rfl m3).mono fun e w' ⟨e1, e2⟩ => ⟨SD_bad h0 hx e1, e2⟩
      · have fin : ∀ e w', SplitOut l l.length (at0 l) (at1 l) (dEnd l (at1 l + 2)) true e w' ∧ Kept (fun _ => False) w w' → SD l e w' ∧ Kept (fun _ => False) w w' := fun e w' ⟨e1, e2⟩ => ⟨SD_some h0 m5 hx (by rw [hp, m6]; exact e1), e2⟩
        rcases hch with rfl | rfl <;> rcases hc2 with rfl | rfl
        · exact (sd_PT_e_S1v g o _ c (at0 l) (at1 l) _ l w h hmax rfl hge hpl hpc h1 h11 k2 hc1 m2 (cell_at h m1) rfl m3 m4).mono fin
        · exact (sd_PT_e_S2v g o _ c (at0 l) (at1 l) _ l w h hmax rfl hge hpl hpc h1 h11 k2 hc1 m2 (cell_at h m1) rfl m3 m4).mono fin
        · exact (sd_PT_E_S1v g o _ c (at0 l) (at1 l) _ l w h hmax rfl hge hpl hpc h1 h11 k2 hc1 m2 (cell_at h m1) rfl m3 m4).mono fin
        · exact (sd_PT_E_S2v g o _ c (at0 l) (at1 l) _ l w h hmax rfl hge hpl hpc h1 h11 k2 hc1 m2 (cell_at h m1) rfl m3 m4).mono fin
      · rcases hch with rfl | rfl
        · exact (sd_PT_e_S3i g o _ c (at0 l) (at1 l) _ l w h hmax rfl hge hpl hpc h1 h11 k2 hc1 m2 c2 (cell_at h m1) hs1 hs2 rfl m3).mono fun e w' ⟨e1, e2⟩ => ⟨SD_bad h0 hx e1, e2⟩
        · exact (sd_PT_E_S3i g o _ c (at0 l) (at1 l) _ l w h hmax rfl hge hpl hpc h1 h11 k2 hc1 m2 c2 (cell_at h m1) hs1 hs2 rfl m3).mono fun e w' ⟨e1, e2⟩ => ⟨SD_bad h0 hx e1, e2⟩
      · have fin : ∀ e w', SplitOut l l.length (at0 l) (at1 l) (dEnd l (at1 l + 1)) true e w' ∧ Kept (fun _ => False) w w' → SD l e w' ∧ Kept (fun _ => False) w w' := fun e w' ⟨e1, e2⟩ => ⟨SD_some h0 m5 hx (by rw [hp, m6]; exact e1), e2⟩
        rcases hch with rfl | rfl
        · exact (sd_PT_e_S3v g o _ c (at0 l) (at1 l) _ l w h hmax rfl hge hpl hpc h1 h11 k2 hc1 m2 c2 (cell_at h m1) hs1 hs2 rfl m3 m4).mono fin
        · exact (sd_PT_E_S3v g o _ c (at0 l) (at1 l) _ l w h hmax rfl hge hpl hpc h1 h11 k2 hc1 m2 c2 (cell_at h m1) hs1 hs2 rfl m3 m4).mono fin
end Go.Proofs.Qxb6603725a
