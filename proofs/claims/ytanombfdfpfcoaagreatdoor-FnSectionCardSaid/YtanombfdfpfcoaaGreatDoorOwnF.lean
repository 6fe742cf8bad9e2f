/- Which sections the guards of FnSection let in, and its text in small letters; for every input. -/
import Derived.Test.YtanombfdfpfcoaaGreatDoorOwnD
import Derived.Test.YtanombfdfpfcoaaGreatDoorPFnSectionx2
import Derived.Test.YtanombfdfpfcoaaGreatDoorPFnSectionx6
import Derived.Test.YtanombfdfpfcoaaGreatDoorOwnA
import Derived.Laws.IdiomStrings
import Derived.Test.YtanombfdfpfcoaaGreatDoorOwnE
namespace Go.Proofs.YtanombfdfpfcoaaGreatDoor
set_option linter.unusedVariables false
set_option linter.unusedSimpArgs false
open Go.RowKit Go.Proofs.YtanombfdfpfcoaaGreatDoorW.PrintWords Go.Proofs.YtanombfdfpfcoaaGreatDoor.PFnSection

theorem wrap_nat (i : Nat) (h : i < 9223372036854775807) : wrap64 ((i : Int) + 1) = ((i + 1 : Nat) : Int) := by
  unfold wrap64
  omega
theorem bt_bs (l : List UInt8) (i : Nat) (h : i < l.length) : bt (bs l) (i : Int) = ((l.getD i 0).toNat : Int) := by
  have hs : ((i : Int)).toNat < (bs l).size := by rw [bs_size]; exact h
  rw [bt, dif_pos hs]
  have h2 : (bs l)[((i : Int)).toNat]'hs = l.getD i 0 := by
    show (bs l).data[i]'_ = _
    have h3 : (bs l).data.toList = l := bs_data l
    rw [← Array.getElem_toList]
    simp [h3, List.getD, h]
  rw [h2]

/-- zzFits2 and zzFits8 answer. -/
theorem fits2_l (l : List ByteArray) (hl : l.length < 9223372036854775808) : ∀ d i : Nat, i + d = l.length → ∃ b, Ev (fun k => laws_zzFits2.l0 k l (l.length : Int) (i : Int)) b
  | 0, i, h => ⟨true, .step (f := fun _ => some true) (fun k => by simp only [laws_zzFits2.l0]; rw [if_neg (by omega)]) (.now true)⟩
  | d + 1, i, h => by
    by_cases hc : ((rdOf ByteArray.empty l (i : Int)).size : Int) > 2147483647
    · exact ⟨false, .step (f := fun _ => some false) (fun k => by simp only [laws_zzFits2.l0]; rw [if_pos (by omega), if_pos (by omega), if_pos (by omega), if_pos hc]) (.now false)⟩
    · obtain ⟨b, hb⟩ := fits2_l l hl d (i + 1) (by omega)
      exact ⟨b, .step (f := fun k => laws_zzFits2.l0 k l (l.length : Int) ((i + 1 : Nat) : Int)) (fun k => by simp only [laws_zzFits2.l0]; rw [if_pos (by omega), if_pos (by omega), if_pos (by omega), if_neg hc, wrap_nat i (by omega)]) hb⟩
theorem fits2 (l : List ByteArray) (hl : l.length < 9223372036854775808) : ∃ b, Ev (fun k => laws_zzFits2.f k l) b := by
  by_cases h : (l.length : Int) > 2147483647
  · exact ⟨false, .congr (f := fun _ => some false) (fun k => by rw [laws_zzFits2.f, if_pos h]) (.now false)⟩
  · obtain ⟨b, hb⟩ := fits2_l l hl l.length 0 (by omega)
    exact ⟨b, .congr (f := fun k => laws_zzFits2.l0 k l (l.length : Int) ((0 : Nat) : Int)) (fun k => by rw [laws_zzFits2.f, if_neg h]; rfl) hb⟩
theorem fits8 (l0 : List Int) (a1 : ByteArray) (l2 : List ByteArray) (a3 a4 : Bool) (l5 : List Int) (hl : l2.length < 9223372036854775808) : ∃ b k, laws_zzFits8.f k l0 a1 l2 a3 a4 l5 = some b := by
  obtain ⟨b, hb⟩ := fits2 l2 hl
  obtain ⟨k, hk⟩ := hb.rounds
  unfold laws_zzFits8.f
  split
  · exact ⟨false, 0, rfl⟩
  · split
    · exact ⟨false, 0, rfl⟩
    · cases b with
      | false => exact ⟨false, k, by rw [hk]; rfl⟩
      | true =>
        by_cases h : (l5.length : Int) > 2147483647
        · exact ⟨false, k, by rw [hk]; simp only [Option.bind_some]; rw [if_pos trivial, if_pos h]⟩
        · exact ⟨true, k, by rw [hk]; simp only [Option.bind_some]; rw [if_pos trivial, if_neg h]⟩

/-- Atom9 answers, and what it answers. -/
theorem atom_j (k : Nat) (x0 : ByteArray) (x4 x6 x7 : Int) (x13 : Bool) :
    spec_Atom9.j1 (k + 1) x0 x4 x6 x7 x13 = if x13 = true ∨ x4 = 40 ∨ x4 = 41 ∨ x4 = 123 ∨ x4 = 37 ∨ x4 = 42 ∨ x4 = 34 ∨ x4 = 92 ∨ x4 = 93 ∨ x4 = 91 then some false else spec_Atom9.l0 k x0 x6 (wrap64 (x7 + 1)) := by
  simp only [spec_Atom9.j1]
  by_cases h : x13 = true ∨ x4 = 40 ∨ x4 = 41 ∨ x4 = 123 ∨ x4 = 37 ∨ x4 = 42 ∨ x4 = 34 ∨ x4 = 92 ∨ x4 = 93 ∨ x4 = 91
  · rw [if_pos h]
    repeat' split
    all_goals first | rfl | (exfalso; rcases h with h | h | h | h | h | h | h | h | h | h <;> contradiction)
  · rw [if_neg h]
    simp only [not_or] at h
    obtain ⟨h0, h1, h2, h3, h4, h5, h6, h7, h8, h9⟩ := h
    rw [if_neg h0, if_neg h1, if_neg h2, if_neg h3, if_neg h4, if_neg h5, if_neg h6, if_neg h7, if_neg h8, if_neg h9]
theorem atom_l (l : List UInt8) (hl : l.length < 9223372036854775808) : ∀ d i : Nat, i + d = l.length →
    ∃ b, Ev (fun k => spec_Atom9.l0 k (bs l) ((bs l).size : Int) (i : Int)) b ∧ (b = true → (∀ j, i ≤ j → j < l.length → AtomCh (l.getD j 0).toNat) ∧ l ≠ [] ∧ l ≠ [78, 73, 76] ∧ l.length ≤ 40)
  | 0, i, h => by
    have hs : ((bs l).size : Int) = (l.length : Int) := by rw [bs_size]
    by_cases h1 : l = []
    · exact ⟨false, .step (f := fun _ => some false) (fun k => by simp only [spec_Atom9.l0]; rw [if_neg (by omega), if_pos (by rw [bs_toList]; exact h1)]) (.now false), fun h => by cases h⟩
    · by_cases h2 : l = [78, 73, 76]
      · exact ⟨false, .step (f := fun _ => some false) (fun k => by simp only [spec_Atom9.l0]; rw [if_neg (by omega), if_neg (by rw [bs_toList]; exact h1), if_pos (by rw [bs_toList]; exact h2)]) (.now false), fun h => by cases h⟩
      · refine ⟨decide (((bs l).size : Int) ≤ 40), .step (f := fun _ => some (decide (((bs l).size : Int) ≤ 40))) (fun k => by simp only [spec_Atom9.l0]; rw [if_neg (by omega), if_neg (by rw [bs_toList]; exact h1), if_neg (by rw [bs_toList]; exact h2)]) (.now _), fun h => ⟨fun j a b => by omega, h1, h2, ?_⟩⟩
        have := of_decide_eq_true h
        omega
  | d + 1, i, h => by
    have hs : ((bs l).size : Int) = (l.length : Int) := by rw [bs_size]
    have hb := bt_bs l i (by omega)
    obtain ⟨c, hc⟩ : ∃ c, c = (l.getD i 0).toNat := ⟨_, rfl⟩
    rw [← hc] at hb
    obtain ⟨x, hx⟩ : ∃ x : Bool, ∀ k, spec_Atom9.l0 (k + 1) (bs l) ((bs l).size : Int) (i : Int) = spec_Atom9.j1 k (bs l) (c : Int) ((bs l).size : Int) (i : Int) x ∧ (x = false → 32 < c ∧ c ≤ 126) := by
      by_cases h3 : (c : Int) ≤ 32
      · exact ⟨true, fun k => ⟨by simp only [spec_Atom9.l0]; rw [hb, if_pos (by omega), if_pos (by omega), if_pos (by omega), if_pos h3], fun h => by cases h⟩⟩
      · exact ⟨decide ((c : Int) > 126), fun k => ⟨by simp only [spec_Atom9.l0]; rw [hb, if_pos (by omega), if_pos (by omega), if_pos (by omega), if_neg h3], fun h => by have := of_decide_eq_false h; omega⟩⟩
    by_cases hbad : x = true ∨ (c : Int) = 40 ∨ (c : Int) = 41 ∨ (c : Int) = 123 ∨ (c : Int) = 37 ∨ (c : Int) = 42 ∨ (c : Int) = 34 ∨ (c : Int) = 92 ∨ (c : Int) = 93 ∨ (c : Int) = 91
    · exact ⟨false, .step (fun k => (hx k).1) (.step (f := fun _ => some false) (fun k => by rw [atom_j, if_pos hbad]) (.now false)), fun h => by cases h⟩
    · obtain ⟨b, hb2, hb3⟩ := atom_l l hl d (i + 1) (by omega)
      refine ⟨b, .step (fun k => (hx k).1) (.step (f := fun k => spec_Atom9.l0 k (bs l) ((bs l).size : Int) ((i + 1 : Nat) : Int)) (fun k => by rw [atom_j, if_neg hbad, wrap_nat i (by omega)]) hb2), fun h => ⟨fun j a b => ?_, (hb3 h).2⟩⟩
      by_cases hj : j = i
      · subst hj
        rw [← hc]
        simp only [not_or, Bool.not_eq_true] at hbad
        have := (hx 0).2 hbad.1
        unfold AtomCh
        omega
      · exact (hb3 h).1 j (by omega) b
theorem atom9 (l : List UInt8) (hl : l.length < 9223372036854775808) : ∃ b, Ev (fun k => spec_Atom9.f k (bs l)) b ∧ (b = true → AtomOk l ∧ l.length ≤ 40) := by
  obtain ⟨b, h1, h2⟩ := atom_l l hl l.length 0 (by omega)
  refine ⟨b, .congr (f := fun k => spec_Atom9.l0 k (bs l) ((bs l).size : Int) ((0 : Nat) : Int)) (fun k => rfl) h1, fun h => ?_⟩
  obtain ⟨a1, a2, a3, a4⟩ := h2 h
  exact ⟨⟨by cases l with | nil => exact absurd rfl a2 | cons x y => simp, by omega, fun j hj => a1 j (Nat.zero_le _) hj, a3⟩, a4⟩

/-- What stands in SectionRight's middle. -/
def secBad (path : Nat) (part : List UInt8) (nf : Nat) (nt : Bool) : Bool :=
  (part != [] && part != cHEADER && part != cTEXT && (part != cMIME || decide ((path : Int) = 0))) || decide ((path : Int) > 6) || decide ((nf : Int) > 8) || (decide ((nf : Int) > 0) && part != cHEADER) || (nt && ((nf : Int) == 0))
def PartialOk (l5 : List Int) : Prop := (∀ x ∈ l5, 0 ≤ x ∧ x ≤ 1000000) ∧ (l5.length = 0 ∨ l5.length = 2)

section
variable (l0 : List Int) (part : List UInt8) (fs : List (List UInt8)) (a3 a4 : Bool) (l5 : List Int)
theorem right_l2 (hl : l5.length < 9223372036854775808) : ∀ d i : Nat, i + d = l5.length → (∀ j, j < i → 0 ≤ l5.getD j 0 ∧ l5.getD j 0 ≤ 1000000) →
    ∃ b, Ev (fun k => spec_SectionRight.l2 k (l5.length : Int) (i : Int) l0 (bs part) (fs.map bs) a3 a4 l5) b ∧ (b = true → PartialOk l5)
  | 0, i, h, hp => by
    have all : ∀ x ∈ l5, 0 ≤ x ∧ x ≤ 1000000 := fun x hx => by
      obtain ⟨j, hj, rfl⟩ := List.getElem_of_mem hx
      have := hp j (by omega)
      simpa [List.getD, hj] using this
    by_cases h0 : (l5.length : Int) = 0
    · exact ⟨true, .step (f := fun _ => some true) (fun k => by simp only [spec_SectionRight.l2]; rw [if_neg (by omega), if_pos h0]) (.now true), fun _ => ⟨all, .inl (by omega)⟩⟩
    · exact ⟨(l5.length : Int) == 2, .step (f := fun _ => some ((l5.length : Int) == 2)) (fun k => by simp only [spec_SectionRight.l2]; rw [if_neg (by omega), if_neg h0]) (.now _), fun h => ⟨all, .inr (by have := eq_of_beq h; omega)⟩⟩
  | d + 1, i, h, hp => by
    have hr : rd l5 (i : Int) = l5.getD i 0 := rfl
    by_cases h1 : l5.getD i 0 < 0
    · exact ⟨false, .step (f := fun _ => some false) (fun k => by simp only [spec_SectionRight.l2]; rw [hr, if_pos (by omega), if_pos (by omega), if_pos (by omega), if_pos h1]) (.now false), fun h => by cases h⟩
    · by_cases h2 : l5.getD i 0 > 1000000
      · exact ⟨false, .step (f := fun _ => some false) (fun k => by simp only [spec_SectionRight.l2]; rw [hr, if_pos (by omega), if_pos (by omega), if_pos (by omega), if_neg h1, if_pos h2]) (.now false), fun h => by cases h⟩
      · obtain ⟨b, hb, hb2⟩ := right_l2 hl d (i + 1) (by omega) (fun j hj => by
          by_cases e : j = i
          · subst e; omega
          · exact hp j (by omega))
        exact ⟨b, .step (f := fun k => spec_SectionRight.l2 k (l5.length : Int) ((i + 1 : Nat) : Int) l0 (bs part) (fs.map bs) a3 a4 l5) (fun k => by simp only [spec_SectionRight.l2]; rw [hr, if_pos (by omega), if_pos (by omega), if_pos (by omega), if_neg h1, if_neg h2, wrap_nat i (by omega)]) hb, hb2⟩
theorem right_j2 (hl : l5.length < 9223372036854775808) (x : Bool) : ∃ b, Ev (fun k => spec_SectionRight.j2 k x l0 (bs part) (fs.map bs) a3 a4 l5) b ∧ (b = true → x = false ∧ PartialOk l5) := by
  cases x with
  | true => exact ⟨false, .step (f := fun _ => some false) (fun k => by simp only [spec_SectionRight.j2]; rw [if_pos trivial]) (.now false), fun h => by cases h⟩
  | false =>
    obtain ⟨b, hb, hb2⟩ := right_l2 l0 part fs a3 a4 l5 hl l5.length 0 (by omega) (fun j hj => by omega)
    exact ⟨b, .step (f := fun k => spec_SectionRight.l2 k (l5.length : Int) ((0 : Nat) : Int) l0 (bs part) (fs.map bs) a3 a4 l5) (fun k => by simp only [spec_SectionRight.j2]; rw [if_neg (by simp)]; rfl) hb, fun h => ⟨rfl, hb2 h⟩⟩
set_option maxHeartbeats 2000000 in
theorem right_mid (k : Nat) (x29 x30 : Int) (hx : ¬ x30 < x29) :
    spec_SectionRight.l1 (k + 1) x29 x30 l0 (bs part) (fs.map bs) a3 a4 l5 = spec_SectionRight.j2 k (secBad l0.length part fs.length a3) l0 (bs part) (fs.map bs) a3 a4 l5 := by
  have key : ∀ v, v = secBad l0.length part fs.length a3 → spec_SectionRight.j2 k v l0 (bs part) (fs.map bs) a3 a4 l5 = spec_SectionRight.j2 k (secBad l0.length part fs.length a3) l0 (bs part) (fs.map bs) a3 a4 l5 := by
    rintro _ rfl
    rfl
  simp only [spec_SectionRight.l1]
  rw [if_neg hx]
  simp only [bs_toList, List.length_map]
  repeat' split
  all_goals
    apply key
    simp_all [secBad, cHEADER, cTEXT, cMIME]
    try (intro h; omega)
theorem right_l1 (hf : ∀ f ∈ fs, f.length < 9223372036854775808) (hl2 : fs.length < 9223372036854775808) (hl : l5.length < 9223372036854775808) : ∀ d i : Nat, i + d = fs.length → (∀ j, j < i → AtomOk (fs.getD j []) ∧ (fs.getD j []).length ≤ 40) →
    ∃ b, Ev (fun k => spec_SectionRight.l1 k (fs.length : Int) (i : Int) l0 (bs part) (fs.map bs) a3 a4 l5) b ∧ (b = true → (∀ f ∈ fs, AtomOk f ∧ f.length ≤ 40) ∧ secBad l0.length part fs.length a3 = false ∧ PartialOk l5)
  | 0, i, h, hp => by
    have all : ∀ f ∈ fs, AtomOk f ∧ f.length ≤ 40 := fun x hx => by
      obtain ⟨j, hj, rfl⟩ := List.getElem_of_mem hx
      have := hp j (by omega)
      simpa [List.getD, hj] using this
    obtain ⟨b, hb, hb2⟩ := right_j2 l0 part fs a3 a4 l5 hl (secBad l0.length part fs.length a3)
    exact ⟨b, .step (fun k => right_mid l0 part fs a3 a4 l5 k _ _ (by omega)) hb, fun h => ⟨all, hb2 h⟩⟩
  | d + 1, i, h, hp => by
    have hi : i < fs.length := by omega
    have hr : rdOf ByteArray.empty (fs.map bs) (i : Int) = bs (fs.getD i []) := by
      show (fs.map bs).getD i ByteArray.empty = _
      simp [List.getD, hi]
    have hmem : fs.getD i [] ∈ fs := by simp [List.getD, hi]
    obtain ⟨b, hb, hb2⟩ := atom9 (fs.getD i []) (hf _ hmem)
    have hlm : ((fs.map bs).length : Int) = (fs.length : Int) := by rw [List.length_map]
    have st : ∀ k, spec_SectionRight.l1 (k + 1) (fs.length : Int) (i : Int) l0 (bs part) (fs.map bs) a3 a4 l5 = (spec_Atom9.f k (bs (fs.getD i []))).bind fun t => if t = true then spec_SectionRight.l1 k (fs.length : Int) ((i + 1 : Nat) : Int) l0 (bs part) (fs.map bs) a3 a4 l5 else some false := fun k => by
      simp only [spec_SectionRight.l1]
      rw [if_pos (by omega), if_pos (by omega), if_pos (by omega), hr, wrap_nat i (by omega)]
    cases b with
    | false => exact ⟨false, .step st (.bind hb (.congr (f := fun _ => some false) (fun k => by rw [if_neg (by simp)]) (.now false))), fun h => by cases h⟩
    | true =>
      obtain ⟨b, hb3, hb4⟩ := right_l1 hf hl2 hl d (i + 1) (by omega) (fun j hj => by
        by_cases e : j = i
        · subst e; exact hb2 rfl
        · exact hp j (by omega))
      exact ⟨b, .step st (.bind hb (.congr (fun k => by rw [if_pos rfl]) hb3)), hb4⟩
theorem right_l0 (hf : ∀ f ∈ fs, f.length < 9223372036854775808) (hl0 : l0.length < 9223372036854775808) (hl2 : fs.length < 9223372036854775808) (hl : l5.length < 9223372036854775808) : ∀ d i : Nat, i + d = l0.length → (∀ j, j < i → 1 ≤ l0.getD j 0 ∧ l0.getD j 0 ≤ 999) →
    ∃ b, Ev (fun k => spec_SectionRight.l0 k (l0.length : Int) (i : Int) l0 (bs part) (fs.map bs) a3 a4 l5) b ∧ (b = true → (∀ x ∈ l0, 1 ≤ x ∧ x ≤ 999) ∧ (∀ f ∈ fs, AtomOk f ∧ f.length ≤ 40) ∧ secBad l0.length part fs.length a3 = false ∧ PartialOk l5)
  | 0, i, h, hp => by
    have all : ∀ x ∈ l0, 1 ≤ x ∧ x ≤ 999 := fun x hx => by
      obtain ⟨j, hj, rfl⟩ := List.getElem_of_mem hx
      have := hp j (by omega)
      simpa [List.getD, hj] using this
    obtain ⟨b, hb, hb2⟩ := right_l1 l0 part fs a3 a4 l5 hf hl2 hl fs.length 0 (by omega) (fun j hj => by omega)
    exact ⟨b, .step (f := fun k => spec_SectionRight.l1 k (fs.length : Int) ((0 : Nat) : Int) l0 (bs part) (fs.map bs) a3 a4 l5) (fun k => by simp only [spec_SectionRight.l0]; rw [if_neg (by omega), List.length_map]; rfl) hb, fun h => ⟨all, hb2 h⟩⟩
  | d + 1, i, h, hp => by
    have hr : rd l0 (i : Int) = l0.getD i 0 := rfl
    by_cases h1 : l0.getD i 0 < 1
    · exact ⟨false, .step (f := fun _ => some false) (fun k => by simp only [spec_SectionRight.l0]; rw [hr, if_pos (by omega), if_pos (by omega), if_pos (by omega), if_pos h1]) (.now false), fun h => by cases h⟩
    · by_cases h2 : l0.getD i 0 > 999
      · exact ⟨false, .step (f := fun _ => some false) (fun k => by simp only [spec_SectionRight.l0]; rw [hr, if_pos (by omega), if_pos (by omega), if_pos (by omega), if_neg h1, if_pos h2]) (.now false), fun h => by cases h⟩
      · obtain ⟨b, hb, hb2⟩ := right_l0 hf hl0 hl2 hl d (i + 1) (by omega) (fun j hj => by
          by_cases e : j = i
          · subst e; omega
          · exact hp j (by omega))
        exact ⟨b, .step (f := fun k => spec_SectionRight.l0 k (l0.length : Int) ((i + 1 : Nat) : Int) l0 (bs part) (fs.map bs) a3 a4 l5) (fun k => by simp only [spec_SectionRight.l0]; rw [hr, if_pos (by omega), if_pos (by omega), if_pos (by omega), if_neg h1, if_neg h2, wrap_nat i (by omega)]) hb, hb2⟩
theorem right9 (hf : ∀ f ∈ fs, f.length < 9223372036854775808) (hl0 : l0.length < 9223372036854775808) (hl2 : fs.length < 9223372036854775808) (hl : l5.length < 9223372036854775808) :
    ∃ b k, spec_SectionRight.f k l0 (bs part) (fs.map bs) a3 a4 l5 = some b ∧ (b = true → (∀ x ∈ l0, 1 ≤ x ∧ x ≤ 999) ∧ (∀ f ∈ fs, AtomOk f ∧ f.length ≤ 40) ∧ secBad l0.length part fs.length a3 = false ∧ PartialOk l5) := by
  obtain ⟨b, hb, hb2⟩ := right_l0 l0 part fs a3 a4 l5 hf hl0 hl2 hl l0.length 0 (by omega) (fun j hj => by omega)
  obtain ⟨k, hk⟩ := hb.rounds
  exact ⟨b, k, hk, hb2⟩
end

/-- A right section as Go's function says is right in plain words. -/
theorem right_of (l0 : List Int) (part : List UInt8) (fs : List (List UInt8)) (nt : Bool) (l5 : List Int)
    (h : (∀ x ∈ l0, 1 ≤ x ∧ x ≤ 999) ∧ (∀ f ∈ fs, AtomOk f ∧ f.length ≤ 40) ∧ secBad l0.length part fs.length nt = false ∧ PartialOk l5) :
    ∃ (path : List Nat) (o : Option (Nat × Nat)), l0 = path.map (fun n : Nat => (n : Int)) ∧ l5 = (partI o).map (fun n : Nat => (n : Int)) ∧ Right path part fs nt o ∧ (part = cMIME → path ≠ []) := by
  obtain ⟨h1, h2, h3, h4, h5⟩ := h
  have e0 : l0 = (l0.map Int.toNat).map (fun n : Nat => (n : Int)) := by
    rw [List.map_map]
    conv => lhs; rw [← List.map_id l0]
    refine List.map_congr_left fun x hx => ?_
    have := h1 x hx
    show x = ((x.toNat : Nat) : Int)
    omega
  obtain ⟨o, e5, ho⟩ : ∃ o, l5 = (partI o).map (fun n : Nat => (n : Int)) ∧ ∀ a b, o = some (a, b) → a < 10000000 ∧ b < 10000000 := by
    match l5, h4, h5 with
    | [], _, _ => exact ⟨none, rfl, fun a b h => by cases h⟩
    | [x, y], h4, _ =>
      have hx := h4 x (by simp)
      have hy := h4 y (by simp)
      refine ⟨some (x.toNat, y.toNat), ?_, ?_⟩
      · show [x, y] = [((x.toNat : Nat) : Int), ((y.toNat : Nat) : Int)]
        rw [Int.toNat_of_nonneg hx.1, Int.toNat_of_nonneg hy.1]
      · intro a b h
        cases h
        omega
    | [x], _, h => rcases h with h | h <;> simp at h
    | x :: y :: z :: r, _, h => rcases h with h | h <;> simp at h
  unfold secBad at h3
  simp only [Bool.or_eq_false_iff, Bool.and_eq_false_iff, bne_eq_false_iff_eq, decide_eq_false_iff_not, gt_iff_lt, beq_eq_false_iff_ne] at h3
  obtain ⟨⟨⟨⟨q1, q2⟩, q3⟩, q4⟩, q5⟩ := h3
  refine ⟨l0.map Int.toNat, o, e0, e5, ⟨by rw [List.length_map]; omega, ?_, by omega, fun f hf => (h2 f hf).1, fun f hf => (h2 f hf).2, ?_, ?_, ?_, ho⟩, ?_⟩
  · intro p hp
    obtain ⟨x, hx, rfl⟩ := List.mem_map.1 hp
    have := h1 x hx
    omega
  · rcases q1 with ((q | q) | q) | ⟨q, _⟩
    · exact .inl q
    · exact .inr (.inl q)
    · exact .inr (.inr (.inr q))
    · exact .inr (.inr (.inl q))
  · intro hne
    rcases q4 with q | q
    · exfalso
      cases fs with
      | nil => exact hne rfl
      | cons x y => simp at q
    · exact q
  · intro hn hne
    rcases q5 with q | q
    · rw [hn] at q; cases q
    · subst hne
      simp at q
  · intro hm hp
    subst hm
    rcases q1 with ((q | q) | q) | ⟨_, q⟩
    · cases q
    · cases q
    · cases q
    · have : l0.length = 0 := by have := congrArg List.length hp; simpa using this
      omega
end Go.Proofs.YtanombfdfpfcoaaGreatDoor

namespace Go.Proofs.YtanombfdfpfcoaaGreatDoor
set_option linter.unusedVariables false
set_option linter.unusedSimpArgs false
open Go.RowKit Go.Proofs.YtanombfdfpfcoaaGreatDoorW.PrintWords Go.Proofs.YtanombfdfpfcoaaGreatDoor.PFnSection

section
variable (l0 : List Int) (part : ByteArray) (fs : List ByteArray) (a3 a4 : Bool) (l5 : List Int)
theorem same_l2 (hl : l5.length < 9223372036854775808) : ∀ d i : Nat, i + d = l5.length → Ev (fun k => laws_sameSection9.l2 k (l5.length : Int) (i : Int) l0 part fs a3 a4 l5 l0 part fs a3 a4 l5) true
  | 0, i, h => .step (f := fun _ => some true) (fun k => by simp only [laws_sameSection9.l2]; rw [if_neg (by omega)]) (.now true)
  | d + 1, i, h => .step (f := fun k => laws_sameSection9.l2 k (l5.length : Int) ((i + 1 : Nat) : Int) l0 part fs a3 a4 l5 l0 part fs a3 a4 l5) (fun k => by simp only [laws_sameSection9.l2]; rw [if_pos (by omega), if_pos (by omega), if_pos (by omega), if_pos (by omega), if_pos trivial, wrap_nat i (by omega)]) (same_l2 hl d (i + 1) (by omega))
theorem same_l1 (hl2 : fs.length < 9223372036854775808) (hl : l5.length < 9223372036854775808) : ∀ d i : Nat, i + d = fs.length → Ev (fun k => laws_sameSection9.l1 k (fs.length : Int) (i : Int) l0 part fs a3 a4 l5 l0 part fs a3 a4 l5) true
  | 0, i, h => .step (f := fun k => laws_sameSection9.l2 k (l5.length : Int) ((0 : Nat) : Int) l0 part fs a3 a4 l5 l0 part fs a3 a4 l5) (fun k => by simp only [laws_sameSection9.l1]; rw [if_neg (by omega)]; rfl) (same_l2 l0 part fs a3 a4 l5 hl l5.length 0 (by omega))
  | d + 1, i, h => .step (f := fun k => laws_sameSection9.l1 k (fs.length : Int) ((i + 1 : Nat) : Int) l0 part fs a3 a4 l5 l0 part fs a3 a4 l5) (fun k => by simp only [laws_sameSection9.l1]; rw [if_pos (by omega), if_pos (by omega), if_pos (by omega), if_pos (by omega), if_pos trivial, wrap_nat i (by omega)]) (same_l1 hl2 hl d (i + 1) (by omega))
theorem same_l0 (hl0 : l0.length < 9223372036854775808) (hl2 : fs.length < 9223372036854775808) (hl : l5.length < 9223372036854775808) : ∀ d i : Nat, i + d = l0.length → Ev (fun k => laws_sameSection9.l0 k (l0.length : Int) (i : Int) l0 part fs a3 a4 l5 l0 part fs a3 a4 l5) true
  | 0, i, h => .step (f := fun k => laws_sameSection9.l1 k (fs.length : Int) ((0 : Nat) : Int) l0 part fs a3 a4 l5 l0 part fs a3 a4 l5) (fun k => by simp only [laws_sameSection9.l0]; rw [if_neg (by omega)]; rfl) (same_l1 l0 part fs a3 a4 l5 hl2 hl fs.length 0 (by omega))
  | d + 1, i, h => .step (f := fun k => laws_sameSection9.l0 k (l0.length : Int) ((i + 1 : Nat) : Int) l0 part fs a3 a4 l5 l0 part fs a3 a4 l5) (fun k => by simp only [laws_sameSection9.l0]; rw [if_pos (by omega), if_pos (by omega), if_pos (by omega), if_pos (by omega), if_pos trivial, wrap_nat i (by omega)]) (same_l0 hl0 hl2 hl d (i + 1) (by omega))
theorem same9 (hl0 : l0.length < 9223372036854775808) (hl2 : fs.length < 9223372036854775808) (hl : l5.length < 9223372036854775808) : ∃ k, laws_sameSection9.f k l0 part fs a3 a4 l5 l0 part fs a3 a4 l5 = some true := by
  have h := same_l0 l0 part fs a3 a4 l5 hl0 hl2 hl l0.length 0 (by omega)
  have hj : Ev (fun k => laws_sameSection9.j0 k false l0 part fs a3 a4 l5 l0 part fs a3 a4 l5) true := .step (f := fun k => laws_sameSection9.l0 k (l0.length : Int) ((0 : Nat) : Int) l0 part fs a3 a4 l5 l0 part fs a3 a4 l5) (fun k => by simp only [laws_sameSection9.j0]; rw [if_neg (by simp)]; rfl) h
  obtain ⟨k, hk⟩ := hj.rounds
  refine ⟨k, ?_⟩
  have h5 : ((l5.length : Int) != (l5.length : Int)) = false := by simp
  rw [laws_sameSection9.f, if_pos rfl, if_neg (by simp), if_neg (by simp), if_pos rfl, if_pos rfl, h5]
  exact hk
end
end Go.Proofs.YtanombfdfpfcoaaGreatDoor

namespace Go.Proofs.YtanombfdfpfcoaaGreatDoor
set_option linter.unusedVariables false
set_option linter.unusedSimpArgs false
open Go.RowKit

/-- Bytes as cells. -/
def bc (l : List UInt8) : List Value := l.map fun c => .int .u8 (c.toNat : Int)
/-- A block that holds bytes. -/
def ByB (w : World) (g : Nat) (l : List UInt8) (zs : List Value) : Prop := ∃ fr : Nat, l.length ≤ fr ∧ w.heap[g]? = some (.cells (bc l ++ zs).toArray 5 (fr, fr + 1))
theorem ByB.cell {w : World} {g : Nat} {l : List UInt8} {zs : List Value} (h : ByB w g l zs) (i : Nat) (hi : i < l.length) : w.cell? ⟨g, i, none⟩ = some (.int .u8 ((l.getD i 0).toNat : Int)) := by
  obtain ⟨fr, _, h⟩ := h
  simp [World.cell?, h, bc, List.getElem?_append, hi, List.getD]
theorem ByB.free {w : World} {g : Nat} {l : List UInt8} {zs : List Value} (h : ByB w g l zs) (i : Nat) (hi : i < l.length) : w.frozen? ⟨g, i, none⟩ = false := by
  obtain ⟨fr, hf, h⟩ := h
  simp [World.frozen?, h]
  omega
theorem ByB.set {w : World} {g : Nat} {l : List UInt8} {zs : List Value} (h : ByB w g l zs) (i : Nat) (hi : i < l.length) (c : UInt8) : ByB (w.setCell ⟨g, i, none⟩ (.int .u8 (c.toNat : Int))) g (l.set i c) zs := by
  obtain ⟨fr, hf, h⟩ := h
  refine ⟨fr, by simpa using hf, ?_⟩
  simp only [World.setCell, Array.getElem?_modify, if_true, h, Option.map_some]
  have : (bc l ++ zs).toArray.setIfInBounds i (.int .u8 (c.toNat : Int)) = (bc (l.set i c) ++ zs).toArray := by
    simp [bc, List.set_append, hi, List.map_set]
  exact congrArg (fun x => some (Obj.cells x 5 (fr, fr + 1))) this
/-- Small letters between brackets, as the loop makes them. -/
def smallGo : Bool → List UInt8 → List UInt8
  | _, [] => []
  | q, c :: r => (if (if c = 91 then true else if c = 93 then false else q) = true ∧ 65 ≤ c.toNat ∧ c.toNat ≤ 90 then c + 32 else c) :: smallGo (if c = 91 then true else if c = 93 then false else q) r
theorem smallGo_len (q : Bool) (l : List UInt8) : (smallGo q l).length = l.length := by
  induction l generalizing q with
  | nil => rfl
  | cons c r ih => simp [smallGo, ih]

section
variable {P : Program} {ops : Array Oper} {Q : Exit → Act → World → Prop} {rest : List Oper} {o : Oper} {a : Act} {w : World}
/-- 'string(b)'. -/
theorem wp_str (x : Operand) (src dst e : TypeId) (l : List UInt8) (g n cap : Nat) (hg : o.guard = none) (ho : o.op = .convert src dst x) (hx : a.eval x = .slice (some ⟨g, 0, none⟩) n cap) (hn : n = l.length)
    (hc : ∀ j, j < l.length → w.cell? ⟨g, j, none⟩ = some (.int .u8 ((l.getD j 0).toNat : Int))) (hs : P.underlying src = some (.slice e)) (he : P.underlying e = some (.int .u8)) (hd : P.underlying dst = some .string)
    (h : wpList P ops Q rest (a.put o.dst (.string (bs l))) w) : wpList P ops Q (o :: rest) a w := by
  subst hn
  refine wpList_plain hg fun K hK => ?_
  unfold Oper.wp
  have he : (execOp a.eval o).run P w = .ok (.value (.string (bs l))) w := by
    unfold execOp
    rw [ho]
    simp only [hx, Sem.run_bind]
    rw [run_convert_bytes_back w src dst e ⟨g, 0, none⟩ cap l hs he hd (fun j hj => by
      have := hc j hj
      simp only [List.getD, List.getElem?_eq_getElem hj, Option.getD_some] at this
      rw [show (Addr.add ⟨g, 0, none⟩ j) = ⟨g, j, none⟩ from by simp only [Addr.add]; split <;> simp_all]
      exact this)]
    simp only [Result.andThen_ok, Sem.run_pure, bs_def]
  rw [he]
  exact hK _ _ h
end

set_option maxRecDepth 100000 in
set_option maxHeartbeats 2000000 in
theorem t_smaller (w : World) (s : List UInt8) (hs : s.length < 100000) :
    Calls Tryz.prog 8 #[.string (bs s)] w fun e w' => e = .returned (.string (bs (smallGo false s))) ∧ Keep (fun _ => False) w w' := by
  have hsz : ∀ l, (bs l).size = l.length := bs_size
  have hw := keep_bytesWorld (fun _ => False) w 5 (bs s)
  have hn : ByB (Lib.bytesWorld w 5 (bs s)) w.heap.size s (List.replicate (grownCap w (bs s).size 0 5 - (bs s).size) (Value.int .u8 0)) := by
    refine ⟨(Lib.bytesCells w 5 (bs s)).size, by simp [Lib.bytesCells, bs_size], ?_⟩
    rw [Lib.bytesWorld_at_new]
    have e : Lib.bytesCells w 5 (bs s) = (bc s ++ List.replicate (grownCap w (bs s).size 0 5 - (bs s).size) (Value.int .u8 0)).toArray := by
      apply Array.ext'
      simp [Lib.bytesCells, bc, bs_data]
    conv => lhs; rw [e]
    rw [e]
  have HW := Lib.hid hw
  have HN := Lib.hid hn
  clear hw hn
  obtain ⟨zs, hzs⟩ : ∃ zs, zs = (List.replicate (grownCap w (bs s).size 0 5 - (bs s).size) (Value.int .u8 0) : List Value) := ⟨_, rfl⟩
  rw [← hzs] at HN
  clear hzs
  go_enter Tryz.func8, Tryz.ntmps8
  go_wp2_with (with_reducible refine at_conv ?_; refine wp_bytes (.tmp 6) _ _ 5 (bs s) rfl rfl rfl (by kernel_rfl) (by kernel_rfl) (by kernel_rfl) ?_; generalize hW : Lib.bytesWorld w 5 (bs s) = W; have HWW := Lib.hid hW; clear hW)
  rw [HWW.out] at HN HW
  have HSG := Lib.hid (show smallGo false s = [] ++ smallGo false s from rfl)
  go_loopg [4, 10] s.length (fun k v4 v10 wr => ∃ (d r : List UInt8) (q : Bool), v10 = .int .i64 (d.length : Nat) ∧ r.length = k ∧ d.length + r.length = s.length ∧ v4 = .bool q ∧ smallGo false s = d ++ smallGo q r ∧ ByB wr w.heap.size (d ++ r) zs ∧ Keep (· = w.heap.size) W wr)
  case atStart => exact ⟨[], s, false, rfl, rfl, by simp, rfl, HSG.out, HN.out, Keep.refl _ _⟩
  case round =>
    obtain ⟨d, r, q, rfl, hrk, hdr, rfl, hsg, hby, hk⟩ := hrel
    have HS := Lib.hid hsg
    have HB := Lib.hid hby
    have HK := Lib.hid hk
    clear hsg hby hk
    cases r with
    | nil =>
      have hdl : d.length = s.length := by simpa using hdr
      have HD := Lib.hid hdr
      clear hdr
      rw [hdl]
      go_wp2_with (with_reducible refine at_conv ?_; refine wp_str (.tmp 52) _ _ 5 d _ _ _ rfl rfl rfl hdl.symm (fun j hj => by have := HB.out.cell j (by simpa using hj); simpa using this) (by kernel_rfl) (by kernel_rfl) (by kernel_rfl) ?_)
      go_ret
      refine ⟨by rw [HS.out]; simp [smallGo], ?_⟩
      exact HW.out.trans' HK.out (fun i hi h => by omega)
    | cons c r =>
      have hi : d.length < (d ++ c :: r).length := by simp
      have hc : wr.cell? ⟨w.heap.size, d.length, none⟩ = some (.int .u8 (c.toNat : Int)) := by
        have := HB.out.cell d.length hi
        simpa using this
      have hf := HB.out.free d.length hi
      have hlt : d.length < s.length := by simp at hdr; omega
      have hcb : c.toNat < 256 := c.toNat_lt
      have HDR := Lib.hid hdr
      have HI := Lib.hid hi
      have HRK := Lib.hid hrk
      have hgk : 0 < gk := by rw [← hrk]; simp
      clear hdr hi hrk
      have fin : ∀ (q' : Bool) (c' : UInt8) (wn : World), q' = (if c = 91 then true else if c = 93 then false else q) → c' = (if q' = true ∧ 65 ≤ c.toNat ∧ c.toNat ≤ 90 then c + 32 else c) → ByB wn w.heap.size (d ++ c' :: r) zs → Keep (· = w.heap.size) W wn →
          ∃ (d2 r2 : List UInt8) (q2 : Bool), Value.int .i64 ((d.length : Int) + 1) = .int .i64 (d2.length : Nat) ∧ r2.length = gk - 1 ∧ d2.length + r2.length = s.length ∧ Value.bool q' = .bool q2 ∧ smallGo false s = d2 ++ smallGo q2 r2 ∧ ByB wn w.heap.size (d2 ++ r2) zs ∧ Keep (· = w.heap.size) W wn := by
        intro q' c' wn hq' hc' hb hk
        have hrk := HRK.out
        have hdr := HDR.out
        simp only [List.length_cons] at hrk hdr
        refine ⟨d ++ [c'], r, q', by simp, by omega, by simp; omega, rfl, ?_, by simpa using hb, hk⟩
        rw [HS.out, smallGo, ← hq', ← hc']
        simp
      have FIN := Lib.hid fin
      clear fin
      have hcase : c = 91 ∨ c = 93 ∨ (c ≠ 91 ∧ c ≠ 93) := by
        by_cases h1 : c = 91
        · exact .inl h1
        · by_cases h2 : c = 93
          · exact .inr (.inl h2)
          · exact .inr (.inr ⟨h1, h2⟩)
      rcases hcase with h91 | h93 | ⟨hn1, hn2⟩
      · have hx : c.toNat = 91 := by rw [h91]; rfl
        rw [hx] at hc
        have H91 := Lib.hid h91
        have HX := Lib.hid hx
        clear h91 hx hcb
        go_wp2
        go_roundg (gk - 1)
        case measure => omega
        case rel => exact FIN.out true c wr (by rw [if_pos H91.out]) (by rw [if_neg (by rw [HX.out]; omega)]) HB.out HK.out
      · have hx : c.toNat = 93 := by rw [h93]; rfl
        rw [hx] at hc
        have H93 := Lib.hid h93
        have HX := Lib.hid hx
        clear h93 hx hcb
        go_wp2
        go_roundg (gk - 1)
        case measure => omega
        case rel => exact FIN.out false c wr (by rw [if_neg (by rw [H93.out]; decide), if_pos H93.out]) (by rw [if_neg (by simp)]) HB.out HK.out
      · have t1 : ((c.toNat : Int) == 91) = false := by
          rw [beq_eq_false_iff_ne]
          intro h
          exact hn1 (by apply UInt8.toNat_inj.1; show c.toNat = 91; omega)
        have t2 : ((c.toNat : Int) == 93) = false := by
          rw [beq_eq_false_iff_ne]
          intro h
          exact hn2 (by apply UInt8.toNat_inj.1; show c.toNat = 93; omega)
        have HN1 := Lib.hid hn1
        have HN2 := Lib.hid hn2
        clear hn1 hn2
        cases q with
        | false =>
          go_wp2
          go_roundg (gk - 1)
          case measure => omega
          case rel => exact FIN.out false c wr (by rw [if_neg HN1.out, if_neg HN2.out]) (by rw [if_neg (by simp)]) HB.out HK.out
        | true =>
          by_cases ha : 65 ≤ c.toNat
          · by_cases hz : c.toNat ≤ 90
            · have h32 : (c + 32).toNat = c.toNat + 32 := by rw [UInt8.toNat_add]; show (c.toNat + 32) % 256 = _; omega
              have hb2 := HB.out.set d.length HI.out (c + 32)
              rw [h32] at hb2
              have HB2 := Lib.hid hb2
              clear hb2
              have HH := Lib.hid h32
              clear h32
              go_wp2
              go_roundg (gk - 1)
              case measure => omega
              case rel =>
                have hb3 := HB2.out
                exact FIN.out true (c + 32) _ (by rw [if_neg HN1.out, if_neg HN2.out]) (by rw [if_pos ⟨rfl, ha, hz⟩]) (by simpa using hb3) (HK.out.at (fun _ => rfl) _ _)
            · go_wp2
              go_roundg (gk - 1)
              case measure => omega
              case rel => exact FIN.out true c wr (by rw [if_neg HN1.out, if_neg HN2.out]) (by rw [if_neg (by omega)]) HB.out HK.out
          · go_wp2
            go_roundg (gk - 1)
            case measure => omega
            case rel => exact FIN.out true c wr (by rw [if_neg HN1.out, if_neg HN2.out]) (by rw [if_neg (by omega)]) HB.out HK.out
end Go.Proofs.YtanombfdfpfcoaaGreatDoor

namespace Go.Proofs.YtanombfdfpfcoaaGreatDoor
set_option linter.unusedVariables false
set_option linter.unusedSimpArgs false
open Go.RowKit

/-- The letters of a section's head: a dot, a digit, a capital letter. -/
def UCh (c : UInt8) : Prop := c.toNat = 46 ∨ (48 ≤ c.toNat ∧ c.toNat ≤ 57) ∨ (65 ≤ c.toNat ∧ c.toNat ≤ 90)
def lowB (c : UInt8) : UInt8 := if 65 ≤ c.toNat ∧ c.toNat ≤ 90 then c + 32 else c
theorem lowB_nat (c : UInt8) : (lowB c).toNat = if 65 ≤ c.toNat ∧ c.toNat ≤ 90 then c.toNat + 32 else c.toNat := by
  unfold lowB
  split
  · rw [UInt8.toNat_add]
    show (c.toNat + 32) % 256 = _
    omega
  · rfl
theorem upperB_nat (c : UInt8) : (Lib.upperB c).toNat = if 97 ≤ c.toNat ∧ c.toNat ≤ 122 then c.toNat - 32 else c.toNat := by
  unfold Lib.upperB Lib.isLowerB
  by_cases h : 97 ≤ c.toNat ∧ c.toNat ≤ 122
  · have h1 : (97 : UInt8) ≤ c := UInt8.le_iff_toNat_le.2 h.1
    have h2 : c ≤ (122 : UInt8) := UInt8.le_iff_toNat_le.2 h.2
    have h3 : (32 : UInt8) ≤ c := UInt8.le_iff_toNat_le.2 (by show 32 ≤ c.toNat; omega)
    rw [if_pos (by simp [h1, h2]), if_pos h, UInt8.toNat_sub_of_le _ _ h3]
    rfl
  · rw [if_neg (by
      simp only [Bool.and_eq_true, decide_eq_true_eq, UInt8.le_iff_toNat_le]
      exact h), if_neg h]
theorem joinB_all (P : UInt8 → Prop) (c : UInt8) (hc : P c) : ∀ xs : List (List UInt8), (∀ x ∈ xs, ∀ b ∈ x, P b) → ∀ b ∈ joinB c xs, P b
  | [], _, b, hb => by cases hb
  | [a], h, b, hb => h a (by simp) b hb
  | a :: y :: r, h, b, hb => by
    rcases List.mem_append.1 hb with hb | hb
    · exact h a (by simp) b hb
    · rcases List.mem_cons.1 hb with rfl | hb
      · exact hc
      · exact joinB_all P c hc (y :: r) (fun x hx => h x (List.mem_cons_of_mem _ hx)) b hb
theorem joinB_pre (c : UInt8) (x : List UInt8) (xs : List (List UInt8)) : ∃ t, joinB c (x :: xs) = x ++ t := by
  cases xs with
  | nil => exact ⟨[], by simp [joinB]⟩
  | cons y r => exact ⟨_, rfl⟩
theorem joinS_eq : ∀ xs : List (List UInt8), joinS xs = joinB 32 xs
  | [] => rfl
  | [a] => rfl
  | a :: b :: r => by rw [joinS, joinB, joinS_eq (b :: r)]
theorem dig_U (n : Nat) : ∀ b ∈ dig n, UCh b := fun b hb => .inr (.inl (dig_mem n b hb))
theorem part_U {p : List UInt8} (h : PartOk p) : ∀ b ∈ p, UCh b := by
  rcases h with rfl | rfl | rfl <;> (intro b hb; simp [cHEADER, cMIME, cTEXT] at hb; unfold UCh; rcases hb with rfl | rfl | rfl | rfl | rfl | rfl <;> decide)
theorem upper_same {A : List UInt8} (h : ∀ b ∈ A, UCh b) : Lib.toUpperA A = A := by
  unfold Lib.toUpperA
  conv => rhs; rw [← List.map_id A]
  refine List.map_congr_left fun b hb => ?_
  apply UInt8.toNat_inj.1
  have := h b hb
  rw [upperB_nat]
  unfold UCh at this
  rw [if_neg (by omega)]
  rfl
theorem upper_low {A : List UInt8} (h : ∀ b ∈ A, UCh b) : Lib.toUpperA (A.map lowB) = A := by
  unfold Lib.toUpperA
  rw [List.map_map]
  conv => rhs; rw [← List.map_id A]
  refine List.map_congr_left fun b hb => ?_
  apply UInt8.toNat_inj.1
  have := h b hb
  show (Lib.upperB (lowB b)).toNat = b.toNat
  rw [upperB_nat, lowB_nat]
  unfold UCh at this
  split <;> (repeat' split) <;> omega
theorem atomOk_up {A : List UInt8} (x : List UInt8) (t : List UInt8) (hA : A = x ++ t) (hx : x ≠ []) (hh : ∀ b r, x = b :: r → b.toNat ≠ 78) (hs : A.length < 100000) (h : ∀ b ∈ A, UCh b) : AtomOk A := by
  refine ⟨by rw [hA, List.length_append]; cases x with | nil => exact absurd rfl hx | cons a b => simp; omega, hs, fun j hj => ?_, ?_⟩
  · have := h (A.getD j 0) (by simp [List.getD, hj])
    unfold UCh at this
    unfold AtomCh
    omega
  · intro he
    cases x with
    | nil => exact hx rfl
    | cons a b =>
      rw [hA] at he
      injection he with he _
      exact hh a b rfl (by rw [he]; rfl)
theorem atomOk_low {A : List UInt8} (hne : A ≠ []) (hs : A.length < 100000) (h : ∀ b ∈ A, UCh b) : AtomOk (A.map lowB) := by
  refine ⟨by rw [List.length_map]; cases A with | nil => exact absurd rfl hne | cons a b => simp, by rw [List.length_map]; exact hs, fun j hj => ?_, ?_⟩
  · rw [List.length_map] at hj
    have h1 : (A.map lowB).getD j 0 = lowB (A.getD j 0) := by simp [List.getD, hj]
    have := h (A.getD j 0) (by simp [List.getD, hj])
    rw [h1, lowB_nat]
    unfold UCh at this
    unfold AtomCh
    split <;> omega
  · intro he
    have h1 : (78 : UInt8) ∈ A.map lowB := by rw [he]; simp
    obtain ⟨b, hb, h2⟩ := List.mem_map.1 h1
    have h3 := congrArg UInt8.toNat h2
    rw [lowB_nat] at h3
    have h4 : (78 : UInt8).toNat = 78 := rfl
    rw [h4] at h3
    split at h3 <;> omega

/-- The parts of a section's head, and what the first of them is. -/
theorem parts_first {path : List Nat} {tl : List (List UInt8)} (hne : path.map dig ++ tl ≠ []) (htl : ∀ x r, tl = x :: r → x ≠ [] ∧ ∀ b q, x = b :: q → b.toNat ≠ 78) :
    ∃ x t, joinB 46 (path.map dig ++ tl) = x ++ t ∧ x ≠ [] ∧ ∀ b r, x = b :: r → b.toNat ≠ 78 := by
  cases path with
  | cons p path =>
    obtain ⟨t, ht⟩ := joinB_pre 46 (dig p) (path.map dig ++ tl)
    refine ⟨dig p, t, ht, dig_ne p, fun b r e => ?_⟩
    have := dig_mem p b (by rw [e]; simp)
    omega
  | nil =>
    cases tl with
    | nil => exact absurd rfl hne
    | cons x r =>
      obtain ⟨t, ht⟩ := joinB_pre 46 x r
      exact ⟨x, t, ht, (htl x r rfl).1, (htl x r rfl).2⟩
theorem part_first {p : List UInt8} (h : PartOk p) : p ≠ [] ∧ ∀ b q, p = b :: q → b.toNat ≠ 78 := by
  rcases h with rfl | rfl | rfl <;> exact ⟨by decide, fun b q e => by simp only [cHEADER, cMIME, cTEXT, List.cons.injEq] at e; rw [← e.1]; decide⟩

theorem mid_cases {path : List Nat} {part : List UInt8} {fs : List (List UInt8)} {nt : Bool} {o : Option (Nat × Nat)} (R : Right path part fs nt o) :
    Nonempty (MidOk (midT path part fs nt) path part fs nt) ∧ (fs = [] → (∀ b ∈ midT path part fs nt, UCh b) ∧ Nonempty (MidOk ((midT path part fs nt).map lowB) path part fs nt)) := by
  have hlen := midT_len path part fs nt R.pl (fun p hp => (R.ph p hp).2) R.fl R.f40 R.part10
  by_cases hfe : fs = []
  · have hnt : nt = false := by
      cases nt with
      | false => rfl
      | true => exact absurd hfe (R.n rfl)
    subst hfe
    subst hnt
    obtain ⟨tl, htl⟩ : ∃ tl : List (List UInt8), tl = if part = [] then [] else [part] := ⟨_, rfl⟩
    have hmid : midT path part [] false = joinB 46 (path.map dig ++ tl) := by
      rw [htl]; simp [midT, partsT, fieldsP]
    have htl2 : (tl = [] ∧ part = []) ∨ (tl = [part] ∧ PartOk part) := by
      rcases R.pt with h | h
      · left; rw [htl, if_pos h]; exact ⟨rfl, h⟩
      · right; rw [htl, if_neg (part_first h).1]; exact ⟨rfl, h⟩
    have hU : ∀ b ∈ midT path part [] false, UCh b := by
      rw [hmid]
      refine joinB_all UCh 46 (.inl rfl) _ (fun x hx => ?_)
      rcases List.mem_append.1 hx with hx | hx
      · obtain ⟨n, _, rfl⟩ := List.mem_map.1 hx
        exact dig_U n
      · rcases htl2 with ⟨h, _⟩ | ⟨h, hp⟩
        · rw [h] at hx; cases hx
        · rw [h] at hx
          rw [List.mem_singleton.1 hx]
          exact part_U hp
    by_cases hne : path.map dig ++ tl = []
    · have hp : path = [] := by
        have := (List.append_eq_nil_iff.1 hne).1
        simpa using this
      have ht := (List.append_eq_nil_iff.1 hne).2
      have hq : part = [] := by
        rcases htl2 with ⟨_, h⟩ | ⟨h, _⟩
        · exact h
        · rw [ht] at h; cases h
      subst hp
      subst hq
      exact ⟨⟨midEmpty⟩, fun _ => ⟨hU, ⟨midEmpty⟩⟩⟩
    · obtain ⟨x, t, hxt, hx0, hx1⟩ := parts_first hne (fun x r e => by
        rcases htl2 with ⟨h, _⟩ | ⟨h, hp⟩
        · rw [h] at e; cases e
        · rw [h] at e
          cases e
          exact part_first hp)
      have hA0 : midT path part [] false ≠ [] := by
        rw [hmid, hxt]
        intro h
        exact hx0 (List.append_eq_nil_iff.1 h).1
      exact ⟨⟨midPart (midT path part [] false) (atomOk_up x t (hmid.trans hxt) hx0 hx1 (by omega) hU) path tl _ part htl2 rfl hne R.pl R.ph ((upper_same hU).trans hmid)⟩,
        fun _ => ⟨hU, ⟨midPart ((midT path part [] false).map lowB) (atomOk_low hA0 (by omega) hU) path tl _ part htl2 rfl hne R.pl R.ph ((upper_low hU).trans hmid)⟩⟩⟩
  · refine ⟨?_, fun h => absurd h hfe⟩
    have hp := R.fp hfe
    subst hp
    obtain ⟨tl, htl⟩ : ∃ tl : List (List UInt8), tl = if nt then [cHEADER, cFIELDS, cNOT] else [cHEADER, cFIELDS] := ⟨_, rfl⟩
    have hmid : midT path cHEADER fs nt = joinB 46 (path.map dig ++ tl) ++ 32 :: 40 :: (joinS fs ++ [41]) := by
      have hc : (cHEADER = []) = False := by simp [cHEADER]
      rw [htl, joinS_eq]
      cases nt <;> simp [midT, partsT, fieldsP, hfe, hc]
    have hU : ∀ b ∈ joinB 46 (path.map dig ++ tl), UCh b := by
      refine joinB_all UCh 46 (.inl rfl) _ (fun x hx => ?_)
      rcases List.mem_append.1 hx with hx | hx
      · obtain ⟨n, _, rfl⟩ := List.mem_map.1 hx
        exact dig_U n
      · have : x = cHEADER ∨ x = cFIELDS ∨ x = cNOT := by
          rw [htl] at hx
          cases nt <;> simp at hx
          · rcases hx with h | h
            · exact .inl h
            · exact .inr (.inl h)
          · exact hx
        rcases this with rfl | rfl | rfl <;> (intro b hb; simp [cHEADER, cFIELDS, cNOT] at hb; unfold UCh; rcases hb with rfl | rfl | rfl | rfl | rfl | rfl <;> decide)
    have htne : ∃ r, tl = cHEADER :: r := by rw [htl]; cases nt <;> exact ⟨_, rfl⟩
    have hne : path.map dig ++ tl ≠ [] := by
      obtain ⟨r, hr⟩ := htne
      rw [hr]
      simp
    obtain ⟨x, t, hxt, hx0, hx1⟩ := parts_first hne (fun x r e => by
      obtain ⟨r2, hr⟩ := htne
      rw [hr] at e
      cases e
      exact part_first (.inl rfl))
    have hl2 := hlen
    rw [hmid] at hl2 ⊢
    have hl3 : (joinB 46 (path.map dig ++ tl)).length < 100000 := by
      rw [List.length_append] at hl2
      omega
    exact ⟨midFields _ (atomOk_up x t hxt hx0 hx1 hl3 hU) path tl _ fs nt (by cases fs with | nil => exact absurd rfl hfe | cons a b => simp) (by have := R.fl; omega) R.fa htl rfl hne R.pl R.ph (upper_same hU) (by omega)⟩

/-- smaller9 on a section's text. -/
theorem sg_out (r : List UInt8) : ∀ l : List UInt8, (∀ c ∈ l, c ≠ 91) → smallGo false (l ++ r) = l ++ smallGo false r
  | [], _ => rfl
  | c :: l, h => by
    have h1 : c ≠ 91 := h c (by simp)
    simp [smallGo, h1, sg_out r l (fun c hc => h c (by simp [hc]))]
theorem sg_in (r : List UInt8) : ∀ l : List UInt8, (∀ c ∈ l, c ≠ 91 ∧ c ≠ 93) → smallGo true (l ++ r) = l.map lowB ++ smallGo true r
  | [], _ => rfl
  | c :: l, h => by
    have h1 := h c (by simp)
    simp [smallGo, h1.1, h1.2, lowB, sg_in r l (fun c hc => h c (by simp [hc]))]
theorem small_text (pk : Bool) (mid : List UInt8) (o : Option (Nat × Nat)) (hU : ∀ b ∈ mid, UCh b) : smallGo false (preT pk ++ 91 :: (mid ++ 93 :: sufT o)) = preT pk ++ 91 :: (mid.map lowB ++ 93 :: sufT o) := by
  have hs : ∀ c ∈ sufT o, c ≠ 91 := by
    intro c hc
    cases o with
    | none => cases hc
    | some ab =>
      obtain ⟨a, b⟩ := ab
      simp only [sufT, List.mem_cons, List.mem_append, List.mem_nil_iff, or_false] at hc
      rintro rfl
      rcases hc with h | ((h | h | h) | h)
      · revert h; decide
      · have := dig_mem a _ h; revert this; decide
      · revert h; decide
      · have := dig_mem b _ h; revert this; decide
      · revert h; decide
  have hp : ∀ c ∈ preT pk, c ≠ 91 := by cases pk <;> decide
  rw [sg_out _ _ hp]
  have h1 : ∀ r, smallGo false (91 :: r) = 91 :: smallGo true r := fun r => by simp [smallGo]
  have h2 : ∀ r, smallGo true (93 :: r) = 93 :: smallGo false r := fun r => by simp [smallGo]
  rw [h1, sg_in _ _ (fun c hc => by
    have := hU c hc
    unfold UCh at this
    constructor
    · rintro rfl; have h : (91 : UInt8).toNat = 91 := rfl; omega
    · rintro rfl; have h : (93 : UInt8).toNat = 93 := rfl; omega), h2]
  have h3 := sg_out [] (sufT o) hs
  rw [List.append_nil] at h3
  rw [h3]
  simp [smallGo]
end Go.Proofs.YtanombfdfpfcoaaGreatDoor
