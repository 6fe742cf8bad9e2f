/- What the package's reader of fields reads, for the proof of FnCritDates, at lines of atoms. -/
import Derived.Test.YtlnbikcfjnloaaaGreatDoorOwnA
import Derived.Test.YtlnbikcfjnloaaaGreatDoorOwnB
namespace Go.Proofs.YtlnbikcfjnloaaaGreatDoor
set_option linter.unusedVariables false
set_option linter.unusedSimpArgs false
open Go.RowKit

set_option maxRecDepth 100000 in
theorem t_crlf (S : Source) (w : World) (r : Nat) (mx : Int) (inR : Bool) (br : Int) (pos : Nat) (last : Bool) (h : RdAt S w r mx inR br pos last) (hl : pos + 1 < S.s.length) (h1 : S.s.getD pos 0 = 13) (h2 : S.s.getD (pos + 1) 0 = 10) :
    Calls Tryz.prog 21 #[.pointer (some ⟨r, 0, none⟩)] w fun e w' => e = .returned .nilIface ∧ RdAt S w' r mx inR br (pos + 2) true ∧ Keep (RM S r) w w' := by
  have H := Lib.hid h
  obtain ⟨c0, c1, c2, c3, c4, f⟩ := h.cells
  have h1' : ((S.s.getD pos 0).toNat : Int) = 13 := by rw [h1]; rfl
  have h2' : ((S.s.getD (pos + 1) 0).toNat : Int) = 10 := by rw [h2]; rfl
  have H1 := Lib.hid h1'
  have H2 := Lib.hid h2'
  clear h h1 h2 h1' h2'
  go_enter Tryz.func21, Tryz.ntmps21
  go_wp2_with (first | (refine rd_read (.tmp 8) 13 H.out (by omega) H1.out (by omega) rfl rfl rfl ?_; intro w1 hR1 hk1; obtain ⟨d0, d1, d2, d3, d4, f1⟩ := hR1.cells; have HR1 := Lib.hid hR1; have HK1 := Lib.hid hk1; clear hR1 hk1) | (refine rd_read (.tmp 24) 10 HR1.out (by omega) H2.out (by omega) rfl rfl rfl ?_; intro w2 hR2 hk2; obtain ⟨e0, e1, e2, e3, e4, f2⟩ := hR2.cells; have HR2 := Lib.hid hR2; have HK2 := Lib.hid hk2; clear hR2 hk2))
  go_ret
  exact ⟨rfl, HR2.out, HK1.out.trans HK2.out⟩
end Go.Proofs.YtlnbikcfjnloaaaGreatDoor

namespace Go.Proofs.YtlnbikcfjnloaaaGreatDoor
set_option linter.unusedVariables false
set_option linter.unusedSimpArgs false
open Go.RowKit

/-- What an atom may hold. -/
def AtomCh (x : Nat) : Prop := 32 < x ∧ x < 127 ∧ x ≠ 40 ∧ x ≠ 41 ∧ x ≠ 123 ∧ x ≠ 34 ∧ x ≠ 91 ∧ x ≠ 93
/-- What ends an atom. -/
def AtomEnd (inR : Bool) (x : Nat) : Prop := x = 13 ∨ x = 32 ∨ x = 41 ∨ (x = 93 ∧ inR = true)

set_option maxRecDepth 100000 in
theorem t_atom (S : Source) (w : World) (r : Nat) (mx : Int) (inR : Bool) (br : Int) (pos : Nat) (last : Bool) (h : RdAt S w r mx inR br pos last) (a : List UInt8) (hl : pos + a.length < S.s.length) (hbig : a.length < 1000000)
    (ha : ∀ j, j < a.length → S.s.getD (pos + j) 0 = a.getD j 0) (hc : ∀ j, j < a.length → AtomCh (a.getD j 0).toNat) (he : AtomEnd inR (S.s.getD (pos + a.length) 0).toNat) (hn : a ≠ [78, 73, 76]) :
    Calls Tryz.prog 34 #[.pointer (some ⟨r, 0, none⟩)] w fun e w' => e = .returned (.tuple #[.iface 9 (.string (bs a)), .nilIface]) ∧ RdAt S w' r mx inR 0 (pos + a.length) false ∧ Keep (RM S r) w w' := by
  obtain ⟨c0, c1, c2, c3, c4, f⟩ := h.cells
  have hb := h.brackets 0
  obtain ⟨d0, d1, d2, d3, d4, f'⟩ := hb.cells
  have hk0 : Keep (RM S r) w (w.setCell ⟨r, 3, none⟩ (.int .i64 0)) := (Keep.refl (RM S r) w).at (fun _ => .inl rfl) 3 _
  have hnil : ((bs a).toList == [78, 73, 76]) = false := by rw [bs_toList, beq_eq_false_iff_ne]; exact hn
  have H := Lib.hid h
  have HA := Lib.hid ha
  have HC := Lib.hid hc
  have HE := Lib.hid he
  have HB := Lib.hid hb
  have HK0 := Lib.hid hk0
  clear h ha hc he hb hk0 hn
  go_enter Tryz.func34, Tryz.ntmps34
  go_wp2
  go_loopg [4] a.length (fun k v wr => ∃ j l, j + k = a.length ∧ v = .string (bs (a.take j)) ∧ RdAt S wr r mx inR 0 (pos + j) l ∧ Keep (RM S r) w wr)
  case atStart => exact ⟨0, last, by omega, by rw [List.take_zero, bs_nil], HB.out, HK0.out⟩
  case round =>
    obtain ⟨j, l, hj, rfl, hR, hk⟩ := hrel
    obtain ⟨e0, e1, e2, e3, e4, ff⟩ := hR.cells
    have HR := Lib.hid hR
    have HK := Lib.hid hk
    clear hR hk
    by_cases hlt : j < a.length
    · have hx1 := HC.out j hlt
      have hx2 : (S.s.getD (pos + j) 0).toNat = (a.getD j 0).toNat := by rw [HA.out j hlt]
      obtain ⟨x, hx⟩ : ∃ x : Nat, x = (a.getD j 0).toNat := ⟨_, rfl⟩
      rw [← hx] at hx1 hx2
      obtain ⟨x1, x2, x3, x4, x5, x6, x7, x8⟩ := hx1
      have hx3 : ((S.s.getD (pos + j) 0).toNat : Int) = (x : Int) := by rw [hx2]
      have HX := Lib.hid hx
      have HX3 := Lib.hid hx3
      clear hx hx2 hx3
      have hsz : (bs (a.take j)).size < 1000000 := by rw [bs_size]; simp; omega
      have hsz1 : (bs (a.take j)).size + (bs [UInt8.ofNat x]).size ≤ 9223372036854775807 := by rw [bs_size, bs_size]; simp; omega
      have HSZ := Lib.hid hsz1
      have n40 : ((x : Int) == 40) = false := by rw [beq_eq_false_iff_ne]; omega
      have n123 : ((x : Int) == 123) = false := by rw [beq_eq_false_iff_ne]; omega
      have n34 : ((x : Int) == 34) = false := by rw [beq_eq_false_iff_ne]; omega
      have n13 : ((x : Int) == 13) = false := by rw [beq_eq_false_iff_ne]; omega
      have n10 : ((x : Int) == 10) = false := by rw [beq_eq_false_iff_ne]; omega
      have n32 : ((x : Int) == 32) = false := by rw [beq_eq_false_iff_ne]; omega
      have n41 : ((x : Int) == 41) = false := by rw [beq_eq_false_iff_ne]; omega
      have n93 : ((x : Int) == 93) = false := by rw [beq_eq_false_iff_ne]; omega
      have n91 : ((x : Int) == 91) = false := by rw [beq_eq_false_iff_ne]; omega
      clear hsz hsz1
      go_wp2_with (first | (with_reducible refine at_inv ?_; refine rd_read (.tmp 15) (x : Int) HR.out (by omega) HX3.out (by omega) rfl rfl rfl ?_; intro w1 hR1 hk1; obtain ⟨g0, g1, g2, g3, g4, f1⟩ := hR1.cells; have HR1 := Lib.hid hR1; have HK1 := Lib.hid hk1; clear hR1 hk1) | (with_reducible refine at_conv ?_; refine wp_rune (.tmp 92) _ _ x rfl rfl (by omega) rfl (by kernel_rfl) (by kernel_rfl) ?_) | (with_reducible refine at_add ?_; refine wp_add (.tmp 91) (.tmp 93) _ _ (bs (a.take j)) (bs [UInt8.ofNat x]) rfl rfl rfl rfl HSZ.out ?_; rw [bs_snoc a j x hlt HX.out]))
      go_roundg (gk - 1)
      case measure => omega
      case rel => exact ⟨j + 1, true, by omega, rfl, HR1.out, HK.out.trans HK1.out⟩
    · have hj' : j = a.length := by omega
      subst hj'
      have hx1 := HE.out
      obtain ⟨x, hx⟩ : ∃ x : Nat, x = (S.s.getD (pos + a.length) 0).toNat := ⟨_, rfl⟩
      rw [← hx] at hx1
      have hx3 : ((S.s.getD (pos + a.length) 0).toNat : Int) = (x : Int) := by rw [hx]
      have HX3 := Lib.hid hx3
      clear hx hx3
      rw [List.take_length] at *
      have hxs : x = 13 ∨ x = 32 ∨ x = 41 ∨ (x = 93 ∧ inR = true) := hx1
      clear hx1
      rcases hxs with rfl | rfl | rfl | ⟨rfl, rfl⟩
      all_goals
        go_wp2_with (first | (with_reducible refine at_inv ?_; refine rd_read (.tmp 15) _ HR.out (by omega) HX3.out (by omega) rfl rfl rfl ?_; intro w1 hR1 hk1; obtain ⟨g0, g1, g2, g3, g4, f1⟩ := hR1.cells; have HR1 := Lib.hid hR1; have HK1 := Lib.hid hk1; clear hR1 hk1) | (with_reducible refine at_inv ?_; refine rd_unread (.tmp 98) HR1.out rfl rfl rfl ?_; intro w2 hR2 hk2; have HR2 := Lib.hid hR2; have HK2 := Lib.hid hk2; clear hR2 hk2))
        go_ret2
        exact ⟨rfl, HR2.out, (HK.out.trans HK1.out).trans HK2.out⟩
end Go.Proofs.YtlnbikcfjnloaaaGreatDoor

namespace Go.Proofs.YtlnbikcfjnloaaaGreatDoor
set_option linter.unusedVariables false
set_option linter.unusedSimpArgs false
open Go.RowKit

/-- Texts with blanks between them. -/
def joinS : List (List UInt8) → List UInt8
  | [] => []
  | [a] => a
  | a :: b :: r => a ++ 32 :: joinS (b :: r)
/-- An atom as the writers of lists know it. -/
structure AtomOk (a : List UInt8) : Prop where
  pos : 0 < a.length
  small : a.length < 100000
  ch : ∀ j, j < a.length → AtomCh (a.getD j 0).toNat
  ne : a ≠ [78, 73, 76]
/-- A string as an interface value. -/
def strI (a : List UInt8) : Value := .iface 9 (.string (bs a))

theorem Tryz.elemI : Elem Tryz.prog 38 20 .nilIface 16 :=
  ⟨by kernel_rfl, info_parts (by kernel_rfl), rfl, by decide⟩

/-- A list of atoms with its closing bracket. -/
theorem joinS_cons {a : List UInt8} {r : List (List UInt8)} : ∃ t m, joinS (a :: r) ++ [41] = a ++ (t :: m) ∧ ((t = 41 ∧ r = [] ∧ m = []) ∨ (t = 32 ∧ r ≠ [] ∧ m = joinS r ++ [41])) := by
  cases r with
  | nil => exact ⟨41, [], by simp [joinS], .inl ⟨rfl, rfl, rfl⟩⟩
  | cons b r => exact ⟨32, joinS (b :: r) ++ [41], by simp [joinS], .inr ⟨rfl, by simp, rfl⟩⟩

set_option maxRecDepth 100000 in
theorem t_fieldsIn (S : Source) (w : World) (r : Nat) (mx : Int) (inR : Bool) (br : Int) (pos : Nat) (last : Bool) (h : RdAt S w r mx inR br pos last) (fs : List (List UInt8)) (hf0 : fs ≠ []) (hfl : fs.length < 1000) (hf : ∀ a ∈ fs, AtomOk a)
    (hs : Has S.s pos (joinS fs ++ [41])) :
    Calls Tryz.prog 20 #[.pointer (some ⟨r, 0, none⟩)] w fun e w' => ∃ v, e = .returned (.tuple #[v, .nilIface]) ∧
      w'.ownsRow w.heap.size 20 1 v fs.length (fs.map strI) ∧ RdAt S w' r mx inR 0 (pos + (joinS fs).length + 1) true ∧ Keep (RM S r) w w' := by
  obtain ⟨c0, c1, c2, c3, c4, f⟩ := h.cells
  have HF := Lib.hid hf
  have H := Lib.hid h
  have HS := Lib.hid hs
  have HF0 := Lib.hid hf0
  have HRM := Lib.hid (h.lt)
  have HRF := Lib.hid (h.ltF)
  clear h hf hs hf0
  go_enter Tryz.func20, Tryz.ntmps20
  go_wp2
  go_loopg [2] fs.length (fun k v wr => ∃ done rest p b l, fs = done ++ rest ∧ rest ≠ [] ∧ rest.length = k ∧ wr.ownsRow w.heap.size 20 1 v done.length (done.map strI) ∧ Has S.s p (joinS rest ++ [41]) ∧ p + (joinS rest).length = pos + (joinS fs).length ∧
    RdAt S wr r mx inR b p l ∧ Keep (RM S r) w wr)
  case atStart => exact ⟨[], fs, pos, br, last, rfl, HF0.out, rfl, World.ownsRow_nil _ _ _ _, HS.out, rfl, H.out, Keep.refl _ _⟩
  case round =>
    obtain ⟨done, rest, p, b, l, hd, hr0, hrl, hown, hhas, hp, hR, hk⟩ := hrel
    cases rest with
    | nil => exact absurd rfl hr0
    | cons a rest =>
    have hok : AtomOk a := HF.out a (by rw [hd]; simp)
    obtain ⟨t, m, he, ht⟩ := joinS_cons (a := a) (r := rest)
    rw [he] at hhas
    have hlen := congrArg List.length he
    simp only [List.length_append, List.length_cons, List.length_nil] at hlen
    obtain ⟨ha, htm⟩ := hhas.app
    have ht0 := htm.head
    have hle := htm.len
    simp only [List.length_cons] at hle
    have h0 := ha.get 0 hok.pos
    have hx1 := hok.ch 0 hok.pos
    rw [Nat.add_zero] at h0
    obtain ⟨x, hx⟩ : ∃ x : Nat, x = (a.getD 0 0).toNat := ⟨_, rfl⟩
    rw [← hx] at hx1
    have hx3 : ((S.s.getD p 0).toNat : Int) = (x : Int) := by rw [h0, hx]
    obtain ⟨x1, x2, x3, x4, x5, x6, x7, x8⟩ := hx1
    have n40 : ((x : Int) == 40) = false := by rw [beq_eq_false_iff_ne]; omega
    have n41 : ((x : Int) == 41) = false := by rw [beq_eq_false_iff_ne]; omega
    have n123 : ((x : Int) == 123) = false := by rw [beq_eq_false_iff_ne]; omega
    have n34 : ((x : Int) == 34) = false := by rw [beq_eq_false_iff_ne]; omega
    have n13 : ((x : Int) == 13) = false := by rw [beq_eq_false_iff_ne]; omega
    have hdl : done.length < 1000 := by have := congrArg List.length hd; simp at this; omega
    have hat : ∀ inR, AtomEnd inR (S.s.getD (p + a.length) 0).toNat := by
      intro inR
      rw [ht0]
      rcases ht with ⟨rfl, _⟩ | ⟨rfl, _⟩
      · exact .inr (.inr (.inl rfl))
      · exact .inr (.inl rfl)
    have htv : ∃ c : Int, ((S.s.getD (p + a.length) 0).toNat : Int) = c ∧ (c = 41 ∨ c = 32) ∧ ((c = 41 ∧ rest = [] ∧ m = []) ∨ (c = 32 ∧ rest ≠ [] ∧ m = joinS rest ++ [41])) := by
      refine ⟨_, rfl, ?_⟩
      rw [ht0]
      rcases ht with ⟨rfl, h⟩ | ⟨rfl, h⟩
      · exact ⟨.inl rfl, .inl ⟨rfl, h⟩⟩
      · exact ⟨.inr rfl, .inr ⟨rfl, h⟩⟩
    obtain ⟨c, hte, hc, hcc⟩ := htv
    have hget := fun j hj => ha.get j hj
    have hown0 := fun w1 (hk : Keep (RM S r) wr w1) => ownsRow_keep hown hk (fun k hk1 hk2 hm => Nat.not_lt.2 hk1 (HRM.out k hm))
    obtain ⟨e0, e1, e2, e3, e4, ff⟩ := hR.cells
    have hplt : p < S.s.length := by have := hok.pos; omega
    have hpl2 : p + a.length < S.s.length := by omega
    have hsz := hk.size
    have HX3 := Lib.hid hx3
    have HR := Lib.hid hR
    have HK := Lib.hid hk
    have HOK := Lib.hid hok
    have HAT := Lib.hid hat
    have HTE := Lib.hid hte
    have HG := Lib.hid hget
    have HOWN := Lib.hid hown0
    have HD := Lib.hid (And.intro hd (And.intro he (And.intro hlen hp)))
    have HTM := Lib.hid htm
    clear hhas ha hx3 hR hk hok hat hte hget hown0 hd he hp h0 ht0 hown hx hlen htm hle
    have HTT := Lib.hid hcc
    clear ht hcc
    rcases hc with rfl | rfl
    all_goals
      go_wp2_with (first
        | (with_reducible refine at_inv ?_; refine rd_read (.tmp 11) (x : Int) HR.out hplt HX3.out (by omega) rfl rfl rfl ?_; intro w1 hR1 hk1; obtain ⟨g0, g1, g2, g3, g4, f1⟩ := hR1.cells; have HR1 := Lib.hid hR1; have HK1 := Lib.hid hk1; clear hR1 hk1)
        | (with_reducible refine at_inv ?_; refine rd_unread (.tmp 21) HR1.out rfl rfl rfl ?_; intro w2 hR2 hk2; rw [Nat.add_sub_cancel] at hR2; have HR2 := Lib.hid hR2; have HK2 := Lib.hid hk2; clear hR2 hk2)
        | (go_at_call 34; refine (t_atom S _ r mx inR _ p _ HR2.out a hpl2 (by have := HOK.out.small; omega) HG.out HOK.out.ch (HAT.out _) HOK.out.ne).mono ?_; rintro e w3 ⟨rfl, hR3, hk3⟩; have hk03 := (HK1.out.trans HK2.out).trans hk3; have hle3 := hk03.size; have HR3 := Lib.hid hR3; have HK3 := Lib.hid hk03; clear hR3 hk3 hk03)
        | (at_builtin; refine wp_app1 Tryz.elemI (.tmp 61) (.tmp 63) rfl rfl w.heap.size _ done.length (done.map strI) rfl ((HOWN.out w3 HK3.out).alloc _) w3.heap.size (strI a) rfl (((Blk.new w3 _ _).cell 0).trans rfl) rfl (by omega) (by simp; omega) ?_; intro v4 w4 hv4 hk4 hb4 hat4; have hR4 := (HR3.out.keep (M := fun _ => False) ((Keep.refl _ w3).alloc _) (fun _ _ => id)).keep hk4 (fun k hk hb => Nat.not_lt.2 hb (HRF.out k hk)); have hk04 := ((HK.out.trans HK3.out).alloc (.cells #[strI a] 20)).trans' hk4 (fun i hi hb => absurd hi (Nat.not_lt.2 hb)); obtain ⟨i0, i1, i2, i3, i4, f4⟩ := hR4.cells; have HR4 := Lib.hid hR4; have HV4 := Lib.hid hv4; have HK4 := Lib.hid hk04; clear hR4 hv4 hk4 hb4 hat4 hk04)
        | (with_reducible refine at_inv ?_; refine rd_read (.tmp 69) _ HR4.out hpl2 HTE.out (by omega) rfl rfl rfl ?_; intro w5 hR5 hk5; have HR5 := Lib.hid hR5; have HK5 := Lib.hid hk5; clear hR5 hk5))
    · obtain ⟨hd, he, hlen, hp⟩ := HD.out
      rcases HTT.out with ⟨_, rfl, rfl⟩ | ⟨h, _⟩
      · go_ret2
        simp only [List.length_nil] at hlen
        refine ⟨v4, rfl, ?_, ?_, HK4.out.trans HK5.out⟩
        · rw [hd]
          have := ownsRow_keep HV4.out HK5.out (fun k hk1 hk2 hm => Nat.not_lt.2 hk1 (HRM.out k hm))
          simpa using this
        · have := HR5.out
          rw [show p + a.length + 1 = pos + (joinS fs).length + 1 from by omega] at this
          exact this
      · exact absurd h (by decide)
    · obtain ⟨hd, he, hlen, hp⟩ := HD.out
      rcases HTT.out with ⟨h, _⟩ | ⟨_, hne, rfl⟩
      · exact absurd h (by decide)
      · have hl3 : rest.length + 1 = gk := by simpa using hrl
        go_roundg (gk - 1)
        case measure => omega
        case rel =>
          have := ownsRow_keep HV4.out HK5.out (fun k hk1 hk2 hm => Nat.not_lt.2 hk1 (HRM.out k hm))
          simp only [List.length_append, List.length_cons, List.length_nil] at hlen
          exact ⟨done ++ [a], rest, p + a.length + 1, 0, true, by rw [hd]; simp, hne, by omega, by simpa using this, HTM.out.tail, by omega, HR5.out, HK4.out.trans HK5.out⟩
end Go.Proofs.YtlnbikcfjnloaaaGreatDoor

namespace Go.Proofs.YtlnbikcfjnloaaaGreatDoor
set_option linter.unusedVariables false
set_option linter.unusedSimpArgs false
open Go.RowKit

/-- A line of atoms with its return. -/
theorem joinS_line {a : List UInt8} {r : List (List UInt8)} : ∃ t m, joinS (a :: r) ++ [13] = a ++ (t :: m) ∧ ((t = 13 ∧ r = [] ∧ m = []) ∨ (t = 32 ∧ r ≠ [] ∧ m = joinS r ++ [13])) := by
  cases r with
  | nil => exact ⟨13, [], by simp [joinS], .inl ⟨rfl, rfl, rfl⟩⟩
  | cons b r => exact ⟨32, joinS (b :: r) ++ [13], by simp [joinS], .inr ⟨rfl, by simp, rfl⟩⟩

set_option maxRecDepth 100000 in
theorem t_fieldsLine (S : Source) (w : World) (r : Nat) (mx : Int) (inR : Bool) (br : Int) (pos : Nat) (last : Bool) (h : RdAt S w r mx inR br pos last) (fs : List (List UInt8)) (hf0 : fs ≠ []) (hfl : fs.length < 1000) (hf : ∀ a ∈ fs, AtomOk a)
    (hs : Has S.s pos (joinS fs ++ [13])) :
    Calls Tryz.prog 20 #[.pointer (some ⟨r, 0, none⟩)] w fun e w' => ∃ v, e = .returned (.tuple #[v, .nilIface]) ∧
      w'.ownsRow w.heap.size 20 1 v fs.length (fs.map strI) ∧ RdAt S w' r mx inR 0 (pos + (joinS fs).length) false ∧ Keep (RM S r) w w' := by
  obtain ⟨c0, c1, c2, c3, c4, f⟩ := h.cells
  have HF := Lib.hid hf
  have H := Lib.hid h
  have HS := Lib.hid hs
  have HF0 := Lib.hid hf0
  have HRM := Lib.hid (h.lt)
  have HRF := Lib.hid (h.ltF)
  clear h hf hs hf0
  go_enter Tryz.func20, Tryz.ntmps20
  go_wp2
  go_loopg [2] fs.length (fun k v wr => ∃ done rest p b l, fs = done ++ rest ∧ rest ≠ [] ∧ rest.length = k ∧ wr.ownsRow w.heap.size 20 1 v done.length (done.map strI) ∧ Has S.s p (joinS rest ++ [13]) ∧ p + (joinS rest).length = pos + (joinS fs).length ∧
    RdAt S wr r mx inR b p l ∧ Keep (RM S r) w wr)
  case atStart => exact ⟨[], fs, pos, br, last, rfl, HF0.out, rfl, World.ownsRow_nil _ _ _ _, HS.out, rfl, H.out, Keep.refl _ _⟩
  case round =>
    obtain ⟨done, rest, p, b, l, hd, hr0, hrl, hown, hhas, hp, hR, hk⟩ := hrel
    cases rest with
    | nil => exact absurd rfl hr0
    | cons a rest =>
    have hok : AtomOk a := HF.out a (by rw [hd]; simp)
    obtain ⟨t, m, he, ht⟩ := joinS_line (a := a) (r := rest)
    rw [he] at hhas
    have hlen := congrArg List.length he
    simp only [List.length_append, List.length_cons, List.length_nil] at hlen
    obtain ⟨ha, htm⟩ := hhas.app
    have ht0 := htm.head
    have hle := htm.len
    simp only [List.length_cons] at hle
    have h0 := ha.get 0 hok.pos
    have hx1 := hok.ch 0 hok.pos
    rw [Nat.add_zero] at h0
    obtain ⟨x, hx⟩ : ∃ x : Nat, x = (a.getD 0 0).toNat := ⟨_, rfl⟩
    rw [← hx] at hx1
    have hx3 : ((S.s.getD p 0).toNat : Int) = (x : Int) := by rw [h0, hx]
    obtain ⟨x1, x2, x3, x4, x5, x6, x7, x8⟩ := hx1
    have n40 : ((x : Int) == 40) = false := by rw [beq_eq_false_iff_ne]; omega
    have n41 : ((x : Int) == 41) = false := by rw [beq_eq_false_iff_ne]; omega
    have n123 : ((x : Int) == 123) = false := by rw [beq_eq_false_iff_ne]; omega
    have n34 : ((x : Int) == 34) = false := by rw [beq_eq_false_iff_ne]; omega
    have n13 : ((x : Int) == 13) = false := by rw [beq_eq_false_iff_ne]; omega
    have hdl : done.length < 1000 := by have := congrArg List.length hd; simp at this; omega
    have hat : ∀ inR, AtomEnd inR (S.s.getD (p + a.length) 0).toNat := by
      intro inR
      rw [ht0]
      rcases ht with ⟨rfl, _⟩ | ⟨rfl, _⟩
      · exact .inl rfl
      · exact .inr (.inl rfl)
    have htv : ∃ c : Int, ((S.s.getD (p + a.length) 0).toNat : Int) = c ∧ (c = 13 ∨ c = 32) ∧ ((c = 13 ∧ rest = [] ∧ m = []) ∨ (c = 32 ∧ rest ≠ [] ∧ m = joinS rest ++ [13])) := by
      refine ⟨_, rfl, ?_⟩
      rw [ht0]
      rcases ht with ⟨rfl, h⟩ | ⟨rfl, h⟩
      · exact ⟨.inl rfl, .inl ⟨rfl, h⟩⟩
      · exact ⟨.inr rfl, .inr ⟨rfl, h⟩⟩
    obtain ⟨c, hte, hc, hcc⟩ := htv
    have hget := fun j hj => ha.get j hj
    have hown0 := fun w1 (hk : Keep (RM S r) wr w1) => ownsRow_keep hown hk (fun k hk1 hk2 hm => Nat.not_lt.2 hk1 (HRM.out k hm))
    obtain ⟨e0, e1, e2, e3, e4, ff⟩ := hR.cells
    have hplt : p < S.s.length := by have := hok.pos; omega
    have hpl2 : p + a.length < S.s.length := by omega
    have hsz := hk.size
    have HX3 := Lib.hid hx3
    have HR := Lib.hid hR
    have HK := Lib.hid hk
    have HOK := Lib.hid hok
    have HAT := Lib.hid hat
    have HTE := Lib.hid hte
    have HG := Lib.hid hget
    have HOWN := Lib.hid hown0
    have HD := Lib.hid (And.intro hd (And.intro he (And.intro hlen hp)))
    have HTM := Lib.hid htm
    clear hhas ha hx3 hR hk hok hat hte hget hown0 hd he hp h0 ht0 hown hx hlen htm hle
    have HTT := Lib.hid hcc
    clear ht hcc
    rcases hc with rfl | rfl
    all_goals
      go_wp2_with (first
        | (with_reducible refine at_inv ?_; refine rd_read (.tmp 11) (x : Int) HR.out hplt HX3.out (by omega) rfl rfl rfl ?_; intro w1 hR1 hk1; obtain ⟨g0, g1, g2, g3, g4, f1⟩ := hR1.cells; have HR1 := Lib.hid hR1; have HK1 := Lib.hid hk1; clear hR1 hk1)
        | (with_reducible refine at_inv ?_; refine rd_unread (.tmp 21) HR1.out rfl rfl rfl ?_; intro w2 hR2 hk2; rw [Nat.add_sub_cancel] at hR2; have HR2 := Lib.hid hR2; have HK2 := Lib.hid hk2; clear hR2 hk2)
        | (go_at_call 34; refine (t_atom S _ r mx inR _ p _ HR2.out a hpl2 (by have := HOK.out.small; omega) HG.out HOK.out.ch (HAT.out _) HOK.out.ne).mono ?_; rintro e w3 ⟨rfl, hR3, hk3⟩; have hk03 := (HK1.out.trans HK2.out).trans hk3; have hle3 := hk03.size; have HR3 := Lib.hid hR3; have HK3 := Lib.hid hk03; clear hR3 hk3 hk03)
        | (at_builtin; refine wp_app1 Tryz.elemI (.tmp 61) (.tmp 63) rfl rfl w.heap.size _ done.length (done.map strI) rfl ((HOWN.out w3 HK3.out).alloc _) w3.heap.size (strI a) rfl (((Blk.new w3 _ _).cell 0).trans rfl) rfl (by omega) (by simp; omega) ?_; intro v4 w4 hv4 hk4 hb4 hat4; have hR4 := (HR3.out.keep (M := fun _ => False) ((Keep.refl _ w3).alloc _) (fun _ _ => id)).keep hk4 (fun k hk hb => Nat.not_lt.2 hb (HRF.out k hk)); have hk04 := ((HK.out.trans HK3.out).alloc (.cells #[strI a] 20)).trans' hk4 (fun i hi hb => absurd hi (Nat.not_lt.2 hb)); obtain ⟨i0, i1, i2, i3, i4, f4⟩ := hR4.cells; have HR4 := Lib.hid hR4; have HV4 := Lib.hid hv4; have HK4 := Lib.hid hk04; clear hR4 hv4 hk4 hb4 hat4 hk04)
        | (with_reducible refine at_inv ?_; refine rd_read (.tmp 69) _ HR4.out hpl2 HTE.out (by omega) rfl rfl rfl ?_; intro w5 hR5 hk5; obtain ⟨j0, j1, j2, j3, j4, f5⟩ := hR5.cells; have HR5 := Lib.hid hR5; have HK5 := Lib.hid hk5; clear hR5 hk5)
        | (with_reducible refine at_inv ?_; refine rd_unread (.tmp 99) HR5.out rfl rfl rfl ?_; intro w6 hR6 hk6; rw [Nat.add_sub_cancel] at hR6; have HR6 := Lib.hid hR6; have HK6 := Lib.hid (HK5.out.trans hk6); clear hR6 hk6))
    · obtain ⟨hd, he, hlen, hp⟩ := HD.out
      rcases HTT.out with ⟨_, rfl, rfl⟩ | ⟨h, _⟩
      · go_ret2
        simp only [List.length_nil] at hlen
        refine ⟨v4, rfl, ?_, ?_, HK4.out.trans HK6.out⟩
        · rw [hd]
          have := ownsRow_keep HV4.out HK6.out (fun k hk1 hk2 hm => Nat.not_lt.2 hk1 (HRM.out k hm))
          simpa using this
        · have := HR6.out
          rw [show p + a.length = pos + (joinS fs).length from by omega] at this
          exact this
      · exact absurd h (by decide)
    · obtain ⟨hd, he, hlen, hp⟩ := HD.out
      rcases HTT.out with ⟨h, _⟩ | ⟨_, hne, rfl⟩
      · exact absurd h (by decide)
      · have hl3 : rest.length + 1 = gk := by simpa using hrl
        go_roundg (gk - 1)
        case measure => omega
        case rel =>
          have := ownsRow_keep HV4.out HK5.out (fun k hk1 hk2 hm => Nat.not_lt.2 hk1 (HRM.out k hm))
          simp only [List.length_append, List.length_cons, List.length_nil] at hlen
          exact ⟨done ++ [a], rest, p + a.length + 1, 0, true, by rw [hd]; simp, hne, by omega, by simpa using this, HTM.out.tail, by omega, HR5.out, HK4.out.trans HK5.out⟩
end Go.Proofs.YtlnbikcfjnloaaaGreatDoor

namespace Go.Proofs.YtlnbikcfjnloaaaGreatDoor
set_option linter.unusedVariables false
set_option linter.unusedSimpArgs false
open Go.RowKit

set_option maxRecDepth 100000 in
/-- A line of atoms. -/
theorem t_line (S : Source) (hU : Unread0 S) (w : World) (r : Nat) (mx : Int) (inR : Bool) (br : Int) (pos : Nat) (last : Bool) (h : RdAt S w r mx inR br pos last) (fs : List (List UInt8)) (hf0 : fs ≠ []) (hfl : fs.length < 1000) (hf : ∀ a ∈ fs, AtomOk a)
    (hs : Has S.s pos (joinS fs ++ [13] ++ [10])) :
    Calls Tryz.prog 12 #[.pointer (some ⟨r, 0, none⟩)] w fun e w' => ∃ v, e = .returned (.tuple #[v, .nilIface]) ∧
      w'.ownsRow w.heap.size 20 1 v fs.length (fs.map strI) ∧ Keep (RM S r) w w' := by
  have h1 := hs.app
  have h2 := h1.1.app.2
  have h3 := h1.2
  have hl := hs.len
  simp only [List.length_append, List.length_cons, List.length_nil] at hl h3
  have e1 : S.s.getD (pos + (joinS fs).length) 0 = 13 := h2.head
  have e2 : S.s.getD (pos + (joinS fs).length + 1) 0 = 10 := by rw [show pos + (joinS fs).length + 1 = pos + ((joinS fs).length + (0 + 1)) from by omega]; exact h3.head
  obtain ⟨c0, c1, c2, c3, c4, f⟩ := h.cells
  have HRM := Lib.hid h.lt
  have H := Lib.hid h
  have HS := Lib.hid h1.1
  have HF := Lib.hid hf
  have HF0 := Lib.hid hf0
  have HE := Lib.hid (And.intro e1 e2)
  have HU := Lib.hid hU
  clear h hs h1 h2 h3 e1 e2 hf hf0 hU
  go_enter Tryz.func12, Tryz.ntmps12
  go_wp2_with (first
    | (go_at_call 20; refine (t_fieldsLine S _ r mx inR br pos last H.out fs HF0.out hfl HF.out HS.out).mono ?_; rintro e w1 ⟨v, rfl, hv, hR, hk⟩; obtain ⟨g0, g1, g2, g3, g4, f1⟩ := hR.cells; have HV := Lib.hid hv; have HR1 := Lib.hid hR; have HK1 := Lib.hid hk; clear hv hR hk)
    | (with_reducible refine at_inv ?_; refine rd_unread0 (.tmp 14) HU.out HR1.out rfl rfl rfl ?_; intro v2 w2 hR2 hk2; have HR2 := Lib.hid hR2; have HK2 := Lib.hid hk2; clear hR2 hk2)
    | (go_at_call 21; refine (t_crlf S _ r mx inR 0 _ false HR2.out (by omega) HE.out.1 HE.out.2).mono ?_; rintro e w3 ⟨rfl, hR3, hk3⟩; have HK3 := Lib.hid (HK2.out.trans hk3); clear hR3 hk3))
  go_ret2
  exact ⟨v, rfl, ownsRow_keep HV.out HK3.out (fun k hk1 hk2 hm => Nat.not_lt.2 hk1 (HRM.out k hm)), HK1.out.trans HK3.out⟩
end Go.Proofs.YtlnbikcfjnloaaaGreatDoor

namespace Go.Proofs.YtlnbikcfjnloaaaGreatDoor
set_option linter.unusedVariables false
set_option linter.unusedSimpArgs false
open Go.RowKit

theorem Tryz.elemB : Elem Tryz.prog 56 5 (.int .u8 0) 1 :=
  ⟨by kernel_rfl, info_parts (by kernel_rfl), rfl, by decide⟩
section
variable {P : Program} {ops : Array Oper} {Q : Exit → Act → World → Prop} {rest : List Oper} {o : Oper} {a : Act} {w : World}
theorem wp_make1 {t e : TypeId} {z : Value} {b : Nat} (hE : Elem P t e z b) (l c : Operand) (hg : o.guard = none) (ho : o.op = .makeSlice t l c) (n : Nat) (hl : a.eval l = .int .i64 n) (hc : a.eval c = .int .i64 n) (hn : n < 1000000)
    (h : ∀ w' ys, w'.ownsRow w.heap.size e 1 (.slice (some ⟨w.heap.size, 0, none⟩) n n) n ys → Keep (fun _ => False) w w' → wpList P ops Q rest (a.put o.dst (.slice (some ⟨w.heap.size, 0, none⟩) n n)) w') :
    wpList P ops Q (o :: rest) a w := by
  obtain ⟨i, hi, hz, h11, hb⟩ := hE.info
  have hsm := hE.small
  refine wpList_make_full w hg l c t ho w.heap.size e i z 1 hE.und hi hz h11 .i64 .i64 n n n hl hc rfl rfl ?_ (by unfold maxLen; omega) (Nat.le_refl _) ?_
  · rw [hb]
    have : b * n ≤ 64 * 1000000 := Nat.mul_le_mul hsm (by omega)
    omega
  · intro w' h1 h2
    exact h w' _ h1 ⟨h2.os, h2.tape, h2.output, h2.size, fun k hk _ => h2.block k hk (by simp)⟩
theorem wp_makeB {t e : TypeId} {z : Value} {b : Nat} (hE : Elem P t e z b) (l c : Operand) (hg : o.guard = none) (ho : o.op = .makeSlice t l c) (n : Nat) (hl : a.eval l = .int .i64 n) (hc : a.eval c = .int .i64 n) (hn : n < 1000000) (h0 : 0 < n)
    (h : ∀ w' cur, Blk w' w.heap.size cur e → cur.size = n → Keep (fun _ => False) w w' → wpList P ops Q rest (a.put o.dst (.slice (some ⟨w.heap.size, 0, none⟩) n n)) w') :
    wpList P ops Q (o :: rest) a w := by
  refine wp_make1 hE l c hg ho n hl hc hn fun w' ys hown hk => ?_
  obtain ⟨_, ⟨h1, _⟩ | ⟨g, cap, cur, hv, _, hg1, _, _, hc1, _⟩⟩ := hown
  · cases h1
  · injection hv with ha _ hcap
    injection ha with ha
    injection ha with ha
    subst ha
    subst hcap
    exact h w' cur hg1 (by simpa using hc1) hk
end

set_option maxRecDepth 100000 in
theorem t_reader (w : World) (s : List UInt8) (h0 : 0 < s.length) (hl : s.length ≤ 4096) (hF : First w) (hE : ∃ v, w.cell? ⟨17, 0, none⟩ = some v) :
    Calls Tryz.prog 11 #[.string (bs s), .int .i64 0] w fun e w' => ∃ q r b g sr, e = .returned (.pointer (some ⟨q, 0, none⟩)) ∧ w'.cell? ⟨q, 0, none⟩ = some (.pointer (some ⟨r, 0, none⟩)) ∧
      RdAt (brSrc b g sr s) w' r 1048576 false 0 0 false ∧ (∀ k, RM (brSrc b g sr s) r k → w.heap.size ≤ k) ∧ Keep (fun _ => False) w w' := by
  have HF := Lib.hid hF
  have HE := Lib.hid hE
  clear hF hE
  have hta : ∀ (v : Value) (W : World), (Instr.typeAssert (.iface 43 v) 120 44 true).run Tryz.prog W = .ok (.tuple #[.pointer none, .bool false]) W := fun v W => by rfl
  go_enter Tryz.func11, Tryz.ntmps11
  have hB1 := Blk.new w #[.string (bs s), .int .i64 0, .int .i64 (-1)] 118
  have hB2 := Blk.new (w.alloc (.cells #[.string (bs s), .int .i64 0, .int .i64 (-1)] 118)) #[.slice none 0 0, .nilIface, .int .i64 0, .int .i64 0, .nilIface, .int .i64 0, .int .i64 0] 167
  have z1 : (w.alloc (.cells #[.string (bs s), .int .i64 0, .int .i64 (-1)] 118)).heap.size = w.heap.size + 1 := by simp
  rw [z1] at hB2
  have HB1 := Lib.hid (hB1.alloc (.cells #[.slice none 0 0, .nilIface, .int .i64 0, .int .i64 0, .nilIface, .int .i64 0, .int .i64 0] 167))
  have HB2 := Lib.hid hB2
  have HK0 := Lib.hid (((Keep.refl (fun _ => False) w).alloc (.cells #[.string (bs s), .int .i64 0, .int .i64 (-1)] 118)).alloc (.cells #[.slice none 0 0, .nilIface, .int .i64 0, .int .i64 0, .nilIface, .int .i64 0, .int .i64 0] 167))
  clear hB1 hB2 z1
  go_wp2_with (first
    | (at_make; refine wp_makeB Tryz.elemB (.tmp 27) (.tmp 27) rfl rfl 4096 rfl rfl (by decide) (by decide) ?_; intro w1 cur hg0 hc1 hk; have hg1 : Blk w1 (w.heap.size + 1 + 1) cur 5 := (by simpa using hg0); clear hg0; have hb1 := HB1.out.keep hk id; have hb2 := HB2.out.keep hk id; have e0 : w1.cell? ⟨w.heap.size + 1, 0, none⟩ = some (.slice none 0 0) := (hb2.cell 0).trans rfl; have e1 : w1.cell? ⟨w.heap.size + 1, 1, none⟩ = some .nilIface := (hb2.cell 1).trans rfl; have e2 : w1.cell? ⟨w.heap.size + 1, 2, none⟩ = some (.int .i64 0) := (hb2.cell 2).trans rfl; have e3 : w1.cell? ⟨w.heap.size + 1, 3, none⟩ = some (.int .i64 0) := (hb2.cell 3).trans rfl; have e4 : w1.cell? ⟨w.heap.size + 1, 4, none⟩ = some .nilIface := (hb2.cell 4).trans rfl; have e5 : w1.cell? ⟨w.heap.size + 1, 5, none⟩ = some (.int .i64 0) := (hb2.cell 5).trans rfl; have e6 : w1.cell? ⟨w.heap.size + 1, 6, none⟩ = some (.int .i64 0) := (hb2.cell 6).trans rfl; have ef := hb2.free; have HG := Lib.hid (And.intro hg1 hc1); have HB3 := Lib.hid hb1; have HB4 := Lib.hid hb2; have HK1 := Lib.hid (HK0.out.trans hk); have hz := hk.size; simp at hz; clear hg1 hc1 hb1 hb2 hk)
    | go_in)
  go_end0
  go_wp2_with go_in
  go_ret
  have hbB : Blk (((((((w1.setCell ⟨w.heap.size + 1, 0, none⟩ (.slice (some ⟨w.heap.size + 1 + 1, 0, none⟩) 4096 4096)).setCell ⟨w.heap.size + 1, 1, none⟩ (.iface 43 (.pointer (some ⟨w.heap.size, 0, none⟩)))).setCell ⟨w.heap.size + 1, 2, none⟩ (.int .i64 0)).setCell ⟨w.heap.size + 1, 3, none⟩ (.int .i64 0)).setCell ⟨w.heap.size + 1, 4, none⟩ .nilIface).setCell ⟨w.heap.size + 1, 5, none⟩ (.int .i64 (-1))).setCell ⟨w.heap.size + 1, 6, none⟩ (.int .i64 (-1))) (w.heap.size + 1) #[.slice (some ⟨w.heap.size + 1 + 1, 0, none⟩) 4096 4096, .iface 43 (.pointer (some ⟨w.heap.size, 0, none⟩)), .int .i64 0, .int .i64 0, .nilIface, .int .i64 (-1), .int .i64 (-1)] 167 := (((((((HB4.out.set 0 _).set 1 _).set 2 _).set 3 _).set 4 _).set 5 _).set 6 _)
  have hgG : Blk (((((((w1.setCell ⟨w.heap.size + 1, 0, none⟩ (.slice (some ⟨w.heap.size + 1 + 1, 0, none⟩) 4096 4096)).setCell ⟨w.heap.size + 1, 1, none⟩ (.iface 43 (.pointer (some ⟨w.heap.size, 0, none⟩)))).setCell ⟨w.heap.size + 1, 2, none⟩ (.int .i64 0)).setCell ⟨w.heap.size + 1, 3, none⟩ (.int .i64 0)).setCell ⟨w.heap.size + 1, 4, none⟩ .nilIface).setCell ⟨w.heap.size + 1, 5, none⟩ (.int .i64 (-1))).setCell ⟨w.heap.size + 1, 6, none⟩ (.int .i64 (-1))) (w.heap.size + 1 + 1) cur 5 := (((((((HG.out.1.far (p := ⟨w.heap.size + 1, 0, none⟩) (show w.heap.size + 1 + 1 ≠ w.heap.size + 1 from by omega) _).far (p := ⟨w.heap.size + 1, 1, none⟩) (show w.heap.size + 1 + 1 ≠ w.heap.size + 1 from by omega) _).far (p := ⟨w.heap.size + 1, 2, none⟩) (show w.heap.size + 1 + 1 ≠ w.heap.size + 1 from by omega) _).far (p := ⟨w.heap.size + 1, 3, none⟩) (show w.heap.size + 1 + 1 ≠ w.heap.size + 1 from by omega) _).far (p := ⟨w.heap.size + 1, 4, none⟩) (show w.heap.size + 1 + 1 ≠ w.heap.size + 1 from by omega) _).far (p := ⟨w.heap.size + 1, 5, none⟩) (show w.heap.size + 1 + 1 ≠ w.heap.size + 1 from by omega) _).far (p := ⟨w.heap.size + 1, 6, none⟩) (show w.heap.size + 1 + 1 ≠ w.heap.size + 1 from by omega) _)
  have hsS : Blk (((((((w1.setCell ⟨w.heap.size + 1, 0, none⟩ (.slice (some ⟨w.heap.size + 1 + 1, 0, none⟩) 4096 4096)).setCell ⟨w.heap.size + 1, 1, none⟩ (.iface 43 (.pointer (some ⟨w.heap.size, 0, none⟩)))).setCell ⟨w.heap.size + 1, 2, none⟩ (.int .i64 0)).setCell ⟨w.heap.size + 1, 3, none⟩ (.int .i64 0)).setCell ⟨w.heap.size + 1, 4, none⟩ .nilIface).setCell ⟨w.heap.size + 1, 5, none⟩ (.int .i64 (-1))).setCell ⟨w.heap.size + 1, 6, none⟩ (.int .i64 (-1))) w.heap.size #[.string (bs s), .int .i64 0, .int .i64 (-1)] 118 := (((((((HB3.out.far (p := ⟨w.heap.size + 1, 0, none⟩) (show w.heap.size ≠ w.heap.size + 1 from by omega) _).far (p := ⟨w.heap.size + 1, 1, none⟩) (show w.heap.size ≠ w.heap.size + 1 from by omega) _).far (p := ⟨w.heap.size + 1, 2, none⟩) (show w.heap.size ≠ w.heap.size + 1 from by omega) _).far (p := ⟨w.heap.size + 1, 3, none⟩) (show w.heap.size ≠ w.heap.size + 1 from by omega) _).far (p := ⟨w.heap.size + 1, 4, none⟩) (show w.heap.size ≠ w.heap.size + 1 from by omega) _).far (p := ⟨w.heap.size + 1, 5, none⟩) (show w.heap.size ≠ w.heap.size + 1 from by omega) _).far (p := ⟨w.heap.size + 1, 6, none⟩) (show w.heap.size ≠ w.heap.size + 1 from by omega) _)
  have hkK : Keep (fun k => k = w.heap.size + 1) w1 (((((((w1.setCell ⟨w.heap.size + 1, 0, none⟩ (.slice (some ⟨w.heap.size + 1 + 1, 0, none⟩) 4096 4096)).setCell ⟨w.heap.size + 1, 1, none⟩ (.iface 43 (.pointer (some ⟨w.heap.size, 0, none⟩)))).setCell ⟨w.heap.size + 1, 2, none⟩ (.int .i64 0)).setCell ⟨w.heap.size + 1, 3, none⟩ (.int .i64 0)).setCell ⟨w.heap.size + 1, 4, none⟩ .nilIface).setCell ⟨w.heap.size + 1, 5, none⟩ (.int .i64 (-1))).setCell ⟨w.heap.size + 1, 6, none⟩ (.int .i64 (-1))) := ((((((((Keep.refl (fun k => k = w.heap.size + 1) w1).at (fun _ => rfl) 0 _).at (fun _ => rfl) 1 _).at (fun _ => rfl) 2 _).at (fun _ => rfl) 3 _).at (fun _ => rfl) 4 _).at (fun _ => rfl) 5 _).at (fun _ => rfl) 6 _)
  have hsz7 : (((((((w1.setCell ⟨w.heap.size + 1, 0, none⟩ (.slice (some ⟨w.heap.size + 1 + 1, 0, none⟩) 4096 4096)).setCell ⟨w.heap.size + 1, 1, none⟩ (.iface 43 (.pointer (some ⟨w.heap.size, 0, none⟩)))).setCell ⟨w.heap.size + 1, 2, none⟩ (.int .i64 0)).setCell ⟨w.heap.size + 1, 3, none⟩ (.int .i64 0)).setCell ⟨w.heap.size + 1, 4, none⟩ .nilIface).setCell ⟨w.heap.size + 1, 5, none⟩ (.int .i64 (-1))).setCell ⟨w.heap.size + 1, 6, none⟩ (.int .i64 (-1))).heap.size = w1.heap.size := by simp [World.setCell]
  generalize (((((((w1.setCell ⟨w.heap.size + 1, 0, none⟩ (.slice (some ⟨w.heap.size + 1 + 1, 0, none⟩) 4096 4096)).setCell ⟨w.heap.size + 1, 1, none⟩ (.iface 43 (.pointer (some ⟨w.heap.size, 0, none⟩)))).setCell ⟨w.heap.size + 1, 2, none⟩ (.int .i64 0)).setCell ⟨w.heap.size + 1, 3, none⟩ (.int .i64 0)).setCell ⟨w.heap.size + 1, 4, none⟩ .nilIface).setCell ⟨w.heap.size + 1, 5, none⟩ (.int .i64 (-1))).setCell ⟨w.heap.size + 1, 6, none⟩ (.int .i64 (-1))) = W7 at hbB hgG hsS hkK hsz7 ⊢
  obtain ⟨v, hv⟩ := HE.out
  have hFl := cell_lt (HF.out 0 (by decide))
  have hEl := cell_lt hv
  have hr1 := Blk.new W7 #[.int .u32 1048576, .iface 44 (.pointer (some ⟨w.heap.size + 1, 0, none⟩)), .nilFunc, .int .i64 0, .bool false] 63
  rw [hsz7] at hr1
  have hk1 := HK1.out
  have hkW : Keep (fun _ => False) w W7 := hk1.trans' hkK (fun i hi h => by omega)
  have hlt := hbB.lt
  have hlt2 := hgG.lt
  have hq := Blk.new (W7.alloc (.cells #[.int .u32 1048576, .iface 44 (.pointer (some ⟨w.heap.size + 1, 0, none⟩)), .nilFunc, .int .i64 0, .bool false] 63)) #[.pointer (some ⟨w1.heap.size, 0, none⟩), .int .i64 ((bs s).size : Nat), .pointer (some ⟨w.heap.size, 0, none⟩), .pointer (some ⟨w.heap.size + 1, 0, none⟩)] 46
  rw [show (W7.alloc (.cells #[.int .u32 1048576, .iface 44 (.pointer (some ⟨w.heap.size + 1, 0, none⟩)), .nilFunc, .int .i64 0, .bool false] 63)).heap.size = w1.heap.size + 1 from by simp [hsz7]] at hq
  refine ⟨w1.heap.size + 1, w1.heap.size, w.heap.size + 1, w.heap.size + 1 + 1, w.heap.size, rfl, ?_, ⟨hr1.alloc _, ⟨⟨false, cur, -1, 0, -1, (hbB.alloc _).alloc _, (hsS.alloc _).alloc _, (hgG.alloc _).alloc _, HG.out.2, (fun h => by cases h), fun _ => ⟨rfl, rfl, rfl⟩⟩, ?_⟩, ?_⟩, ?_, (hkW.alloc _).alloc _⟩
  · exact (hq.cell 0).trans rfl
  · exact ⟨(HF.out.keep hkW id).keep (((Keep.refl (fun _ => False) W7).alloc _).alloc _) id, ⟨v, ((World.cell?_of_block (a := ⟨17, 0, none⟩) (((hkW.alloc _).alloc _).block _ hEl id))).trans hv⟩, Nat.zero_le _, fun k hk h => by
      have : k < w.heap.size := by rcases hk with rfl | rfl <;> assumption
      rcases h with h | h | h <;> omega, (fun h => by cases h), h0, hl⟩
  · rintro (h | h)
    · rcases h with h | h | h <;> omega
    · rcases h with h | h <;> omega
  · rintro k (h | h)
    · omega
    · rcases h with h | h | h <;> omega
end Go.Proofs.YtlnbikcfjnloaaaGreatDoor
