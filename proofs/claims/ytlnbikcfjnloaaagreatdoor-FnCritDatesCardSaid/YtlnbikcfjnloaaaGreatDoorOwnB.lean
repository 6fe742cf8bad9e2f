/- The reader of runes over a string, for the proof of FnCritDates, at texts of up to 4096 bytes. -/
import Derived.Test.YtlnbikcfjnloaaaGreatDoorOwnA
import Derived.Lib.BufferWrite
namespace Go.Proofs.YtlnbikcfjnloaaaGreatDoor
set_option linter.unusedVariables false
set_option linter.unusedSimpArgs false
open Go.RowKit

/-- What FullRune looks up for a byte of ASCII. -/
def First (w : World) : Prop := ∀ x : Nat, x < 128 → w.cell? ⟨11, x, none⟩ = some (.int .u8 240)
theorem cell_lt {w : World} {k i : Nat} {v : Value} (h : w.cell? ⟨k, i, none⟩ = some v) : k < w.heap.size := by
  rw [World.cell?] at h
  by_cases hb : k < w.heap.size
  · exact hb
  · rw [Array.getElem?_eq_none (by simpa using hb)] at h
    cases h
theorem First.keep {M : Nat → Prop} {w w' : World} (h : First w) (hk : Keep M w w') (hM : ¬ M 11) : First w' := fun x hx =>
  (World.cell?_of_block (a := ⟨11, x, none⟩) (hk.block _ (cell_lt (h x hx)) hM)).trans (h x hx)
theorem t_full0 (w : World) (a : Option Addr) (c : Nat) :
    Calls Tryz.prog 185 #[.slice a 0 c] w fun e w' => e = .returned (.bool false) ∧ w' = w := by
  go_enter Tryz.func185, Tryz.ntmps185
  go_wp2
  go_ret
  exact ⟨rfl, rfl⟩
theorem t_full1 (w : World) (g o n c x : Nat) (hn : 0 < n) (hx : x < 128) (hc : w.cell? ⟨g, o, none⟩ = some (.int .u8 x)) (hf : First w) :
    Calls Tryz.prog 185 #[.slice (some ⟨g, o, none⟩) n c] w fun e w' => e = .returned (.bool true) ∧ w' = w := by
  have h1 := hf x hx
  clear hf
  go_enter Tryz.func185, Tryz.ntmps185
  go_wp2
  go_ret
  exact ⟨rfl, rfl⟩
set_option maxRecDepth 100000 in
theorem t_dec1 (w : World) (g o n c x : Nat) (hn : 0 < n) (hx : x < 128) (hc : w.cell? ⟨g, o, none⟩ = some (.int .u8 x)) :
    Calls Tryz.prog 186 #[.slice (some ⟨g, o, none⟩) n c] w fun e w' => e = .returned (.tuple #[.int .i32 x, .int .i64 1]) ∧ w = w' := by
  go_enter Tryz.func186, Tryz.ntmps186
  go_wp2
  go_loopg [8] 1 (fun k v w' => k = 1 ∧ v = .int .i64 0 ∧ w = w')
  case atStart => exact ⟨rfl, rfl, rfl⟩
  case round =>
    obtain ⟨rfl, rfl, rfl⟩ := hrel
    go_wp2
    go_ret2
    exact ⟨rfl, rfl⟩

section
variable {P : Program} {Q : Exit → Act → World → Prop} {K : Act → World → Prop} {o : Oper} {a : Act} {w : World}
/-- 'copy(b, s)' of a string into a row of bytes. -/
theorem op_copy (d s : Operand) (dT sT e : TypeId) (ho : o.op = .call { callee := .builtin .copy, args := #[d, s], argTypes := #[dT, sT] }) (g dLen dCap : Nat) (l : List UInt8) (cur : Array Value) (t : TypeId)
    (hd : a.eval d = .slice (some ⟨g, 0, none⟩) dLen dCap) (hs : a.eval s = .string (bs l)) (hu : P.underlying dT = some (.slice e)) (hz : (P.info? e).map (·.size) = some 1) (hb : Blk w g cur t) (hle : l.length ≤ dLen) (hfit : l.length ≤ cur.size)
    (h : ∀ (arr : Array Value) (w' : World), Blk w' g arr t → arr.size = cur.size → (∀ i, i < l.length → arr[i]? = some (.int .u8 ((l.getD i 0).toNat : Int))) → Keep (· = g) w w' → K (a.put o.dst (.int .i64 (l.length : Nat))) w') :
    o.wp P a w K Q := by
  have hrun := Lib.run_copy_row_string (P := P) w dT sT o.type e g 0 dLen dCap (bs l) cur t hu hz hb (by rw [bs_size]; exact hle) (by rw [bs_size, Nat.zero_add]; exact hfit)
  rw [bs_size, bs_data] at hrun
  unfold Oper.wp
  simp only [execOp, ho, resolve, invoke, builtin, Result.andThen, Sem.run_bind, Sem.run_pure]
  rw [show Array.map a.eval #[d, s] = #[.slice (some ⟨g, 0, none⟩) dLen dCap, .string (bs l)] from by simp [hd, hs], hrun]
  have hlen : (cur.toList.take 0 ++ Lib.byteCells l ++ cur.toList.drop (0 + l.length)).toArray.size = cur.size := by
    simp [Lib.byteCells]
    omega
  refine h (cur.toList.take 0 ++ Lib.byteCells l ++ cur.toList.drop (0 + l.length)).toArray _ (setRow_heap w g cur _ t (0, 0) hb) hlen (fun i hi => ?_) ⟨rfl, rfl, rfl, ?_, fun k hk hm => setRow_other w g k _ hm⟩
  · simp [Lib.byteCells, List.getElem?_append, hi, List.getD]
  · simp [World.setRow]

/-- A call of a method through an interface value, with its arguments. -/
theorem op_inv (x : Operand) (m : String) (xs : Array Operand) (ts : Array TypeId) {v : Value} {R : Ending → World → Prop} (ho : o.op = .call { callee := .invoke x m, args := xs, argTypes := ts }) (hx : a.eval x = v)
    (hc : ∃ f args, (invoke (.fn (.method m) #[]) (#[v] ++ xs.map a.eval)).run P w = .ok (.enter f args) w ∧ Calls P f args w R)
    (h : ∀ u w', R (.returned u) w' → K (a.put o.dst u) w') (hp : ∀ c w', ¬ R (.panicked c) w') (hq : ∀ w', ¬ R .outgrown w') : o.wp P a w K Q := by
  obtain ⟨f, args, hr, hc⟩ := hc
  unfold Oper.wp
  have he : (execOp a.eval o).run P w = .ok (.enter f args) w := by
    unfold execOp
    rw [ho]
    simp only [resolve, hx, Sem.run_bind, Sem.run_pure, Result.andThen_ok]
    simpa using hr
  rw [he]
  refine hc.mono fun e w' hR => ?_
  cases e with
  | returned u => exact h u w' hR
  | panicked c => exact absurd hR (hp c w')
  | outgrown => exact absurd hR (hq w')
/-- A call of a function by its name. -/
theorem op_call (f : FuncId) (x : Operand) (ts : Array TypeId) {R : Ending → World → Prop} (ho : o.op = .call { callee := .value (.func f), args := #[x], argTypes := ts }) (y : Value) (hy : a.eval x = y) (hrun : (callFunc f #[y]).run P w = .ok (.enter f #[y]) w)
    (hc : Calls P f #[y] w R) (h : ∀ u w', R (.returned u) w' → K (a.put o.dst u) w') (hp : ∀ c w', ¬ R (.panicked c) w') (hq : ∀ w', ¬ R .outgrown w') : o.wp P a w K Q := by
  unfold Oper.wp
  have he : (execOp a.eval o).run P w = .ok (.enter f #[y]) w := by
    have h1 : execOp a.eval o = callFunc f (#[] ++ #[x].map a.eval ++ #[]) := by
      unfold execOp
      rw [ho]
      rfl
    rw [h1, Array.empty_append, Array.append_empty, show #[x].map a.eval = #[y] from by simp [hy]]
    exact hrun
  rw [he]
  refine hc.mono fun e w' hR => ?_
  cases e with
  | returned u => exact h u w' hR
  | panicked c => exact absurd hR (hp c w')
  | outgrown => exact absurd hR (hq w')
end

set_option maxRecDepth 100000 in
/-- strings.Reader.Read, at its start, into a row that takes all. -/
theorem t_sread (w : World) (sr g : Nat) (s : List UInt8) (pr : Int) (cur : Array Value) (hs : Blk w sr #[.string (bs s), .int .i64 0, .int .i64 pr] 118) (hg : Blk w g cur 5) (hc : cur.size = 4096) (h0 : 0 < s.length) (hl : s.length ≤ 4096) :
    Calls Tryz.prog 175 #[.pointer (some ⟨sr, 0, none⟩), .slice (some ⟨g, 0, none⟩) 4096 4096] w fun e w' => e = .returned (.tuple #[.int .i64 (s.length : Nat), .nilIface]) ∧
      Blk w' sr #[.string (bs s), .int .i64 (s.length : Nat), .int .i64 (-1)] 118 ∧ (∃ arr : Array Value, Blk w' g arr 5 ∧ arr.size = 4096 ∧ ∀ i, i < s.length → arr[i]? = some (.int .u8 ((s.getD i 0).toNat : Int))) ∧ Keep (fun k => k = sr ∨ k = g) w w' := by
  have hsz : ∀ l, (bs l).size = l.length := bs_size
  have hne : sr ≠ g := hs.ne hg (by decide)
  have s0 : w.cell? ⟨sr, 0, none⟩ = some (.string (bs s)) := (hs.cell 0).trans rfl
  have s1 : w.cell? ⟨sr, 1, none⟩ = some (.int .i64 0) := (hs.cell 1).trans rfl
  have s2 : w.cell? ⟨sr, 2, none⟩ = some (.int .i64 pr) := (hs.cell 2).trans rfl
  have sf := hs.free
  have HS := Lib.hid hs
  have HG := Lib.hid hg
  have HC := Lib.hid hc
  have hse : ¬ s = [] := by intro h; rw [h] at h0; cases h0
  clear hs hg hc
  go_enter Tryz.func175, Tryz.ntmps175
  go_wp2
  go_quiet (fail)
  go_wp2
  refine Mix.wp_region_mixr [(0, 0), (1, 0), (2, 0), (3, 0), (4, 0), (5, 0), (6, 0), (7, 0), (8, 0), (9, 0), (10, 2), (11, 3)] (by kernel_rfl) (by kernel_rfl) (fun _ _ _ _ h => h) ?_
  repeat (first | (refine Mix.mix_pure rfl rfl (fun K hK => ?_); go_big_quiet_op; refine hK _ ?_; clear hK K) | (refine Mix.mix_free rfl rfl (fun K hK => ?_); go_big_quiet_op; refine hK _ ?_; clear hK K) | (refine Mix.mix_pure_want rfl rfl (fun K hK => ?_); go_big_quiet_op; refine hK _ ?_; clear hK K) | (refine Mix.mix_free_want rfl rfl (fun K hK => ?_); go_big_quiet_op; refine hK _ ?_; clear hK K) | (refine Mix.mix_skip rfl rfl (by decide) ?_; (try simp only [Act.put, List.setIfInBounds_toArray, List.set_cons_zero, List.set_cons_succ])))
  refine Mix.mix_step rfl rfl (fun K hK => ?_)
  refine op_copy (.tmp 20) (.tmp 29) _ _ 5 rfl g 4096 4096 s cur _ rfl ?_ (by kernel_rfl) (by kernel_rfl) (((HG.out.drewN _).far (Ne.symm hne) _).drew) hl (by rw [HC.out]; exact hl) ?_
  · show Value.string ((bs s).extract 0 s.length) = _
    rw [bs_extract, List.take_length, List.drop_zero]
  intro arr w1 hb1 hs1 hc1 hk1
  have hs2 := (((HS.out.drewN nq).set 2 (.int .i64 (-1))).drew).keep hk1 hne
  have HB1 := Lib.hid hb1
  have HS1 := Lib.hid (hs1.trans HC.out)
  have HC1 := Lib.hid hc1
  have HS2 := Lib.hid hs2
  have HK1 := Lib.hid ((((Keep.refl (fun k => k = sr ∨ k = g) w).drewN nq).at (fun _ => .inl rfl) 2 (.int .i64 (-1))).drew.trans (hk1.mono fun i _ h => .inr h))
  have r0 : w1.cell? ⟨sr, 0, none⟩ = some (.string (bs s)) := (hs2.cell 0).trans rfl
  have r1 : w1.cell? ⟨sr, 1, none⟩ = some (.int .i64 0) := (hs2.cell 1).trans rfl
  have r2 : w1.cell? ⟨sr, 2, none⟩ = some (.int .i64 (-1)) := (hs2.cell 2).trans rfl
  have rf := hs2.free
  clear hb1 hs1 hc1 hk1 hs2
  refine hK _ _ ?_
  clear hK K
  simp only [Act.put, List.setIfInBounds_toArray, List.set_cons_zero, List.set_cons_succ]
  repeat (first | (refine Mix.mix_pure rfl rfl (fun K hK => ?_); go_big_quiet_op; refine hK _ ?_; clear hK K) | (refine Mix.mix_free rfl rfl (fun K hK => ?_); go_big_quiet_op; refine hK _ ?_; clear hK K) | (refine Mix.mix_pure_want rfl rfl (fun K hK => ?_); go_big_quiet_op; refine hK _ ?_; clear hK K) | (refine Mix.mix_free_want rfl rfl (fun K hK => ?_); go_big_quiet_op; refine hK _ ?_; clear hK K) | (refine Mix.mix_skip rfl rfl (by decide) ?_; (try simp only [Act.put, List.setIfInBounds_toArray, List.set_cons_zero, List.set_cons_succ])))
  refine Mix.mix_nil ?_
  go_wp2
  go_ret2
  refine ⟨rfl, HS2.out.set 1 _, ⟨arr, HB1.out.far (Ne.symm hne) _, HS1.out, HC1.out⟩, HK1.out.at (fun _ => .inl rfl) 1 _⟩

/-- A bufio.Reader over a strings.Reader: block b, its row g, the reader below sr; read is to pos; it has been filled (f) or not. -/
def BrF (w : World) (b g sr : Nat) (s : List UInt8) (pos : Nat) (last f : Bool) : Prop :=
  ∃ (arr : Array Value) (lb si pr : Int), Blk w b #[.slice (some ⟨g, 0, none⟩) 4096 4096, .iface 43 (.pointer (some ⟨sr, 0, none⟩)), .int .i64 pos, .int .i64 (if f then (s.length : Int) else 0), .nilIface, .int .i64 lb, .int .i64 (if last then 1 else -1)] 167 ∧
    Blk w sr #[.string (bs s), .int .i64 si, .int .i64 pr] 118 ∧ Blk w g arr 5 ∧ arr.size = 4096 ∧ (f = true → ∀ i, i < s.length → arr[i]? = some (.int .u8 ((s.getD i 0).toNat : Int))) ∧ (f = false → si = 0 ∧ pos = 0 ∧ last = false)
structure BrSide (w : World) (b g sr : Nat) (s : List UInt8) (pos : Nat) (last : Bool) : Prop where
  first : First w
  err : ∃ v, w.cell? ⟨17, 0, none⟩ = some v
  le : pos ≤ s.length
  apart : ∀ k, (k = 11 ∨ k = 17) → ¬ (k = b ∨ k = sr ∨ k = g)
  one : last = true → 1 ≤ pos
  pos : 0 < s.length
  small : s.length ≤ 4096
def BrAt (w : World) (b g sr : Nat) (s : List UInt8) (pos : Nat) (last : Bool) : Prop := (∃ f, BrF w b g sr s pos last f) ∧ BrSide w b g sr s pos last

set_option maxRecDepth 100000 in
theorem t_fill (w : World) (b g sr : Nat) (s : List UInt8) (last : Bool) (h : BrF w b g sr s 0 last false) (h0 : 0 < s.length) (hl : s.length ≤ 4096) :
    Calls Tryz.prog 182 #[.pointer (some ⟨b, 0, none⟩)] w fun e w' => e = .returned (.tuple #[]) ∧ BrF w' b g sr s 0 last true ∧ Keep (fun k => k = b ∨ k = sr ∨ k = g) w w' := by
  obtain ⟨arr, lb, si, pr, hb, hs, hg, ha, _, hf⟩ := h
  obtain ⟨rfl, _, _⟩ := hf rfl
  have hbs : b ≠ sr := hb.ne hs (by decide)
  have hbg : b ≠ g := hb.ne hg (by decide)
  have b0 : w.cell? ⟨b, 0, none⟩ = some (.slice (some ⟨g, 0, none⟩) 4096 4096) := (hb.cell 0).trans rfl
  have b1 : w.cell? ⟨b, 1, none⟩ = some (.iface 43 (.pointer (some ⟨sr, 0, none⟩))) := (hb.cell 1).trans rfl
  have b2 : w.cell? ⟨b, 2, none⟩ = some (.int .i64 0) := (hb.cell 2).trans rfl
  have b3 : w.cell? ⟨b, 3, none⟩ = some (.int .i64 0) := (hb.cell 3).trans rfl
  have bf := hb.free
  have HB := Lib.hid hb
  have HS := Lib.hid hs
  have HG := Lib.hid hg
  have HA := Lib.hid ha
  clear hb hs hg ha hf
  go_enter Tryz.func182, Tryz.ntmps182
  go_wp2
  go_quiet (fail)
  go_wp2
  go_loopg [2] 1 (fun k v w' => k = 1 ∧ v = .int .i64 100 ∧ w' = w.drewN nq)
  case atStart => exact ⟨rfl, rfl, rfl⟩
  case round =>
    obtain ⟨rfl, rfl, rfl⟩ := hrel
    go_wp2
    refine Mix.wp_region_mixr [(0, 0), (1, 0), (2, 0), (3, 0), (4, 0), (5, 0), (6, 0), (7, 0), (8, 0), (9, 0), (10, 0), (11, 0), (12, 0), (13, 0), (14, 0), (15, 2), (16, 3), (17, 3), (18, 3), (19, 3), (20, 3)] (by kernel_rfl) (by kernel_rfl) (fun _ _ _ _ h => h) ?_
    repeat (first | (refine Mix.mix_pure rfl rfl (fun K hK => ?_); go_big_quiet_op; refine hK _ ?_; clear hK K) | (refine Mix.mix_free rfl rfl (fun K hK => ?_); go_big_quiet_op; refine hK _ ?_; clear hK K) | (refine Mix.mix_pure_want rfl rfl (fun K hK => ?_); go_big_quiet_op; refine hK _ ?_; clear hK K) | (refine Mix.mix_free_want rfl rfl (fun K hK => ?_); go_big_quiet_op; refine hK _ ?_; clear hK K) | (refine Mix.mix_skip rfl rfl (by decide) ?_; (try simp only [Act.put, List.setIfInBounds_toArray, List.set_cons_zero, List.set_cons_succ])))
    refine Mix.mix_step rfl rfl (fun K hK => ?_)
    refine op_inv (.tmp 72) "Read" #[.tmp 70] _ rfl rfl ⟨175, #[.pointer (some ⟨sr, 0, none⟩), .slice (some ⟨g, 0, none⟩) 4096 4096], by kernel_rfl, t_sread _ sr g s pr arr ((HS.out.drewN nq).drew) ((HG.out.drewN nq).drew) HA.out h0 hl⟩ ?_ (fun c w' hw => by cases hw.1) (fun w' hw => by cases hw.1)
    rintro u w1 ⟨hu, hs1, ⟨arr1, hg1, ha1, hc1⟩, hk1⟩
    injection hu with hu
    subst hu
    have hb1 := ((HB.out.drewN nq).drew).keep hk1 (fun h => h.elim hbs hbg)
    have HB1 := Lib.hid hb1
    have HS1 := Lib.hid hs1
    have HG1 := Lib.hid hg1
    have HC1 := Lib.hid (And.intro ha1 hc1)
    have HK1 := Lib.hid (((Keep.refl (fun k => k = b ∨ k = sr ∨ k = g) w).drewN nq).drew.trans (hk1.mono fun i _ h => .inr h))
    have d3 : w1.cell? ⟨b, 3, none⟩ = some (.int .i64 0) := (hb1.cell 3).trans rfl
    have df := hb1.free
    have hne0 : ((s.length : Int) == 0) = false := by rw [beq_eq_false_iff_ne]; omega
    clear hb1 hs1 hg1 ha1 hc1 hk1
    refine hK _ _ ?_
    clear hK K
    simp only [Act.put, List.setIfInBounds_toArray, List.set_cons_zero, List.set_cons_succ]
    repeat (first | (refine Mix.mix_pure rfl rfl (fun K hK => ?_); go_big_quiet_op; refine hK _ ?_; clear hK K) | (refine Mix.mix_free rfl rfl (fun K hK => ?_); go_big_quiet_op; refine hK _ ?_; clear hK K) | (refine Mix.mix_pure_want rfl rfl (fun K hK => ?_); go_big_quiet_op; refine hK _ ?_; clear hK K) | (refine Mix.mix_free_want rfl rfl (fun K hK => ?_); go_big_quiet_op; refine hK _ ?_; clear hK K) | (refine Mix.mix_skip rfl rfl (by decide) ?_; (try simp only [Act.put, List.setIfInBounds_toArray, List.set_cons_zero, List.set_cons_succ])))
    refine Mix.mix_nil ?_
    go_wp2
    refine bodyPost_ret (v := .tuple #[]) (by simp [results, Tryz.results182, go_sem]) rfl ?_
    exact ⟨rfl, ⟨arr1, lb, s.length, -1, HB1.out.set 3 _, HS1.out.far (Ne.symm hbs) _, HG1.out.far (Ne.symm hbg) _, HC1.out.1, fun _ => HC1.out.2, fun h => by cases h⟩, HK1.out.at (fun _ => .inl rfl) 3 _⟩

set_option maxRecDepth 100000 in
set_option maxHeartbeats 1000000 in
theorem t_br_read (w : World) (b g sr : Nat) (s : List UInt8) (pos : Nat) (last : Bool) (h : BrAt w b g sr s pos last) (hlt : pos < s.length) (hasc : (s.getD pos 0).toNat < 128) :
    Calls Tryz.prog 179 #[.pointer (some ⟨b, 0, none⟩)] w fun e w' => e = .returned (.tuple #[.int .i32 (s.getD pos 0).toNat, .int .i64 1, .nilIface]) ∧ (∃ f, BrF w' b g sr s (pos + 1) true f) ∧ Keep (fun k => k = b ∨ k = sr ∨ k = g) w w' := by
  obtain ⟨⟨f, hF⟩, hS⟩ := h
  have hsm := hS.small
  obtain ⟨x, hx⟩ : ∃ x : Nat, x = (s.getD pos 0).toNat := ⟨_, rfl⟩
  rw [← hx] at hasc ⊢
  have HF := Lib.hid hF
  have HS := Lib.hid hS
  have HX := Lib.hid hx
  clear hF hS hx
  go_enter Tryz.func179, Tryz.ntmps179
  go_wp2
  go_loopg [55] (if f then 1 else 2) (fun k _ wr => ∃ f2, BrF wr b g sr s pos last f2 ∧ k = (if f2 then 1 else 2) ∧ First wr ∧ Keep (fun k => k = b ∨ k = sr ∨ k = g) w wr)
  case atStart => exact ⟨f, HF.out, rfl, HS.out.first, Keep.refl _ _⟩
  case round =>
    obtain ⟨f2, hF2, hk2, hfi, hk⟩ := hrel
    obtain ⟨arr, lb, si, pr, hb, hs, hg, ha, hc, hf⟩ := id hF2
    have hbs : b ≠ sr := hb.ne hs (by decide)
    have hbg : b ≠ g := hb.ne hg (by decide)
    have b0 : wr.cell? ⟨b, 0, none⟩ = some (.slice (some ⟨g, 0, none⟩) 4096 4096) := (hb.cell 0).trans rfl
    have b2 : wr.cell? ⟨b, 2, none⟩ = some (.int .i64 pos) := (hb.cell 2).trans rfl
    have b4 : wr.cell? ⟨b, 4, none⟩ = some .nilIface := (hb.cell 4).trans rfl
    have b5 : wr.cell? ⟨b, 5, none⟩ = some (.int .i64 lb) := (hb.cell 5).trans rfl
    have b6 : wr.cell? ⟨b, 6, none⟩ = some (.int .i64 (if last then 1 else -1)) := (hb.cell 6).trans rfl
    have bf := hb.free
    have HF2 := Lib.hid hF2
    have HB := Lib.hid hb
    have HG := Lib.hid (And.intro hs (And.intro hg ha))
    have HC := Lib.hid hc
    have HK := Lib.hid hk
    have HFI := Lib.hid hfi
    cases f2 with
    | false =>
      obtain ⟨rfl, rfl, rfl⟩ := hf rfl
      have b3 : wr.cell? ⟨b, 3, none⟩ = some (.int .i64 0) := (hb.cell 3).trans rfl
      have hgk : gk = 2 := hk2
      have HGK := Lib.hid hgk
      clear hb hs hg ha hc hk hfi hF2 hk2 hf hgk
      go_wp2
      go_quiet ((go_at_call 185; exact Calls.quiet_of_same (t_full0 _ _ _)))
      obtain ⟨h1, h2, h3⟩ := HG.out
      have hfill := t_fill (wr.drewN nq) b g sr s false ⟨arr, lb, 0, pr, HB.out.drewN nq, h1.drewN nq, h2.drewN nq, h3, (fun h => by cases h), fun _ => ⟨rfl, rfl, rfl⟩⟩ hlt hsm
      have HFILL := Lib.hid hfill
      clear h1 h2 h3 hfill
      go_wp2_with (go_at_call 182; refine HFILL.out.mono ?_; rintro e w1 ⟨rfl, hF1, hk1⟩; have HF1 := Lib.hid hF1; have HK1 := Lib.hid hk1; clear hF1 hk1)
      go_roundg (gk - 1)
      case measure => have := HGK.out; omega
      case rel => exact ⟨true, HF1.out, by rw [HGK.out]; rfl, HFI.out.keep (((Keep.refl (fun k => k = b ∨ k = sr ∨ k = g) wr).drewN nq).trans HK1.out) (HS.out.apart _ (.inl rfl)), HK.out.trans (((Keep.refl (fun k => k = b ∨ k = sr ∨ k = g) wr).drewN nq).trans HK1.out)⟩
    | true =>
      have b3 : wr.cell? ⟨b, 3, none⟩ = some (.int .i64 s.length) := (hb.cell 3).trans rfl
      have hc2 := hc rfl
      have HC2 := Lib.hid hc2
      have hcx : wr.cell? ⟨g, pos, none⟩ = some (.int .u8 x) := by rw [HX.out]; exact (hg.cell pos).trans (hc2 pos hlt)
      clear hc2 HC hb hs hg ha hc hk hfi hF2 hk2 hf
      have hcall : s.length < pos + 4 → Calls Tryz.prog 185 #[.slice (some ⟨g, pos, none⟩) (s.length - pos) (4096 - pos)] wr.drew fun e w' => e = .returned (.bool true) ∧ w' = wr.drew := fun _ => t_full1 wr.drew g pos _ _ x (by omega) hasc hcx (fun y hy => HFI.out y hy)
      have hrun : (callFunc 185 #[.slice (some ⟨g, pos, none⟩) (s.length - pos) (4096 - pos)]).run Tryz.prog wr.drew = .ok (.enter 185 #[.slice (some ⟨g, pos, none⟩) (s.length - pos) (4096 - pos)]) wr.drew := by kernel_rfl
      have HCALL := Lib.hid hcall
      have HRUN := Lib.hid hrun
      clear hcall hrun
      by_cases hp : s.length < pos + 4
      · have hd : decide ((s.length : Int) < (pos : Int) + 4) = true := by rw [decide_eq_true_eq]; omega
        go_wp2
        refine Mix.wp_region_mixr [(0, 0), (1, 0), (2, 0), (3, 0), (4, 0), (5, 0), (6, 0), (7, 0), (8, 0), (9, 0), (10, 0), (11, 0), (12, 0), (13, 0), (14, 0), (15, 0), (16, 0), (17, 0), (18, 0), (19, 0), (20, 0), (21, 0), (22, 0), (23, 0), (24, 1), (25, 0), (26, 0), (27, 0), (28, 0), (29, 0), (30, 0), (31, 0), (32, 0), (33, 0), (34, 0), (35, 0), (36, 0), (37, 0), (38, 0), (39, 0), (40, 0), (41, 0), (42, 0), (43, 0), (44, 0), (45, 0), (46, 0), (47, 0), (48, 0), (49, 3), (50, 3)] (by kernel_rfl) (by kernel_rfl) (fun _ _ _ _ h => h) ?_
        repeat (first | (refine Mix.mix_pure rfl rfl (fun K hK => ?_); go_big_quiet_op; refine hK _ ?_; clear hK K) | (refine Mix.mix_free rfl rfl (fun K hK => ?_); go_big_quiet_op; refine hK _ ?_; clear hK K) | (refine Mix.mix_pure_want rfl rfl (fun K hK => ?_); go_big_quiet_op; refine hK _ ?_; clear hK K) | (refine Mix.mix_free_want rfl rfl (fun K hK => ?_); go_big_quiet_op; refine hK _ ?_; clear hK K) | (refine Mix.mix_skip rfl rfl (by decide) ?_; (try simp only [Act.put, List.setIfInBounds_toArray, List.set_cons_zero, List.set_cons_succ])))
        refine Mix.mix_keep rfl rfl (fun K hK => ?_)
        refine op_call 185 (.tmp 28) _ rfl (.slice (some ⟨g, pos, none⟩) (s.length - pos) (4096 - pos)) rfl HRUN.out (HCALL.out hp) ?_ (fun c w' hw => by cases hw.1) (fun w' hw => by cases hw.1)
        rintro u w1 ⟨hu, rfl⟩
        injection hu with hu
        subst hu
        refine hK _ _ ⟨⟨1, rfl⟩, ?_⟩
        clear hK K
        simp only [Act.put, List.setIfInBounds_toArray, List.set_cons_zero, List.set_cons_succ]
        repeat (first | (refine Mix.mix_pure rfl rfl (fun K hK => ?_); go_big_quiet_op; refine hK _ ?_; clear hK K) | (refine Mix.mix_free rfl rfl (fun K hK => ?_); go_big_quiet_op; refine hK _ ?_; clear hK K) | (refine Mix.mix_pure_want rfl rfl (fun K hK => ?_); go_big_quiet_op; refine hK _ ?_; clear hK K) | (refine Mix.mix_free_want rfl rfl (fun K hK => ?_); go_big_quiet_op; refine hK _ ?_; clear hK K) | (refine Mix.mix_skip rfl rfl (by decide) ?_; (try simp only [Act.put, List.setIfInBounds_toArray, List.set_cons_zero, List.set_cons_succ])))
        refine Mix.mix_nil ?_
        generalize hW : wr.drew = W1
        have hb1 : Blk W1 b _ 167 := hW ▸ HB.out.drew
        have hg1 : Blk W1 g arr 5 := hW ▸ HG.out.2.1.drew
        have hs1 : Blk W1 sr _ 118 := hW ▸ HG.out.1.drew
        have hk1 : Keep (fun k => k = b ∨ k = sr ∨ k = g) w W1 := hW ▸ HK.out.drew
        clear b0 b2 b3 b4 b5 b6 bf hcx hW
        have b0 : W1.cell? ⟨b, 0, none⟩ = some (.slice (some ⟨g, 0, none⟩) 4096 4096) := (hb1.cell 0).trans rfl
        have b2 : W1.cell? ⟨b, 2, none⟩ = some (.int .i64 pos) := (hb1.cell 2).trans rfl
        have b3 : W1.cell? ⟨b, 3, none⟩ = some (.int .i64 s.length) := (hb1.cell 3).trans rfl
        have b5 : W1.cell? ⟨b, 5, none⟩ = some (.int .i64 lb) := (hb1.cell 5).trans rfl
        have b6 : W1.cell? ⟨b, 6, none⟩ = some (.int .i64 (if last then 1 else -1)) := (hb1.cell 6).trans rfl
        have bf := hb1.free
        have hcx : W1.cell? ⟨g, pos, none⟩ = some (.int .u8 x) := by rw [HX.out]; exact (hg1.cell pos).trans (HC2.out pos hlt)
        have HB1 := Lib.hid (hb1.set 6 (.int .i64 (-1)))
        have HG1 := Lib.hid (hg1.far (p := ⟨b, 6, none⟩) hbg.symm (.int .i64 (-1)))
        have HS1 := Lib.hid (hs1.far (p := ⟨b, 6, none⟩) hbs.symm (.int .i64 (-1)))
        have HK1 := Lib.hid (hk1.at (b := b) (fun _ => .inl rfl) 6 (.int .i64 (-1)))
        clear hb1 hg1 hs1 hk1
        go_wp2
        generalize hW : W1.setCell ⟨b, 6, none⟩ (.int .i64 (-1)) = W2 at HB1 HG1 HS1 HK1 ⊢
        clear b0 b2 b3 b5 b6 bf hcx hW
        have b0 : W2.cell? ⟨b, 0, none⟩ = some (.slice (some ⟨g, 0, none⟩) 4096 4096) := (HB1.out.cell 0).trans rfl
        have b2 : W2.cell? ⟨b, 2, none⟩ = some (.int .i64 pos) := (HB1.out.cell 2).trans rfl
        have b3 : W2.cell? ⟨b, 3, none⟩ = some (.int .i64 s.length) := (HB1.out.cell 3).trans rfl
        have b5 : W2.cell? ⟨b, 5, none⟩ = some (.int .i64 lb) := (HB1.out.cell 5).trans rfl
        have b6 : W2.cell? ⟨b, 6, none⟩ = some (.int .i64 (-1)) := (HB1.out.cell 6).trans rfl
        have bf := HB1.out.free
        have hcx : W2.cell? ⟨g, pos, none⟩ = some (.int .u8 x) := by rw [HX.out]; exact (HG1.out.cell pos).trans (HC2.out pos hlt)
        have hne : ((pos : Int) == (s.length : Int)) = false := by rw [beq_eq_false_iff_ne]; omega
        go_quiet (fail)
        go_wp2
        have hdec : ∀ n : Nat, Calls Tryz.prog 186 #[.slice (some ⟨g, pos, none⟩) (s.length - pos) (4096 - pos)] (W2.drewN n).drew fun e w' => e = .returned (.tuple #[.int .i32 x, .int .i64 1]) ∧ (W2.drewN n).drew = w' := fun n => t_dec1 _ g pos _ _ x (by omega) hasc hcx
        have hrun2 : ∀ n : Nat, (callFunc 186 #[.slice (some ⟨g, pos, none⟩) (s.length - pos) (4096 - pos)]).run Tryz.prog (W2.drewN n).drew = .ok (.enter 186 #[.slice (some ⟨g, pos, none⟩) (s.length - pos) (4096 - pos)]) (W2.drewN n).drew := fun n => by kernel_rfl
        have HDEC := Lib.hid hdec
        have HRUN2 := Lib.hid hrun2
        clear hdec hrun2
        refine Mix.wp_region_mixr [(0, 0), (1, 0), (2, 0), (3, 0), (4, 0), (5, 0), (6, 0), (7, 0), (8, 0), (9, 0), (10, 0), (11, 0), (12, 3), (13, 2), (14, 3), (15, 3), (16, 3), (17, 3), (18, 3)] (by kernel_rfl) (by kernel_rfl) (fun _ _ _ _ h => h) ?_
        repeat (first | (refine Mix.mix_pure rfl rfl (fun K hK => ?_); go_big_quiet_op; refine hK _ ?_; clear hK K) | (refine Mix.mix_free rfl rfl (fun K hK => ?_); go_big_quiet_op; refine hK _ ?_; clear hK K) | (refine Mix.mix_pure_want rfl rfl (fun K hK => ?_); go_big_quiet_op; refine hK _ ?_; clear hK K) | (refine Mix.mix_free_want rfl rfl (fun K hK => ?_); go_big_quiet_op; refine hK _ ?_; clear hK K) | (refine Mix.mix_skip rfl rfl (by decide) ?_; (try simp only [Act.put, List.setIfInBounds_toArray, List.set_cons_zero, List.set_cons_succ])))
        refine Mix.mix_step rfl rfl (fun K hK => ?_)
        refine op_call 186 (.tmp 85) _ rfl (.slice (some ⟨g, pos, none⟩) (s.length - pos) (4096 - pos)) rfl (HRUN2.out _) (HDEC.out _) ?_ (fun c w' hw => by cases hw.1) (fun w' hw => by cases hw.1)
        rintro u w1 ⟨hu, rfl⟩
        injection hu with hu
        subst hu
        refine hK _ _ ?_
        clear hK K
        simp only [Act.put, List.setIfInBounds_toArray, List.set_cons_zero, List.set_cons_succ]
        repeat (first | (refine Mix.mix_pure rfl rfl (fun K hK => ?_); go_big_quiet_op; refine hK _ ?_; clear hK K) | (refine Mix.mix_free rfl rfl (fun K hK => ?_); go_big_quiet_op; refine hK _ ?_; clear hK K) | (refine Mix.mix_pure_want rfl rfl (fun K hK => ?_); go_big_quiet_op; refine hK _ ?_; clear hK K) | (refine Mix.mix_free_want rfl rfl (fun K hK => ?_); go_big_quiet_op; refine hK _ ?_; clear hK K) | (refine Mix.mix_skip rfl rfl (by decide) ?_; (try simp only [Act.put, List.setIfInBounds_toArray, List.set_cons_zero, List.set_cons_succ])))
        refine Mix.mix_nil ?_
        go_wp2
        refine Mix.wp_region_mixr [(0, 0), (1, 0), (2, 0), (3, 0), (4, 0), (5, 0), (6, 0), (7, 0), (8, 0), (9, 0), (10, 0), (11, 0), (12, 0), (13, 3), (14, 3), (15, 2)] (by kernel_rfl) (by kernel_rfl) (fun _ _ _ _ h => h) ?_
        repeat (first | (refine Mix.mix_pure rfl rfl (fun K hK => ?_); go_big_quiet_op; refine hK _ ?_; clear hK K) | (refine Mix.mix_free rfl rfl (fun K hK => ?_); go_big_quiet_op; refine hK _ ?_; clear hK K) | (refine Mix.mix_pure_want rfl rfl (fun K hK => ?_); go_big_quiet_op; refine hK _ ?_; clear hK K) | (refine Mix.mix_free_want rfl rfl (fun K hK => ?_); go_big_quiet_op; refine hK _ ?_; clear hK K) | (refine Mix.mix_skip rfl rfl (by decide) ?_; (try simp only [Act.put, List.setIfInBounds_toArray, List.set_cons_zero, List.set_cons_succ])))
        refine Mix.mix_step rfl rfl (fun K hK => ?_)
        go_wp2
        repeat (first | (refine Mix.mix_pure rfl rfl (fun K hK => ?_); go_big_quiet_op; refine hK _ ?_; clear hK K) | (refine Mix.mix_free rfl rfl (fun K hK => ?_); go_big_quiet_op; refine hK _ ?_; clear hK K) | (refine Mix.mix_pure_want rfl rfl (fun K hK => ?_); go_big_quiet_op; refine hK _ ?_; clear hK K) | (refine Mix.mix_free_want rfl rfl (fun K hK => ?_); go_big_quiet_op; refine hK _ ?_; clear hK K) | (refine Mix.mix_skip rfl rfl (by decide) ?_; (try simp only [Act.put, List.setIfInBounds_toArray, List.set_cons_zero, List.set_cons_succ])))
        refine Mix.mix_nil ?_
        go_wp2
        go_ret3
        refine ⟨rfl, ⟨true, ?_⟩, ?_⟩
        · exact ⟨arr, x, si, pr, ((((HB1.out.drewN _).set 2 _).set 5 _).set 6 _).drew, ((((HS1.out.drewN _).far hbs.symm _).far hbs.symm _).far hbs.symm _).drew, ((((HG1.out.drewN _).far hbg.symm _).far hbg.symm _).far hbg.symm _).drew, HG.out.2.2, fun _ => HC2.out, fun h => by cases h⟩
        · exact ((((HK1.out.drewN _).at (fun _ => .inl rfl) 2 _).at (fun _ => .inl rfl) 5 _).at (fun _ => .inl rfl) 6 _).drew
      · have hd : decide ((s.length : Int) < (pos : Int) + 4) = false := by rw [decide_eq_false_iff_not]; omega
        go_wp2
        go_quiet (fail)
        generalize hW : wr.drewN nq = W1
        have hb1 : Blk W1 b _ 167 := hW ▸ HB.out.drewN nq
        have hg1 : Blk W1 g arr 5 := hW ▸ HG.out.2.1.drewN nq
        have hs1 : Blk W1 sr _ 118 := hW ▸ HG.out.1.drewN nq
        have hk1 : Keep (fun k => k = b ∨ k = sr ∨ k = g) w W1 := hW ▸ HK.out.drewN nq
        clear b0 b2 b3 b4 b5 b6 bf hcx hW
        have b0 : W1.cell? ⟨b, 0, none⟩ = some (.slice (some ⟨g, 0, none⟩) 4096 4096) := (hb1.cell 0).trans rfl
        have b2 : W1.cell? ⟨b, 2, none⟩ = some (.int .i64 pos) := (hb1.cell 2).trans rfl
        have b3 : W1.cell? ⟨b, 3, none⟩ = some (.int .i64 s.length) := (hb1.cell 3).trans rfl
        have b5 : W1.cell? ⟨b, 5, none⟩ = some (.int .i64 lb) := (hb1.cell 5).trans rfl
        have b6 : W1.cell? ⟨b, 6, none⟩ = some (.int .i64 (if last then 1 else -1)) := (hb1.cell 6).trans rfl
        have bf := hb1.free
        have hcx : W1.cell? ⟨g, pos, none⟩ = some (.int .u8 x) := by rw [HX.out]; exact (hg1.cell pos).trans (HC2.out pos hlt)
        have HB1 := Lib.hid (hb1.set 6 (.int .i64 (-1)))
        have HG1 := Lib.hid (hg1.far (p := ⟨b, 6, none⟩) hbg.symm (.int .i64 (-1)))
        have HS1 := Lib.hid (hs1.far (p := ⟨b, 6, none⟩) hbs.symm (.int .i64 (-1)))
        have HK1 := Lib.hid (hk1.at (b := b) (fun _ => .inl rfl) 6 (.int .i64 (-1)))
        clear hb1 hg1 hs1 hk1
        go_wp2
        generalize hW : W1.setCell ⟨b, 6, none⟩ (.int .i64 (-1)) = W2 at HB1 HG1 HS1 HK1 ⊢
        clear b0 b2 b3 b5 b6 bf hcx hW
        have b0 : W2.cell? ⟨b, 0, none⟩ = some (.slice (some ⟨g, 0, none⟩) 4096 4096) := (HB1.out.cell 0).trans rfl
        have b2 : W2.cell? ⟨b, 2, none⟩ = some (.int .i64 pos) := (HB1.out.cell 2).trans rfl
        have b3 : W2.cell? ⟨b, 3, none⟩ = some (.int .i64 s.length) := (HB1.out.cell 3).trans rfl
        have b5 : W2.cell? ⟨b, 5, none⟩ = some (.int .i64 lb) := (HB1.out.cell 5).trans rfl
        have b6 : W2.cell? ⟨b, 6, none⟩ = some (.int .i64 (-1)) := (HB1.out.cell 6).trans rfl
        have bf := HB1.out.free
        have hcx : W2.cell? ⟨g, pos, none⟩ = some (.int .u8 x) := by rw [HX.out]; exact (HG1.out.cell pos).trans (HC2.out pos hlt)
        have hne : ((pos : Int) == (s.length : Int)) = false := by rw [beq_eq_false_iff_ne]; omega
        go_quiet (fail)
        go_wp2
        have hdec : ∀ n : Nat, Calls Tryz.prog 186 #[.slice (some ⟨g, pos, none⟩) (s.length - pos) (4096 - pos)] (W2.drewN n).drew fun e w' => e = .returned (.tuple #[.int .i32 x, .int .i64 1]) ∧ (W2.drewN n).drew = w' := fun n => t_dec1 _ g pos _ _ x (by omega) hasc hcx
        have hrun2 : ∀ n : Nat, (callFunc 186 #[.slice (some ⟨g, pos, none⟩) (s.length - pos) (4096 - pos)]).run Tryz.prog (W2.drewN n).drew = .ok (.enter 186 #[.slice (some ⟨g, pos, none⟩) (s.length - pos) (4096 - pos)]) (W2.drewN n).drew := fun n => by kernel_rfl
        have HDEC := Lib.hid hdec
        have HRUN2 := Lib.hid hrun2
        clear hdec hrun2
        refine Mix.wp_region_mixr [(0, 0), (1, 0), (2, 0), (3, 0), (4, 0), (5, 0), (6, 0), (7, 0), (8, 0), (9, 0), (10, 0), (11, 0), (12, 3), (13, 2), (14, 3), (15, 3), (16, 3), (17, 3), (18, 3)] (by kernel_rfl) (by kernel_rfl) (fun _ _ _ _ h => h) ?_
        repeat (first | (refine Mix.mix_pure rfl rfl (fun K hK => ?_); go_big_quiet_op; refine hK _ ?_; clear hK K) | (refine Mix.mix_free rfl rfl (fun K hK => ?_); go_big_quiet_op; refine hK _ ?_; clear hK K) | (refine Mix.mix_pure_want rfl rfl (fun K hK => ?_); go_big_quiet_op; refine hK _ ?_; clear hK K) | (refine Mix.mix_free_want rfl rfl (fun K hK => ?_); go_big_quiet_op; refine hK _ ?_; clear hK K) | (refine Mix.mix_skip rfl rfl (by decide) ?_; (try simp only [Act.put, List.setIfInBounds_toArray, List.set_cons_zero, List.set_cons_succ])))
        refine Mix.mix_step rfl rfl (fun K hK => ?_)
        refine op_call 186 (.tmp 85) _ rfl (.slice (some ⟨g, pos, none⟩) (s.length - pos) (4096 - pos)) rfl (HRUN2.out _) (HDEC.out _) ?_ (fun c w' hw => by cases hw.1) (fun w' hw => by cases hw.1)
        rintro u w1 ⟨hu, rfl⟩
        injection hu with hu
        subst hu
        refine hK _ _ ?_
        clear hK K
        simp only [Act.put, List.setIfInBounds_toArray, List.set_cons_zero, List.set_cons_succ]
        repeat (first | (refine Mix.mix_pure rfl rfl (fun K hK => ?_); go_big_quiet_op; refine hK _ ?_; clear hK K) | (refine Mix.mix_free rfl rfl (fun K hK => ?_); go_big_quiet_op; refine hK _ ?_; clear hK K) | (refine Mix.mix_pure_want rfl rfl (fun K hK => ?_); go_big_quiet_op; refine hK _ ?_; clear hK K) | (refine Mix.mix_free_want rfl rfl (fun K hK => ?_); go_big_quiet_op; refine hK _ ?_; clear hK K) | (refine Mix.mix_skip rfl rfl (by decide) ?_; (try simp only [Act.put, List.setIfInBounds_toArray, List.set_cons_zero, List.set_cons_succ])))
        refine Mix.mix_nil ?_
        go_wp2
        refine Mix.wp_region_mixr [(0, 0), (1, 0), (2, 0), (3, 0), (4, 0), (5, 0), (6, 0), (7, 0), (8, 0), (9, 0), (10, 0), (11, 0), (12, 0), (13, 3), (14, 3), (15, 2)] (by kernel_rfl) (by kernel_rfl) (fun _ _ _ _ h => h) ?_
        repeat (first | (refine Mix.mix_pure rfl rfl (fun K hK => ?_); go_big_quiet_op; refine hK _ ?_; clear hK K) | (refine Mix.mix_free rfl rfl (fun K hK => ?_); go_big_quiet_op; refine hK _ ?_; clear hK K) | (refine Mix.mix_pure_want rfl rfl (fun K hK => ?_); go_big_quiet_op; refine hK _ ?_; clear hK K) | (refine Mix.mix_free_want rfl rfl (fun K hK => ?_); go_big_quiet_op; refine hK _ ?_; clear hK K) | (refine Mix.mix_skip rfl rfl (by decide) ?_; (try simp only [Act.put, List.setIfInBounds_toArray, List.set_cons_zero, List.set_cons_succ])))
        refine Mix.mix_step rfl rfl (fun K hK => ?_)
        go_wp2
        repeat (first | (refine Mix.mix_pure rfl rfl (fun K hK => ?_); go_big_quiet_op; refine hK _ ?_; clear hK K) | (refine Mix.mix_free rfl rfl (fun K hK => ?_); go_big_quiet_op; refine hK _ ?_; clear hK K) | (refine Mix.mix_pure_want rfl rfl (fun K hK => ?_); go_big_quiet_op; refine hK _ ?_; clear hK K) | (refine Mix.mix_free_want rfl rfl (fun K hK => ?_); go_big_quiet_op; refine hK _ ?_; clear hK K) | (refine Mix.mix_skip rfl rfl (by decide) ?_; (try simp only [Act.put, List.setIfInBounds_toArray, List.set_cons_zero, List.set_cons_succ])))
        refine Mix.mix_nil ?_
        go_wp2
        go_ret3
        refine ⟨rfl, ⟨true, ?_⟩, ?_⟩
        · exact ⟨arr, x, si, pr, ((((HB1.out.drewN _).set 2 _).set 5 _).set 6 _).drew, ((((HS1.out.drewN _).far hbs.symm _).far hbs.symm _).far hbs.symm _).drew, ((((HG1.out.drewN _).far hbg.symm _).far hbg.symm _).far hbg.symm _).drew, HG.out.2.2, fun _ => HC2.out, fun h => by cases h⟩
        · exact ((((HK1.out.drewN _).at (fun _ => .inl rfl) 2 _).at (fun _ => .inl rfl) 5 _).at (fun _ => .inl rfl) 6 _).drew
end Go.Proofs.YtlnbikcfjnloaaaGreatDoor

namespace Go.Proofs.YtlnbikcfjnloaaaGreatDoor
set_option linter.unusedVariables false
set_option linter.unusedSimpArgs false
open Go.RowKit

set_option maxRecDepth 100000 in
theorem t_br_unread (w : World) (b g sr : Nat) (s : List UInt8) (pos : Nat) (h : BrAt w b g sr s pos true) :
    Calls Tryz.prog 181 #[.pointer (some ⟨b, 0, none⟩)] w fun e w' => e = .returned .nilIface ∧ (∃ f, BrF w' b g sr s (pos - 1) false f) ∧ Keep (fun k => k = b ∨ k = sr ∨ k = g) w w' := by
  obtain ⟨⟨f, arr, lb, si, pr, hb, hs, hg, ha, hc, hf⟩, hS⟩ := h
  have hp := hS.one rfl
  obtain rfl : f = true := by
    cases f with
    | true => rfl
    | false => have := hf rfl; exact absurd this.2.2 (by decide)
  have hbs : b ≠ sr := hb.ne hs (by decide)
  have hbg : b ≠ g := hb.ne hg (by decide)
  have b2 : w.cell? ⟨b, 2, none⟩ = some (.int .i64 pos) := (hb.cell 2).trans rfl
  have b5 : w.cell? ⟨b, 5, none⟩ = some (.int .i64 lb) := (hb.cell 5).trans rfl
  have b6 : w.cell? ⟨b, 6, none⟩ = some (.int .i64 1) := (hb.cell 6).trans rfl
  have bf := hb.free
  have HB := Lib.hid hb
  have HG := Lib.hid (And.intro hs (And.intro hg (And.intro ha (hc rfl))))
  have hle := hS.le
  have hsmall := hS.small
  have hd : decide ((pos : Int) < 1) = false := by rw [decide_eq_false_iff_not]; omega
  clear hb hs hg ha hc hf hS
  go_enter Tryz.func181, Tryz.ntmps181
  go_wp2
  go_quiet (fail)
  go_wp2
  refine Mix.wp_region_mixr [(0, 0), (1, 0), (2, 0), (3, 0), (4, 0), (5, 0), (6, 0), (7, 0), (8, 3), (9, 3), (10, 3), (11, 2)] (by kernel_rfl) (by kernel_rfl) (fun _ _ _ _ h => h) ?_
  repeat (first | (refine Mix.mix_pure rfl rfl (fun K hK => ?_); go_big_quiet_op; refine hK _ ?_; clear hK K) | (refine Mix.mix_free rfl rfl (fun K hK => ?_); go_big_quiet_op; refine hK _ ?_; clear hK K) | (refine Mix.mix_pure_want rfl rfl (fun K hK => ?_); go_big_quiet_op; refine hK _ ?_; clear hK K) | (refine Mix.mix_free_want rfl rfl (fun K hK => ?_); go_big_quiet_op; refine hK _ ?_; clear hK K) | (refine Mix.mix_skip rfl rfl (by decide) ?_; (try simp only [Act.put, List.setIfInBounds_toArray, List.set_cons_zero, List.set_cons_succ])))
  refine Mix.mix_step rfl rfl (fun K hK => ?_)
  go_wp2
  repeat (first | (refine Mix.mix_pure rfl rfl (fun K hK => ?_); go_big_quiet_op; refine hK _ ?_; clear hK K) | (refine Mix.mix_free rfl rfl (fun K hK => ?_); go_big_quiet_op; refine hK _ ?_; clear hK K) | (refine Mix.mix_pure_want rfl rfl (fun K hK => ?_); go_big_quiet_op; refine hK _ ?_; clear hK K) | (refine Mix.mix_free_want rfl rfl (fun K hK => ?_); go_big_quiet_op; refine hK _ ?_; clear hK K) | (refine Mix.mix_skip rfl rfl (by decide) ?_; (try simp only [Act.put, List.setIfInBounds_toArray, List.set_cons_zero, List.set_cons_succ])))
  refine Mix.mix_nil ?_
  go_wp2
  go_ret
  refine ⟨rfl, ⟨true, ?_⟩, ?_⟩
  · rw [show ((pos : Int) - 1) = ((pos - 1 : Nat) : Int) from by omega]
    obtain ⟨hs, hg, ha, hc⟩ := HG.out
    exact ⟨arr, -1, si, pr, (((HB.out.drewN _).set 2 _).set 5 _).set 6 _, (((hs.drewN _).far hbs.symm _).far hbs.symm _).far hbs.symm _, (((hg.drewN _).far hbg.symm _).far hbg.symm _).far hbg.symm _, ha, fun _ => hc, fun h => by cases h⟩
  · exact ((((Keep.refl _ w).drewN _).at (fun _ => .inl rfl) 2 _).at (fun _ => .inl rfl) 5 _).at (fun _ => .inl rfl) 6 _

set_option maxRecDepth 100000 in
theorem t_br_unread0 (w : World) (b g sr : Nat) (s : List UInt8) (pos : Nat) (h : BrAt w b g sr s pos false) :
    Calls Tryz.prog 181 #[.pointer (some ⟨b, 0, none⟩)] w fun e w' => ∃ v, e = .returned v ∧ (∃ f, BrF w' b g sr s pos false f) ∧ Keep (fun k => k = b ∨ k = sr ∨ k = g) w w' := by
  obtain ⟨⟨f, hF⟩, hS⟩ := h
  obtain ⟨v, hv⟩ := hS.err
  obtain ⟨arr, lb, si, pr, hb, hs, hg, ha, hc, hf⟩ := id hF
  have b6 : w.cell? ⟨b, 6, none⟩ = some (.int .i64 (-1)) := (hb.cell 6).trans rfl
  have HF := Lib.hid hF
  clear hF hb hs hg ha hc hf hS
  go_enter Tryz.func181, Tryz.ntmps181
  go_wp2
  go_quiet (fail)
  go_wp2
  go_ret
  obtain ⟨f, arr, lb, si, pr, hb, hs, hg, hr⟩ : ∃ f, BrF w b g sr s pos false f := ⟨f, HF.out⟩
  exact ⟨v, rfl, ⟨f, arr, lb, si, pr, hb.drewN _, hs.drewN _, hg.drewN _, hr⟩, (Keep.refl _ w).drewN _⟩

theorem BrSide.step {M : Nat → Prop} {w w' : World} {b g sr : Nat} {s : List UInt8} {pos pos' : Nat} {last last' : Bool} (h : BrSide w b g sr s pos last) (hk : Keep M w w') (hM : ∀ k, (k = 11 ∨ k = 17) → ¬ M k) (hle : pos' ≤ s.length) (ho : last' = true → 1 ≤ pos') : BrSide w' b g sr s pos' last' := by
  obtain ⟨v, hv⟩ := h.err
  exact ⟨h.first.keep hk (hM _ (.inl rfl)), ⟨v, (World.cell?_of_block (a := ⟨17, 0, none⟩) (hk.block _ (cell_lt hv) (hM _ (.inr rfl)))).trans hv⟩, hle, h.apart, ho, h.pos, h.small⟩

/-- A bufio.Reader over a strings.Reader as a source. -/
def brSrc (b g sr : Nat) (s : List UInt8) : Source where
  val := .iface 44 (.pointer (some ⟨b, 0, none⟩))
  s := s
  own := fun k => k = b ∨ k = sr ∨ k = g
  need := fun k => k = 11 ∨ k = 17
  At := fun w pos last => BrAt w b g sr s pos last
  read := fun w pos last h hlt ha => ⟨179, #[.pointer (some ⟨b, 0, none⟩)], by kernel_rfl, (t_br_read w b g sr s pos last h hlt ha).mono fun e w' hw => ⟨hw.1, ⟨hw.2.1, h.2.step hw.2.2 h.2.apart (by omega) (fun _ => by omega)⟩, hw.2.2⟩⟩
  unread := fun w pos h => ⟨181, #[.pointer (some ⟨b, 0, none⟩)], by kernel_rfl, (t_br_unread w b g sr s pos h).mono fun e w' hw => ⟨hw.1, ⟨hw.2.1, h.2.step hw.2.2 h.2.apart (by have := h.2.le; omega) (fun h => by cases h)⟩, hw.2.2⟩⟩
  isI := ⟨_, _, rfl⟩
  lt := fun w pos last k h hk => by
    obtain ⟨⟨f, arr, lb, si, pr, hb, hs, hg, _⟩, hS⟩ := h
    rcases hk with (rfl | rfl | rfl) | (rfl | rfl)
    · exact hb.lt
    · exact hs.lt
    · exact hg.lt
    · exact cell_lt (hS.first 0 (by decide))
    · obtain ⟨v, hv⟩ := hS.err
      exact cell_lt hv
  keep := fun M w w' pos last h hk hM => by
    obtain ⟨⟨f, arr, lb, si, pr, hb, hs, hg, hr⟩, hS⟩ := h
    exact ⟨⟨f, arr, lb, si, pr, hb.keep hk (hM _ (.inl (.inl rfl))), hs.keep hk (hM _ (.inl (.inr (.inl rfl)))), hg.keep hk (hM _ (.inl (.inr (.inr rfl)))), hr⟩, hS.step hk (fun k h => hM k (.inr h)) hS.le hS.one⟩
theorem br_unread0 (b g sr : Nat) (s : List UInt8) : Unread0 (brSrc b g sr s) := fun w pos h =>
  ⟨181, #[.pointer (some ⟨b, 0, none⟩)], by kernel_rfl, (t_br_unread0 w b g sr s pos h).mono fun e w' hw => by
    obtain ⟨v, h1, h2, h3⟩ := hw
    exact ⟨v, h1, ⟨h2, h.2.step h3 h.2.apart h.2.le h.2.one⟩, h3⟩⟩
end Go.Proofs.YtlnbikcfjnloaaaGreatDoor
