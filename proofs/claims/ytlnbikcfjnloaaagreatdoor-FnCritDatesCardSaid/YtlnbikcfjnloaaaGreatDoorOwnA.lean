/- Memory, strings, rows, orders of a region and sources of runes, for the proof of FnCritDates; no condition. -/
import Derived.WalkKit
import Derived.Deep.Draws
import Derived.Lib.Hide
import Derived.BigQuiet
import Derived.Deep.QuietTactic
import Derived.WalkSpells
import Derived.WalkLawsBesides
import Derived.Deep.LoopGhost
import Derived.Laws.Runes
import Derived.Laws.Concat
import Derived.Laws.Slices
import Derived.Lib.ConvBytes
import Derived.OwnWalk
import Derived.Maps.AppendAt
import Derived.Test.YtlnbikcfjnloaaaGreatDoorProg
import Derived.Tactics
import Derived.Tactics2
import Derived.Defers
import Derived.Recover
import Derived.Laws.Pointers
namespace Go.Proofs.YtlnbikcfjnloaaaGreatDoor
set_option linter.unusedVariables false
set_option linter.unusedSimpArgs false
open Go.RowKit

/-- All that was there is as it was, but for the blocks of M. -/
structure Keep (M : Nat → Prop) (w w' : World) : Prop where
  os : w'.os = w.os
  tape : w'.tape = w.tape
  output : w'.output = w.output
  size : w.heap.size ≤ w'.heap.size
  block : ∀ k, k < w.heap.size → ¬ M k → w'.heap[k]? = w.heap[k]?

theorem Keep.refl (M : Nat → Prop) (w : World) : Keep M w w := ⟨rfl, rfl, rfl, Nat.le_refl _, fun _ _ _ => rfl⟩
/-- Two steps; of the second's blocks those that were there at the start are the first's. -/
theorem Keep.trans' {M N : Nat → Prop} {a b c : World} (h : Keep M a b) (k : Keep N b c) (hN : ∀ i, i < a.heap.size → N i → M i) : Keep M a c :=
  ⟨k.os.trans h.os, k.tape.trans h.tape, k.output.trans h.output, Nat.le_trans h.size k.size, fun i hi hm => (k.block i (Nat.lt_of_lt_of_le hi h.size) (fun hn => hm (hN i hi hn))).trans (h.block i hi hm)⟩
theorem Keep.trans {M : Nat → Prop} {a b c : World} (h : Keep M a b) (k : Keep M b c) : Keep M a c := h.trans' k (fun _ _ h => h)
theorem Keep.mono {M N : Nat → Prop} {a b : World} (h : Keep M a b) (hm : ∀ i, i < a.heap.size → M i → N i) : Keep N a b :=
  ⟨h.os, h.tape, h.output, h.size, fun i hi hn => h.block i hi (fun hM => hn (hm i hi hM))⟩
theorem Keep.drew {M : Nat → Prop} {a w : World} (h : Keep M a w) : Keep M a w.drew := ⟨h.os, h.tape, h.output, h.size, h.block⟩
theorem Keep.drewN {M : Nat → Prop} {a w : World} (h : Keep M a w) (n : Nat) : Keep M a (w.drewN n) := ⟨h.os, h.tape, h.output, h.size, h.block⟩
theorem Keep.alloc {M : Nat → Prop} {a w : World} (h : Keep M a w) (o : Obj) : Keep M a (w.alloc o) :=
  ⟨h.os, h.tape, h.output, by have := h.size; simp; omega, fun i hi hm => (Below.heap_alloc w o i (Nat.lt_of_lt_of_le hi h.size)).trans (h.block i hi hm)⟩
theorem Keep.set {M : Nat → Prop} {a w : World} (h : Keep M a w) {p : Addr} (hp : p.block < a.heap.size → M p.block) (u : Value) : Keep M a (w.setCell p u) :=
  ⟨h.os, h.tape, h.output, by have := h.size; simp [World.setCell]; omega, fun i hi hm => (Below.heap_setCell w p u i (fun e => hm (e ▸ hp (e ▸ hi)))).trans (h.block i hi hm)⟩
theorem Keep.at {M : Nat → Prop} {a w : World} (h : Keep M a w) {b : Nat} (hp : b < a.heap.size → M b) (i : Nat) (u : Value) : Keep M a (w.setCell ⟨b, i, none⟩ u) := h.set (p := ⟨b, i, none⟩) hp u
theorem Keep.of_below {M : Nat → Prop} {w w' : World} (h : Below w.heap.size w w') : Keep M w w' := ⟨h.os, h.tape, h.output, h.size, fun i hi _ => h.block i hi⟩
theorem Keep.below {M : Nat → Prop} {a w w' : World} (h : Keep M a w) (hb : Below w.heap.size w w') : Keep M a w' := h.trans (Keep.of_below hb)
theorem Keep.below_out {w w' : World} (h : Keep (fun _ => False) w w') : Below w.heap.size w w' := ⟨h.os, h.tape, h.output, h.size, fun i hi => h.block i hi id⟩
theorem Keep.grown {M : Nat → Prop} {a w w' : World} {row : Option Nat} (h : Keep M a w) (hg : w.grownBy w' row) (hr : ∀ k, row = some k → k < a.heap.size → M k) : Keep M a w' :=
  ⟨hg.os.trans h.os, hg.tape.trans h.tape, hg.output.trans h.output, Nat.le_trans h.size hg.size,
   fun i hi hm => (hg.block i (Nat.lt_of_lt_of_le hi h.size) (fun e => hm (hr i e.symm hi))).trans (h.block i hi hm)⟩

/-- A block of cells, none of which is frozen. -/
def Blk (w : World) (b : Nat) (cs : Array Value) (t : TypeId) : Prop := w.heap[b]? = some (.cells cs t (0, 0))

theorem Blk.lt {w : World} {b : Nat} {cs : Array Value} {t : TypeId} (h : Blk w b cs t) : b < w.heap.size := (Array.getElem?_eq_some_iff.1 h).1
theorem Blk.cell {w : World} {b : Nat} {cs : Array Value} {t : TypeId} (h : Blk w b cs t) (i : Nat) : w.cell? ⟨b, i, none⟩ = cs[i]? := by
  unfold Blk at h; simp [World.cell?, h]
theorem Blk.free {w : World} {b : Nat} {cs : Array Value} {t : TypeId} (h : Blk w b cs t) (i : Nat) : w.frozen? ⟨b, i, none⟩ = false := by
  unfold Blk at h; simp [World.frozen?, h]
theorem Blk.set {w : World} {b : Nat} {cs : Array Value} {t : TypeId} (h : Blk w b cs t) (i : Nat) (u : Value) : Blk (w.setCell ⟨b, i, none⟩ u) b (cs.setIfInBounds i u) t := by
  unfold Blk at *
  simp only [World.setCell, Array.getElem?_modify, if_true, h, Option.map_some]
  rfl
theorem Blk.far {w : World} {b : Nat} {cs : Array Value} {t : TypeId} (h : Blk w b cs t) {p : Addr} (hp : b ≠ p.block) (u : Value) : Blk (w.setCell p u) b cs t :=
  (Below.heap_setCell w p u b hp).trans h
theorem Blk.alloc {w : World} {b : Nat} {cs : Array Value} {t : TypeId} (h : Blk w b cs t) (o : Obj) : Blk (w.alloc o) b cs t := (Below.heap_alloc w o b h.lt).trans h
theorem Blk.drew {w : World} {b : Nat} {cs : Array Value} {t : TypeId} (h : Blk w b cs t) : Blk w.drew b cs t := h
theorem Blk.drewN {w : World} {b : Nat} {cs : Array Value} {t : TypeId} (h : Blk w b cs t) (n : Nat) : Blk (w.drewN n) b cs t := h
theorem Blk.new (w : World) (cs : Array Value) (t : TypeId) : Blk (w.alloc (.cells cs t)) w.heap.size cs t := by
  unfold Blk
  show (w.heap.push _)[w.heap.size]? = _
  rw [Array.getElem?_push, if_pos rfl]
theorem Blk.ne {w : World} {b b' : Nat} {cs cs' : Array Value} {t t' : TypeId} (h : Blk w b cs t) (h' : Blk w b' cs' t') (ht : t ≠ t') : b ≠ b' := by
  rintro rfl
  unfold Blk at *
  rw [h] at h'
  injection h' with h'
  injection h' with _ h'
  exact ht h'
theorem Blk.keep {M : Nat → Prop} {w w' : World} {b : Nat} {cs : Array Value} {t : TypeId} (h : Blk w b cs t) (hk : Keep M w w') (hm : ¬ M b) : Blk w' b cs t := (hk.block b h.lt hm).trans h
theorem Blk.below {w w' : World} {b : Nat} {cs : Array Value} {t : TypeId} (h : Blk w b cs t) (hk : Below w.heap.size w w') : Blk w' b cs t := (hk.block b h.lt).trans h
theorem Blk.inj {w : World} {b : Nat} {cs cs' : Array Value} {t t' : TypeId} (h : Blk w b cs t) (h' : Blk w b cs' t') : cs = cs' := by
  unfold Blk at *
  rw [h] at h'
  injection h' with h'
  injection h' with h' _

/-- A block of cells, whatever of it is frozen. -/
def BlkF (w : World) (b : Nat) (cs : Array Value) (t : TypeId) : Prop := ∃ fr, w.heap[b]? = some (.cells cs t fr)
theorem Blk.toF {w : World} {b : Nat} {cs : Array Value} {t : TypeId} (h : Blk w b cs t) : BlkF w b cs t := ⟨_, h⟩
theorem BlkF.lt {w : World} {b : Nat} {cs : Array Value} {t : TypeId} (h : BlkF w b cs t) : b < w.heap.size := by
  obtain ⟨fr, h⟩ := h
  exact (Array.getElem?_eq_some_iff.1 h).1
theorem BlkF.cell {w : World} {b : Nat} {cs : Array Value} {t : TypeId} (h : BlkF w b cs t) (i : Nat) : w.cell? ⟨b, i, none⟩ = cs[i]? := by
  obtain ⟨fr, h⟩ := h; simp [World.cell?, h]
theorem BlkF.far {w : World} {b : Nat} {cs : Array Value} {t : TypeId} (h : BlkF w b cs t) {p : Addr} (hp : b ≠ p.block) (u : Value) : BlkF (w.setCell p u) b cs t := by
  obtain ⟨fr, h⟩ := h
  exact ⟨fr, (Below.heap_setCell w p u b hp).trans h⟩
theorem BlkF.alloc {w : World} {b : Nat} {cs : Array Value} {t : TypeId} (h : BlkF w b cs t) (o : Obj) : BlkF (w.alloc o) b cs t := by
  have hl := h.lt
  obtain ⟨fr, h⟩ := h
  exact ⟨fr, (Below.heap_alloc w o b hl).trans h⟩
theorem BlkF.drewN {w : World} {b : Nat} {cs : Array Value} {t : TypeId} (h : BlkF w b cs t) (n : Nat) : BlkF (w.drewN n) b cs t := h
theorem BlkF.keep {M : Nat → Prop} {w w' : World} {b : Nat} {cs : Array Value} {t : TypeId} (h : BlkF w b cs t) (hk : Keep M w w') (hm : ¬ M b) : BlkF w' b cs t := by
  have hl := h.lt
  obtain ⟨fr, h⟩ := h
  exact ⟨fr, (hk.block b hl hm).trans h⟩
theorem Blk.neF {w : World} {b b' : Nat} {cs cs' : Array Value} {t t' : TypeId} (h : Blk w b cs t) (h' : BlkF w b' cs' t') (ht : t ≠ t') : b ≠ b' := by
  rintro rfl
  obtain ⟨fr, h'⟩ := h'
  unfold Blk at h
  rw [h] at h'
  injection h' with h'
  injection h' with _ h'
  exact ht h'
end Go.Proofs.YtlnbikcfjnloaaaGreatDoor

namespace Go.Proofs.YtlnbikcfjnloaaaGreatDoor
set_option linter.unusedVariables false
set_option linter.unusedSimpArgs false
open Go.RowKit

/-- A string of bytes. -/
def bs (l : List UInt8) : ByteArray := ⟨l.toArray⟩
theorem bs_def (l : List UInt8) : bs l = ⟨l.toArray⟩ := rfl
theorem bs_size (l : List UInt8) : (bs l).size = l.length := rfl
theorem bs_app (l m : List UInt8) : bs l ++ bs m = bs (l ++ m) := by
  apply ByteArray.ext
  simp [bs]
theorem bs_nil : bs [] = ⟨#[]⟩ := rfl
theorem bs_of (b : ByteArray) : bs b.data.toList = b := rfl
theorem bs_toList (l : List UInt8) : (bs l).toList = l := by rw [Go.ByteArray.toList_eq]; simp [bs]
theorem bs_data (l : List UInt8) : (bs l).data.toList = l := by simp [bs]
theorem bs_extract (l : List UInt8) (i j : Nat) : (bs l).extract i j = bs ((l.take j).drop i) := by
  apply ByteArray.ext
  rw [ByteArray.data_extract]
  simp [bs, List.drop_take, List.extract]
theorem bs_inj {l m : List UInt8} (h : bs l = bs m) : l = m := by
  have := congrArg ByteArray.data h
  simpa [bs] using this
theorem encode_one (x : Nat) (h : x < 128) : Utf8.encode (x : Int) = bs [UInt8.ofNat x] := by
  have hv : Utf8.valid (x : Int) = true := by
    simp [Utf8.valid]
    omega
  unfold Utf8.encode
  simp only [hv, if_true, Int.toNat_natCast]
  rw [if_pos h]
  rfl
theorem bs_snoc (a : List UInt8) (j x : Nat) (hj : j < a.length) (hx : x = (a.getD j 0).toNat) : bs (a.take j) ++ bs [UInt8.ofNat x] = bs (a.take (j + 1)) := by
  subst hx
  rw [bs_app]
  congr 1
  have : a.take (j + 1) = a.take j ++ [a[j]] := by simp
  rw [this]
  simp [List.getD, hj]
attribute [irreducible] bs

section
variable {P : Program} {ops : Array Oper} {Q : Exit → Act → World → Prop} {rest : List Oper} {o : Oper} {a : Act} {w : World}
theorem at_inv {d t p af g x m xs ts} (h : wpList P ops Q (⟨d, .call { callee := .invoke x m, args := xs, argTypes := ts }, t, p, af, g⟩ :: rest) a w) : wpList P ops Q (⟨d, .call { callee := .invoke x m, args := xs, argTypes := ts }, t, p, af, g⟩ :: rest) a w := h
theorem at_conv {d t p af g s z x} (h : wpList P ops Q (⟨d, .convert s z x, t, p, af, g⟩ :: rest) a w) : wpList P ops Q (⟨d, .convert s z x, t, p, af, g⟩ :: rest) a w := h
theorem at_add {d t p af g s z x y} (h : wpList P ops Q (⟨d, .binOp .add s x y z, t, p, af, g⟩ :: rest) a w) : wpList P ops Q (⟨d, .binOp .add s x y z, t, p, af, g⟩ :: rest) a w := h
/-- 'string(r)', r a rune of one byte. -/
theorem wp_rune (x : Operand) (src dst : TypeId) (n : Nat) (hg : o.guard = none) (ho : o.op = .convert src dst x) (hn : n < 128) (hx : a.eval x = .int .i32 n) (hs : (P.underlying src).isSome = true) (hd : P.underlying dst = some .string)
    (h : wpList P ops Q rest (a.put o.dst (.string (bs [UInt8.ofNat n]))) w) : wpList P ops Q (o :: rest) a w := by
  refine wpList_plain hg fun K hK => ?_
  unfold Oper.wp
  have he : (execOp a.eval o).run P w = .ok (.value (.string (bs [UInt8.ofNat n]))) w := by
    unfold execOp
    rw [ho]
    simp only [hx, Sem.run_bind, run_convert_int_string w src dst .i32 n hs hd, Result.andThen_ok, Sem.run_pure, encode_one n hn]
  rw [he]
  exact hK _ _ h
/-- 's + t' of strings. -/
theorem wp_add (x y : Operand) (t t' : TypeId) (u v : ByteArray) (hg : o.guard = none) (ho : o.op = .binOp .add t x y t') (hx : a.eval x = .string u) (hy : a.eval y = .string v) (hb : u.size + v.size ≤ 9223372036854775807)
    (h : wpList P ops Q rest (a.put o.dst (.string (u ++ v))) w) : wpList P ops Q (o :: rest) a w := by
  refine wpList_plain hg fun K hK => ?_
  unfold Oper.wp
  have he : (execOp a.eval o).run P w = .ok (.value (.string (u ++ v))) w := by
    unfold execOp
    rw [ho]
    simp [hx, hy, eqGuard, binOp_string_add, run_string_add_sum w u v hb]
  rw [he]
  exact hK _ _ h
/-- '[]byte(s)'. -/
theorem wp_bytes (x : Operand) (src dst e : TypeId) (s : ByteArray) (hg : o.guard = none) (ho : o.op = .convert src dst x) (hx : a.eval x = .string s) (hs : P.underlying src = some .string) (hd : P.underlying dst = some (.slice e)) (he : P.underlying e = some (.int .u8))
    (h : wpList P ops Q rest (a.put o.dst (.slice (some ⟨w.heap.size, 0, none⟩) s.size (grownCap w s.size 0 e))) (Lib.bytesWorld w e s)) : wpList P ops Q (o :: rest) a w := by
  refine wpList_plain hg fun K hK => ?_
  unfold Oper.wp
  have he : (execOp a.eval o).run P w = .ok (.value (.slice (some ⟨w.heap.size, 0, none⟩) s.size (grownCap w s.size 0 e))) (Lib.bytesWorld w e s) := by
    unfold execOp
    rw [ho]
    simp only [hx, Sem.run_bind, Lib.run_convert_string_bytes w src dst e s hs hd he, Result.andThen_ok, Sem.run_pure]
  rw [he]
  exact hK _ _ h
theorem run_lh (w : World) (t : TypeId) (s : ByteArray) (ht : P.underlying t = some .string) (i j : Nat) (hij : i ≤ j) (hj : j ≤ s.size) :
    (Instr.slice t (.string s) (some (.int .i64 i)) (some (.int .i64 j)) none).run P w = .ok (.string (s.extract i j)) w := by
  simp [Instr.slice, run_underlying ht, Instr.sliceBounds, run_sliceBound, *]
/-- 's[:n]', 's[n:]', 's[n:m]' of strings. -/
theorem wp_take (x hi : Operand) (t : TypeId) (l : List UInt8) (n : Nat) (hg : o.guard = none) (ho : o.op = .slice t x none (some hi) none) (hx : a.eval x = .string (bs l)) (hh : a.eval hi = .int .i64 n) (hn : n ≤ l.length) (ht : P.underlying t = some .string)
    (h : wpList P ops Q rest (a.put o.dst (.string (bs (l.take n)))) w) : wpList P ops Q (o :: rest) a w := by
  refine wpList_plain hg fun K hK => ?_
  unfold Oper.wp
  have he : (execOp a.eval o).run P w = .ok (.value (.string (bs (l.take n)))) w := by
    unfold execOp
    rw [ho]
    simp only [hx, hh, Option.map_none, Option.map_some, Sem.run_bind, run_sliceAt_string w t _ _ _ _ ht, run_slice_string_h w t (bs l) ht .i64 n (by omega) (by rw [bs_size]; omega), Result.andThen_ok, Sem.run_pure, Int.toNat_natCast, bs_extract, List.drop_zero]
  rw [he]
  exact hK _ _ h
theorem wp_drop (x lo : Operand) (t : TypeId) (l : List UInt8) (n : Nat) (hg : o.guard = none) (ho : o.op = .slice t x (some lo) none none) (hx : a.eval x = .string (bs l)) (hh : a.eval lo = .int .i64 n) (hn : n ≤ l.length) (ht : P.underlying t = some .string)
    (h : wpList P ops Q rest (a.put o.dst (.string (bs (l.drop n)))) w) : wpList P ops Q (o :: rest) a w := by
  refine wpList_plain hg fun K hK => ?_
  unfold Oper.wp
  have he : (execOp a.eval o).run P w = .ok (.value (.string (bs (l.drop n)))) w := by
    unfold execOp
    rw [ho]
    simp only [hx, hh, Option.map_none, Option.map_some, Sem.run_bind, run_sliceAt_string w t _ _ _ _ ht, run_slice_string_l w t (bs l) ht .i64 n (by omega) (by rw [bs_size]; omega), Result.andThen_ok, Sem.run_pure, Int.toNat_natCast, bs_extract, bs_size, List.take_length]
  rw [he]
  exact hK _ _ h
theorem wp_mid (x lo hi : Operand) (t : TypeId) (l : List UInt8) (n m : Nat) (hg : o.guard = none) (ho : o.op = .slice t x (some lo) (some hi) none) (hx : a.eval x = .string (bs l)) (hl : a.eval lo = .int .i64 n) (hh : a.eval hi = .int .i64 m) (hn : n ≤ m) (hm : m ≤ l.length) (ht : P.underlying t = some .string)
    (h : wpList P ops Q rest (a.put o.dst (.string (bs ((l.take m).drop n)))) w) : wpList P ops Q (o :: rest) a w := by
  refine wpList_plain hg fun K hK => ?_
  unfold Oper.wp
  have he : (execOp a.eval o).run P w = .ok (.value (.string (bs ((l.take m).drop n)))) w := by
    unfold execOp
    rw [ho]
    simp only [hx, hl, hh, Option.map_none, Option.map_some, Sem.run_bind, run_sliceAt_string w t _ _ _ _ ht, run_lh w t (bs l) ht n m hn (by rw [bs_size]; omega), Result.andThen_ok, Sem.run_pure, bs_extract]
  rw [he]
  exact hK _ _ h
theorem at_slice {d t p af g s x lo hi mx} (h : wpList P ops Q (⟨d, .slice s x lo hi mx, t, p, af, g⟩ :: rest) a w) : wpList P ops Q (⟨d, .slice s x lo hi mx, t, p, af, g⟩ :: rest) a w := h
theorem at_assert {d t p af g s x e k} (h : wpList P ops Q (⟨d, .typeAssert x s e k, t, p, af, g⟩ :: rest) a w) : wpList P ops Q (⟨d, .typeAssert x s e k, t, p, af, g⟩ :: rest) a w := h
/-- 'v, ok := x.(T)' that succeeds. -/
theorem wp_assert (x : Operand) (s t : TypeId) (v : Value) (hg : o.guard = none) (ho : o.op = .typeAssert x s t true) (hx : a.eval x = .iface t v) (hr : ∀ (v : Value) (w : World), (Instr.typeAssert (.iface t v) s t true).run P w = .ok (.tuple #[v, .bool true]) w)
    (h : wpList P ops Q rest (a.put o.dst (.tuple #[v, .bool true])) w) : wpList P ops Q (o :: rest) a w := by
  refine wpList_plain hg fun K hK => ?_
  unfold Oper.wp
  have he : (execOp a.eval o).run P w = .ok (.value (.tuple #[v, .bool true])) w := by
    unfold execOp
    rw [ho]
    simp only [hx, Sem.run_bind, hr, Result.andThen_ok, Sem.run_pure]
  rw [he]
  exact hK _ _ h
end
end Go.Proofs.YtlnbikcfjnloaaaGreatDoor

namespace Go.Proofs.YtlnbikcfjnloaaaGreatDoor
set_option linter.unusedVariables false
set_option linter.unusedSimpArgs false
open Go.RowKit

theorem ownsRow_keep {M : Nat → Prop} {w w' : World} {base : Nat} {e : TypeId} {size : Nat} {v : Value} {n : Nat} {xs : List Value} (h : w.ownsRow base e size v n xs) (hk : Keep M w w') (hM : ∀ k, base ≤ k → k < w.heap.size → ¬ M k) : w'.ownsRow base e size v n xs := by
  obtain ⟨hl, h | ⟨g, cap, cur, hv, hb, hg, h1, h2, h3, h4⟩⟩ := h
  · exact ⟨hl, .inl h⟩
  · have hlt : g < w.heap.size := (Array.getElem?_eq_some_iff.1 hg).1
    exact ⟨hl, .inr ⟨g, cap, cur, hv, hb, (hk.block g hlt (hM g hb hlt)).trans hg, h1, h2, h3, h4⟩⟩

theorem ownsRow_base {w : World} {base base' : Nat} {e : TypeId} {size : Nat} {v : Value} {n : Nat} {xs : List Value} (h : w.ownsRow base e size v n xs) (hb : base' ≤ base) : w.ownsRow base' e size v n xs := by
  obtain ⟨hl, h | ⟨g, cap, cur, hv, hb', hg, h1, h2, h3, h4⟩⟩ := h
  · exact ⟨hl, .inl h⟩
  · exact ⟨hl, .inr ⟨g, cap, cur, hv, Nat.le_trans hb hb', hg, h1, h2, h3, h4⟩⟩

/-- What a walk reads of a row of single cells. -/
theorem ownsRow_cells {w : World} {base : Nat} {e : TypeId} {v : Value} {n : Nat} {xs : List Value} (h : w.ownsRow base e 1 v n xs) (hn : 0 < n) :
    ∃ g cap, v = .slice (some ⟨g, 0, none⟩) n cap ∧ base ≤ g ∧ g < w.heap.size ∧ xs.length = n ∧ n ≤ cap ∧ (∀ i, i < n → w.cell? ⟨g, i, none⟩ = some (xs.getD i default)) ∧ ∀ i, w.frozen? ⟨g, i, none⟩ = false := by
  obtain ⟨hl, h | ⟨g, cap, cur, hv, hb, hg, h1, h2, h3, h4⟩⟩ := h
  · omega
  · refine ⟨g, cap, hv, hb, (Array.getElem?_eq_some_iff.1 hg).1, by simpa using hl, h1, fun i hi => ?_, fun i => ?_⟩
    · have hc : w.cell? ⟨g, i, none⟩ = cur[i]? := by simp [World.cell?, hg]
      have hx : xs[i]? = cur[i]? := by
        rw [← h4, List.getElem?_take_of_lt (by simpa using hi)]
        simp
      have : i < xs.length := by simpa [hl] using hi
      rw [hc, ← hx]
      simp [List.getD, this]
    · simp [World.frozen?, hg]

/-- A new block of one cell, as a slice. -/
theorem Blk.owns {w : World} {base g : Nat} {e : TypeId} {u : Value} (h : Blk w g #[u] e) (hb : base ≤ g) : w.ownsRow base e 1 (.slice (some ⟨g, 0, none⟩) 1 1) 1 [u] :=
  ⟨rfl, .inr ⟨g, 1, #[u], rfl, hb, h, Nat.le_refl _, by decide, rfl, rfl⟩⟩
theorem keep_of_far {v : Value} {M : Nat → Prop} {w w' : World} (q1 : Keep M w w') (q2 : ∀ k, v.ownBlock ≠ some k → k < w.heap.size → w'.heap[k]? = w.heap[k]?) : Keep (fun k => v.ownBlock = some k) w w' :=
  ⟨q1.os, q1.tape, q1.output, q1.size, fun k hk hm => q2 k hm hk⟩
/-- An element is written. -/
theorem ownsRow_set {w : World} {base : Nat} {e : TypeId} {n cap g i : Nat} {xs : List Value} (h : w.ownsRow base e 1 (.slice (some ⟨g, 0, none⟩) n cap) n xs) (u : Value) : (w.setCell ⟨g, i, none⟩ u).ownsRow base e 1 (.slice (some ⟨g, 0, none⟩) n cap) n (xs.set i u) := by
  obtain ⟨hl, h | ⟨g', cap', cur, hv, hb, hg, h1, h2, h3, h4⟩⟩ := h
  · obtain ⟨h, _⟩ := h
    cases h
  · injection hv with ha _ hc
    injection ha with ha
    injection ha with hgg
    subst hgg
    subst hc
    have hb2 : Blk w g cur e := hg
    refine ⟨by simpa using hl, .inr ⟨g, cap, cur.setIfInBounds i u, rfl, hb, hb2.set i u, h1, h2, by simpa using h3, ?_⟩⟩
    rw [Array.toList_setIfInBounds, ← h4]
    rw [List.take_set]
/-- A slice that came in: what is read of it; its block lies below B. -/
def Arg (B : Nat) (w : World) (a : Option Addr) (n : Nat) (xs : List Value) : Prop :=
  xs.length = n ∧ (0 < n → ∃ b o, a = some ⟨b, o, none⟩ ∧ b < B ∧ ∀ i, i < n → w.cell? ⟨b, o + i, none⟩ = some (xs.getD i default))
theorem Arg.keep {M : Nat → Prop} {B : Nat} {w w' : World} {a : Option Addr} {n : Nat} {xs : List Value} (h : Arg B w a n xs) (hk : Keep M w w') (hB : B ≤ w.heap.size) (hM : ∀ k, k < B → ¬ M k) : Arg B w' a n xs := by
  refine ⟨h.1, fun hn => ?_⟩
  obtain ⟨b, o, ha, hb, hc⟩ := h.2 hn
  exact ⟨b, o, ha, hb, fun i hi => (World.cell?_of_block (a := ⟨b, o + i, none⟩) (hk.block b (Nat.lt_of_lt_of_le hb hB) (hM b hb))).trans (hc i hi)⟩
/-- The facts of a slice type of single cells. -/
structure Elem (P : Program) (t e : TypeId) (z : Value) (b : Nat) : Prop where
  und : P.underlying t = some (.slice e)
  info : ∃ i, P.info? e = some i ∧ i.zero = some z ∧ i.size = 1 ∧ i.bytes = b
  one : z.cells.size = 1
  small : b ≤ 64

section
variable {P : Program} {ops : Array Oper} {Q : Exit → Act → World → Prop} {rest : List Oper} {o : Oper} {a : Act} {w : World}
/-- 's = append(s, x)'. -/
theorem wp_app1 {t e : TypeId} {z : Value} {b : Nat} (hE : Elem P t e z b) (s x : Operand) (hg : o.guard = none) (ho : o.op = .call { callee := .builtin .append, args := #[s, x], argTypes := #[t, t] })
    (base : Nat) (v : Value) (n : Nat) (xs : List Value) (hs : a.eval s = v) (hown : w.ownsRow base e 1 v n xs) (g : Nat) (u : Value) (hx : a.eval x = .slice (some ⟨g, 0, none⟩) 1 1) (hu : w.cell? ⟨g, 0, none⟩ = some u) (h1 : u.oneCell' = true)
    (hn : n < 1000000) (hbase : base ≤ w.heap.size)
    (h : ∀ v' w', w'.ownsRow base e 1 v' (n + 1) (xs ++ [u]) → Keep (fun k => base ≤ k) w w' → (∀ k, v.ownBlock ≠ some k → k < w.heap.size → w'.heap[k]? = w.heap[k]?) → (v'.ownBlock = v.ownBlock ∨ v'.ownBlock = some w.heap.size) → wpList P ops Q rest (a.put o.dst v') w') :
    wpList P ops Q (o :: rest) a w := by
  obtain ⟨i, hi, hz, h11, hb⟩ := hE.info
  have hsm := hE.small
  refine wpList_append_own_at w hg s x t ho base e i z 1 b hE.und hi hz h11 hb hE.one (by decide) v n xs hs hown ⟨g, 0, none⟩ 1 1 [u] hx rfl ?_ ?_ (by unfold maxLen; omega) ?_ hbase ?_
  · intro j u' hj
    match j, hj with
    | 0, hj => simp at hj; subst hj; exact hu
  · intro u' hu'
    simp at hu'
    subst hu'
    exact h1
  · have : (n + 1) * b ≤ 1000000 * 64 := Nat.mul_le_mul (by omega) hsm
    omega
  · intro v' w' h2 h3 _ h5
    exact h v' w' h2 ⟨h3.os, h3.tape, h3.output, h3.size, fun k hk hm => h3.block k hk (fun e => hm (hown.lt k e.symm).1)⟩ (fun k hk hlt => h3.block k hlt (fun e => hk e.symm)) h5
end

/-- The bytes l stand at pos. -/
def Has (s : List UInt8) (pos : Nat) (l : List UInt8) : Prop := ∃ t, s.drop pos = l ++ t ∧ pos ≤ s.length
theorem Has.app {s : List UInt8} {pos : Nat} {l m : List UInt8} (h : Has s pos (l ++ m)) : Has s pos l ∧ Has s (pos + l.length) m := by
  obtain ⟨t, h, hp⟩ := h
  refine ⟨⟨m ++ t, by simpa using h, hp⟩, ⟨t, ?_, ?_⟩⟩
  · rw [← List.drop_drop, h, List.append_assoc, List.drop_left]
  · have := congrArg List.length h
    simp at this
    omega
theorem Has.len {s : List UInt8} {pos : Nat} {l : List UInt8} (h : Has s pos l) : pos + l.length ≤ s.length := by
  obtain ⟨t, h, hp⟩ := h
  have := congrArg List.length h
  simp at this
  omega
theorem Has.get {s : List UInt8} {pos : Nat} {l : List UInt8} (h : Has s pos l) (j : Nat) (hj : j < l.length) : s.getD (pos + j) 0 = l.getD j 0 := by
  obtain ⟨t, h, hp⟩ := h
  have h1 : s[pos + j]? = (s.drop pos)[j]? := by simp
  rw [List.getD_eq_getElem?_getD, List.getD_eq_getElem?_getD, h1, h, List.getElem?_append_left hj]
theorem Has.head {s : List UInt8} {pos : Nat} {b : UInt8} {l : List UInt8} (h : Has s pos (b :: l)) : s.getD pos 0 = b := by
  have := h.get 0 (by simp)
  simpa using this
theorem Has.tail {s : List UInt8} {pos : Nat} {b : UInt8} {l : List UInt8} (h : Has s pos (b :: l)) : Has s (pos + 1) l := (Has.app (l := [b]) h).2

/-- Texts with a byte between them. -/
def joinB (c : UInt8) : List (List UInt8) → List UInt8
  | [] => []
  | [a] => a
  | a :: b :: r => a ++ c :: joinB c (b :: r)
end Go.Proofs.YtlnbikcfjnloaaaGreatDoor

namespace Go.Proofs.YtlnbikcfjnloaaaGreatDoor.Mix
section
variable {P : Program} {ops : Array Oper} {Q : Exit → Act → World → Prop} {C : World → Prop} {keep : Nat → Bool}

/-- What a quiet operation that is no call leaves. -/
def held (r : Result Next) (w : World) (v : Value) : Prop := r = .ok (.value v) w ∨ (r = .ok .skip w ∧ v = undef)

/-- In every world of D the operation leaves v. -/
def YC (P : Program) (ops : Array Oper) (D : World → Prop) (o : Oper) (v : Value) (a : Act) : Prop :=
  (Region.wanted o (yielded ops a.tmps) = true ∧ ∀ w, D w → held ((execOp a.eval o).run P w) w v) ∨ (Region.wanted o (yielded ops a.tmps) = false ∧ v = undef)

theorem YC.of_same {D : World → Prop} {o : Oper} {v : Value} {a a' : Act} (hy : YC P ops D o v a) (he : execOp a'.eval o = execOp a.eval o)
    (hw : Region.wanted o (yielded ops a'.tmps) = Region.wanted o (yielded ops a.tmps)) : YC P ops D o v a' := by
  unfold YC at *
  rw [he, hw]
  exact hy

theorem YC.wpOp {D : World → Prop} {i : Nat} {o : Oper} {v : Value} {a : Act} (hi : ops[i]? = some o) (hy : YC P ops D o v a)
    {K : Act → World → Prop} {w : World} (hD : D w) (h : K (a.put o.dst v) w) : wpOp P ops Q i K a w := by
  unfold Go.wpOp
  simp only [hi]
  rcases hy with ⟨hw, hv⟩ | ⟨hw, rfl⟩
  · rcases hv w hD with e | ⟨e, rfl⟩
    · simp only [hw, if_true, Oper.wp, e, Oper.upon]; exact .inl h
    · simp only [hw, if_true, Oper.wp, e, Oper.upon]; exact .inl h
  · simp only [hw, Bool.false_eq_true, if_false]; exact h

theorem wpOp_putC {D : World → Prop} {j : Nat} {oi oj : Oper} {v : Value} (hj : ops[j]? = some oj) (hap : oi.apart ops oj = true)
    (hsi : ∀ cs b, oi.op ≠ .select cs b) (hsj : ∀ cs b, oj.op ≠ .select cs b)
    (hQ : ∀ c a w, Q (.panic c) (a.put oi.dst v) w → Q (.panic c) a w) {K : Act → World → Prop} {a : Act} {w : World}
    (hy : YC P ops D oi v a) (h : wpOp P ops Q j K (a.put oi.dst v) w) :
    wpOp P ops Q j (fun a' w' => YC P ops D oi v a' ∧ K (a'.put oi.dst v) w') a w := by
  obtain ⟨h1, h2, h3⟩ := Oper.apart_spec hap
  have keep : ∀ (a : Act), YC P ops D oi v a → ∀ u, YC P ops D oi v (a.put oj.dst u) := fun a hy u =>
    hy.of_same (execOp_put oi hsi a oj.dst u h3) (wanted_put oi a oj.dst u h3)
  have keepD : ∀ d, YC P ops D oi v { a with defers := d :: a.defers } := fun d => hy.of_same rfl rfl
  unfold wpOp at *
  simp only [hj] at *
  rw [wanted_put oj a oi.dst v h1] at h
  split
  · rename_i hw
    simp only [hw, if_true] at h
    rcases h with h | ⟨hasks, hlets⟩
    case inr => exact .inr ⟨by unfold Oper.asks at *; rw [execOp_put oj hsj a oi.dst v h1] at hasks; exact hasks, hlets⟩
    refine .inl ?_
    unfold Oper.wp at *
    rw [execOp_put oj hsj a oi.dst v h1] at h
    generalize (execOp a.eval oj).run P w = r at *
    cases r with
    | ok n w' =>
      cases n <;> simp only [Oper.upon] at h ⊢
      case value u => exact ⟨keep a hy u, by rw [← Act.put_comm a v u h2]; exact h⟩
      case skip => exact ⟨keep a hy _, by rw [← Act.put_comm a v undef h2]; exact h⟩
      case defer d =>
        refine ⟨keep _ (keepD d) _, ?_⟩
        rw [← Act.put_comm _ v undef h2, ← Act.put_defers]
        exact h
      case enter f args =>
        refine Calls.mono h fun e w'' he => ?_
        cases e with
        | returned u => exact ⟨keep a hy u, by rw [← Act.put_comm a v u h2]; exact he⟩
        | panicked c => exact hQ _ _ _ he
        | outgrown => exact he
      case row row args => exact Rows.mono h fun u w'' he => ⟨keep a hy u, by rw [← Act.put_comm a v u h2]; exact he⟩
    | halt x w' =>
      cases x <;> simp only [Oper.upon] at h ⊢
      case panic u => exact hQ _ _ _ h
  · rename_i hw
    simp only [hw] at h
    exact ⟨keep a hy _, by rw [← Act.put_comm a v undef h2]; exact h⟩

/-- Whatever order is picked; an operation that is marked keeps the class. -/
def wpAnyC (P : Program) (ops : Array Oper) (Q : Exit → Act → World → Prop) (C : World → Prop) (keep : Nat → Bool) : Nat → Array Bool → Act → World → Prop
  | 0, listed, a, w => Region.ready .any ops listed = [] ∧ Q .normal a w
  | f + 1, listed, a, w => (Region.ready .any ops listed = [] → Q .normal a w) ∧
      ∀ i ∈ Region.ready .any ops listed, wpOp P ops Q i (fun a' w' => (keep i = true → C w') ∧ wpAnyC P ops Q C keep f (listed.setIfInBounds i true) a' w') a w

theorem wpAny_of_C : ∀ (fuel : Nat) (listed : Array Bool) (a : Act) (w : World), wpAnyC P ops Q C keep fuel listed a w → wpAny P .any ops Q fuel listed a w
  | 0, _, _, _, h => h
  | f + 1, _, _, _, h => ⟨h.1, fun i hi => wpOp_mono (fun a' w' h' => wpAny_of_C f _ a' w' h'.2) (h.2 i hi)⟩

/-- What is listed is closed under what must come before. -/
structure Cl (ops : Array Oper) (listed : Array Bool) : Prop where
  size : listed.size = ops.size
  closed : ∀ j oj, ops[j]? = some oj → listed.getD j false = true → ∀ e ∈ oj.after, Region.binds .any e = true → listed.getD e.on false = true

theorem getD_both {listed : Array Bool} {i : Nat} (h : listed.getD i true = false) : listed.getD i false = false := by
  rcases Nat.lt_or_ge i listed.size with h' | h'
  · simp [h'] at h ⊢; exact h
  · simp [Array.getElem?_eq_none h'] at h

theorem Cl.set {i : Nat} {listed : Array Bool} (inv : Cl ops listed) (hi : i ∈ Region.ready .any ops listed) : Cl ops (listed.setIfInBounds i true) := by
  obtain ⟨_, oi, hoi, hall⟩ := mem_ready.1 hi
  refine ⟨by simp [inv.size], fun j oj hj hl e he hb => ?_⟩
  by_cases hij : i = j
  · subst hij
    have : oj = oi := Option.some.inj (hj.symm.trans hoi)
    subst this
    exact getD_set_true (hall e he hb)
  · rw [getD_set_ne false hij] at hl
    exact getD_set_true (inv.closed j oj hj hl e he hb)

theorem wpAnyC_first {D : World → Prop} {i : Nat} {oi : Oper} {v : Value} (hi : ops[i]? = some oi) (hsel : ∀ (j : Nat) (o : Oper) cs b, ops[j]? = some o → o.op ≠ .select cs b)
    (hQ : ∀ c a w, Q (.panic c) (a.put oi.dst v) w → Q (.panic c) a w)
    (hD : ∀ listed, Cl ops listed → listed.getD i true = false → ∀ j ∈ Region.ready .any ops listed, j ≠ i → ∀ w', (keep j = true → C w') → D w') :
    ∀ (fuel : Nat) (listed : Array Bool) (a : Act) (w : World), Cl ops listed →
      (∀ j oj, ops[j]? = some oj → j ≠ i → listed.getD j true = false → (∀ e ∈ oj.after, Region.binds .any e = true → e.on ≠ i) → oi.apart ops oj = true) →
      i ∈ Region.ready .any ops listed → D w → (keep i = true → C w) → YC P ops D oi v a →
      wpAnyC P ops Q C keep fuel (listed.setIfInBounds i true) (a.put oi.dst v) w → (∀ listed', Cl ops listed' → listed'.getD i true = false → ∀ j ∈ Region.ready .any ops listed', j ≠ i → keep i = true → keep j = true) →
      wpAnyC P ops Q C keep (fuel + 1) listed a w := by
  intro fuel
  induction fuel with
  | zero =>
    intro listed a w _ _ hr hDw hCw hy H _
    refine ⟨fun h => (by rw [h] at hr; cases hr), fun j hj => ?_⟩
    by_cases hji : j = i
    · subst hji; exact hy.wpOp hi hDw ⟨hCw, H⟩
    · have := ready_mono hj hji
      rw [H.1] at this
      cases this
  | succ fuel ih =>
    intro listed a w inv hfree hr hDw hCw hy H hkk
    have hun := (mem_ready.1 hr).1
    refine ⟨fun h => (by rw [h] at hr; cases hr), fun j hj => ?_⟩
    by_cases hji : j = i
    · subst hji; exact hy.wpOp hi hDw ⟨hCw, H⟩
    · have h1 := H.2 j (ready_mono hj hji)
      obtain ⟨hjun, oj, hoj, hall⟩ := mem_ready.1 hj
      have hnot : ∀ e ∈ oj.after, Region.binds .any e = true → e.on ≠ i := fun e he hb heq => by
        have h1 := hall e he hb
        rw [heq, getD_both hun] at h1
        cases h1
      have h2 := wpOp_putC hoj (hfree j oj hoj hji hjun hnot) (fun cs b => hsel i oi cs b hi) (fun cs b => hsel j oj cs b hoj) hQ hy h1
      have hfree' : ∀ k ok, ops[k]? = some ok → k ≠ i → (listed.setIfInBounds j true).getD k true = false →
          (∀ e ∈ ok.after, Region.binds .any e = true → e.on ≠ i) → oi.apart ops ok = true := fun k ok hk hki hun hno => by
        refine hfree k ok hk hki ?_ hno
        by_cases hjk : j = k
        · subst hjk; exact hjun
        · rw [getD_set_ne true hjk] at hun; exact hun
      refine wpOp_mono (fun a' w' h3 => ⟨h3.2.1, ih (listed.setIfInBounds j true) a' w' (inv.set hj) hfree' (ready_mono hr (Ne.symm hji)) (hD listed inv hun j hj hji w' h3.2.1) (fun hk => h3.2.1 (hkk listed inv hun j hj hji hk)) h3.1 ?_ hkk⟩) h2
      rw [Array.setIfInBounds_comm _ _ hji]
      exact h3.2.2

/-! What can come up while i has not. -/
def reachL (i : Nat) : List Oper → List Bool → List Bool
  | [], acc => acc
  | o :: r, acc => reachL i r (acc ++ [decide (acc.length ≠ i) && o.after.all (fun e => !Region.binds .any e || acc.getD e.on false)])

def lowerB : List Oper → Nat → Bool
  | [], _ => true
  | o :: r, k => o.after.all (fun e => !Region.binds .any e || decide (e.on < k)) && lowerB r (k + 1)

theorem reachL_get (i : Nat) : ∀ (r : List Oper) (acc : List Bool) (j : Nat), j < acc.length → (reachL i r acc)[j]? = acc[j]?
  | [], _, _, _ => rfl
  | o :: r, acc, j, hj => by
    rw [reachL, reachL_get i r _ j (by simp; omega), List.getElem?_append_left hj]

theorem reachL_spec {listed : Array Bool} {i : Nat} (inv : Cl ops listed) (hun : listed.getD i true = false) :
    ∀ (r : List Oper) (acc : List Bool) , (∀ j, r[j]? = ops[acc.length + j]?) → lowerB r acc.length = true →
      (∀ j, j < acc.length → j ≠ i → (listed.getD j false = true ∨ j ∈ Region.ready .any ops listed) → acc[j]? = some true) →
      ∀ j, j < acc.length + r.length → j ≠ i → (listed.getD j false = true ∨ j ∈ Region.ready .any ops listed) → (reachL i r acc)[j]? = some true
  | [], acc, _, _, h, j, hj, hji, hl => h j (by simpa using hj) hji hl
  | o :: r, acc, hr, hlow, h, j, hj, hji, hl => by
    simp only [lowerB, Bool.and_eq_true] at hlow
    rw [reachL]
    refine reachL_spec inv hun r _ (fun k => ?_) (by simpa using hlow.2) ?_ j (by simp at hj ⊢; omega) hji hl
    · have := hr (k + 1)
      simp at this
      rw [this]
      congr 1
      simp; omega
    · intro k hk hki hlk
      simp only [List.length_append, List.length_cons, List.length_nil] at hk
      by_cases hka : k < acc.length
      · rw [List.getElem?_append_left hka]; exact h k hka hki hlk
      · have hke : k = acc.length := by omega
        subst hke
        have ho : ops[acc.length]? = some o := by simpa using (hr 0).symm
        have hall : ∀ e ∈ o.after, Region.binds .any e = true → listed.getD e.on false = true := by
          rcases hlk with hlk | hlk
          · exact inv.closed _ o ho hlk
          · obtain ⟨_, o', ho', hall⟩ := mem_ready.1 hlk
            have : o' = o := Option.some.inj (ho'.symm.trans ho)
            subst this
            exact hall
        have hval : (decide (acc.length ≠ i) && o.after.all (fun e => !Region.binds .any e || acc.getD e.on false)) = true := by
          rw [Bool.and_eq_true]
          refine ⟨by simpa using hki, ?_⟩
          rw [Array.all_eq_true_iff_forall_mem]
          intro e he
          cases hb : Region.binds .any e
          · simp
          · simp only [Bool.not_true, Bool.false_or]
            have hl2 := hall e he hb
            have hne : e.on ≠ i := fun heq => by rw [heq, getD_both hun] at hl2; cases hl2
            have hlt : e.on < acc.length := by
              have := Array.all_eq_true_iff_forall_mem.1 hlow.1 e he
              simp [hb] at this; exact this
            have := h e.on hlt hne (.inl hl2)
            simp [List.getD, this]
        rw [hval]
        simp
  termination_by r => r.length

/-- Operations that are no call of a Go function. -/
def plainOp : Op → Bool
  | .call { callee := .builtin .len, .. } => true
  | .call { callee := .builtin .cap, .. } => true
  | .move _ | .assign _ | .pick .. | .load .. | .binOp .. | .unOp .. | .convert .. | .slice .. | .fieldAddr .. | .field .. | .indexAddr .. | .index .. | .typeAssert .. | .extract .. | .build .. | .nilCheck _ | .lookup .. => true
  | _ => false

theorem run_value_ne {P : Program} (s : Sem Value) (w : World) (f : FuncId) (args : Array Value) (w' : World) : ((do pure (Next.value (← s)) : Sem Next)).run P w ≠ .ok (.enter f args) w' := by
  intro hs
  simp only [Sem.run_bind] at hs
  cases hr : s.run P w <;> simp [hr] at hs

theorem run_bind_ne {α : Type} {P : Program} (s : Sem α) (g : α → Sem Next) (w : World) (f : FuncId) (args : Array Value) (w' : World) (h : ∀ x w, (g x).run P w ≠ .ok (.enter f args) w') : (s >>= g).run P w ≠ .ok (.enter f args) w' := by
  intro hs
  rw [Sem.run_bind] at hs
  cases hr : s.run P w with
  | ok x w2 => rw [hr] at hs; exact h x w2 hs
  | halt x w2 => rw [hr] at hs; cases hs

theorem runtimePanic_ne {P : Program} (e : RuntimeError) (w : World) (f : FuncId) (args : Array Value) (w' : World) : ((runtimePanic e : Sem Next)).run P w ≠ .ok (.enter f args) w' := by
  have hg : ∀ (v : Value) (w w' : World), ((goPanic v : Sem Next)).run P w ≠ .ok (.enter f args) w' := by
    intro v w w' he
    simp [goPanic] at he
  unfold runtimePanic
  refine run_bind_ne _ _ _ _ _ _ (fun x w => ?_)
  cases e <;> first
    | exact hg _ _ _
    | exact run_bind_ne _ _ _ _ _ _ (fun x w => run_bind_ne _ _ _ _ _ _ (fun x w => hg _ _ _))

theorem plain_upon {o : Oper} {ρ : Operand → Value} {w : World} {D : World → Prop} {v : Value} (hp : plainOp o.op = true) (h : Oper.quietUpon P D w v ((execOp ρ o).run P w)) :
    held ((execOp ρ o).run P w) w v := by
  have key : ∀ f args w', (execOp ρ o).run P w ≠ .ok (.enter f args) w' := by
    intro f args w'
    obtain ⟨dst, op, type, pos, after, guard⟩ := o
    cases op
    case call c =>
      obtain ⟨callee, asv, ats⟩ := c
      cases callee with
      | builtin b =>
        cases b <;> first | (exfalso; simp [plainOp] at hp; done) | exact run_value_ne _ _ _ _ _
      | _ => exfalso; simp [plainOp] at hp
    case nilCheck x =>
      simp only [execOp]
      split
      · exact runtimePanic_ne _ _ _ _ _
      · exact runtimePanic_ne _ _ _ _ _
      · exact runtimePanic_ne _ _ _ _ _
      · split
        · exact runtimePanic_ne _ _ _ _ _
        · refine run_bind_ne _ _ _ _ _ _ (fun x w => run_bind_ne _ _ _ _ _ _ (fun x w => ?_))
          split
          · refine run_bind_ne _ _ _ _ _ _ (fun x w => ?_)
            intro he; simp at he
          · intro he; simp at he
        · intro he; simp at he
      · intro he; simp at he
    case move x => intro he; simp [execOp] at he
    case assign x => intro he; simp [execOp] at he
    case pick c x y =>
      simp only [execOp]
      refine run_bind_ne _ _ _ _ _ _ (fun x w => ?_)
      intro he
      simp at he
    all_goals first | (exfalso; simp [plainOp] at hp; done) | exact run_value_ne _ _ _ _ _
  generalize (execOp ρ o).run P w = r at *
  cases r with
  | ok n w' =>
    cases n <;> simp only [Oper.quietUpon] at h
    case value u => exact .inl (by rw [h.1, h.2])
    case skip => exact .inr ⟨by rw [h.1], h.2⟩
    case enter f args => exact absurd rfl (key f args w')
  | halt x w' => simp only [Oper.quietUpon] at h

/-! The walk. A schedule: the operations' numbers, each with its kind: 0: it only reads, in the class C; 3: it does not even read; 1: whatever it does, it keeps the class; 2: whatever it does. -/
def wpMix (P : Program) (l : List Oper) (Q : Exit → Act → World → Prop) (C : World → Prop) : List (Nat × Nat) → Act → World → Prop
  | [], a, w => Q .normal a w
  | (k, t) :: r, a, w => ∃ o, l[k]? = some o ∧
    match t with
    | 0 => if Region.wanted o (yielded l.toArray a.tmps) then o.quiet P a C (fun a' => wpMix P l Q C r a' w) else wpMix P l Q C r (a.put o.dst undef) w
    | 3 => if Region.wanted o (yielded l.toArray a.tmps) then o.quiet P a (fun _ => True) (fun a' => wpMix P l Q C r a' w) else wpMix P l Q C r (a.put o.dst undef) w
    | 1 => if Region.wanted o (yielded l.toArray a.tmps) then o.wp P a w (fun a' w' => C w' ∧ wpMix P l Q C r a' w') Q ∨ (o.asks P a w ∧ LetsOut Q) else C w ∧ wpMix P l Q C r (a.put o.dst undef) w
    | _ => if Region.wanted o (yielded l.toArray a.tmps) then o.wp P a w (fun a' w' => wpMix P l Q C r a' w') Q ∨ (o.asks P a w ∧ LetsOut Q) else wpMix P l Q C r (a.put o.dst undef) w

def freeK (t : Nat) : Bool := t == 0 || t == 3
def keepOf (σ : List (Nat × Nat)) (j : Nat) : Bool := σ.any fun p => p.1 == j && p.2 != 2 && p.2 != 3 && p.2 < 4

/-- The schedule is one of those that the edges allow; what is free may come up at any time; a class is asked for while something that needs it is still to come. -/
def simB (ops : Array Oper) : List (Nat × Nat) → Array Bool → Bool
  | [], listed => (Region.ready .any ops listed).isEmpty
  | (k, t) :: r, listed =>
    (if freeK t then (Region.ready .any ops listed).contains k && Region.free .any ops listed k && ((ops[k]?).map (plainOp ·.op)).getD false
      else decide (Region.ready .any ops listed = [k]) && (t == 1 || (t == 2 && r.all fun p => p.2 != 0))) &&
    decide (t < 4) && simB ops r (listed.setIfInBounds k true)

/-- While an operation of kind 0 has not come up, whatever comes up keeps the class. -/
def reachB (l : List Oper) (σ : List (Nat × Nat)) : Bool :=
  σ.all fun p => p.2 != 0 || ((reachL p.1 l []).zipIdx.all fun q => !q.1 || q.2 == p.1 || keepOf σ q.2)

def sameB (σ : List (Nat × Nat)) : Bool := σ.all fun p => σ.all fun q => p.1 != q.1 || p.2 == q.2

def mixB (l : List Oper) (σ : List (Nat × Nat)) : Bool :=
  sameB σ && Region.noSelect l.toArray && decide (σ.length = l.length) && lowerB l 0 && reachB l σ && simB l.toArray σ (Array.replicate l.length false)

theorem panic_put (hQ : ∀ c a v w, Q (.panic c) { a with tmps := v } w → Q (.panic c) a w) (c : List PanicEntry) (a : Act) (d : Option Tmp) (v : Value) (w : World) (h : Q (.panic c) (a.put d v) w) : Q (.panic c) a w := by
  cases d with
  | none => exact h
  | some d => exact hQ c a _ w h

theorem keep_of {σ : List (Nat × Nat)} (hs : sameB σ = true) {k t : Nat} (hp : (k, t) ∈ σ) (hk : keepOf σ k = true) : t = 0 ∨ t = 1 := by
  obtain ⟨q, hq, h⟩ := List.any_eq_true.1 hk
  have h1 := List.all_eq_true.1 (List.all_eq_true.1 hs _ hp) q hq
  simp only [Bool.and_eq_true, beq_iff_eq, bne_iff_ne, decide_eq_true_eq] at h
  simp only [Bool.or_eq_true, bne_iff_ne, beq_iff_eq] at h1
  rcases h1 with h1 | h1
  · exact absurd h.1.1.1.symm h1
  · omega

theorem reach_keep {l : List Oper} {σ : List (Nat × Nat)} (hr : reachB l σ = true) (hlow : lowerB l 0 = true) {i : Nat} (hp : (i, 0) ∈ σ) {listed : Array Bool} (inv : Cl l.toArray listed) (hun : listed.getD i true = false)
    {j : Nat} (hj : j ∈ Region.ready .any l.toArray listed) (hji : j ≠ i) : keepOf σ j = true := by
  have h1 := List.all_eq_true.1 hr _ hp
  simp only [bne_self_eq_false, Bool.false_or] at h1
  have hjl : j < l.length := by
    obtain ⟨_, o, ho, _⟩ := mem_ready.1 hj
    have := (Array.getElem?_eq_some_iff.1 ho).1
    simpa using this
  have h2 := reachL_spec inv hun l [] (fun k => by simp) (by simpa using hlow) (fun k hk => by simp at hk) j (by simpa using hjl) hji (.inr hj)
  have h3 := List.all_eq_true.1 h1 (true, j) (by
    rw [List.mem_iff_getElem?]
    exact ⟨j, by rw [List.getElem?_zipIdx, h2]; simp⟩)
  simp only [Bool.not_true, Bool.false_or, Bool.or_eq_true, beq_iff_eq] at h3
  exact h3.resolve_left hji

theorem wpAnyC_of_mix {l : List Oper} {σ0 : List (Nat × Nat)} (hsame : sameB σ0 = true) (hsel : Region.noSelect l.toArray = true) (hlow : lowerB l 0 = true) (hreach : reachB l σ0 = true)
    (hQ : ∀ c a v w, Q (.panic c) { a with tmps := v } w → Q (.panic c) a w) :
    ∀ (σ : List (Nat × Nat)) (listed : Array Bool) (a : Act) (w : World), (∀ p ∈ σ, p ∈ σ0) → Cl l.toArray listed → simB l.toArray σ listed = true → ((σ.any fun p => p.2 == 0) = true → C w) →
      wpMix P l Q C σ a w → wpAnyC P l.toArray Q C (keepOf σ0) σ.length listed a w
  | [], listed, a, w, _, _, hs, _, h => ⟨by simpa [simB] using hs, h⟩
  | (k, t) :: r, listed, a, w, hmem, inv, hs, hC, h => by
    obtain ⟨o, ho, h⟩ := h
    have hoa : l.toArray[k]? = some o := by simpa using ho
    simp only [simB, Bool.and_eq_true, decide_eq_true_eq] at hs
    obtain ⟨⟨hk, ht⟩, hs⟩ := hs
    have hmemr : ∀ p ∈ r, p ∈ σ0 := fun p hp => hmem p (List.mem_cons_of_mem _ hp)
    have hkt : (k, t) ∈ σ0 := hmem _ List.mem_cons_self
    have hCr : (r.any fun p => p.2 == 0) = true → C w := fun hr => hC (by simp only [List.any_cons, hr, Bool.or_true])
    by_cases hf : freeK t = true
    · rw [if_pos hf] at hk
      simp only [Bool.and_eq_true] at hk
      obtain ⟨⟨hr, hfree⟩, hpl⟩ := hk
      have hr' : k ∈ Region.ready .any l.toArray listed := by simpa using hr
      have hplain : plainOp o.op = true := by simpa [ho] using hpl
      have hcases : t = 0 ∨ t = 3 := by simpa [freeK] using hf
      rcases hcases with rfl | rfl
      · have hCw : C w := hC (by simp)
        have hy : ∃ v, YC P l.toArray C o v a ∧ wpMix P l Q C r (a.put o.dst v) w := by
          by_cases hw : Region.wanted o (yielded l.toArray a.tmps) = true
          · simp only [hw, if_true] at h
            obtain ⟨v, h1, h2⟩ := h
            exact ⟨v, .inl ⟨hw, fun w' hw' => plain_upon hplain (h1 w' hw')⟩, h2⟩
          · simp only [hw] at h
            exact ⟨undef, .inr ⟨by simpa using hw, rfl⟩, h⟩
        obtain ⟨v, hy, hn⟩ := hy
        exact wpAnyC_first (D := C) hoa (Region.noSelect_spec hsel) (fun c a w => panic_put hQ c a _ _ w)
          (fun listed' inv' hun j hj hji w' hw' => hw' (reach_keep hreach hlow hkt inv' hun hj hji)) r.length listed a w inv (Region.free_spec hoa hfree) hr' hCw (fun _ => hCw) hy
          (wpAnyC_of_mix hsame hsel hlow hreach hQ r _ _ w hmemr (inv.set hr') hs (fun _ => hCw) hn)
          (fun listed' inv' hun j hj hji _ => reach_keep hreach hlow hkt inv' hun hj hji)
      · have hy : ∃ v, YC P l.toArray (fun _ => True) o v a ∧ wpMix P l Q C r (a.put o.dst v) w := by
          by_cases hw : Region.wanted o (yielded l.toArray a.tmps) = true
          · simp only [hw, if_true] at h
            obtain ⟨v, h1, h2⟩ := h
            exact ⟨v, .inl ⟨hw, fun w' hw' => plain_upon hplain (h1 w' hw')⟩, h2⟩
          · simp only [hw] at h
            exact ⟨undef, .inr ⟨by simpa using hw, rfl⟩, h⟩
        obtain ⟨v, hy, hn⟩ := hy
        have hnk : ¬ keepOf σ0 k = true := fun hk => by rcases keep_of hsame hkt hk with h | h <;> omega
        exact wpAnyC_first (D := fun _ => True) hoa (Region.noSelect_spec hsel) (fun c a w => panic_put hQ c a _ _ w)
          (fun _ _ _ _ _ _ _ _ => trivial) r.length listed a w inv (Region.free_spec hoa hfree) hr' trivial (fun hk => absurd hk hnk) hy
          (wpAnyC_of_mix hsame hsel hlow hreach hQ r _ _ w hmemr (inv.set hr') hs hCr hn)
          (fun _ _ _ _ _ _ hk => absurd hk hnk)
    · rw [if_neg hf] at hk
      simp only [Bool.and_eq_true, decide_eq_true_eq, Bool.or_eq_true, beq_iff_eq] at hk
      obtain ⟨hr, hk⟩ := hk
      have hr' : k ∈ Region.ready .any l.toArray listed := by rw [hr]; simp
      refine ⟨fun h0 => (by rw [hr] at h0; cases h0), fun i hi => ?_⟩
      rw [hr] at hi
      have hik : i = k := by simpa using hi
      subst hik
      rcases hk with rfl | ⟨rfl, hall⟩
      · have hw : wpOp P l.toArray Q i (fun a' w' => C w' ∧ wpMix P l Q C r a' w') a w := by
          unfold wpOp
          simp only [hoa]
          by_cases hw : Region.wanted o (yielded l.toArray a.tmps) = true
          · simp only [hw, if_true] at h ⊢
            exact h
          · simp only [hw] at h ⊢
            exact h
        exact wpOp_mono (fun a' w' h' => ⟨fun _ => h'.1, wpAnyC_of_mix hsame hsel hlow hreach hQ r _ a' w' hmemr (inv.set hr') hs (fun _ => h'.1) h'.2⟩) hw
      · have hw : wpOp P l.toArray Q i (fun a' w' => wpMix P l Q C r a' w') a w := by
          unfold wpOp
          simp only [hoa]
          by_cases hw : Region.wanted o (yielded l.toArray a.tmps) = true
          · simp only [hw, if_true] at h ⊢
            exact h
          · simp only [hw] at h ⊢
            exact h
        have hnk : ¬ keepOf σ0 i = true := fun hk => by rcases keep_of hsame hkt hk with h | h <;> omega
        refine wpOp_mono (fun a' w' h' => ⟨fun hk => absurd hk hnk, wpAnyC_of_mix hsame hsel hlow hreach hQ r _ a' w' hmemr (inv.set hr') hs (fun h0 => ?_) h'⟩) hw
        obtain ⟨p, hp, hp0⟩ := List.any_eq_true.1 h0
        have := List.all_eq_true.1 hall p hp
        rw [beq_iff_eq] at hp0
        simp [hp0] at this

/-- A REGION THAT DRAWS ITS ORDER, BY ONE WALK OF A SCHEDULE. -/
theorem wp_region_mix {id : Nat} {l : List Oper} {a : Act} {w : World} (σ : List (Nat × Nat)) (C : World → Prop) (hm : P.follows .mixedOrders = true) (hB : mixB l σ = true)
    (hQ : ∀ c a v w, Q (.panic c) { a with tmps := v } w → Q (.panic c) a w) (hC : C { w with drawn := w.drawn + 1 })
    (h : wpMix P l Q C σ a { w with drawn := w.drawn + 1 }) : (Code.region id l.toArray true).wp P Q a w := by
  simp only [mixB, Bool.and_eq_true, decide_eq_true_eq] at hB
  obtain ⟨⟨⟨⟨⟨hsame, hsel⟩, hlen⟩, hlow⟩, hreach⟩, hsim⟩ := hB
  refine wp_region_any hm (wpAny_of_C (C := C) (keep := keepOf σ) _ _ _ _ ?_)
  have inv0 : Cl l.toArray (Array.replicate l.toArray.size false) := ⟨by simp, fun j oj _ hl => by
    have hz : (Array.replicate l.toArray.size false).getD j false = false := by
      generalize l.toArray.size = n
      rcases Nat.lt_or_ge j n with h | h <;> simp [h]
    rw [hz] at hl
    cases hl⟩
  have := wpAnyC_of_mix hsame hsel hlow hreach hQ σ (Array.replicate l.toArray.size false) a _ (fun p hp => hp) inv0 (by simpa using hsim) (fun _ => hC) h
  rw [hlen] at this
  simpa using this

/-- The same at the class of the worlds that are this one after draws. -/
theorem wp_region_mixr {id : Nat} {l : List Oper} {a : Act} {w : World} (σ : List (Nat × Nat)) (hm : P.follows .mixedOrders = true) (hB : mixB l σ = true)
    (hQ : ∀ c a v w, Q (.panic c) { a with tmps := v } w → Q (.panic c) a w)
    (h : wpMix P l Q (fun w' => ∃ n, w' = w.drewN n) σ a w.drew) : (Code.region id l.toArray true).wp P Q a w :=
  wp_region_mix σ _ hm hB hQ ⟨1, rfl⟩ h
/-- .. at a class that is told. -/
theorem wp_region_mixc {id : Nat} {l : List Oper} {a : Act} {w : World} (σ : List (Nat × Nat)) (C : World → Prop) (hm : P.follows .mixedOrders = true) (hB : mixB l σ = true)
    (hQ : ∀ c a v w, Q (.panic c) { a with tmps := v } w → Q (.panic c) a w) (hC : C w.drew)
    (h : wpMix P l Q C σ a w.drew) : (Code.region id l.toArray true).wp P Q a w :=
  wp_region_mix σ C hm hB hQ hC h
theorem mix_nil {a : Act} {w : World} {l : List Oper} (h : Q .normal a w) : wpMix P l Q C [] a w := h
theorem mix_free {a : Act} {w : World} {l : List Oper} {k : Nat} {r : List (Nat × Nat)} {o : Oper} (ho : l[k]? = some o) (hg : o.guard = none)
    (h : ∀ K : Act → Prop, (∀ a, wpMix P l Q C r a w → K a) → o.quiet P a C K) : wpMix P l Q C ((k, 0) :: r) a w :=
  ⟨o, ho, by simp only [Region.wanted, hg, if_true]; exact h _ (fun _ h => h)⟩
theorem mix_pure {a : Act} {w : World} {l : List Oper} {k : Nat} {r : List (Nat × Nat)} {o : Oper} (ho : l[k]? = some o) (hg : o.guard = none)
    (h : ∀ K : Act → Prop, (∀ a, wpMix P l Q C r a w → K a) → o.quiet P a (fun _ => True) K) : wpMix P l Q C ((k, 3) :: r) a w :=
  ⟨o, ho, by simp only [Region.wanted, hg, if_true]; exact h _ (fun _ h => h)⟩
theorem mix_free_want {a : Act} {w : World} {l : List Oper} {k : Nat} {r : List (Nat × Nat)} {o : Oper} (ho : l[k]? = some o) (hg : Region.wanted o (yielded l.toArray a.tmps) = true)
    (h : ∀ K : Act → Prop, (∀ a, wpMix P l Q C r a w → K a) → o.quiet P a C K) : wpMix P l Q C ((k, 0) :: r) a w :=
  ⟨o, ho, by simp only [hg, if_true]; exact h _ (fun _ h => h)⟩
theorem mix_pure_want {a : Act} {w : World} {l : List Oper} {k : Nat} {r : List (Nat × Nat)} {o : Oper} (ho : l[k]? = some o) (hg : Region.wanted o (yielded l.toArray a.tmps) = true)
    (h : ∀ K : Act → Prop, (∀ a, wpMix P l Q C r a w → K a) → o.quiet P a (fun _ => True) K) : wpMix P l Q C ((k, 3) :: r) a w :=
  ⟨o, ho, by simp only [hg, if_true]; exact h _ (fun _ h => h)⟩
theorem mix_skip {a : Act} {w : World} {l : List Oper} {k t : Nat} {r : List (Nat × Nat)} {o : Oper} (ho : l[k]? = some o) (hg : Region.wanted o (yielded l.toArray a.tmps) = false) (ht : t ≠ 1)
    (h : wpMix P l Q C r (a.put o.dst undef) w) : wpMix P l Q C ((k, t) :: r) a w := by
  refine ⟨o, ho, ?_⟩
  simp only [hg, Bool.false_eq_true, if_false]
  split <;> first | exact h | (exact absurd rfl ht)
theorem mix_step {a : Act} {w : World} {l : List Oper} {k : Nat} {r : List (Nat × Nat)} {o : Oper} (ho : l[k]? = some o) (hg : Region.wanted o (yielded l.toArray a.tmps) = true)
    (h : ∀ K : Act → World → Prop, (∀ a w, wpMix P l Q C r a w → K a w) → o.wp P a w K Q) : wpMix P l Q C ((k, 2) :: r) a w :=
  ⟨o, ho, by simp only [hg, if_true]; exact .inl (h _ (fun _ _ h => h))⟩
theorem mix_keep {a : Act} {w : World} {l : List Oper} {k : Nat} {r : List (Nat × Nat)} {o : Oper} (ho : l[k]? = some o) (hg : Region.wanted o (yielded l.toArray a.tmps) = true)
    (h : ∀ K : Act → World → Prop, (∀ a w, C w ∧ wpMix P l Q C r a w → K a w) → o.wp P a w K Q) : wpMix P l Q C ((k, 1) :: r) a w :=
  ⟨o, ho, by simp only [hg, if_true]; exact .inl (h _ (fun _ _ h => h))⟩
end
end Go.Proofs.YtlnbikcfjnloaaaGreatDoor.Mix

namespace Go.Proofs.YtlnbikcfjnloaaaGreatDoor
set_option linter.unusedVariables false
set_option linter.unusedSimpArgs false
open Go.RowKit

/-- What the call of a method through an interface value comes to. -/
def Inv (v : Value) (m : String) (xs : Array Value) (w : World) (R : Ending → World → Prop) : Prop :=
  ∃ f args, (invoke (.fn (.method m) #[]) (#[v] ++ xs)).run Tryz.prog w = .ok (.enter f args) w ∧ Calls Tryz.prog f args w R

theorem Inv.mono {v : Value} {m : String} {xs : Array Value} {w : World} {R R' : Ending → World → Prop} (h : Inv v m xs w R) (hr : ∀ e w', R e w' → R' e w') : Inv v m xs w R' := by
  obtain ⟨f, args, h1, h2⟩ := h
  exact ⟨f, args, h1, h2.mono hr⟩

/-- A call through an interface value without arguments. -/
theorem wpList_inv {ops : Array Oper} {Q : Exit → Act → World → Prop} {rest : List Oper} {o : Oper} {a : Act} {w : World} (x : Operand) (m : String) {v : Value} {R : Ending → World → Prop}
    (hg : o.guard = none) (ho : o.op = .call { callee := .invoke x m, args := #[], argTypes := #[] }) (hx : a.eval x = v) (hc : Inv v m #[] w R)
    (h : ∀ u w', R (.returned u) w' → wpList Tryz.prog ops Q rest (a.put o.dst u) w') (hp : ∀ c w', ¬ R (.panicked c) w') (hq : ∀ w', ¬ R .outgrown w') : wpList Tryz.prog ops Q (o :: rest) a w := by
  obtain ⟨f, args, hr, hc⟩ := hc
  refine wpList_plain hg fun K hK => ?_
  unfold Oper.wp
  have he : (execOp a.eval o).run Tryz.prog w = .ok (.enter f args) w := by
    unfold execOp
    rw [ho]
    simp only [resolve, hx, Sem.run_bind, Sem.run_pure, Result.andThen_ok]
    simpa using hr
  rw [he]
  refine hc.mono fun e w' hR => ?_
  cases e with
  | returned u => exact hK _ _ (h u w' hR)
  | panicked c => exact absurd hR (hp c w')
  | outgrown => exact absurd hR (hq w')

/-- A source of bytes that is read rune by rune: what is asked of it (of one-byte runes alone). -/
structure Source where
  val : Value
  s : List UInt8
  own : Nat → Prop
  need : Nat → Prop
  At : World → Nat → Bool → Prop
  read : ∀ w pos last, At w pos last → pos < s.length → (s.getD pos 0).toNat < 128 →
    Inv val "ReadRune" #[] w fun e w' => e = .returned (.tuple #[.int .i32 (s.getD pos 0).toNat, .int .i64 1, .nilIface]) ∧ At w' (pos + 1) true ∧ Keep own w w'
  unread : ∀ w pos, At w pos true → Inv val "UnreadRune" #[] w fun e w' => e = .returned .nilIface ∧ At w' (pos - 1) false ∧ Keep own w w'
  isI : ∃ t v, val = .iface t v
  lt : ∀ w pos last k, At w pos last → (own k ∨ need k) → k < w.heap.size
  keep : ∀ M w w' pos last, At w pos last → Keep M w w' → (∀ k, (own k ∨ need k) → ¬ M k) → At w' pos last

/-- A reader of IMAP (block r) over a source. -/
def RdAt (S : Source) (w : World) (r : Nat) (mx : Int) (inR : Bool) (br : Int) (pos : Nat) (last : Bool) : Prop :=
  Blk w r #[.int .u32 mx, S.val, .nilFunc, .int .i64 br, .bool inR] 63 ∧ S.At w pos last ∧ ¬ (S.own r ∨ S.need r)
def RM (S : Source) (r : Nat) (k : Nat) : Prop := k = r ∨ S.own k
def RF (S : Source) (r : Nat) (k : Nat) : Prop := k = r ∨ (S.own k ∨ S.need k)

theorem RdAt.step {S : Source} {w w' : World} {r : Nat} {mx : Int} {inR : Bool} {br : Int} {pos pos' : Nat} {last last' : Bool} (h : RdAt S w r mx inR br pos last) (hA : S.At w' pos' last') (hk : Keep S.own w w') : RdAt S w' r mx inR br pos' last' := by
  obtain ⟨hb, _, hn⟩ := h
  exact ⟨hb.keep hk (fun h => hn (.inl h)), hA, hn⟩
theorem RdAt.keep {S : Source} {M : Nat → Prop} {w w' : World} {r : Nat} {mx : Int} {inR : Bool} {br : Int} {pos : Nat} {last : Bool} (h : RdAt S w r mx inR br pos last) (hk : Keep M w w') (hM : ∀ k, RF S r k → ¬ M k) : RdAt S w' r mx inR br pos last := by
  obtain ⟨hb, hA, hn⟩ := h
  exact ⟨hb.keep hk (hM r (.inl rfl)), S.keep M w w' pos last hA hk (fun k hk => hM k (.inr hk)), hn⟩
theorem RdAt.cells {S : Source} {w : World} {r : Nat} {mx : Int} {inR : Bool} {br : Int} {pos : Nat} {last : Bool} (h : RdAt S w r mx inR br pos last) :
    w.cell? ⟨r, 0, none⟩ = some (.int .u32 mx) ∧ w.cell? ⟨r, 1, none⟩ = some S.val ∧ w.cell? ⟨r, 2, none⟩ = some .nilFunc ∧ w.cell? ⟨r, 3, none⟩ = some (.int .i64 br) ∧ w.cell? ⟨r, 4, none⟩ = some (.bool inR) ∧ ∀ i, w.frozen? ⟨r, i, none⟩ = false := by
  obtain ⟨hb, _, _⟩ := h
  exact ⟨(hb.cell 0).trans rfl, (hb.cell 1).trans rfl, (hb.cell 2).trans rfl, (hb.cell 3).trans rfl, (hb.cell 4).trans rfl, hb.free⟩
/-- The count of brackets is set. -/
theorem RdAt.brackets {S : Source} {w : World} {r : Nat} {mx : Int} {inR : Bool} {br : Int} {pos : Nat} {last : Bool} (h : RdAt S w r mx inR br pos last) (b : Int) : RdAt S (w.setCell ⟨r, 3, none⟩ (.int .i64 b)) r mx inR b pos last :=
  ⟨h.1.set 3 _, S.keep (· = r) _ _ pos last h.2.1 ((Keep.refl (· = r) w).at (fun _ => rfl) 3 _) (fun _ hk e => h.2.2 (e ▸ hk)), h.2.2⟩
theorem RdAt.drewN {S : Source} {w : World} {r : Nat} {mx : Int} {inR : Bool} {br : Int} {pos : Nat} {last : Bool} (h : RdAt S w r mx inR br pos last) (n : Nat) : RdAt S (w.drewN n) r mx inR br pos last :=
  h.keep (M := fun _ => False) ((Keep.refl _ w).drewN n) (fun _ _ => id)
theorem RdAt.ltF {S : Source} {w : World} {r : Nat} {mx : Int} {inR : Bool} {br : Int} {pos : Nat} {last : Bool} (h : RdAt S w r mx inR br pos last) (k : Nat) (hk : RF S r k) : k < w.heap.size := by
  obtain ⟨hb, hA, _⟩ := h
  rcases hk with rfl | hk
  · exact hb.lt
  · exact S.lt w pos last k hA hk
theorem RdAt.lt {S : Source} {w : World} {r : Nat} {mx : Int} {inR : Bool} {br : Int} {pos : Nat} {last : Bool} (h : RdAt S w r mx inR br pos last) (k : Nat) (hk : RM S r k) : k < w.heap.size :=
  h.ltF k (hk.elim .inl fun h => .inr (.inl h))
/-- A second step back does nothing; what it answers is some value. -/
def Unread0 (S : Source) : Prop := ∀ w pos, S.At w pos false → Inv S.val "UnreadRune" #[] w fun e w' => ∃ v, e = .returned v ∧ S.At w' pos false ∧ Keep S.own w w'
section
variable {ops : Array Oper} {Q : Exit → Act → World → Prop} {rest : List Oper} {o : Oper} {a : Act} {w : World} {S : Source} {r pos : Nat} {mx br : Int} {inR last : Bool}
/-- 'r.ReadRune()' in an operation of a region. -/
theorem rd_read (x : Operand) (c : Int) (hR : RdAt S w r mx inR br pos last) (hlt : pos < S.s.length) (hc : ((S.s.getD pos 0).toNat : Int) = c) (ha : c < 128)
    (hg : o.guard = none) (ho : o.op = .call { callee := .invoke x "ReadRune", args := #[], argTypes := #[] }) (hx : a.eval x = S.val)
    (h : ∀ w', RdAt S w' r mx inR br (pos + 1) true → Keep (RM S r) w w' → wpList Tryz.prog ops Q rest (a.put o.dst (.tuple #[.int .i32 c, .int .i64 1, .nilIface])) w') : wpList Tryz.prog ops Q (o :: rest) a w := by
  refine wpList_inv x "ReadRune" hg ho hx (S.read w pos last hR.2.1 hlt (by omega)) (fun u w' hw => ?_) (fun c w' hw => by cases hw.1) (fun w' hw => by cases hw.1)
  obtain ⟨hu, hA, hk⟩ := hw
  injection hu with hu
  subst hu
  rw [hc]
  exact h w' (hR.step hA hk) (hk.mono fun i _ hi => .inr hi)
theorem rd_unread (x : Operand) (hR : RdAt S w r mx inR br pos true)
    (hg : o.guard = none) (ho : o.op = .call { callee := .invoke x "UnreadRune", args := #[], argTypes := #[] }) (hx : a.eval x = S.val)
    (h : ∀ w', RdAt S w' r mx inR br (pos - 1) false → Keep (RM S r) w w' → wpList Tryz.prog ops Q rest (a.put o.dst .nilIface) w') : wpList Tryz.prog ops Q (o :: rest) a w := by
  refine wpList_inv x "UnreadRune" hg ho hx (S.unread w pos hR.2.1) (fun u w' hw => ?_) (fun c w' hw => by cases hw.1) (fun w' hw => by cases hw.1)
  obtain ⟨hu, hA, hk⟩ := hw
  injection hu with hu
  subst hu
  exact h w' (hR.step hA hk) (hk.mono fun i _ hi => .inr hi)
theorem rd_unread0 (x : Operand) (hU : Unread0 S) (hR : RdAt S w r mx inR br pos false)
    (hg : o.guard = none) (ho : o.op = .call { callee := .invoke x "UnreadRune", args := #[], argTypes := #[] }) (hx : a.eval x = S.val)
    (h : ∀ v w', RdAt S w' r mx inR br pos false → Keep (RM S r) w w' → wpList Tryz.prog ops Q rest (a.put o.dst v) w') : wpList Tryz.prog ops Q (o :: rest) a w := by
  refine wpList_inv x "UnreadRune" hg ho hx (hU w pos hR.2.1) (fun u w' hw => ?_) (fun c w' hw => by obtain ⟨v, hv, _⟩ := hw; cases hv) (fun w' hw => by obtain ⟨v, hv, _⟩ := hw; cases hv)
  obtain ⟨v, hu, hA, hk⟩ := hw
  injection hu with hu
  subst hu
  exact h u w' (hR.step hA hk) (hk.mono fun i _ hi => .inr hi)
end
end Go.Proofs.YtlnbikcfjnloaaaGreatDoor

namespace Go.Proofs.YtlnbikcfjnloaaaGreatDoor
set_option linter.unusedVariables false
set_option linter.unusedSimpArgs false
open Go.RowKit

theorem t_idle (p : Addr) (w : World) :
    CallsD Tryz.prog 22 #[.pointer (some p)] .returning w fun e u' w' => e = .returned (.tuple #[]) ∧ u' = .returning ∧ w' = w := by
  refine callsD_of_wpS Tryz.func22 rfl fun c₀ cs hu => ?_
  apply wpS_seq
  apply wpS_region
  simp [wpOpsS, go_sem, recoverD, hu, Tryz.ntmps22, Exit.thenS]
  refine wpS_cond (t := false) (by simp [Act.eval, Array.replicate]) ?_
  simp only [Bool.false_eq_true, if_false]
  refine wpS_of_wp (wp_skip ?_)
  cases c₀
  simp_all [bodyPostS, results, Tryz.results22]

set_option maxRecDepth 100000 in
theorem t_tried (w : World) (fn : Nat) (cap : Array Value) (M : Nat → Prop) (R : World → Prop) (hM : ∀ k, M k → k < w.heap.size) (hcf : ∀ w, (callFunc fn cap).run Tryz.prog w = .ok (.enter fn cap) w)
    (hC : Calls Tryz.prog fn cap (w.alloc (.cells #[.bool false] 4)) fun e w' => e = .returned (.tuple #[]) ∧ R w' ∧ Keep M (w.alloc (.cells #[.bool false] 4)) w') :
    Calls Tryz.prog 14 #[.func (.func fn) #[] cap] w fun e w' => e = .returned (.bool true) ∧ ∃ w1, R w1 ∧ Keep M (w.alloc (.cells #[.bool false] 4)) w1 ∧ w' = w1.setCell ⟨w.heap.size, 0, none⟩ (.bool true) := by
  have hmf : ∀ (fn : Fn) (first cap : Array Value) (w : World), (Instr.makeFunc fn first cap).run Tryz.prog w = .ok (.func fn first cap) w := fun _ _ _ _ => rfl
  go_enter_defers Tryz.func14, Tryz.ntmps14
  have HC := Lib.hid hC
  have HM := Lib.hid hM
  clear hC hM
  go_wp2_with ((with_reducible refine HC.out.mono ?_); rintro e w1 ⟨rfl, hR, hk⟩; have hb := (Blk.new w #[.bool false] 4).keep hk (fun hm => Nat.lt_irrefl _ (HM.out _ hm)); have hc0 : w1.cell? ⟨w.heap.size, 0, none⟩ = some (.bool false) := (hb.cell 0).trans rfl; have hbf := hb.free; have HB := Lib.hid hb; have HR := Lib.hid (And.intro hR hk); clear hR hk hb)
  refine leaves_cons (f := 22) (args := #[.pointer (some ⟨w.heap.size, 0, none⟩)]) (by simp) (by simp [go_sem]) ?_
  refine (t_idle ⟨w.heap.size, 0, none⟩ _).mono ?_
  rintro e u' w'' ⟨rfl, rfl, rfl⟩
  have h9 : (w1.setCell ⟨w.heap.size, 0, none⟩ (.bool true)).cell? ⟨w.heap.size, 0, none⟩ = some (.bool true) := ((HB.out.set 0 (.bool true)).cell 0).trans rfl
  obtain ⟨hR1, hR2⟩ := HR.out
  have hin : ∃ w2, R w2 ∧ Keep M (w.alloc (.cells #[.bool false] 4)) w2 ∧ w1.setCell ⟨w.heap.size, 0, none⟩ (.bool true) = w2.setCell ⟨w.heap.size, 0, none⟩ (.bool true) := ⟨w1, hR1, hR2, rfl⟩
  have HIN := Lib.hid hin
  clear hin hR1 hR2
  generalize w1.setCell ⟨w.heap.size, 0, none⟩ (.bool true) = W at h9 HIN ⊢
  simp [Leaves, settle, results, Tryz.results14, go_sem, h9]
  exact HIN.out
end Go.Proofs.YtlnbikcfjnloaaaGreatDoor
