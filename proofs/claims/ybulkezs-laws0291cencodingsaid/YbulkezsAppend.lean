import Derived.Test.YbulkezsBuild
namespace Go.Proofs.Ybulkezs
open Go.RowKit
set_option linter.unusedVariables false

theorem info5 : (Yba.prog.info? 5).map (fun i => (i.zero, i.size, i.bytes)) = some (some (.int .u8 0), 1, 1) := by kernel_rfl

/-- Bytes as cells. -/
def byteCells (xs : List Nat) : List Value := xs.map fun (x : Nat) => Value.int .u8 (x : Int)
theorem byteCells_append (a b : List Nat) : byteCells (a ++ b) = byteCells a ++ byteCells b := List.map_append

theorem grown_alloc2 {w w2 : World} {row : Option Nat} {o1 o2 : Obj} (h : ((w.alloc o1).alloc o2).grownBy w2 row) : w.grownBy w2 row := by
  have hB : Below w.heap.size w ((w.alloc o1).alloc o2) := ((Below.refl _ _).alloc (Nat.le_refl _) _).alloc (by simp) _
  exact ⟨h.os.trans hB.os, h.tape.trans hB.tape, h.output.trans hB.output, Nat.le_trans hB.size h.size, fun k hk hr => (h.block k (Nat.lt_of_lt_of_le hk hB.size) hr).trans (hB.block k hk)⟩

/-- The eight bytes of the word of 64 bits. -/
theorem pack8 (cs : List Bool) (h : cs.length = 64) : byteCells (M.pack cs) = [Value.int .u8 ((M.val cs : Int) / 72057594037927936), Value.int .u8 ((M.val cs : Int) / 281474976710656 % 256), Value.int .u8 ((M.val cs : Int) / 1099511627776 % 256), Value.int .u8 ((M.val cs : Int) / 4294967296 % 256), Value.int .u8 ((M.val cs : Int) / 16777216 % 256), Value.int .u8 ((M.val cs : Int) / 65536 % 256), Value.int .u8 ((M.val cs : Int) / 256 % 256), Value.int .u8 ((M.val cs : Int) % 256)] := by
  have hv : M.val cs < 2 ^ 64 := by have := M.val_lt cs; rw [h] at this; exact this
  have e : M.pack cs = [M.val cs / 2 ^ 56 % 256, M.val cs / 2 ^ 48 % 256, M.val cs / 2 ^ 40 % 256, M.val cs / 2 ^ 32 % 256, M.val cs / 2 ^ 24 % 256, M.val cs / 2 ^ 16 % 256, M.val cs / 2 ^ 8 % 256, M.val cs / 2 ^ 0 % 256] := by
    have b := fun j hj => (M.val_byte cs h j hj).symm
    unfold M.pack
    rw [h]
    show [M.byteAt cs 0, M.byteAt cs 1, M.byteAt cs 2, M.byteAt cs 3, M.byteAt cs 4, M.byteAt cs 5, M.byteAt cs 6, M.byteAt cs 7] = _
    rw [b 0 (by omega), b 1 (by omega), b 2 (by omega), b 3 (by omega), b 4 (by omega), b 5 (by omega), b 6 (by omega), b 7 (by omega)]
  rw [e]
  generalize M.val cs = V at *
  simp only [byteCells, List.map_cons, List.map_nil]
  have e0 : ((V / 2 ^ 56 % 256 : Nat) : Int) = (V : Int) / 72057594037927936 := by omega
  have e1 : ((V / 2 ^ 48 % 256 : Nat) : Int) = (V : Int) / 281474976710656 % 256 := by omega
  have e2 : ((V / 2 ^ 40 % 256 : Nat) : Int) = (V : Int) / 1099511627776 % 256 := by omega
  have e3 : ((V / 2 ^ 32 % 256 : Nat) : Int) = (V : Int) / 4294967296 % 256 := by omega
  have e4 : ((V / 2 ^ 24 % 256 : Nat) : Int) = (V : Int) / 16777216 % 256 := by omega
  have e5 : ((V / 2 ^ 16 % 256 : Nat) : Int) = (V : Int) / 65536 % 256 := by omega
  have e6 : ((V / 2 ^ 8 % 256 : Nat) : Int) = (V : Int) / 256 % 256 := by omega
  have e7 : ((V / 2 ^ 0 % 256 : Nat) : Int) = (V : Int) % 256 := by omega
  rw [e0, e1, e2, e3, e4, e5, e6, e7]

set_option maxHeartbeats 8000000 in
set_option maxRecDepth 100000 in
theorem append64_core (S n v : Nat) (hv : v < 18446744073709551616) (sv : Value) (xs : List Value) (w : World) (hown : w.ownsRow S 5 1 sv n xs) (hS : S ≤ w.heap.size) (hlim : n + 8 ≤ 140737488355328) :
    Calls Yba.prog 22 #[.agg #[], sv, .int .u64 v] w fun e w' => ∃ v', e = .returned v' ∧ w'.ownsRow S 5 1 v' (n + 8) (xs ++ [Value.int .u8 ((v : Int) / 72057594037927936), Value.int .u8 ((v : Int) / 281474976710656 % 256), Value.int .u8 ((v : Int) / 1099511627776 % 256), Value.int .u8 ((v : Int) / 4294967296 % 256), Value.int .u8 ((v : Int) / 16777216 % 256), Value.int .u8 ((v : Int) / 65536 % 256), Value.int .u8 ((v : Int) / 256 % 256), Value.int .u8 ((v : Int) % 256)]) ∧ w.grownBy w' sv.ownBlock := by
  obtain ⟨i0, hi, hz0, hz1, hz2⟩ := info_parts info5
  go_enter Yba.func22, Yba.ntmps22
  go_wp2_with (at_builtin; refine wpList_append_own _ rfl _ _ 29 rfl S 5 i0 (.int .u8 0) 1 1 Yba.underlying29 hi hz0 hz1 hz2 rfl (by decide) _ _ _ rfl ((hown.alloc _).alloc _) _ 8 8 [Value.int .u8 ((v : Int) / 72057594037927936), Value.int .u8 ((v : Int) / 281474976710656 % 256), Value.int .u8 ((v : Int) / 1099511627776 % 256), Value.int .u8 ((v : Int) / 4294967296 % 256), Value.int .u8 ((v : Int) / 16777216 % 256), Value.int .u8 ((v : Int) / 65536 % 256), Value.int .u8 ((v : Int) / 256 % 256), Value.int .u8 ((v : Int) % 256)] rfl rfl ?c1 ?c2 ?c3 ?c4 ?c5 ?_)
  case c1 =>
    intro j u hj
    match j, hj with
    | 0, hj => simp at hj; subst hj; simp [Addr.add]
    | 1, hj => simp at hj; subst hj; simp [Addr.add]
    | 2, hj => simp at hj; subst hj; simp [Addr.add]
    | 3, hj => simp at hj; subst hj; simp [Addr.add]
    | 4, hj => simp at hj; subst hj; simp [Addr.add]
    | 5, hj => simp at hj; subst hj; simp [Addr.add]
    | 6, hj => simp at hj; subst hj; simp [Addr.add]
    | 7, hj => simp at hj; subst hj; simp [Addr.add]
  case c2 => intro u hu; simp at hu; rcases hu with rfl | rfl | rfl | rfl | rfl | rfl | rfl | rfl <;> rfl
  case c3 => unfold maxLen; omega
  case c4 => omega
  case c5 => simp; omega
  intro v' w2 hown' hgrow _
  go_wp2
  go_ret
  exact ⟨v', rfl, hown', grown_alloc2 hgrow⟩

theorem append64_any (S : Nat) (cs : List Bool) (hcs : cs.length = 64) (sv : Value) (xs : List Nat) (w : World) (hown : w.ownsRow S 5 1 sv xs.length (byteCells xs)) (hS : S ≤ w.heap.size) (hlim : xs.length + 8 ≤ 140737488355328) :
    Calls Yba.prog 22 #[.agg #[], sv, .int .u64 (M.val cs : Nat)] w fun e w' => ∃ v', e = .returned v' ∧ w'.ownsRow S 5 1 v' (xs ++ M.pack cs).length (byteCells (xs ++ M.pack cs)) ∧ w.grownBy w' sv.ownBlock := by
  have hv : M.val cs < 2 ^ 64 := by have := M.val_lt cs; rw [hcs] at this; exact this
  refine (append64_core S xs.length (M.val cs) hv sv (byteCells xs) w hown hS hlim).mono ?_
  rintro e w' ⟨v', rfl, ho, hg⟩
  refine ⟨v', rfl, ?_, hg⟩
  rw [byteCells_append, pack8 cs hcs, List.length_append, M.pack_length, hcs]
  exact ho
end Go.Proofs.Ybulkezs
