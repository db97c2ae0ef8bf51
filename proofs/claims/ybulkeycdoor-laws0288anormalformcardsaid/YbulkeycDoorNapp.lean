import Derived.Test.YbulkeycDoorSrow
import Derived.ArgAppend
/- append of one word within the room of a row. -/
namespace Go.Proofs.YbulkeycDoor
open Go.RowKit
set_option linter.unusedVariables false

theorem size26 : (Ybad.prog.info? 26).map (fun i => i.size) = some 1 := by kernel_rfl

theorem append_room (w : World) {ops : Array Oper} {rest : List Oper} {o : Oper} {a : Act} {Q : Exit → Act → World → Prop} (hgd : o.guard = none) (s x : Operand)
    (ho : o.op = .call { callee := .builtin .append, args := #[s, x], argTypes := #[23, 23] }) (g n cap c : Nat) (ad : Addr) (v : Value)
    (hs : a.eval s = .slice (some ⟨g, 0, none⟩) n cap) (hx : a.eval x = .slice (some ad) 1 c) (hv : w.cell? (ad.add 0) = some v) (h1 : v.oneCell' = true) (hn : n < cap)
    (hc : (w.cell? ⟨g, n, none⟩).isSome = true) (hf : w.frozen? ⟨g, n, none⟩ = false)
    (h : wpList Ybad.prog ops Q rest (a.put o.dst (.slice (some ⟨g, 0, none⟩) (n + 1) cap)) (w.setCell ⟨g, n, none⟩ v)) : wpList Ybad.prog ops Q (o :: rest) a w := by
  obtain ⟨i, hi, hsz⟩ := Option.map_eq_some_iff.1 size26
  refine wpList_plain hgd fun K hK' => ?_
  have hrun := run_append_room_cells (P := Ybad.prog) w 23 o.type 26 i Ybad.underlying23 hi g 0 n cap ad 1 c [v] (by simp [hsz])
    (fun j u hj => by
      match j, hj with
      | 0, hj => simp at hj; subst hj; exact hv)
    (fun u hu => by simp at hu; subst hu; exact h1) (by omega)
    (fun j hj => by simp at hj; subst hj; simpa [hsz] using hc) (fun j hj => by simp at hj; subst hj; simpa [hsz] using hf)
  unfold Oper.wp
  simp [execOp, ho, resolve, invoke, builtin, hs, hx, hrun, Result.andThen]
  have e : w.setCells g (n * i.size) [v] = w.setCell ⟨g, n, none⟩ v := by
    rw [hsz, Nat.mul_one]
    rfl
  rw [e]
  exact hK' _ _ h
end Go.Proofs.YbulkeycDoor
