import Derived.Test.YbulkezsEnc
import Derived.Laws.AppendOwnNone
import Derived.Laws.BytesArg
namespace Go.Proofs.Ybulkezs
open Go.RowKit
set_option linter.unusedVariables false

/-- A slice of bytes that came in. -/
def PreAt (w : World) (a : Option Addr) (m c : Nat) (pre : List Nat) : Prop := pre.length = m ∧ ((a = none ∧ m = 0 ∧ c = 0) ∨ ∃ x, a = some x ∧ ∀ i, i < m → w.cell? (x.add i) = some (.int .u8 (pre.getD i 0 : Nat)))
theorem PreAt.below {w w' : World} {a : Option Addr} {m c : Nat} {pre : List Nat} (h : PreAt w a m c pre) (hB : Below w.heap.size w w') : PreAt w' a m c pre := by
  obtain ⟨hl, h1 | ⟨x, e, hc⟩⟩ := h
  · exact ⟨hl, .inl h1⟩
  · exact ⟨hl, .inr ⟨x, e, fun i hi => cellB hB (hc i hi)⟩⟩

theorem wpList_append_pre (w : World) {ops : Array Oper} {rest : List Oper} {o : Oper} {a : Act} {Q : Exit → Act → World → Prop} (hgd : o.guard = none) (s x : Operand)
    (ho : o.op = .call { callee := .builtin .append, args := #[s, x], argTypes := #[29, 29] }) (S : Nat) (pa : Option Addr) (m c : Nat) (pre : List Nat) (hs : a.eval s = .slice none 0 0) (hx : a.eval x = .slice pa m c) (hp : PreAt w pa m c pre) (hm : m ≤ 100000) (hS : S ≤ w.heap.size)
    (h : ∀ v' w', w'.ownsRow S 5 1 v' pre.length (byteCells pre) → w.grownBy w' none → wpList Yba.prog ops Q rest (a.put o.dst v') w') : wpList Yba.prog ops Q (o :: rest) a w := by
  obtain ⟨i0, hi, hz0, hz1, hz2⟩ := info_parts info5
  obtain ⟨hl, ⟨rfl, rfl, rfl⟩ | ⟨ad, rfl, hc⟩⟩ := hp
  · have hnil : pre = [] := List.length_eq_zero_iff.1 hl
    subst hnil
    exact wpList_append_own_none hgd s x 29 ho S 5 i0 1 Yba.underlying29 hi _ 0 [] hs (World.ownsRow_nil _ _ _ _) hx (h _ _ (World.ownsRow_nil _ _ _ _) ⟨rfl, rfl, rfl, Nat.le_refl _, fun _ _ _ => rfl⟩)
  · refine wpList_append_own _ hgd s x 29 ho S 5 i0 (.int .u8 0) 1 1 Yba.underlying29 hi hz0 hz1 hz2 rfl (by decide) _ 0 [] hs (World.ownsRow_nil _ _ _ _) ad m c (byteCells pre) hx (by simp [byteCells, hl]) ?_ ?_ (by unfold maxLen; omega) (by omega) hS ?_
    · intro j u hj
      have hjl : j < pre.length := by
        have := (List.getElem?_eq_some_iff.1 hj).1
        simpa [byteCells] using this
      rw [hc j (by omega)]
      simp only [byteCells, List.getElem?_map, List.getElem?_eq_getElem hjl, Option.map_some, Option.some.injEq] at hj
      subst hj
      simp [List.getD, List.getElem?_eq_getElem hjl]
    · intro u hu
      simp only [byteCells, List.mem_map] at hu
      obtain ⟨y, _, rfl⟩ := hu
      rfl
    · intro v' w' h1 h2 _
      rw [Nat.zero_add, List.nil_append, ← hl] at h1
      exact h v' w' h1 h2

set_option maxHeartbeats 400000 in
theorem law_long (a0 : Option Addr) (len0 cap0 : Nat) (a1 : Option Addr) (len1 cap1 : Nat) (w : World) (hm0 : len0 ≤ 9223372036854775807) (hm1 : len1 ≤ 9223372036854775807) (h : 1024 < len0 ∨ 1024 < len1) :
    Calls Yba.prog 5 #[.slice a0 len0 cap0, .slice a1 len1 cap1] w fun e w' => e = .returned (.bool true) ∧ Below w.heap.size w w' := by
  by_cases h0 : 1024 < len0
  · go_enter Yba.func5, Yba.ntmps5
    go_wp2
    go_ret
    exact ⟨rfl, Below.refl _ _⟩
  · have h1 : 1024 < len1 := by omega
    clear h
    go_enter Yba.func5, Yba.ntmps5
    go_wp2
    go_ret
    exact ⟨rfl, Below.refl _ _⟩

theorem Enc.pos : ∀ {B d : Nat} {w : World} {l r : Option Addr} {o : Bool} {bs : List Bool}, Enc B d w l r o bs → 0 < bs.length
  | _, 0, _, _, _, _, _, h => h.elim
  | _, d + 1, _, _, _, _, _, h => by
    rcases h with ⟨_, rfl⟩ | ⟨g, h', l1, r1, o1, l2, r2, o2, b1, b2, e1, e2, hB, n1, n2, c1, c2, rfl⟩
    · simp
    · split
      · simp
      · split
        · simp
        · simp

/-- The bits in their row. -/
theorem bools_at {w : World} {S : Nat} {v : Value} {eb : List Bool} (h : w.ownsRow S 4 1 v eb.length (boolCells eb)) (hp : 0 < eb.length) :
    ∃ g cap, v = .slice (some ⟨g, 0, none⟩) eb.length cap ∧ g < w.heap.size ∧ ∀ i, i < eb.length → w.cell? ⟨g, i, none⟩ = some (.bool (eb.getD i false)) := by
  obtain ⟨hl, ⟨_, h1⟩ | ⟨g, cap, cur, e1, e2, e3, e4, e5, e6, e7⟩⟩ := h
  · omega
  · refine ⟨g, cap, e1, (Array.getElem?_eq_some_iff.1 e3).1, fun i hi => ?_⟩
    have h2 : (boolCells eb)[i]? = some (.bool (eb.getD i false)) := by
      simp [boolCells, List.getD, List.getElem?_map, List.getElem?_eq_getElem hi]
    rw [← e7, List.getElem?_take, if_pos (by omega)] at h2
    simp only [World.cell?, e3]
    simpa using h2


/-- A row of bytes by its last byte: where that byte lies, and what a store there leaves. -/
theorem own_last {w : World} {S : Nat} {v : Value} {X : List Nat} {y n : Nat} (hn : n = X.length + 1) (h : w.ownsRow S 5 1 v n (byteCells (X ++ [y]))) :
    ∃ g cap, v = .slice (some ⟨g, 0, none⟩) (X.length + 1) cap ∧ S ≤ g ∧ w.cell? ⟨g, X.length, none⟩ = some (.int .u8 (y : Nat)) ∧ w.frozen? ⟨g, X.length, none⟩ = false ∧
      ∀ z : Nat, (w.setCell ⟨g, X.length, none⟩ (.int .u8 (z : Nat))).ownsRow S 5 1 (.slice (some ⟨g, 0, none⟩) (X.length + 1) cap) (X ++ [z]).length (byteCells (X ++ [z])) := by
  subst hn
  have h' := h
  obtain ⟨_, ⟨_, h1⟩ | ⟨g, cap, cur, e1, e2, _⟩⟩ := h'
  · simp at h1
  · subst e1
    refine ⟨g, cap, rfl, e2, ?_, h.frozenAt _, fun z => ?_⟩
    · rw [h.cellAt _ (by omega)]
      simp [byteCells]
    · have := (h.stored X.length (.int .u8 (z : Nat))).1
      have e : (byteCells (X ++ [y])).set X.length (.int .u8 (z : Nat)) = byteCells (X ++ [z]) := by
        simp [byteCells]
      rw [e] at this
      simpa using this

theorem or_byte : ∀ y, y < 256 → ∀ r, r < 8 → y % 2 ^ (8 - r) = 0 → y ||| (128 / 2 ^ r) = y + 2 ^ (7 - r) := by decide +kernel

theorem bits_or8 (y k : Nat) (hy : y < 256) (hm : y % 2 ^ (8 - k % 8) = 0) : bits BinOp.or IntKind.u8 (y : Int) (128 / 2 ^ (k % 8)) = ((y + 2 ^ (7 - k % 8) : Nat) : Int) := by
  have hr : k % 8 < 8 := Nat.mod_lt _ (by omega)
  rw [← or_byte y hy (k % 8) hr hm]
  have e : (128 : Int) / 2 ^ (k % 8) = ((128 / 2 ^ (k % 8) : Nat) : Int) := by simp
  have h1 : 128 / 2 ^ (k % 8) < 2 ^ 8 := Nat.lt_of_le_of_lt (Nat.div_le_self _ _) (by omega)
  have h2 : y ||| (128 / 2 ^ (k % 8)) < 2 ^ 8 := Nat.or_lt_two_pow (by omega) h1
  rw [e]
  generalize 128 / 2 ^ (k % 8) = z at h1 h2 ⊢
  have e5 : ∀ x : Nat, x < 256 → (BitVec.ofInt 8 (x : Int)).toNat = x := by
    intro x hx
    simp
    omega
  show IntKind.u8.wrap ((BitVec.ofInt 8 (y : Int) ||| BitVec.ofInt 8 (z : Int)).toNat : Int) = _
  rw [BitVec.toNat_or, e5 y hy, e5 z (by omega)]
  simp [IntKind.wrap, IntKind.bits, IntKind.signed]
  omega

theorem conv_row {w : World} {g n : Nat} (R : List Nat) (hn : n = R.length) (h : ∀ i, i < R.length → w.cell? ⟨g, i, none⟩ = some (.int .u8 (R.getD i 0 : Nat))) (c : Nat) : (convert 29 9 (.slice (some ⟨g, 0, none⟩) n c)).run Yba.prog w = .ok (.string (strOfNums (R.map Int.ofNat))) w := by
  refine run_convert_bytes_arg _ 29 5 Yba.underlying29 Yba.underlying5 g 0 n c _ (by simp [hn]) (fun i hi => ?_) 9 Yba.underlying9
  rw [Nat.zero_add, h i (by omega)]
  have hi' : i < R.length := by omega
  simp [List.getD, List.getElem?_eq_getElem hi']

/-- bytes.Equal of two slices that say the same text. -/
theorem equal_same (va vb : Value) (S : ByteArray) (w : World) (h1 : (convert 29 9 va).run Yba.prog w = .ok (.string S) w) (h2 : (convert 29 9 vb).run Yba.prog w = .ok (.string S) w) :
    Calls Yba.prog 15 #[va, vb] w fun e w' => e = .returned (.bool true) ∧ w' = w := by
  go_enter Yba.func15, Yba.ntmps15
  go_wp2
  go_ret
  exact ⟨by simp, rfl⟩

set_option maxHeartbeats 2000000 in
theorem law_core (a0 : Option Addr) (len0 cap0 : Nat) (a1 : Option Addr) (len1 cap1 : Nat) (pre : List Nat) (zs : Nat → Nat) (w : World) (h0 : len0 ≤ 1024) (h1 : len1 ≤ 1024) (hp : Hid (PreAt w a0 len0 cap0 pre)) (hd : Hid (DataAt w a1 len1 zs)) (hzs : Hid (∀ i, zs i < 256)) :
    Calls Yba.prog 5 #[.slice a0 len0 cap0, .slice a1 len1 cap1] w fun e w' => e = .returned (.bool true) ∧ Below w.heap.size w w' := by
  have hB1 : Below w.heap.size w (w.alloc (.cells #[.int .i64 0] 3)) := (Below.refl _ _).alloc (Nat.le_refl _) _
  have P1 : PosAt (w.alloc (.cells #[.int .i64 0] 3)) w.heap.size 0 := heap_alloc_new w _
  have I1 : Hid (Calls Yba.prog 11 _ _ _) := build_any a1 len1 cap1 w.heap.size zs h1 hzs.out len1 0 (w.alloc (.cells #[.int .i64 0] 3)) (by omega) (by omega) P1 (hd.out.below (p := 0) hB1)
  have HB1 : Hid _ := hB1
  clear P1 hB1
  have t1 : decide ((1024 : Int) < (len0 : Int)) = false := by simp; omega
  have t2 : decide ((1024 : Int) < (len1 : Int)) = false := by simp; omega
  go_enter Yba.func5, Yba.ntmps5
  go_wp2_with fail
  refine I1.out.mono ?_
  rintro e w2 ⟨l, r, o, d, eb, k', rfl, p2, -, hk', en, len, u2⟩
  have B2 : Hid (Below w.heap.size w w2) := HB1.out.trans (u2.below (by simp))
  have E2 : Hid (Enc 0 d w2 l r o eb) := en.base (Nat.zero_le _)
  have hlen : eb.length ≤ 6000 := by omega
  clear p2 en len u2 hk'
  have hB3 : Below w2.heap.size w2 (w2.alloc (.cells #[.pointer l, .pointer r, .bool o] 36)) := (Below.refl _ _).alloc (Nat.le_refl _) _
  have B3 : Hid (Below w.heap.size w (w2.alloc (.cells #[.pointer l, .pointer r, .bool o] 36))) := B2.out.trans (hB3.mono B2.out.size)
  have N3 : Hid (Node (w2.alloc (.cells #[.pointer l, .pointer r, .bool o] 36)) w2.heap.size l r o) := node_new w2 l r o
  have E3 : Hid (Enc 0 d (w2.alloc (.cells #[.pointer l, .pointer r, .bool o] 36)) l r o eb) := E2.out.mono (Nodes.below hB3)
  have Q3 : Hid (PreAt (w2.alloc (.cells #[.pointer l, .pointer r, .bool o] 36)) a0 len0 cap0 pre) := hp.out.below B3.out
  clear hB3
  go_wp2_with (at_builtin; refine wpList_append_pre _ rfl _ _ rfl (w2.heap.size + 1) a0 len0 cap0 pre rfl rfl Q3.out (by omega) (by simp) ?_)
  intro v1 w3 ho3 hg3
  obtain ⟨sa, sl, sc, hv1⟩ := ownsRow_form ho3
  subst hv1
  have hB4 : Below (w2.alloc (.cells #[.pointer l, .pointer r, .bool o] 36)).heap.size (w2.alloc (.cells #[.pointer l, .pointer r, .bool o] 36)) w3 := ⟨hg3.os, hg3.tape, hg3.output, hg3.size, fun k hk => hg3.block k hk (by simp)⟩
  have hB5 : Below w3.heap.size w3 (w3.alloc (.cells #[.slice sa sl sc, .int .u64 0, .int .i64 0] 40)) := (Below.refl _ _).alloc (Nat.le_refl _) _
  have s3 : w2.heap.size + 1 ≤ w3.heap.size := by have := hB4.size; simpa using this
  have s3' : w2.heap.size < w3.heap.size := by omega
  have N4 := Nodes.below hB4 _ _ _ _ (Nat.zero_le _) N3.out
  have B5 : Hid (Below w.heap.size w (w3.alloc (.cells #[.slice sa sl sc, .int .u64 0, .int .i64 0] 40))) := (B3.out.trans (hB4.mono B3.out.size)).trans (hB5.mono (Nat.le_trans B3.out.size hB4.size))
  have N5 : Hid (Node (w3.alloc (.cells #[.slice sa sl sc, .int .u64 0, .int .i64 0] 40)) w2.heap.size l r o) := Nodes.below hB5 _ _ _ _ (Nat.zero_le _) N4
  have E5 : Hid (Enc 0 d (w3.alloc (.cells #[.slice sa sl sc, .int .u64 0, .int .i64 0] 40)) l r o eb) := E3.out.mono ((Nodes.below hB4).trans (Nodes.below hB5))
  have W5 : Hid (Wr (w2.heap.size + 1) w3.heap.size pre [] (w3.alloc (.cells #[.slice sa sl sc, .int .u64 0, .int .i64 0] 40))) := ⟨_, pre, 0, 0, heap_alloc_new w3 _, by omega, ownsRow_below ho3 hB5, M.rep_start pre⟩
  have hpl : pre.length ≤ 1024 := by have := hp.out.1; omega
  obtain ⟨q0, q1, q2, -⟩ := N4.cells
  clear hB4 hB5 N4 ho3 hg3
  go_wp2_with fail
  refine (id_any (w2.heap.size + 1) w3.heap.size pre d l r o eb [] _ E5.out (by simp; omega) W5.out (by simp; omega)).mono ?_
  rintro e w6 ⟨rfl, hW6, hF6⟩
  have N6 := hF6.nodes _ _ _ _ (Nat.zero_le _) N5.out
  have B6 : Hid (Below w.heap.size w w6) := B5.out.trans (hF6.below.mono (by have := B2.out.size; omega))
  have E6 : Hid (Enc 0 d w6 l r o eb) := E5.out.mono hF6.nodes
  have W6 : Hid (Wr (w2.heap.size + 1) w3.heap.size pre eb w6) := by
    show Wr _ _ _ _ _
    simpa using hW6
  have s6 : w2.heap.size + 1 ≤ w6.heap.size := by have := hF6.size; simp at this; omega
  have N6h : Hid (Node w6 w2.heap.size l r o) := N6
  clear q0 q1 q2 N6 hW6 hF6
  go_wp2_with fail
  refine (bytes_any (w2.heap.size + 1) w3.heap.size pre eb w6 s6 W6.out (by omega)).mono ?_
  rintro e w7 ⟨gv, rfl, hG7, hF7⟩
  obtain ⟨gg, gc, rfl, hgl, hgc⟩ := hG7
  have N7 := hF7.nodes _ _ _ _ (Nat.zero_le _) N6h.out
  have B7 : Hid (Below w.heap.size w w7) := B6.out.trans (hF7.below.mono (by have := B2.out.size; omega))
  have E7 : Hid (Enc 0 d w7 l r o eb) := E6.out.mono hF7.nodes
  have G7 : Hid (∀ i, i < (pre ++ M.pack eb).length → w7.cell? ⟨gg, i, none⟩ = some (.int .u8 ((pre ++ M.pack eb).getD i 0 : Nat))) := hgc
  obtain ⟨q0, q1, q2, -⟩ := N7.cells
  clear N7 hF7 hgc
  go_wp2_with fail
  refine (enc_any w7.heap.size d l r o eb [] _ w7 E7.out (Nat.le_refl _) (World.ownsRow_nil _ _ _ _) (by simp; omega)).mono ?_
  rintro e w8 ⟨bv, rfl, ho8, hF8⟩
  rw [List.nil_append] at ho8
  obtain ⟨gb, cb, hbv, hgb, hbc⟩ := bools_at ho8 E7.out.pos
  subst hbv
  have B8 : Hid (Below w.heap.size w w8) := B7.out.trans (hF8.below.mono B7.out.size)
  have C8 : Hid (∀ i, i < eb.length → w8.cell? ⟨gb, i, none⟩ = some (.bool (eb.getD i false))) := hbc
  have G8 : Hid (∀ i, i < (pre ++ M.pack eb).length → w8.cell? ⟨gg, i, none⟩ = some (.int .u8 ((pre ++ M.pack eb).getD i 0 : Nat))) := fun i hi => cellB hF8.below (G7.out i hi)
  have Q8 : Hid (PreAt w8 a0 len0 cap0 pre) := hp.out.below B8.out
  have hgg : gg < w8.heap.size := Nat.lt_of_lt_of_le hgl hF8.size
  clear q0 q1 q2 ho8 hF8 hbc hgl
  go_wp2_with (at_builtin; refine wpList_append_pre _ rfl _ _ rfl w8.heap.size a0 len0 cap0 pre rfl rfl Q8.out (by omega) (Nat.le_refl _) ?_)
  intro v9 w9 ho9 hg9
  have B9 : Hid (Below w8.heap.size w8 w9) := ⟨hg9.os, hg9.tape, hg9.output, hg9.size, fun k hk => hg9.block k hk (by simp)⟩
  have O9 : Hid (w9.ownsRow w8.heap.size 5 1 v9 pre.length (byteCells pre)) := ho9
  clear ho9 hg9
  go_wp2_with fail
  go_loopw [11, 12] (fun v kk wr => ∃ k : Nat, kk = .int .i64 k ∧ k ≤ eb.length ∧ wr.ownsRow w8.heap.size 5 1 v (pre ++ M.pack (eb.take k)).length (byteCells (pre ++ M.pack (eb.take k))) ∧ Below w8.heap.size w8 wr) (fun _ kk _ => eb.length - (intOf kk).toNat)
  case atStart => exact ⟨0, rfl, Nat.zero_le _, by simpa [M.pack] using O9.out, B9.out⟩
  case round =>
    obtain ⟨k, rfl, hk, hor, hBr⟩ := hrel
    have hplk : (M.pack (eb.take k)).length ≤ 6000 := by rw [M.pack_length, List.length_take]; omega
    obtain ⟨va, vl, vc, hv⟩ := ownsRow_form hor
    subst hv
    by_cases hlt : k < eb.length
    · have hrd : wr.cell? ⟨gb, k, none⟩ = some (.bool (eb[k])) := by
        rw [hBr.cell (p := ⟨gb, k, none⟩) hgb, C8.out k hlt]; simp [List.getD, List.getElem?_eq_getElem hlt]
      by_cases h8 : k % 8 = 0
      · have HX : Hid _ := M.pack_take_new eb k hlt h8
        obtain ⟨X, hX⟩ : ∃ X, X = pre ++ M.pack (eb.take k) := ⟨_, rfl⟩
        have hXl : X.length ≤ 8000 := by have := congrArg List.length hX; simp at this; omega
        have m8 : ((k : Int) % 8 == 0) = true := by simp; omega
        have HX : Hid (pre ++ M.pack (eb.take (k + 1)) = X ++ [if eb[k] then 128 else 0]) := by
          show _ = _
          rw [M.pack_take_new eb k hlt h8, ← List.append_assoc, ← hX]
        rw [← hX] at hor
        have hor' : Hid (wr.ownsRow w8.heap.size 5 1 (.slice va vl vc) X.length (byteCells X)) := hor
        have hgw : gb < wr.heap.size := Nat.lt_of_lt_of_le hgb hBr.size
        have hBa : Hid (Below w8.heap.size w8 (wr.alloc (.cells #[.int .u8 0] 5))) := hBr.alloc hBr.size _
        have Hrd : Hid ((wr.alloc (.cells #[.int .u8 0] 5)).cell? ⟨gb, k, none⟩ = some (.bool (eb[k]))) := by
          show _ = _
          rw [hBa.out.cell (p := ⟨gb, k, none⟩) hgb, C8.out k hlt]; simp [List.getD, List.getElem?_eq_getElem hlt]
        have hsz := hBr.size
        clear hor hrd hX hplk
        obtain ⟨i0, hi, hz0, hz1, hz2⟩ := info_parts info5
        go_wp2_with (at_builtin; refine wpList_append_own _ rfl _ _ 29 rfl w8.heap.size 5 i0 (.int .u8 0) 1 1 Yba.underlying29 hi hz0 hz1 hz2 rfl (by decide) _ _ _ rfl (hor'.out.alloc _) _ 1 1 [Value.int .u8 0] rfl rfl ?c1 ?c2 ?c3 ?c4 ?c5 ?_)
        case c1 =>
          intro j u hj
          match j with
          | 0 =>
            simp at hj
            subst hj
            simp [Addr.add]
          | j + 1 => simp at hj
        case c2 => intro u hu; simp at hu; subst hu; rfl
        case c3 => unfold maxLen; omega
        case c4 => omega
        case c5 => simp; omega
        intro v' w' ho' hg' _
        have e0 : byteCells X ++ [Value.int .u8 0] = byteCells (X ++ [0]) := by simp [byteCells]
        rw [e0] at ho'
        have hB' : Below w8.heap.size w8 w' := by
          refine hBa.out.trans ⟨hg'.os, hg'.tape, hg'.output, hg'.size, fun q hq => hg'.block q (Nat.lt_of_lt_of_le hq hBa.out.size) ?_⟩
          intro e
          rcases hor'.out.2 with ⟨e1, _⟩ | ⟨g1, c1, cur1, e1, e2, _⟩
          · rw [e1] at e; simp [Value.ownBlock] at e
          · rw [e1] at e; simp [Value.ownBlock] at e; omega
        obtain ⟨g, cap, rfl, hSg, cy, fy, hst⟩ := own_last rfl ho'
        have Hst : Hid _ := hst
        have hrd : w'.cell? ⟨gb, k, none⟩ = some (.bool (eb[k])) := by
          rw [hB'.cell (p := ⟨gb, k, none⟩) hgb, C8.out k hlt]; simp [List.getD, List.getElem?_eq_getElem hlt]
        have Ho : Hid (w'.ownsRow w8.heap.size 5 1 (.slice (some ⟨g, 0, none⟩) (X.length + 1) cap) (X.length + 1) (byteCells (X ++ [0]))) := ho'
        have HB' : Hid (Below w8.heap.size w8 w') := hB'
        clear hst ho' hB' hg'
        by_cases hb : eb[k] = true
        · rw [hb] at hrd
          go_wp2_with fail
          case roundEnd =>
            refine ⟨⟨k + 1, by go_num, by omega, ?_, ?_⟩, by simp [intOf]; omega⟩
            · rw [HX.out, if_pos hb]
              have h128 : bits BinOp.or IntKind.u8 0 128 = ((128 : Nat) : Int) := by decide
              rw [h128]
              exact Hst.out 128
            · exact HB'.out.setCell (by exact hSg) _
        · rw [Bool.eq_false_iff.2 hb] at hrd
          go_wp2_with fail
          case roundEnd =>
            refine ⟨⟨k + 1, by go_num, by omega, ?_, HB'.out⟩, by simp [intOf]; omega⟩
            rw [HX.out, if_neg hb, List.length_append]
            exact Ho.out
      · obtain ⟨ys, y, e1, hy, hym, e2⟩ := M.pack_take_old eb k hlt h8
        obtain ⟨X, hX⟩ : ∃ X, X = pre ++ ys := ⟨_, rfl⟩
        have hX1 : pre ++ M.pack (eb.take k) = X ++ [y] := by rw [e1, hX, List.append_assoc]
        have hX2 : pre ++ M.pack (eb.take (k + 1)) = X ++ [y + if eb[k] then 2 ^ (7 - k % 8) else 0] := by rw [e2, hX, List.append_assoc]
        have hXl : X.length ≤ 8000 := by have := congrArg List.length hX1; simp at this; omega
        rw [hX1] at hor
        clear e1 e2 hX ys
        obtain ⟨g, cap, hv, hSg, cy, fy, hst⟩ := own_last (by simp) hor
        have m8 : ((k : Int) % 8 == 0) = false := by simp; omega
        have HX : Hid _ := hX2
        have Hst : Hid _ := hst
        have Hym : Hid _ := hym
        simp only [Value.slice.injEq] at hv
        obtain ⟨hv1, hv2, hv3⟩ := hv
        subst hv1 hv2 hv3
        have hor' : Hid (wr.ownsRow w8.heap.size 5 1 (.slice (some ⟨g, 0, none⟩) (X.length + 1) vc) (X ++ [y]).length (byteCells (X ++ [y]))) := hor
        clear hor hX1 hX2 hst hym
        by_cases hb : eb[k] = true
        · rw [hb] at hrd
          go_wp2_with fail
          case roundEnd =>
            refine ⟨⟨k + 1, by go_num, by omega, ?_, ?_⟩, by simp [intOf]; omega⟩
            · rw [HX.out, if_pos hb, bits_or8 y k hy Hym.out]; exact Hst.out _
            · exact hBr.setCell (by exact hSg) _
        · rw [Bool.eq_false_iff.2 hb] at hrd
          go_wp2_with fail
          case roundEnd =>
            refine ⟨⟨k + 1, by go_num, by omega, ?_, hBr⟩, by simp [intOf]; omega⟩
            have e0 : y + 0 = y := rfl
            rw [HX.out, if_neg hb, e0]; exact hor'.out
    · obtain rfl : k = eb.length := by omega
      rw [List.take_length] at hor
      have hne : 0 < (pre ++ M.pack eb).length := by have := E7.out.pos; simp [M.pack_length]; omega
      obtain ⟨R, hR⟩ : ∃ R, R = pre ++ M.pack eb := ⟨_, rfl⟩
      rw [← hR] at hor hne
      have hRl : pre.length + (M.pack eb).length = R.length := by rw [hR]; simp
      rw [hRl]
      have hcg : ∀ c, (convert 29 9 (.slice (some ⟨gg, 0, none⟩) R.length c)).run Yba.prog wr = .ok (.string (strOfNums (R.map Int.ofNat))) wr := by
        refine conv_row R rfl (fun i hi => ?_)
        rw [hBr.cell (p := ⟨gg, i, none⟩) hgg, G8.out i (by rw [← hR]; exact hi), ← hR]
      have hcw : (convert 29 9 (.slice va vl vc)).run Yba.prog wr = .ok (.string (strOfNums (R.map Int.ofNat))) wr := by
        have h' := hor
        rcases h'.2 with ⟨e1, e2⟩ | ⟨g1, c1, cur1, e1, e2, _⟩
        · omega
        · rw [e1] at hor ⊢
          exact conv_row R rfl (own_cells hor) c1
      have HBr : Hid (Below w8.heap.size w8 wr) := hBr
      clear hor hR hBr hplk
      go_wp2_with fail
      refine (equal_same _ _ _ wr (hcg _) hcw).mono ?_
      rintro e w'' ⟨rfl, rfl⟩
      go_wp2_with fail
      go_ret
      exact ⟨rfl, B8.out.trans (HBr.out.mono B8.out.size)⟩
end Go.Proofs.Ybulkezs
