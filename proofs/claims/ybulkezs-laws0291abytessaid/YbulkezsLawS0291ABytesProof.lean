/- LawS0291ABytes: the shell of the kit's tool for this program, the walk filled in. -/
import Derived.Test.YbulkezsRows
import Derived.WalkKit
import Derived.ProofKit
import Derived.OpenShut
import Derived.ShutString
import Derived.ChangeOld
import Derived.Below
import Derived.BigQuiet
import Derived.WalkSmall
import Derived.LaidEql
import Derived.Laws.BytesArg
namespace Go.Proofs.Ybulkezs.lawS0291ABytes
open Go.ChangeShapes Go.WideShapes Go.ChangeAt Go.RowKit
open Go.ChangeMaps (open_string shut_string)
set_option linter.unusedVariables false

theorem own : ownKnob Yba.prog.godebug = none := by kernel_rfl
theorem laidOut : laidOutB Yba.prog = true := by kernel_rfl

/-- WHAT THE WALK IS TOLD OF A SLICE OF INTEGERS THAT CAME IN: it is nil; or it leads to a row of 'cap' cells, the numbers 'zs' (the first 'len' are its elements, the rest its spare room), each fitting its kind. -/
def IsRow (k : IntKind) (w : World) (a : Option Addr) (len cap : Nat) (zs : List Int) : Prop :=
  (a = none ∧ len = 0 ∧ cap = 0 ∧ zs = []) ∨
  ∃ x, a = some x ∧ len ≤ cap ∧ cap ≤ maxLen ∧ zs.length = cap ∧ (∀ i, i < zs.length → w.cell? (x.add i) = some (.int k (zs.getD i 0))) ∧ ∀ n ∈ zs, (Lit.int k n).wf = true

/-! ### STEP 1: THE WALK: the Go text returns true, AND WRITES NOTHING THAT WAS THERE: 'Below w.heap.size w w'' (Derived/Below.lean: '.refl', '.alloc', '.drew', '.setCell' at a new block, '.trans'). Open each 'IsRow' by 'rcases' AHEAD of 'go_enter'; part every test ahead of the walk. -/

theorem comp47 : (Yba.prog.info? 47).map (·.comparable) = some true := by kernel_rfl
theorem size49 : (Yba.prog.info? 49).map (·.size) = some 1 := by kernel_rfl
theorem eql_same (a : Addr) (w : World) : (binOp .eql 23 (.iface 47 (.pointer (some a))) (.iface 47 (.pointer (some a)))).run Yba.prog w = .ok (.bool true) w := by
  obtain ⟨i, hi, hc⟩ := Option.map_eq_some_iff.1 comp47
  obtain ⟨j, hj, _⟩ := Option.map_eq_some_iff.1 size49
  exact run_eql_iface_ptr_same w a Yba.underlying23 Yba.underlying47 hi hc hj

/-- 'string(b)' of an empty slice, whatever its address. -/
theorem conv_empty (a : Option Addr) (cap : Nat) (W : World) : (convert 29 9 (.slice a 0 cap)).run Yba.prog W = .ok (.string ByteArray.empty) W := by
  cases a with
  | none => exact run_convert_bytes_nil W 29 5 Yba.underlying29 Yba.underlying5 0 cap 9 Yba.underlying9
  | some x =>
    rw [run_convert_bytes_string W 29 9 5 _ 0 cap Yba.underlying29 Yba.underlying5 Yba.underlying9]
    have hl : (loadCells x 0).run Yba.prog W = .ok (([] : List Int).map (Value.int .u8)).toArray W := run_loadCells_list (P := Yba.prog) W x [] (fun j v hj => by simp at hj)
    rw [run_bytesToString W x 0 cap [] hl]
    rfl

theorem cell4 {w : World} {b off : Nat} {v : Value} (hb : b < w.heap.size) (hc : w.cell? ⟨b, off, none⟩ = some v) (o1 o2 o3 o4 : Obj) : ((((w.alloc o1).alloc o2).alloc o3).alloc o4).cell? ⟨b, off, none⟩ = some v := by
  rw [World.cell?_alloc_past _ _ _ (by simp; omega), World.cell?_alloc_past _ _ _ (by simp; omega), World.cell?_alloc_past _ _ _ (by simp; omega), World.cell?_alloc_past _ _ _ hb]
  exact hc

/-- 'len(in) > 4096'. -/
theorem walk_long (a0 : Option Addr) (len0 cap0 : Nat) (a1 : ByteArray) (w : World) (h : 4096 < len0) (hm : len0 ≤ 9223372036854775807) :
    Calls Yba.prog 4 #[.slice a0 len0 cap0, .string a1] w fun e w' => e = .returned (.bool true) ∧ Below w.heap.size w w' := by
  go_enter Yba.func4, Yba.ntmps4
  go_wp2
  go_ret
  exact ⟨rfl, Below.refl _ _⟩

set_option maxHeartbeats 400000 in
theorem walk_empty (a0 : Option Addr) (cap0 : Nat) (a1 : ByteArray) (w : World) :
    Calls Yba.prog 4 #[.slice a0 0 cap0, .string a1] w fun e w' => e = .returned (.bool true) ∧ Below w.heap.size w w' := by
  have hcv := conv_empty a0 cap0
  go_enter Yba.func4, Yba.ntmps4
  go_wp2
  go_ret
  exact ⟨rfl, (((((Below.refl _ _).alloc (Nat.le_refl _) _).alloc (by simp) _).alloc (by simp; omega) _).alloc (by simp; omega) _)⟩

set_option maxHeartbeats 400000 in
theorem walk_x (b off len0 cap0 : Nat) (a1 : ByteArray) (w : World) (h0 : 0 < len0) (h : len0 ≤ 4096) (hb : b < w.heap.size) (hc : w.cell? ⟨b, off, none⟩ = some (.int .u8 120)) :
    Calls Yba.prog 4 #[.slice (some ⟨b, off, none⟩) len0 cap0, .string a1] w fun e w' => e = .returned (.bool true) ∧ Below w.heap.size w w' := by
  have heq := eql_same
  have h4 := cell4 hb hc
  clear hc
  go_enter Yba.func4, Yba.ntmps4
  go_wp2
  go_quiet (fail)
  go_wp2
  go_ret
  exact ⟨rfl, below_drewN (((((Below.refl _ _).alloc (Nat.le_refl _) _).alloc (by simp) _).alloc (by simp; omega) _).alloc (by simp; omega) _) nq⟩

set_option maxHeartbeats 400000 in
theorem walk_ok (b off len0 cap0 : Nat) (z : Int) (S a1 : ByteArray) (w : World) (h0 : 0 < len0) (h : len0 ≤ 4096) (hb : b < w.heap.size) (hc : w.cell? ⟨b, off, none⟩ = some (.int .u8 z)) (hz : (z == 120) = false)
    (hcv : ∀ o1 o2 o3 o4, (convert 29 9 (.slice (some ⟨b, off, none⟩) len0 cap0)).run Yba.prog ((((w.alloc o1).alloc o2).alloc o3).alloc o4) = .ok (.string S) ((((w.alloc o1).alloc o2).alloc o3).alloc o4)) :
    Calls Yba.prog 4 #[.slice (some ⟨b, off, none⟩) len0 cap0, .string a1] w fun e w' => e = .returned (.bool true) ∧ Below w.heap.size w w' := by
  have h4 := cell4 hb hc
  clear hc
  go_enter Yba.func4, Yba.ntmps4
  go_wp2
  go_ret
  exact ⟨rfl, (((((Below.refl _ _).alloc (Nat.le_refl _) _).alloc (by simp) _).alloc (by simp; omega) _).alloc (by simp; omega) _)⟩

theorem walk (a0 : Option Addr) (len0 cap0 : Nat) (z0 : List Int) (a1 : ByteArray) (w : World) (w0 : IsRow .u8 w a0 len0 cap0 z0) (w1 : a1.size ≤ maxLen) :
    Calls Yba.prog 4 #[.slice a0 len0 cap0, .string a1] w fun e w' => e = .returned (.bool true) ∧ Below w.heap.size w w' := by
  rcases w0 with ⟨rfl, rfl, rfl, rfl⟩ | ⟨x, rfl, hl, hm, hz, hc, hw⟩
  · exact walk_empty none 0 a1 w
  unfold maxLen at hm
  by_cases h4 : 4096 < len0
  · exact walk_long _ len0 cap0 a1 w h4 (by omega)
  by_cases h0 : len0 = 0
  · subst h0
    exact walk_empty (some x) cap0 a1 w
  obtain ⟨b, off, rfl, hcs⟩ := ints_at hc (by omega)
  have hc0 := hcs 0 (by omega)
  have hb : b < w.heap.size := block_lt_of_cell hc0
  rw [Nat.add_zero] at hc0
  by_cases hx : z0.getD 0 0 = 120
  · rw [hx] at hc0
    exact walk_x b off len0 cap0 a1 w (by omega) (by omega) hb hc0
  · refine walk_ok b off len0 cap0 _ (strOfNums (z0.take len0)) a1 w (by omega) (by omega) hb hc0 (by simpa using hx) ?_
    intro o1 o2 o3 o4
    refine run_convert_bytes_arg _ 29 5 Yba.underlying29 Yba.underlying5 b off len0 cap0 (z0.take len0) (by simp; omega) (fun i hi => ?_) 9 Yba.underlying9
    have := cell4 hb (hcs i (by omega)) o1 o2 o3 o4
    rw [this]
    simp [List.getD, hi]

/-! ### THE ROW's STEP: WRITTEN OUT: LEAVE IT -/
set_option maxRecDepth 100000 in
theorem lifted (os : Os) (started : os.Started) (H : Type) (enc : TypeId × Value → H) :
    ReturnsInHanded {} Yba.checked os 4 .any (Rows.lawS0291ABytesSpec.pre6 enc Yba.prog Yba.f4 Rows.lawS0291ABytesRow.domain false) (Rows.lawS0291ABytesSpec.post enc Yba.prog Yba.f4 false true false false) := by
  refine returnsInHanded_of_change (C := Yba.checked) own started (by kernel_rfl) Yba.func4
    (ChangeSpec.witness6 (enc := enc) (C := Yba.checked) false ⟨#[], #[.slice none 0 0, .string ByteArray.empty], []⟩ 8 (by kernel_rfl) (by kernel_rfl) (by kernel_rfl) (by kernel_rfl)) ?_
  intro W base args ds gs before hval0 hW hcnd _
  have hval : ∀ (j : Nat) t v, Yba.f4.params[j]? = some t → args[j]? = some v → Value.okWide Yba.prog W .any base t v := hval0
  have hW' := hW
  obtain ⟨p, q, hA0, hV, rfl, hfz, hnd⟩ := hW
  have hA : DataW.TrodAll enc Yba.prog W 0 (fun _ => true) true Yba.f4.params.toList args.toList ds p := hA0
  rw [Yba.params4] at hA hval
  obtain ⟨v0, vs0, d0, ds0, p0, q0, hargs, rfl, rfl, h0, r0⟩ := trodAll_cons hA
  obtain ⟨v1, vs1, d1, ds1, p1, q1, rfl, rfl, rfl, h1, r1⟩ := trodAll_cons r0
  obtain ⟨rfl, rfl, rfl⟩ := trodAll_nil r1
  obtain rfl : args = #[v0, v1] := by cases args; simp_all
  obtain ⟨rfl, rfl⟩ := trodVars_none hV
  obtain ⟨a0, len0, cap0, rfl⟩ := okWide_slice Yba.underlying29 (hval 0 29 v0 rfl rfl)
  have k0 := h0
  have lt0 : ∀ x ∈ p0, x.block < W.heap.size := by obtain ⟨m, hm⟩ := k0; exact DataW.trod_lt m _ _ _ hm
  obtain ⟨z0, w0⟩ : ∃ zs, IsRow .u8 W a0 len0 cap0 zs := by
    obtain ⟨fuel, hf⟩ := h0
    rcases open_ints Yba.underlying29 Yba.underlying5 (by kernel_rfl) hf with ⟨hcs, _⟩ | ⟨x, l, c, zs, hcs, _, hl, hm, hz, _, hcell, hwz⟩
    · simp [Value.cells] at hcs
      obtain ⟨rfl, rfl, rfl⟩ := hcs
      exact ⟨[], .inl ⟨rfl, rfl, rfl, rfl⟩⟩
    · simp [Value.cells] at hcs
      obtain ⟨rfl, rfl, rfl⟩ := hcs
      exact ⟨zs, .inr ⟨_, rfl, hl, hm, by simpa using hz, hcell, hwz⟩⟩
  obtain ⟨a1, rfl, rfl, rfl, w1⟩ := open_string Yba.underlying9 (hval 1 9 v1 rfl rfl) h1
  clear hA0 hval0
  refine (walk a0 len0 cap0 z0 a1 W w0 w1).mono fun e W' ⟨he, bel⟩ => ?_
  subst he
  exact ⟨_, rfl, _, _, _, [], _, [], hW', trodAll_mk1 (shut_bool Yba.underlying4 _), (trodAll_cons_mk (Below.trod laidOut (by kernel_rfl) (of_decide_eq_true (by kernel_rfl)) k0 bel lt0) (trodAll_cons_mk (shut_string Yba.underlying9 w1) trodAll_mk0)), rfl, bel.frame _, fun h => by cases h⟩

theorem over : Rows.lawS0291ABytesRow.holds Yba.pinned (OpenSpec.ofChange Rows.lawS0291ABytesSpec) :=
  OpenClaim.holds_of_wide 4 Yba.f4 rfl rfl rfl rfl rfl rfl rfl ⟨rfl, rfl, rfl, rfl, rfl⟩ rfl rfl rfl rfl rfl (by kernel_rfl) Yba.func4 (by kernel_rfl)
    (of_decide_eq_true (by kernel_rfl)) (by unfold Func.isWrapper; first | (rw [if_pos (by decide +kernel)]; kernel_rfl) | (rw [if_neg (by decide +kernel)]; exact ⟨rfl, rfl⟩))
    (fun os started H enc _ => lifted os started H enc)

/-- ████ THE STATEMENT ████ -/
theorem proved : Rows.LawS0291ABytesSaid := over
end Go.Proofs.Ybulkezs.lawS0291ABytes
