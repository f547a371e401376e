/-
  THE PROOF of Rows.LawS1957AScriptSaid: the frame as for the other law of this seat, turned by hand to one slice of structs; the walk: YbulkanmuScriptWalk.
-/
import Derived.Test.YbulkanmuRows
import Derived.Test.YbulkanmuScriptWalk
import Derived.WalkKit
import Derived.ProofKit
import Derived.OpenShut
import Derived.ChangeOld
import Derived.Below
import Derived.Deep.Slices
import Derived.Deep.Strs
namespace Go.Proofs.Ybulkanmu.lawS1957AScript
open Go.ChangeShapes Go.WideShapes Go.ChangeAt Go.RowKit
set_option linter.unusedVariables false

theorem own : ownKnob Yba.prog.godebug = none := by kernel_rfl
theorem laidOut : laidOutB Yba.prog = true := by kernel_rfl
theorem cells33 : Yba.prog.cellsOf 33 = 3 := by kernel_rfl
theorem cells31 : Yba.prog.cellsOf 31 = 1 := by kernel_rfl
theorem cells4 : Yba.prog.cellsOf 4 = 1 := by kernel_rfl
theorem cells3 : Yba.prog.cellsOf 3 = 1 := by kernel_rfl

/-- WHAT THE WALK IS TOLD OF THE SLICE THAT CAME IN: each element within the length: its three cells. -/
def IsOps (w : World) (a : Option Addr) (len : Nat) (Q : Nat → Int × Bool × Int) : Prop :=
  ∀ k : Nat, k < len → ∃ b off : Nat, a = some ⟨b, off, none⟩ ∧ b < w.heap.size ∧ w.cell? ⟨b, off + k * 3, none⟩ = some (.int .u16 (Q k).1) ∧ w.cell? ⟨b, off + k * 3 + 1, none⟩ = some (.bool (Q k).2.1) ∧ w.cell? ⟨b, off + k * 3 + 2, none⟩ = some (.int .i64 (Q k).2.2) ∧ 0 ≤ (Q k).1 ∧ (Q k).1 ≤ 65535

/-- An address of which a cell is read bears no spot. -/
theorem no_spot {w : World} {p : Addr} {u : Value} (h : w.cell? p = some u) : p.spot = none := by
  unfold World.cell? at h
  split at h
  · cases hs : p.spot with
    | none => rfl
    | some s => simp [hs] at h
  · cases h

theorem open_ops {H : Type} {enc : TypeId × Value → H} {w : World} {spare : Nat → Bool} {held : Bool} {fuel : Nat} {a : Option Addr} {len cap : Nat} {x : DataW H × List MemPlace}
    (h : DataW.trod enc Yba.prog w 0 spare held fuel 29 [.slice a len cap] = some x) : ∃ Q, IsOps w a len Q := by
  rcases Deep.open_slice Yba.underlying29 h with ⟨hcs, _⟩ | ⟨p, len', cap', m, n, D, Pl, hcs, _, hl, _, hm, _, hx⟩
  · simp only [List.cons.injEq, Value.slice.injEq, and_true] at hcs
    obtain ⟨_, rfl, _⟩ := hcs
    exact ⟨fun _ => default, fun k hk => absurd hk (Nat.not_lt_zero k)⟩
  · simp only [List.cons.injEq, Value.slice.injEq, and_true] at hcs
    obtain ⟨rfl, rfl, rfl⟩ := hcs
    have hle : len ≤ m := by rw [hm]; split <;> omega
    suffices hk : ∀ k, k < len → ∃ q : Int × Bool × Int, ∃ b off : Nat, some p = some ⟨b, off, none⟩ ∧ b < w.heap.size ∧ w.cell? ⟨b, off + k * 3, none⟩ = some (.int .u16 q.1) ∧ w.cell? ⟨b, off + k * 3 + 1, none⟩ = some (.bool q.2.1) ∧ w.cell? ⟨b, off + k * 3 + 2, none⟩ = some (.int .i64 q.2.2) ∧ 0 ≤ q.1 ∧ q.1 ≤ 65535 by
      obtain ⟨Q, hQ⟩ := Deep.choose_lt hk
      exact ⟨Q, hQ⟩
    have hspot : 0 < len → p.spot = none := by
      intro h0
      obtain ⟨cs', h1, _⟩ := hx 0 (by omega)
      rw [cells33] at h1
      obtain ⟨_, hlen, hc⟩ := World.cells?_some h1
      have := hc 0 (by omega)
      rw [List.getElem?_eq_getElem (by omega)] at this
      simpa [Addr.add] using no_spot this
    intro k hk
    obtain ⟨b, off, sp⟩ := p
    obtain rfl : sp = none := hspot (by omega)
    obtain ⟨cs', h1, h2⟩ := hx k (by omega)
    rw [cells33] at h1
    obtain ⟨_, hlen, hc⟩ := World.cells?_some h1
    obtain ⟨y0, y1, y2, n2, _, _, t0, t1, t2⟩ := Deep.trod_struct3 Yba.underlying33 h2
    match cs', hlen with
    | [v0, v1, v2], _ =>
      simp only [cells31, cells4, cells3, List.drop_zero, List.drop_succ_cons, List.take_succ_cons, List.take_zero] at t0 t1 t2
      obtain ⟨f, e0, _, wf⟩ := DataW.trod_int Yba.underlying31 t0
      obtain ⟨pt, e1, _⟩ := DataW.trod_bool Yba.underlying4 t1
      obtain ⟨v, e2, _, _⟩ := DataW.trod_int Yba.underlying3 t2
      simp only [List.cons.injEq, and_true] at e0 e1 e2
      subst e0 e1 e2
      have c0 := hc 0 (by omega)
      have c1 := hc 1 (by omega)
      have c2 := hc 2 (by omega)
      have bd := bounds_u16 wf
      simp only [Addr.add_lit, Nat.add_zero, List.getElem?_cons_zero, List.getElem?_cons_succ] at c0 c1 c2
      exact ⟨(f, pt, v), b, off, rfl, World.block_lt_of_cell? w _ c0, c0, c1, c2, bd.1, bd.2⟩

theorem walk (a0 : Option Addr) (len0 cap0 : Nat) (Q : Nat → Int × Bool × Int) (w : World) (w0 : IsOps w a0 len0 Q) :
    Calls Yba.prog 4 #[.slice a0 len0 cap0] w fun e w' => e = .returned (.bool true) ∧ Below w.heap.size w w' := by
  by_cases h1 : 1024 < (len0 : Int)
  · go_enter Yba.func4, Yba.ntmps4
    go_wp2
    go_ret
    exact ⟨rfl, Below.refl _ _⟩
  · exact script_main a0 len0 cap0 (fun k => (Q k).1) (fun k => (Q k).2.1) (fun k => (Q k).2.2) w (by omega) w0

set_option maxRecDepth 100000 in
theorem lifted (os : Os) (started : os.Started) (H : Type) (enc : TypeId × Value → H) :
    ReturnsInHanded {} Yba.checked os 4 .any (Rows.lawS1957AScriptSpec.pre6 enc Yba.prog Yba.f4 Rows.lawS1957AScriptRow.domain false) (Rows.lawS1957AScriptSpec.post enc Yba.prog Yba.f4 false true false false) := by
  refine returnsInHanded_of_change (C := Yba.checked) own started (by kernel_rfl) Yba.func4
    (ChangeSpec.witness6 (enc := enc) (C := Yba.checked) false ⟨#[], #[.slice none 0 0], []⟩ 8 (by kernel_rfl) (by kernel_rfl) (by kernel_rfl) (by kernel_rfl)) ?_
  intro W base args ds gs before hval0 hW hcnd _
  have hval : ∀ (j : Nat) t v, Yba.f4.params[j]? = some t → args[j]? = some v → Value.okWide Yba.prog W .any base t v := hval0
  have hW' := hW
  obtain ⟨p, q, hA0, hV, rfl, hfz, hnd⟩ := hW
  have hA : DataW.TrodAll enc Yba.prog W 0 (fun _ => true) true Yba.f4.params.toList args.toList ds p := hA0
  rw [Yba.params4] at hA hval
  obtain ⟨v0, vs0, d0, ds0, p0, q0, hargs, rfl, rfl, h0, r0⟩ := trodAll_cons hA
  obtain ⟨rfl, rfl, rfl⟩ := trodAll_nil r0
  obtain rfl : args = #[v0] := by cases args; simp_all
  obtain ⟨rfl, rfl⟩ := trodVars_none hV
  obtain ⟨a0, len0, cap0, rfl⟩ := okWide_slice Yba.underlying29 (hval 0 29 v0 rfl rfl)
  have k0 := h0
  have lt0 : ∀ x ∈ p0, x.block < W.heap.size := by obtain ⟨m, hm⟩ := k0; exact DataW.trod_lt m _ _ _ hm
  obtain ⟨Q, w0⟩ : ∃ Q, IsOps W a0 len0 Q := by
    obtain ⟨fuel, hf⟩ := h0
    exact open_ops (by simpa [Value.cells] using hf)
  clear hA0 hval0
  refine (walk a0 len0 cap0 Q W w0).mono fun e W' ⟨he, bel⟩ => ?_
  subst he
  exact ⟨_, rfl, _, _, _, [], _, [], hW', trodAll_mk1 (shut_bool Yba.underlying4 _), (trodAll_cons_mk (Below.trod laidOut (by kernel_rfl) (of_decide_eq_true (by kernel_rfl)) k0 bel lt0) trodAll_mk0), rfl, bel.frame _, fun h => by cases h⟩

theorem over : Rows.lawS1957AScriptRow.holds Yba.pinned (OpenSpec.ofChange Rows.lawS1957AScriptSpec) :=
  OpenClaim.holds_of_wide 4 Yba.f4 rfl rfl rfl rfl rfl rfl rfl ⟨rfl, rfl, rfl, rfl, rfl⟩ rfl rfl rfl rfl rfl (by kernel_rfl) Yba.func4 (by kernel_rfl)
    (of_decide_eq_true (by kernel_rfl)) (by unfold Func.isWrapper; first | (rw [if_pos (by decide +kernel)]; kernel_rfl) | (rw [if_neg (by decide +kernel)]; exact ⟨rfl, rfl⟩))
    (fun os started H enc _ => lifted os started H enc)

/-- THE STATEMENT -/
theorem proved : Rows.LawS1957AScriptSaid := over
#print axioms proved
end Go.Proofs.Ybulkanmu.lawS1957AScript
