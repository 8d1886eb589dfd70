import PyProof.Rows.All
import Wide.All
import OpenK.AllK
import Wide.FinOn
import KE.KSortAsk
import KE.KSortTup
import PyProof.IsiBase
import PyProof.IsiH_list
import PySem.Builtin.Sre.Common
import PySem.Challenge.RW_ij0022_01
set_option Elab.async false
set_option maxRecDepth 100000
set_option maxHeartbeats 8000000
set_option autoImplicit false
set_option linter.unusedVariables false
set_option linter.unusedSimpArgs false
namespace Mine
open PySem PySem.W PyProof.Rows PySem.W.Fast
section
set_option hygiene false in
local macro_rules
  | `(tactic| o_head $_) => `(tactic| exact hh)
theorem cap (hh : OpenRow.Holds (OpenLaw.row PySem.Challenge.rw_ij0022_01)) : OpenRow.Holds (OpenLaw.row PySem.Challenge.rw_ij0022_01) := by
  k_head
end
noncomputable def prg : Program := PySem.Challenge.rw_ij0022_01.row.prog
noncomputable def vw : Program := { prg with main := { prg.main with body := [0, 2, 3, 5, 6, 8, 9, 11, 13, 14, 15, 16, 17, 18, 19, 20, 21, 22, 23].map fun i => prg.main.body.getD i (.Pass ⟨0, 0, 0, 0⟩) } }
noncomputable def loo : List PySem.Str := [PySem.Str.ofString "_twin_re_1", PySem.Str.ofString "_special_chars_map"]
noncomputable def as39 : List Addr := [2, 3, 6, 11, 12, 35, 36, 37, 39, 40, 42, 43, 45, 49, 51, 52, 54, 55, 56, 58, 59, 61, 62, 63, 65, 66, 68, 69, 70, 72, 73, 75, 76, 77, 79, 80, 82, 83, 84, 86, 87, 89, 90, 91, 93, 94, 96, 97, 98, 100, 101, 103, 104, 105, 107, 108, 110, 111, 112, 114, 115, 117, 118, 119, 122, 123, 124, 126, 127, 129, 130, 131, 134, 135, 136, 139, 140, 141, 144, 145]
theorem as_eq (P : Params) : as39 = (cap.heap_1 P).map (·.1) := by kernel_rfl
noncomputable def Xt39 (s : Shared) : Bool := xlAt vw [] s && recOk (RowW.records (OpenRow.toRowW (OpenLaw.row PySem.Challenge.rw_ij0022_01))) s
noncomputable abbrev H39 : Hook := kmHook cap.heap_1 as39 as_eq [57]
noncomputable def endsT : World → Option Shared := fun w =>
   ((tw10274390034422433532 tw14364793385576792824 (opening prg) w 3898 (tw1435165496053646825 (opening prg)).1 (tw1435165496053646825 (opening prg)).2).bind (tw14289696077712309145 prg)).bind fun s₀ =>
     match s₀.heap.isNs mainGlobals && s₀.gens.size == 0 with
     | true => (tw14082659384304107361 tw14364793385576792824 prg w s₀.heap.objs.size (s₀.heap.nsMap mainGlobals "__annotations__") 3898 s₀ (topStub prg)).bind fun s₁ => match staticsOk (importedModules prg.main.body) s₀.heap s₁.heap && namesBound prg s₁.heap && gensDone s₁ && laidKept s₀.heap s₁.heap with
         | true => some s₁
         | false => none
     | false => none
theorem ends_eq : openEnds treeTable prg = fun w N => ((tw10274390034422433532 tw14364793385576792824 (opening prg) w N (tw1435165496053646825 (opening prg)).1 (tw1435165496053646825 (opening prg)).2).bind (tw14289696077712309145 prg)).bind fun s₀ =>
     match s₀.heap.isNs mainGlobals && s₀.gens.size == 0 with
     | true => (tw14082659384304107361 tw14364793385576792824 prg w s₀.heap.objs.size (s₀.heap.nsMap mainGlobals "__annotations__") N s₀ (topStub prg)).bind fun s₁ => match staticsOk (importedModules prg.main.body) s₀.heap s₁.heap && namesBound prg s₁.heap && gensDone s₁ && laidKept s₀.heap s₁.heap with
         | true => some s₁
         | false => none
     | false => none := by
  rw [← te10274390034422433532, ← te1435165496053646825, ← te14289696077712309145, ← te14082659384304107361, ← te14364793385576792824]
  rfl
noncomputable def eqn (w : World) : Prop := (endsT w).map (fun s => (tw4187177175401517315 vw loo (importedModules prg.main.body) Xt39 true s, (as39.map s.heap.get?, [57].map s.heap.get?))) = some (openGood vw loo, ((cap.heap_1 w.params).map fun p => some p.2, [57].map fun _ => some (tabObj #[])))
theorem run_ff (w : World) : eqn ((w.withFollow "special-get-raises" false).withFollow "comprehension-iter-twice" false) := by
  unfold eqn; kernel_rfl
theorem run_ft (w : World) : eqn ((w.withFollow "special-get-raises" true).withFollow "comprehension-iter-twice" false) := by
  unfold eqn; kernel_rfl
theorem run_tf (w : World) : eqn ((w.withFollow "special-get-raises" false).withFollow "comprehension-iter-twice" true) := by
  unfold eqn; kernel_rfl
theorem run_tt (w : World) : eqn ((w.withFollow "special-get-raises" true).withFollow "comprehension-iter-twice" true) := by
  unfold eqn; kernel_rfl
theorem run_f (w : World) : eqn (w.withFollow "comprehension-iter-twice" false) :=
  byRow2 "special-get-raises" (P := fun w => eqn (w.withFollow "comprehension-iter-twice" false)) run_ff run_ft w
theorem run_t (w : World) : eqn (w.withFollow "comprehension-iter-twice" true) :=
  byRow2 "special-get-raises" (P := fun w => eqn (w.withFollow "comprehension-iter-twice" true)) run_tf run_tt w
theorem run_all (w : World) : eqn w := byRow2 "comprehension-iter-twice" (P := eqn) run_f run_t w
theorem left39 : LeftO prg vw loo Xt39 (Hook.obs H39) (Hook.val H39) 3898 true := fun w => by
  rw [ends_eq, te4187177175401517315]
  exact run_all w
section
set_option hygiene false in
local macro_rules
  | `(tactic| o_law) => `(tactic| refine holds_law (by kernel_rfl) fun said => ?_)
set_option hygiene false in
local macro_rules
  | `(tactic| k_head) => `(tactic| (
    refine holds_open (q := vw) (loose := loo) (Xt := Xt39) (XP := XL vw []) (Yf := Hook.obs H39) (Ya := Hook.val H39) (YP := Hook.says H39) (N := 3898) left39 (Hook.of H39) (Hook.keeps H39) (fun s e => xl_of s (Bool.and_eq_true_iff.mp e).1) XL.keeps (by rfl) (by rfl) (by rfl) (fun s e => recFacts_of (Bool.and_eq_true_iff.mp e).2) (by rfl) (by first | assumption | decide +kernel) (by decide +kernel) ⟨rfl, rfl, rfl, rfl, rfl, by decide +kernel⟩ ?hw ?hc))
open_top hd for PySem.Challenge.rw_ij0022_01
end
end Mine
noncomputable section
namespace Mine
open PySem PySem.W PyProof.Rows
theorem x0_2 {p0 p1 : Prop} {G : Prop} (h : p0 ∧ p1) (k : p0 → p1 → G) : G := by
  obtain ⟨h0, h1⟩ := h; exact k h0 h1
theorem x0_3 {p0 p1 p2 : Prop} {G : Prop} (h : p0 ∧ p1 ∧ p2) (k : p0 → p1 → p2 → G) : G := by
  obtain ⟨h0, h1, h2⟩ := h; exact k h0 h1 h2
theorem x0_4 {p0 p1 p2 p3 : Prop} {G : Prop} (h : p0 ∧ p1 ∧ p2 ∧ p3) (k : p0 → p1 → p2 → p3 → G) : G := by
  obtain ⟨h0, h1, h2, h3⟩ := h; exact k h0 h1 h2 h3
theorem x0_5 {p0 p1 p2 p3 p4 : Prop} {G : Prop} (h : p0 ∧ p1 ∧ p2 ∧ p3 ∧ p4) (k : p0 → p1 → p2 → p3 → p4 → G) : G := by
  obtain ⟨h0, h1, h2, h3, h4⟩ := h; exact k h0 h1 h2 h3 h4
theorem x1_1 {α0 : Type} {p0 : α0 → Prop} {G : Prop} (h : ∃ a0, p0 a0) (k : ∀ a0 : α0, p0 a0 → G) : G := by
  obtain ⟨a0, h0⟩ := h; exact k a0 h0
theorem x1_2 {α0 : Type} {p0 p1 : α0 → Prop} {G : Prop} (h : ∃ a0, p0 a0 ∧ p1 a0) (k : ∀ a0 : α0, p0 a0 → p1 a0 → G) : G := by
  obtain ⟨a0, h0, h1⟩ := h; exact k a0 h0 h1
theorem x1_3 {α0 : Type} {p0 p1 p2 : α0 → Prop} {G : Prop} (h : ∃ a0, p0 a0 ∧ p1 a0 ∧ p2 a0) (k : ∀ a0 : α0, p0 a0 → p1 a0 → p2 a0 → G) : G := by
  obtain ⟨a0, h0, h1, h2⟩ := h; exact k a0 h0 h1 h2
theorem x1_5 {α0 : Type} {p0 p1 p2 p3 p4 : α0 → Prop} {G : Prop} (h : ∃ a0, p0 a0 ∧ p1 a0 ∧ p2 a0 ∧ p3 a0 ∧ p4 a0) (k : ∀ a0 : α0, p0 a0 → p1 a0 → p2 a0 → p3 a0 → p4 a0 → G) : G := by
  obtain ⟨a0, h0, h1, h2, h3, h4⟩ := h; exact k a0 h0 h1 h2 h3 h4
theorem x2_1 {α0 α1 : Type} {p0 : α0 → α1 → Prop} {G : Prop} (h : ∃ a0, ∃ a1, p0 a0 a1) (k : ∀ a0 : α0, ∀ a1 : α1, p0 a0 a1 → G) : G := by
  obtain ⟨a0, a1, h0⟩ := h; exact k a0 a1 h0
theorem x2_2 {α0 α1 : Type} {p0 p1 : α0 → α1 → Prop} {G : Prop} (h : ∃ a0, ∃ a1, p0 a0 a1 ∧ p1 a0 a1) (k : ∀ a0 : α0, ∀ a1 : α1, p0 a0 a1 → p1 a0 a1 → G) : G := by
  obtain ⟨a0, a1, h0, h1⟩ := h; exact k a0 a1 h0 h1
theorem x2_3 {α0 α1 : Type} {p0 p1 p2 : α0 → α1 → Prop} {G : Prop} (h : ∃ a0, ∃ a1, p0 a0 a1 ∧ p1 a0 a1 ∧ p2 a0 a1) (k : ∀ a0 : α0, ∀ a1 : α1, p0 a0 a1 → p1 a0 a1 → p2 a0 a1 → G) : G := by
  obtain ⟨a0, a1, h0, h1, h2⟩ := h; exact k a0 a1 h0 h1 h2
theorem x2_4 {α0 α1 : Type} {p0 p1 p2 p3 : α0 → α1 → Prop} {G : Prop} (h : ∃ a0, ∃ a1, p0 a0 a1 ∧ p1 a0 a1 ∧ p2 a0 a1 ∧ p3 a0 a1) (k : ∀ a0 : α0, ∀ a1 : α1, p0 a0 a1 → p1 a0 a1 → p2 a0 a1 → p3 a0 a1 → G) : G := by
  obtain ⟨a0, a1, h0, h1, h2, h3⟩ := h; exact k a0 a1 h0 h1 h2 h3
theorem x2_5 {α0 α1 : Type} {p0 p1 p2 p3 p4 : α0 → α1 → Prop} {G : Prop} (h : ∃ a0, ∃ a1, p0 a0 a1 ∧ p1 a0 a1 ∧ p2 a0 a1 ∧ p3 a0 a1 ∧ p4 a0 a1) (k : ∀ a0 : α0, ∀ a1 : α1, p0 a0 a1 → p1 a0 a1 → p2 a0 a1 → p3 a0 a1 → p4 a0 a1 → G) : G := by
  obtain ⟨a0, a1, h0, h1, h2, h3, h4⟩ := h; exact k a0 a1 h0 h1 h2 h3 h4
theorem x2_6 {α0 α1 : Type} {p0 p1 p2 p3 p4 p5 : α0 → α1 → Prop} {G : Prop} (h : ∃ a0, ∃ a1, p0 a0 a1 ∧ p1 a0 a1 ∧ p2 a0 a1 ∧ p3 a0 a1 ∧ p4 a0 a1 ∧ p5 a0 a1) (k : ∀ a0 : α0, ∀ a1 : α1, p0 a0 a1 → p1 a0 a1 → p2 a0 a1 → p3 a0 a1 → p4 a0 a1 → p5 a0 a1 → G) : G := by
  obtain ⟨a0, a1, h0, h1, h2, h3, h4, h5⟩ := h; exact k a0 a1 h0 h1 h2 h3 h4 h5
theorem x2_7 {α0 α1 : Type} {p0 p1 p2 p3 p4 p5 p6 : α0 → α1 → Prop} {G : Prop} (h : ∃ a0, ∃ a1, p0 a0 a1 ∧ p1 a0 a1 ∧ p2 a0 a1 ∧ p3 a0 a1 ∧ p4 a0 a1 ∧ p5 a0 a1 ∧ p6 a0 a1) (k : ∀ a0 : α0, ∀ a1 : α1, p0 a0 a1 → p1 a0 a1 → p2 a0 a1 → p3 a0 a1 → p4 a0 a1 → p5 a0 a1 → p6 a0 a1 → G) : G := by
  obtain ⟨a0, a1, h0, h1, h2, h3, h4, h5, h6⟩ := h; exact k a0 a1 h0 h1 h2 h3 h4 h5 h6
theorem x3_1 {α0 α1 α2 : Type} {p0 : α0 → α1 → α2 → Prop} {G : Prop} (h : ∃ a0, ∃ a1, ∃ a2, p0 a0 a1 a2) (k : ∀ a0 : α0, ∀ a1 : α1, ∀ a2 : α2, p0 a0 a1 a2 → G) : G := by
  obtain ⟨a0, a1, a2, h0⟩ := h; exact k a0 a1 a2 h0
theorem x3_2 {α0 α1 α2 : Type} {p0 p1 : α0 → α1 → α2 → Prop} {G : Prop} (h : ∃ a0, ∃ a1, ∃ a2, p0 a0 a1 a2 ∧ p1 a0 a1 a2) (k : ∀ a0 : α0, ∀ a1 : α1, ∀ a2 : α2, p0 a0 a1 a2 → p1 a0 a1 a2 → G) : G := by
  obtain ⟨a0, a1, a2, h0, h1⟩ := h; exact k a0 a1 a2 h0 h1
theorem x3_3 {α0 α1 α2 : Type} {p0 p1 p2 : α0 → α1 → α2 → Prop} {G : Prop} (h : ∃ a0, ∃ a1, ∃ a2, p0 a0 a1 a2 ∧ p1 a0 a1 a2 ∧ p2 a0 a1 a2) (k : ∀ a0 : α0, ∀ a1 : α1, ∀ a2 : α2, p0 a0 a1 a2 → p1 a0 a1 a2 → p2 a0 a1 a2 → G) : G := by
  obtain ⟨a0, a1, a2, h0, h1, h2⟩ := h; exact k a0 a1 a2 h0 h1 h2
theorem x3_4 {α0 α1 α2 : Type} {p0 p1 p2 p3 : α0 → α1 → α2 → Prop} {G : Prop} (h : ∃ a0, ∃ a1, ∃ a2, p0 a0 a1 a2 ∧ p1 a0 a1 a2 ∧ p2 a0 a1 a2 ∧ p3 a0 a1 a2) (k : ∀ a0 : α0, ∀ a1 : α1, ∀ a2 : α2, p0 a0 a1 a2 → p1 a0 a1 a2 → p2 a0 a1 a2 → p3 a0 a1 a2 → G) : G := by
  obtain ⟨a0, a1, a2, h0, h1, h2, h3⟩ := h; exact k a0 a1 a2 h0 h1 h2 h3
theorem x3_5 {α0 α1 α2 : Type} {p0 p1 p2 p3 p4 : α0 → α1 → α2 → Prop} {G : Prop} (h : ∃ a0, ∃ a1, ∃ a2, p0 a0 a1 a2 ∧ p1 a0 a1 a2 ∧ p2 a0 a1 a2 ∧ p3 a0 a1 a2 ∧ p4 a0 a1 a2) (k : ∀ a0 : α0, ∀ a1 : α1, ∀ a2 : α2, p0 a0 a1 a2 → p1 a0 a1 a2 → p2 a0 a1 a2 → p3 a0 a1 a2 → p4 a0 a1 a2 → G) : G := by
  obtain ⟨a0, a1, a2, h0, h1, h2, h3, h4⟩ := h; exact k a0 a1 a2 h0 h1 h2 h3 h4
theorem x4_1 {α0 α1 α2 α3 : Type} {p0 : α0 → α1 → α2 → α3 → Prop} {G : Prop} (h : ∃ a0, ∃ a1, ∃ a2, ∃ a3, p0 a0 a1 a2 a3) (k : ∀ a0 : α0, ∀ a1 : α1, ∀ a2 : α2, ∀ a3 : α3, p0 a0 a1 a2 a3 → G) : G := by
  obtain ⟨a0, a1, a2, a3, h0⟩ := h; exact k a0 a1 a2 a3 h0
theorem x4_4 {α0 α1 α2 α3 : Type} {p0 p1 p2 p3 : α0 → α1 → α2 → α3 → Prop} {G : Prop} (h : ∃ a0, ∃ a1, ∃ a2, ∃ a3, p0 a0 a1 a2 a3 ∧ p1 a0 a1 a2 a3 ∧ p2 a0 a1 a2 a3 ∧ p3 a0 a1 a2 a3) (k : ∀ a0 : α0, ∀ a1 : α1, ∀ a2 : α2, ∀ a3 : α3, p0 a0 a1 a2 a3 → p1 a0 a1 a2 a3 → p2 a0 a1 a2 a3 → p3 a0 a1 a2 a3 → G) : G := by
  obtain ⟨a0, a1, a2, a3, h0, h1, h2, h3⟩ := h; exact k a0 a1 a2 a3 h0 h1 h2 h3
theorem x5_1 {α0 α1 α2 α3 α4 : Type} {p0 : α0 → α1 → α2 → α3 → α4 → Prop} {G : Prop} (h : ∃ a0, ∃ a1, ∃ a2, ∃ a3, ∃ a4, p0 a0 a1 a2 a3 a4) (k : ∀ a0 : α0, ∀ a1 : α1, ∀ a2 : α2, ∀ a3 : α3, ∀ a4 : α4, p0 a0 a1 a2 a3 a4 → G) : G := by
  obtain ⟨a0, a1, a2, a3, a4, h0⟩ := h; exact k a0 a1 a2 a3 a4 h0
theorem x6_2 {α0 α1 α2 α3 α4 α5 : Type} {p0 p1 : α0 → α1 → α2 → α3 → α4 → α5 → Prop} {G : Prop} (h : ∃ a0, ∃ a1, ∃ a2, ∃ a3, ∃ a4, ∃ a5, p0 a0 a1 a2 a3 a4 a5 ∧ p1 a0 a1 a2 a3 a4 a5) (k : ∀ a0 : α0, ∀ a1 : α1, ∀ a2 : α2, ∀ a3 : α3, ∀ a4 : α4, ∀ a5 : α5, p0 a0 a1 a2 a3 a4 a5 → p1 a0 a1 a2 a3 a4 a5 → G) : G := by
  obtain ⟨a0, a1, a2, a3, a4, a5, h0, h1⟩ := h; exact k a0 a1 a2 a3 a4 a5 h0 h1
theorem x6_3 {α0 α1 α2 α3 α4 α5 : Type} {p0 p1 p2 : α0 → α1 → α2 → α3 → α4 → α5 → Prop} {G : Prop} (h : ∃ a0, ∃ a1, ∃ a2, ∃ a3, ∃ a4, ∃ a5, p0 a0 a1 a2 a3 a4 a5 ∧ p1 a0 a1 a2 a3 a4 a5 ∧ p2 a0 a1 a2 a3 a4 a5) (k : ∀ a0 : α0, ∀ a1 : α1, ∀ a2 : α2, ∀ a3 : α3, ∀ a4 : α4, ∀ a5 : α5, p0 a0 a1 a2 a3 a4 a5 → p1 a0 a1 a2 a3 a4 a5 → p2 a0 a1 a2 a3 a4 a5 → G) : G := by
  obtain ⟨a0, a1, a2, a3, a4, a5, h0, h1, h2⟩ := h; exact k a0 a1 a2 a3 a4 a5 h0 h1 h2
theorem x7_1 {α0 α1 α2 α3 α4 α5 α6 : Type} {p0 : α0 → α1 → α2 → α3 → α4 → α5 → α6 → Prop} {G : Prop} (h : ∃ a0, ∃ a1, ∃ a2, ∃ a3, ∃ a4, ∃ a5, ∃ a6, p0 a0 a1 a2 a3 a4 a5 a6) (k : ∀ a0 : α0, ∀ a1 : α1, ∀ a2 : α2, ∀ a3 : α3, ∀ a4 : α4, ∀ a5 : α5, ∀ a6 : α6, p0 a0 a1 a2 a3 a4 a5 a6 → G) : G := by
  obtain ⟨a0, a1, a2, a3, a4, a5, a6, h0⟩ := h; exact k a0 a1 a2 a3 a4 a5 a6 h0
theorem x7_2 {α0 α1 α2 α3 α4 α5 α6 : Type} {p0 p1 : α0 → α1 → α2 → α3 → α4 → α5 → α6 → Prop} {G : Prop} (h : ∃ a0, ∃ a1, ∃ a2, ∃ a3, ∃ a4, ∃ a5, ∃ a6, p0 a0 a1 a2 a3 a4 a5 a6 ∧ p1 a0 a1 a2 a3 a4 a5 a6) (k : ∀ a0 : α0, ∀ a1 : α1, ∀ a2 : α2, ∀ a3 : α3, ∀ a4 : α4, ∀ a5 : α5, ∀ a6 : α6, p0 a0 a1 a2 a3 a4 a5 a6 → p1 a0 a1 a2 a3 a4 a5 a6 → G) : G := by
  obtain ⟨a0, a1, a2, a3, a4, a5, a6, h0, h1⟩ := h; exact k a0 a1 a2 a3 a4 a5 a6 h0 h1
section
variable {α β : Type} {P : Prop}
theorem bnd {x : Option α} {f : α → Option β} {y : β} (h : x.bind f = some y) (k : ∀ a, x = some a → f a = some y → P) : P := by
  cases x with
  | none => cases h
  | some a => exact k a rfl h
theorem mpd {x : Option α} {f : α → β} {y : β} (h : x.map f = some y) (k : ∀ a, x = some a → f a = y → P) : P := by
  cases x with
  | none => cases h
  | some a => exact k a rfl (Option.some.inj h)
theorem bfd {c : Bool} {x : Option α} {y : α} (h : (bif c then x else none) = some y) (k : c = true → x = some y → P) : P := by
  cases c with
  | false => cases h
  | true => exact k rfl h
theorem ofNone {x : α} (h : none = some x) : P := by cases h
end
inductive D where
  | non
  | bool (b : Bool)
  | int (i : Int)
  | str (s : PySem.Str)
  | flt (x : UInt64)
  | list (l : List D)
  | tup (l : List D)
  | obj (a : Addr)
  deriving Inhabited
noncomputable def LIM : Nat := 1000000
mutual
noncomputable def At (h : Heap) (X : Addr → Prop) (v : Value) : D → Prop
  | .non => v = .none
  | .bool b => v = .bool b
  | .int i => ∃ t, v = .int i t
  | .str s => (∃ t, v = .str s t) ∧ s.length ≤ LIM
  | .flt x => ∃ t, v = .float x t
  | .list l => ∃ a vs, v = .ref a ∧ ¬ X a ∧ h.IsList a vs ∧ l.length ≤ LIM ∧ Ats h X vs.toList l
  | .tup l => ∃ a vs, v = .ref a ∧ ¬ X a ∧ h.IsTuple a vs ∧ l.length ≤ LIM ∧ Ats h X vs.toList l
  | .obj a => v = .ref a ∧ ¬ X a ∧ ∃ o, h.get? a = some o ∧ o.cls = .type "object"
noncomputable def Ats (h : Heap) (X : Addr → Prop) (vs : List Value) : List D → Prop
  | [] => vs = []
  | d :: ds => ∃ v vs', vs = v :: vs' ∧ At h X v d ∧ Ats h X vs' ds
end
mutual
theorem At.mono {h h' : Heap} {X Y : Addr → Prop} (hX : ∀ a, Y a → X a) (hk : ∀ a o, ¬ X a → h.get? a = some o → h'.get? a = some o) :
    ∀ (d : D) (v : Value), At h X v d → At h' Y v d
  | .non, v, x => by dsimp only [At] at x ⊢; exact x
  | .bool b, v, x => by dsimp only [At] at x ⊢; exact x
  | .int i, v, x => by dsimp only [At] at x ⊢; exact x
  | .str i, v, x => by dsimp only [At] at x ⊢; exact x
  | .flt i, v, x => by dsimp only [At] at x ⊢; exact x
  | .list l, v, x => by
    dsimp only [At] at x ⊢
    refine x2_5 x fun a vs e hx hl hn hs => ?_
    exact ⟨a, vs, e, fun y => hx (hX a y), hl.at fun o => hk a o hx, hn, Ats.mono hX hk l _ hs⟩
  | .tup l, v, x => by
    dsimp only [At] at x ⊢
    refine x2_5 x fun a vs e hx hl hn hs => ?_
    exact ⟨a, vs, e, fun y => hx (hX a y), hl.at fun o => hk a o hx, hn, Ats.mono hX hk l _ hs⟩
  | .obj a, v, x => by
    dsimp only [At] at x ⊢
    obtain ⟨e, hx, o, ho, hc⟩ := x
    exact ⟨e, fun y => hx (hX a y), o, hk a o hx ho, hc⟩
theorem Ats.mono {h h' : Heap} {X Y : Addr → Prop} (hX : ∀ a, Y a → X a) (hk : ∀ a o, ¬ X a → h.get? a = some o → h'.get? a = some o) :
    ∀ (ds : List D) (vs : List Value), Ats h X vs ds → Ats h' Y vs ds
  | [], vs, x => by dsimp only [Ats] at x ⊢; exact x
  | d :: ds, vs, x => by
    dsimp only [Ats] at x ⊢
    refine x2_3 x fun v vs' e h1 h2 => ?_
    exact ⟨v, vs', e, At.mono hX hk d v h1, Ats.mono hX hk ds vs' h2⟩
end
section
variable {h : Heap} {X : Addr → Prop}
theorem Ats.length : ∀ {ds : List D} {vs : List Value}, Ats h X vs ds → vs.length = ds.length
  | [], vs, x => by dsimp only [Ats] at x; subst x; rfl
  | d :: ds, vs, x => by
    dsimp only [Ats] at x
    refine x2_3 x fun v vs' hr2 _ h2 => ?_; subst hr2
    simp [Ats.length h2]
theorem Ats.append : ∀ {ds es : List D} {vs ws : List Value}, Ats h X vs ds → Ats h X ws es → Ats h X (vs ++ ws) (ds ++ es)
  | [], es, vs, ws, x, y => by dsimp only [Ats] at x; subst x; exact y
  | d :: ds, es, vs, ws, x, y => by
    dsimp only [Ats] at x
    refine x2_3 x fun v vs' hr2 h1 h2 => ?_; subst hr2
    dsimp only [List.cons_append, Ats]
    exact ⟨v, _, rfl, h1, Ats.append h2 y⟩
theorem Ats.one {v : Value} {d : D} (x : At h X v d) : Ats h X [v] [d] := by dsimp only [Ats]; exact ⟨v, [], rfl, x, rfl⟩
theorem Ats.get : ∀ {ds : List D} {vs : List Value} {i : Nat} {d : D}, Ats h X vs ds → ds[i]? = some d → ∃ v, vs[i]? = some v ∧ At h X v d
  | [], vs, i, d, x, e => by simp at e
  | d0 :: ds, vs, 0, d, x, e => by
    dsimp only [Ats] at x
    refine x2_3 x fun v vs' hr2 h1 h2 => ?_; subst hr2
    simp at e; subst e
    exact ⟨v, rfl, h1⟩
  | d0 :: ds, vs, i + 1, d, x, e => by
    dsimp only [Ats] at x
    refine x2_3 x fun v vs' hr2 h1 h2 => ?_; subst hr2
    simp at e
    refine x1_2 (Ats.get h2 e) fun w hw ha => ?_
    exact ⟨w, by simpa using hw, ha⟩
theorem Ats.drop : ∀ {ds : List D} {vs : List Value} (i : Nat), Ats h X vs ds → Ats h X (vs.drop i) (ds.drop i)
  | ds, vs, 0, x => by simpa using x
  | [], vs, i + 1, x => by dsimp only [Ats] at x; subst x; simp [Ats]
  | d :: ds, vs, i + 1, x => by
    dsimp only [Ats] at x
    refine x2_3 x fun v vs' hr2 h1 h2 => ?_; subst hr2
    simpa using Ats.drop i h2
theorem Ats.take : ∀ {ds : List D} {vs : List Value} (i : Nat), Ats h X vs ds → Ats h X (vs.take i) (ds.take i)
  | ds, vs, 0, x => by simp [Ats]
  | [], vs, i + 1, x => by dsimp only [Ats] at x; subst x; simp [Ats]
  | d :: ds, vs, i + 1, x => by
    dsimp only [Ats] at x
    refine x2_3 x fun v vs' hr2 h1 h2 => ?_; subst hr2
    dsimp only [List.take_succ_cons, Ats]
    exact ⟨v, _, rfl, h1, Ats.take i h2⟩
theorem Ats.nil : Ats h X [] [] := by dsimp only [Ats]
theorem Ats.cons {v : Value} {vs : List Value} {d : D} {ds : List D} (x : At h X v d) (y : Ats h X vs ds) : Ats h X (v :: vs) (d :: ds) := by
  dsimp only [Ats]; exact ⟨v, vs, rfl, x, y⟩
theorem at_int {v : Value} {i : Int} : At h X v (.int i) ↔ ∃ t, v = .int i t := by simp only [At]
theorem at_bool {v : Value} {b : Bool} : At h X v (.bool b) ↔ v = .bool b := by simp only [At]
theorem at_non {v : Value} : At h X v .non ↔ v = .none := by simp only [At]
theorem at_flt {v : Value} {x : UInt64} : At h X v (.flt x) ↔ ∃ t, v = .float x t := by simp only [At]
theorem at_str {v : Value} {x : PySem.Str} : At h X v (.str x) ↔ (∃ t, v = .str x t) ∧ x.length ≤ LIM := by simp only [At]
theorem at_list {v : Value} {l : List D} : At h X v (.list l) ↔ ∃ a vs, v = .ref a ∧ ¬ X a ∧ h.IsList a vs ∧ l.length ≤ LIM ∧ Ats h X vs.toList l := by simp only [At]
theorem at_tup {v : Value} {l : List D} : At h X v (.tup l) ↔ ∃ a vs, v = .ref a ∧ ¬ X a ∧ h.IsTuple a vs ∧ l.length ≤ LIM ∧ Ats h X vs.toList l := by simp only [At]
inductive IsLD (h : Heap) (X : Addr → Prop) (v : Value) (l : List D) : Prop
  | mk (a : Addr) (vs : Array Value) (e : v = .ref a) (x : ¬ X a) (i : h.IsList a vs) (n : l.length ≤ LIM) (s : Ats h X vs.toList l)
inductive IsTD (h : Heap) (X : Addr → Prop) (v : Value) (l : List D) : Prop
  | mk (a : Addr) (vs : Array Value) (e : v = .ref a) (x : ¬ X a) (i : h.IsTuple a vs) (n : l.length ≤ LIM) (s : Ats h X vs.toList l)
inductive IsSD (v : Value) (x : PySem.Str) : Prop
  | mk (t : Tok) (e : v = .str x t) (n : x.length ≤ LIM)
theorem at_listI {v : Value} {l : List D} (x : At h X v (.list l)) : IsLD h X v l := by obtain ⟨a, vs, e, x, i, n, s⟩ := at_list.mp x; exact ⟨a, vs, e, x, i, n, s⟩
theorem at_tupI {v : Value} {l : List D} (x : At h X v (.tup l)) : IsTD h X v l := by obtain ⟨a, vs, e, x, i, n, s⟩ := at_tup.mp x; exact ⟨a, vs, e, x, i, n, s⟩
theorem at_strI {v : Value} {x : PySem.Str} (q : At h X v (.str x)) : IsSD v x := by obtain ⟨⟨t, e⟩, n⟩ := at_str.mp q; exact ⟨t, e, n⟩
theorem at_listM {v : Value} {l : List D} (q : IsLD h X v l) : At h X v (.list l) := by obtain ⟨a, vs, e, x, i, n, s⟩ := q; exact at_list.mpr ⟨a, vs, e, x, i, n, s⟩
theorem at_tupM {v : Value} {l : List D} (q : IsTD h X v l) : At h X v (.tup l) := by obtain ⟨a, vs, e, x, i, n, s⟩ := q; exact at_tup.mpr ⟨a, vs, e, x, i, n, s⟩
theorem at_strM {v : Value} {x : PySem.Str} (q : IsSD v x) : At h X v (.str x) := by obtain ⟨t, e, n⟩ := q; exact at_str.mpr ⟨⟨t, e⟩, n⟩
theorem at_obj {v : Value} {a : Addr} : At h X v (.obj a) ↔ v = .ref a ∧ ¬ X a ∧ ∃ o, h.get? a = some o ∧ o.cls = .type "object" := by simp only [At]
theorem lim_size {n : Nat} (hn : n ≤ LIM) : n ≤ sizeLine := by unfold LIM at hn; rw [sizeLine_eq]; lia
end
structure Par where
  prog : Program
  w : World
  h0 : Heap
  T : Addr → Prop
  J : Heap → Prop
  Jk : ∀ h h', (∀ b o, T b → h.get? b = some o → h'.get? b = some o) → J h → J h'
  JT : ∀ h, J h → ∀ a, T a → ∃ o, h.get? a = some o
structure Kp (P : Par) (s s' : Shared) : Prop where
  os : s'.os = s.os
  gens : AllBare s.gens → AllBare s'.gens
  keep : ∀ b o, ¬ P.T b → s.heap.get? b = some o → s'.heap.get? b = some o
  J : P.J s.heap → P.J s'.heap
theorem Kp.refl {P : Par} (s : Shared) : Kp P s s := ⟨rfl, id, fun _ _ _ e => e, id⟩
theorem Kp.trans {P : Par} {s t u : Shared} (a : Kp P s t) (b : Kp P t u) : Kp P s u :=
  ⟨b.os.trans a.os, fun g => b.gens (a.gens g), fun x o n e => b.keep x o n (a.keep x o n e), fun j => b.J (a.J j)⟩
theorem Kp.of_keeps {P : Par} {s s' : Shared} (k : Keeps s s') : Kp P s s' := by
  refine x2_2 k fun h' tk hr2 hk => ?_; subst hr2
  exact ⟨rfl, id, fun b o _ e => hk b o e, P.Jk _ _ fun b o _ e => hk b o e⟩
theorem Kp.of_heap {P : Par} {s : Shared} {h' : Heap} {tk : Nat} (hk : ∀ b o, s.heap.get? b = some o → h'.get? b = some o) : Kp P s { s with heap := h', toks := tk } :=
  Kp.of_keeps ⟨h', tk, rfl, hk⟩
theorem Kp.tok {P : Par} {s : Shared} {tk : Nat} : Kp P s { s with toks := tk } := Kp.of_heap fun _ _ e => e
theorem Kp.push {P : Par} {s : Shared} (o : Obj) : Kp P s { s with heap := s.heap.push o } := Kp.of_heap fun _ _ e => Heap.get?_push_of_some _ e
structure St (P : Par) (X : Addr → Prop) (s : Shared) : Prop where
  base : ∀ b o, ¬ P.T b → P.h0.get? b = some o → s.heap.get? b = some o
  J : P.J s.heap
  live : ∀ a, X a → ∃ o, s.heap.get? a = some o
  tx : ∀ a, P.T a → X a
  nb : ∀ a, X a → P.T a ∨ P.h0.get? a = none
theorem St.kp {P : Par} {X : Addr → Prop} {s s' : Shared} (S : St P X s) (k : Kp P s s') : St P X s' :=
  ⟨fun b o n e => k.keep b o n (S.base b o n e), k.J S.J, fun a x => by
    refine x1_1 (S.live a x) fun o ho => ?_
    by_cases hT : P.T a
    · exact P.JT _ (k.J S.J) a hT
    · exact ⟨o, k.keep a o hT ho⟩, S.tx, S.nb⟩
theorem St.fresh {P : Par} {X : Addr → Prop} {s : Shared} (S : St P X s) : ¬ X s.heap.objs.size := fun x => by
  refine x1_1 (S.live _ x) fun o ho => ?_
  exact absurd (Heap.lt_size ho) (Nat.lt_irrefl _)
theorem At.kp {P : Par} {X : Addr → Prop} {s s' : Shared} (S : St P X s) (k : Kp P s s') {v : Value} {d : D} (a : At s.heap X v d) : At s'.heap X v d :=
  At.mono (fun _ x => x) (fun b o n e => k.keep b o (fun t => n (S.tx b t)) e) d v a
theorem Ats.kp {P : Par} {X : Addr → Prop} {s s' : Shared} (S : St P X s) (k : Kp P s s') {v : List Value} {d : List D} (a : Ats s.heap X v d) : Ats s'.heap X v d :=
  Ats.mono (fun _ x => x) (fun b o n e => k.keep b o (fun t => n (S.tx b t)) e) d v a
structure Post (P : Par) (X : Addr → Prop) (s : Shared) (d : D) (v : Value) (s' : Shared) : Prop where
  k : Kp P s s'
  a : At s'.heap X v d
noncomputable def Gives (P : Par) (X : Addr → Prop) (A : Around) (s : Shared) (t : Sem Value) (d : D) : Prop :=
  wpAny (model P.prog P.w) A t (Post P X s d) (fun _ _ => False) s
noncomputable def noE : Value → Shared → Prop := fun _ _ => False
end Mine
namespace Mine
open PySem PySem.W PyProof.Rows
noncomputable def sm (a : Int) : Bool := decide (-1000000000 < a) && decide (a < 1000000000)
noncomputable def binI (op : Operator) (a b : Int) : Option D := match op with
  | .Add => some (.int (a + b))
  | .Sub => some (.int (a - b))
  | .Mult => bif sm a || sm b then some (.int (a * b)) else none
  | .FloorDiv => bif sm b && !(b == 0) then some (.int (a.fdiv b)) else none
  | .Mod => bif sm b && !(b == 0) then some (.int (a.fmod b)) else none
  | .Pow => bif decide (2 ≤ a) && decide (a < 1000) && decide (1 ≤ b) && decide (b < 1000) then some (.int (a ^ b.toNat)) else none
  | .Div => bif !(b == 0) && !(Float64.isInf (Float64.ofFrac (decide (a < 0) != decide (b < 0)) a.natAbs b.natAbs)) then
      some (.flt (Float64.ofFrac (decide (a < 0) != decide (b < 0)) a.natAbs b.natAbs)) else none
  | _ => none
noncomputable def binF (op : Operator) (a b : UInt64) : Option D := match op with
  | .Add => some (.flt (Float64.add a b))
  | .Sub => some (.flt (Float64.sub a b))
  | .Mult => some (.flt (Float64.mul a b))
  | _ => none
noncomputable def binM (op : Operator) (a : UInt64) (b : Int) : Option D := match op with
  | .Mult => bif !(Float64.isInf (Float64.ofInt b)) then some (.flt (Float64.mul a (Float64.ofInt b))) else none
  | .Add => bif !(Float64.isInf (Float64.ofInt b)) then some (.flt (Float64.add a (Float64.ofInt b))) else none
  | _ => none
noncomputable def binS (op : Operator) (a b : PySem.Str) : Option D := match op with
  | .Add => bif decide (a.length + b.length ≤ LIM) then some (.str (a ++ b)) else none
  | _ => none
noncomputable def binL (op : Operator) (a b : List D) : Option D := match op with
  | .Add => bif decide (a.length + b.length ≤ LIM) then some (.list (a ++ b)) else none
  | _ => none
noncomputable def abin (op : Operator) (a b : D) : Option D := match a with
  | .int x => (match b with
    | .int y => binI op x y
    | _ => none)
  | .flt x => (match b with
    | .flt y => binF op x y
    | _ => (match b with
      | .int y => binM op x y
      | _ => none))
  | .str x => (match b with
    | .str y => binS op x y
    | _ => none)
  | .list x => (match b with
    | .list y => binL op x y
    | _ => none)
  | _ => none
theorem bif_get {α : Type} {c : Bool} {x : Option α} {y : α} (h : (bif c then x else none) = some y) : c = true ∧ x = some y := by
  cases c with
  | false => exact ofNone h
  | true => exact ⟨rfl, h⟩
section
variable {Z : Par} {X : Addr → Prop} {A : Around} {s : Shared}
theorem post_int {i : Int} {t tk : Nat} : Post Z X s (.int i) (.int i t) { s with toks := tk } := ⟨Kp.tok, at_int.mpr ⟨_, rfl⟩⟩
theorem post_flt {x : UInt64} {t tk : Nat} : Post Z X s (.flt x) (.float x t) { s with toks := tk } := ⟨Kp.tok, at_flt.mpr ⟨_, rfl⟩⟩
theorem post_bool {b : Bool} : Post Z X s (.bool b) (.bool b) s := ⟨Kp.refl _, at_bool.mpr rfl⟩
theorem post_str {x : PySem.Str} {t tk : Nat} (h : x.length ≤ LIM) : Post Z X s (.str x) (.str x t) { s with toks := tk } := ⟨Kp.tok, at_strM ⟨_, rfl, h⟩⟩
theorem post_newlist {vs : Array Value} {ds : List D} (S : St Z X s) (h : Ats s.heap X vs.toList ds) (hn : ds.length ≤ LIM) :
    Post Z X s (.list ds) (.ref s.heap.objs.size) { s with heap := s.heap.push { cls := .type "list", data := .seq vs } } :=
  ⟨Kp.push _, at_listM ⟨_, vs, rfl, S.fresh, ⟨_, Heap.get?_push_size _ rfl, rfl, _, rfl⟩, hn, h.kp S (Kp.push _)⟩⟩
theorem post_newtup {vs : Array Value} {ds : List D} (S : St Z X s) (h : Ats s.heap X vs.toList ds) (hn : ds.length ≤ LIM) :
    Post Z X s (.tup ds) (.ref s.heap.objs.size) { s with heap := s.heap.push { cls := .type "tuple", data := .seq vs } } :=
  ⟨Kp.push _, at_tupM ⟨_, vs, rfl, S.fresh, ⟨_, Heap.get?_push_size _ rfl, rfl, _, rfl⟩, hn, h.kp S (Kp.push _)⟩⟩
theorem sm_bits {a : Int} (h : sm a = true) : Builtin.Int.intBits a ≤ 64 := by
  unfold sm at h
  simp only [Bool.and_eq_true, decide_eq_true_eq] at h
  exact intBits_le_64 (by omega) (by omega)
theorem str_len_append (a b : PySem.Str) : (a ++ b).length = a.length + b.length := Str.length_append a b
theorem str_empty_of {a : PySem.Str} (h : (a.length == 0) = true) : a = Str.empty := by
  obtain ⟨c⟩ := a
  have : c.size = 0 := by simpa [PySem.Str.length] using h
  have : c = #[] := Array.eq_empty_of_size_eq_zero this
  subst this; rfl
theorem binI_sound {op : Operator} {a b : Int} {t u : Nat} {d : D} (h : binI op a b = some d) : Gives Z X A s (binaryOp op (.int a t) (.int b u)) d := by
  unfold Gives
  cases op with
  | Add => rw [← Option.some.inj h]; exact PySem.P.add_int post_int
  | Sub => rw [← Option.some.inj h]; exact PySem.P.sub_int post_int
  | Mult =>
    refine x0_2 (bif_get h) fun hb h => ?_
    rw [← Option.some.inj h]
    refine PySem.P.mul_int post_int ?_
    exact (Bool.or_eq_true_iff.mp hb).elim (fun q => IntMulOk.of_left (sm_bits q)) (fun q => IntMulOk.of_right (sm_bits q))
  | FloorDiv =>
    refine x0_2 (bif_get h) fun hb h => ?_
    rw [← Option.some.inj h]
    refine x0_2 (Bool.and_eq_true_iff.mp hb) fun h1 h2 => ?_
    refine x0_2 (Bool.and_eq_true_iff.mp h1) fun h3 h4 => ?_
    have h3 := of_decide_eq_true h3
    have h4 := of_decide_eq_true h4
    exact AutoIntOps.floordiv_1 (by simpa using h2) (by rw [PyProof.noPylong_small (by omega)]; decide) post_int
  | Mod =>
    refine x0_2 (bif_get h) fun hb h => ?_
    rw [← Option.some.inj h]
    exact AutoIntOps.mod_1 (by simpa using (Bool.and_eq_true_iff.mp hb).2) post_int
  | Pow =>
    refine x0_2 (bif_get h) fun hb h => ?_
    rw [← Option.some.inj h]
    simp only [Bool.and_eq_true, decide_eq_true_eq] at hb
    have hbits : Builtin.Int.intBits a ≤ 64 := intBits_le_64 (by omega) (by omega)
    refine AutoIntOps.pow_4 (by omega) (by simp; omega) (by simp; omega) (by simp; omega) ?_ (post_int)
    unfold Builtin.Int.intTooBig
    simp only [bitsLine, gt_iff_lt, decide_eq_true_eq]
    have hb' : ((Builtin.Int.intBits a : Nat) : Int) ≤ 64 := by omega
    have : ((Builtin.Int.intBits a : Nat) : Int) * b ≤ 64 * b := Int.mul_le_mul_of_nonneg_right hb' (by omega)
    have h4 : ¬ ((2 ^ 27 : Nat) : Int) < ((Builtin.Int.intBits a : Nat) : Int) * b := by
      have : ((2 ^ 27 : Nat) : Int) = 134217728 := by decide
      omega
    exact h4
  | Div =>
    refine x0_2 (bif_get h) fun hb h => ?_
    rw [← Option.some.inj h]
    rw [Bool.and_eq_true, Bool.not_eq_true', Bool.not_eq_true'] at hb
    exact AutoIntOps.truediv_2 (by rw [hb.1]; decide) (by rw [hb.2]; decide) post_flt
  | _ => exact ofNone h
theorem binF_sound {op : Operator} {a b : UInt64} {t u : Nat} {d : D} (h : binF op a b = some d) : Gives Z X A s (binaryOp op (.float a t) (.float b u)) d := by
  unfold Gives
  cases op with
  | Add => rw [← Option.some.inj h]; exact AutoFloatOps.add_0 post_flt
  | Sub => rw [← Option.some.inj h]; exact AutoFloatOps.sub_0 post_flt
  | Mult => rw [← Option.some.inj h]; exact AutoFloatOps.mul_0 post_flt
  | _ => exact ofNone h
theorem binM_sound {op : Operator} {a : UInt64} {b : Int} {t u : Nat} {d : D} (h : binM op a b = some d) : Gives Z X A s (binaryOp op (.float a t) (.int b u)) d := by
  unfold Gives
  cases op with
  | Mult =>
    refine x0_2 (bif_get h) fun hb h => ?_
    rw [← Option.some.inj h]
    rw [Bool.not_eq_true'] at hb
    exact AutoFloatOpsIf.mul_fi (by rw [if_neg (by rw [hb]; decide)]; exact post_flt)
  | Add =>
    refine x0_2 (bif_get h) fun hb h => ?_
    rw [← Option.some.inj h]
    rw [Bool.not_eq_true'] at hb
    exact AutoFloatOpsIf.add_fi (by rw [if_neg (by rw [hb]; decide)]; exact post_flt)
  | _ => exact ofNone h
theorem binS_sound {op : Operator} {a b : PySem.Str} {v1 v2 : Value} {d : D} (h1 : At s.heap X v1 (.str a)) (h2 : At s.heap X v2 (.str b)) (h : binS op a b = some d) : Gives Z X A s (binaryOp op v1 v2) d := by
  unfold Gives
  obtain ⟨t, rfl, hl1⟩ := at_strI h1; obtain ⟨u, rfl, hl2⟩ := at_strI h2
  cases op with
  | Add =>
    refine x0_2 (bif_get h) fun hb h => ?_
    rw [← Option.some.inj h]
    have hl := of_decide_eq_true hb
    refine PySem.P.add_str ?_
    by_cases ha : (a.length == 0) = true
    · rw [if_pos ha]
      have := str_empty_of ha; subst this
      rw [Str.empty_append]
      exact ⟨Kp.refl _, at_strM ⟨_, rfl, hl2⟩⟩
    · rw [if_neg ha]
      by_cases hb' : (b.length == 0) = true
      · rw [if_pos hb']
        have := str_empty_of hb'; subst this
        rw [Str.append_empty]
        exact ⟨Kp.refl _, at_strM ⟨_, rfl, hl1⟩⟩
      · rw [if_neg hb']
        have hl3 : (a ++ b).length ≤ LIM := by rw [str_len_append]; exact hl
        exact ⟨lim_size hl3, post_str hl3⟩
  | _ => exact ofNone h
theorem binL_sound {op : Operator} {a b : List D} {v1 v2 : Value} {d : D} (S : St Z X s) (h1 : At s.heap X v1 (.list a)) (h2 : At s.heap X v2 (.list b)) (h : binL op a b = some d) : Gives Z X A s (binaryOp op v1 v2) d := by
  unfold Gives
  obtain ⟨a1, vs1, rfl, hx1, hl1, hn1, hs1⟩ := at_listI h1; obtain ⟨a2, vs2, rfl, hx2, hl2, hn2, hs2⟩ := at_listI h2
  cases op with
  | Add =>
    refine x0_2 (bif_get h) fun hb h => ?_
    rw [← Option.some.inj h]
    have hl := of_decide_eq_true hb
    have e1 := hs1.length
    have e2 := hs2.length
    simp only [Array.length_toList] at e1 e2
    obtain ⟨⟨cls, dd, data, sl⟩, ho, hc, n, hd⟩ := id hl1
    obtain ⟨⟨cls2, dd2, data2, sl2⟩, ho2, hc2, n2, hd2⟩ := id hl2
    simp only at hc hd hc2 hd2
    subst hc hd hc2 hd2
    refine concat_meets ⟨_, ho, rfl⟩ ⟨_, ho2, rfl⟩ noFill_list_add seq_list_add PySem.F.slot_list_add PySem.F.entry_list_add (PySem.F.args_list_add_2 _ _)
      (list_addW a1 a2 vs1 vs2 n n2 dd dd2 sl sl2 (by rw [e1, e2]; exact lim_size hl)) ⟨ho, ho2, ?_⟩
    refine post_newlist S ?_ (by rw [List.length_append]; exact hl)
    rw [Array.toList_append]; exact hs1.append hs2
  | _ => exact ofNone h
theorem abin_sound {op : Operator} {d1 d2 d : D} {v1 v2 : Value} (S : St Z X s) (h1 : At s.heap X v1 d1) (h2 : At s.heap X v2 d2)
    (h : abin op d1 d2 = some d) : Gives Z X A s (binaryOp op v1 v2) d := by
  unfold abin at h
  cases d1 with
  | int x =>
    cases d2 with
    | int y => dsimp only at h; obtain ⟨t, rfl⟩ := at_int.mp h1; obtain ⟨u, rfl⟩ := at_int.mp h2; exact binI_sound (a := x) (b := y) h
    | _ => exact ofNone h
  | flt x =>
    cases d2 with
    | flt y => dsimp only at h; obtain ⟨t, rfl⟩ := at_flt.mp h1; obtain ⟨u, rfl⟩ := at_flt.mp h2; exact binF_sound (a := x) (b := y) h
    | int y => dsimp only at h; obtain ⟨t, rfl⟩ := at_flt.mp h1; obtain ⟨u, rfl⟩ := at_int.mp h2; exact binM_sound (a := x) (b := y) h
    | _ => exact ofNone h
  | str x =>
    cases d2 with
    | str y => dsimp only at h; exact binS_sound h1 h2 h
    | _ => exact ofNone h
  | list x =>
    cases d2 with
    | list y => dsimp only at h; exact binL_sound S h1 h2 h
    | _ => exact ofNone h
  | _ => exact ofNone h
end
end Mine
namespace Mine
open PySem PySem.W PyProof.Rows PySem.SeqAt
noncomputable def seq1 (a b : D) : Option Bool := match a with
  | .int x => (match b with
    | .int y => some (x == y)
    | _ => none)
  | .bool x => (match b with
    | .bool y => some (x == y)
    | _ => none)
  | .str x => (match b with
    | .str y => some (x == y)
    | _ => none)
  | _ => none
noncomputable def seqL : List D → List D → Option Bool
  | [], m => (match m with
    | [] => some true
    | _ :: _ => some false)
  | a :: l, m => (match m with
    | [] => some false
    | b :: m => (seq1 a b).bind fun x => (seqL l m).map fun y => x && y)
noncomputable def ain (x : D) : List D → Option Bool
  | [] => some false
  | a :: l => (seq1 a x).bind fun p => (ain x l).map fun q => p || q
noncomputable def isNon : D → Bool
  | .non => true
  | _ => false
noncomputable def isNotObj : D → Addr → Option Bool
  | .obj a, b => some (!(a == b))
  | .str _, _ => some true
  | _, _ => none
noncomputable def cmpEq (a b : D) : Option Bool := match a with
  | .int x => (match b with
    | .int y => some (x == y)
    | _ => none)
  | .bool x => (match b with
    | .bool y => some (x == y)
    | _ => none)
  | .str x => (match b with
    | .str y => some (x == y)
    | _ => none)
  | .list l => (match b with
    | .list m => bif l.length == m.length then seqL l m else some false
    | _ => none)
  | _ => none
noncomputable def cmpNe (a b : D) : Option Bool := match a with
  | .int x => (match b with
    | .int y => some (x != y)
    | _ => none)
  | .bool x => (match b with
    | .bool y => some (x != y)
    | _ => none)
  | .str x => (match b with
    | .str y => some (!(x == y))
    | _ => none)
  | .list l => (match b with
    | .list m => bif l.length == m.length then (seqL l m).map (!·) else some true
    | _ => none)
  | _ => none
noncomputable def pairI : D → Option (Int × Int)
  | .tup l => (match l with
    | [] => none
    | p :: r => (match p with
      | .int a => (match r with
        | [] => none
        | q :: r => (match q with
          | .int b => (match r with
            | [] => some (a, b)
            | _ :: _ => none)
          | _ => none))
      | _ => none))
  | _ => none
noncomputable def cmpLt (a b : D) : Option Bool := match a with
  | .int x => (match b with
    | .int y => some (decide (x < y))
    | _ => none)
  | .tup l => (pairI (.tup l)).bind fun p => (pairI b).map fun q => decide (p.1 < q.1) || (p.1 == q.1 && decide (p.2 < q.2))
  | _ => none
noncomputable def cmpLe (a b : D) : Option Bool := match a with
  | .int x => (match b with
    | .int y => some (decide (x ≤ y))
    | _ => none)
  | .str x => (match b with
    | .str y => some (!(decide (y.cps.toList < x.cps.toList)))
    | _ => none)
  | _ => none
noncomputable def cmpGt (a b : D) : Option Bool := match a with
  | .int x => (match b with
    | .int y => some (decide (x > y))
    | _ => none)
  | .str x => (match b with
    | .str y => some (decide (y.cps.toList < x.cps.toList))
    | _ => none)
  | _ => none
noncomputable def cmpGe (a b : D) : Option Bool := match a with
  | .int x => (match b with
    | .int y => some (decide (x ≥ y))
    | _ => none)
  | _ => none
noncomputable def cmpIs (a b : D) : Option Bool := match b with
  | .non => some (isNon a)
  | .obj c => (isNotObj a c).map (!·)
  | _ => none
noncomputable def cmpIsN (a b : D) : Option Bool := match b with
  | .obj c => isNotObj a c
  | _ => none
noncomputable def cmpIn (a b : D) : Option Bool := match b with
  | .tup l => ain a l
  | .list l => ain a l
  | _ => none
noncomputable def cmpNi (a b : D) : Option Bool := match a with
  | .str y => (match b with
    | .str x => some (!(!(Builtin.Str.occurrences x y 0 x.length 1).isEmpty))
    | _ => none)
  | _ => none
noncomputable def acmp (op : CmpOp) (a b : D) : Option Bool := match op with
  | .Eq => cmpEq a b
  | .NotEq => cmpNe a b
  | .Lt => cmpLt a b
  | .LtE => cmpLe a b
  | .Gt => cmpGt a b
  | .GtE => cmpGe a b
  | .Is => cmpIs a b
  | .IsNot => cmpIsN a b
  | .In => cmpIn a b
  | .NotIn => cmpNi a b
theorem tuple_lt2 (l b : Addr) (a1 a2 b1 b2 : Int) (t1 t2 u1 u2 : Tok) (n n2 : Nat) (dd dd2 : Option Addr) (sl sl2 : Array (Option Value)) :
    Meets (Builtin.«tuple.__lt__» ⟨[.ref l, .ref b], []⟩)
      (fun A R s => s.heap.get? l = some { cls := .type "tuple", dict := dd, data := .seq #[.int a1 t1, .int a2 t2] n, slots := sl } ∧ s.heap.get? b = some { cls := .type "tuple", dict := dd2, data := .seq #[.int b1 u1, .int b2 u2] n2, slots := sl2 } ∧
        R (.ok (.ret (.bool (decide (a1 < b1) || (a1 == b1 && decide (a2 < b2)))))) s) :=
  .of_wp fun prog w A R s h => by
    obtain ⟨hp, g, d, tk, os⟩ := s; obtain ⟨hl, hb, h⟩ := h
    have f2 := AutoSeq1.sub_tuple_tuple
    wp_walk using wpAny_loadPart' hl, wpAny_loadPart' hb, wpAny_eqBool_int
    cases e1 : (a1 == b1) with
    | false =>
      rw [e1] at h
      dsimp only [Bool.not_false, if_true]
      refine wpAny_bind (wpAny_rule (wpAny_bind ?_))
      show wpAny _ _ (compareOp .Lt _ _) _ _ _
      refine PySem.P.lt_int ?_
      simp only [Bool.false_and, Bool.or_false] at h
      exact wpAny_bind (wpAny_pure (wpAny_pure (wpAny_pure (wpAny_pure ⟨_, rfl, h⟩))))
    | true =>
      rw [e1] at h
      have : a1 = b1 := eq_of_beq e1
      subst this
      dsimp only [Bool.not_true, Bool.false_eq_true, if_false]
      have hlt : decide (a1 < a1) = false := by simp
      rw [hlt, Bool.false_or, Bool.true_and] at h
      refine wpAny_pure ?_
      dsimp only
      unfold List.forIn'.loop
      dsimp only [List.zip_cons_cons, List.zipWith]
      refine wpAny_bind (wpAny_bind (wpAny_eqBool_int ?_))
      cases e2 : (a2 == b2) with
      | false =>
        simp only [Bool.not_false, if_true]
        refine wpAny_bind (wpAny_rule (wpAny_bind ?_))
        show wpAny _ _ (compareOp .Lt _ _) _ _ _
        refine PySem.P.lt_int ?_
        exact wpAny_bind (wpAny_pure (wpAny_pure (wpAny_pure (wpAny_pure ⟨_, rfl, h⟩))))
      | true =>
        have : a2 = b2 := eq_of_beq e2
        subst this
        have hlt : decide (a2 < a2) = false := by simp
        rw [hlt] at h
        simp only [Bool.not_true, Bool.false_eq_true, if_false]
        refine wpAny_pure ?_
        exact wpAny_pure (wpAny_pure ⟨_, rfl, h⟩)
section
variable {Z : Par} {X : Addr → Prop} {A : Around} {s : Shared}
theorem str_beq' (a b : PySem.Str) : (a == b) = (a.cps.toList == b.cps.toList) := by
  obtain ⟨a⟩ := a; obtain ⟨b⟩ := b
  rw [Bool.eq_iff_iff, beq_iff_eq, beq_iff_eq]
  constructor
  · intro e; cases e; rfl
  · intro e
    have : a = b := by cases a; cases b; exact congrArg _ e
    rw [this]
theorem seq1_sound {d1 d2 : D} {v1 v2 : Value} {b : Bool} (h1 : At s.heap X v1 d1) (h2 : At s.heap X v2 d2) (h : seq1 d1 d2 = some b) : EqAt A s v1 v2 b := by
  cases d1 with
  | int x => cases d2 with
    | int y => obtain ⟨t, rfl⟩ := at_int.mp h1; obtain ⟨u, rfl⟩ := at_int.mp h2; rw [← Option.some.inj h]; exact EqAt.int_int _ _ _ _
    | _ => exact ofNone h
  | bool x => cases d2 with
    | bool y => rw [at_bool.mp h1, at_bool.mp h2]; rw [← Option.some.inj h]; exact EqAt.bool_bool _ _
    | _ => exact ofNone h
  | str x => cases d2 with
    | str y => obtain ⟨t, rfl, _⟩ := at_strI h1; obtain ⟨u, rfl, _⟩ := at_strI h2; rw [← Option.some.inj h]; exact EqAt.str_str _ _ _ _
    | _ => exact ofNone h
  | _ => exact ofNone h
theorem seqL_get : ∀ {l m : List D} {b : Bool}, seqL l m = some b → l.length = m.length →
    ∃ e : Nat → Bool, (∀ j d1 d2, l[j]? = some d1 → m[j]? = some d2 → seq1 d1 d2 = some (e j)) ∧ b = (List.range l.length).all e
  | [], [], b, h, _ => by
    rw [← Option.some.inj h]
    exact ⟨fun _ => true, fun j d1 d2 h1 _ => by simp at h1, by simp⟩
  | a :: l, c :: m, b, h, hl => by
    refine bnd h fun x hx h => mpd h fun y hy h => ?_
    refine x1_2 (seqL_get hy (Nat.succ.inj hl)) fun e he hb => ?_
    refine ⟨fun j => match j with | 0 => x | j + 1 => e j, fun j d1 d2 h1 h2 => ?_, ?_⟩
    · cases j with
      | zero => cases h1; rw [← Option.some.inj h2]; exact hx
      | succ j => exact he j d1 d2 h1 h2
    · rw [List.length_cons, List.range_succ_eq_map, List.all_cons, List.all_map, ← h, hb]
      rfl
  | [], _ :: _, _, _, hl => by simp at hl
  | _ :: _, [], _, _, hl => by simp at hl
theorem ats_at {vs : Array Value} {ds : List D} (h : Ats s.heap X vs.toList ds) {j : Nat} (hj : j < vs.size) : ∃ d, ds[j]? = some d ∧ At s.heap X vs[j] d := by
  have hl := h.length
  rw [Array.length_toList] at hl
  have hlt : j < ds.length := by lia
  refine x1_2 (h.get (List.getElem?_eq_getElem hlt)) fun v hv ha => ?_
  rw [Array.getElem?_toList, Array.getElem?_eq_getElem hj] at hv
  cases hv
  exact ⟨_, List.getElem?_eq_getElem hlt, ha⟩
theorem ats_mem : ∀ {ds : List D} {vs : List Value}, Ats s.heap X vs ds → ∀ v ∈ vs, ∃ d ∈ ds, At s.heap X v d
  | [], vs, h, v, hv => by dsimp only [Ats] at h; subst h; cases hv
  | d :: ds, vs, h, v, hv => by
    dsimp only [Ats] at h
    refine x2_3 h fun w ws hr2 h1 h2 => ?_; subst hr2
    rcases List.mem_cons.mp hv with rfl | hv
    · exact ⟨d, List.mem_cons_self, h1⟩
    · refine x1_2 (ats_mem h2 v hv) fun d' hd' ha => ?_
      exact ⟨d', List.mem_cons_of_mem _ hd', ha⟩
noncomputable def eOf : D → Value → Bool
  | .int k, .int i _ => i == k
  | .bool k, .bool b => b == k
  | .str k, .str x _ => x == k
  | _, _ => false
theorem eOf_of {d x : D} {v : Value} {b : Bool} (h : At s.heap X v d) (hs : seq1 d x = some b) : eOf x v = b := by
  cases d with
  | int i => cases x with
    | int j => obtain ⟨t, rfl⟩ := at_int.mp h; rw [← Option.some.inj hs]; rfl
    | _ => exact ofNone hs
  | bool i => cases x with
    | bool j => rw [at_bool.mp h]; rw [← Option.some.inj hs]; rfl
    | _ => exact ofNone hs
  | str i => cases x with
    | str j => obtain ⟨t, rfl, _⟩ := at_strI h; rw [← Option.some.inj hs]; rfl
    | _ => exact ofNone hs
  | _ => exact ofNone hs
theorem ain_sound {x : D} {vx : Value} (hx : At s.heap X vx x) : ∀ {ds : List D} {vs : List Value} {b : Bool}, Ats s.heap X vs ds → ain x ds = some b →
    (∀ v ∈ vs, EqAt A s v vx (eOf x v)) ∧ vs.any (eOf x) = b
  | [], vs, b, h, hb => by
    dsimp only [Ats] at h; subst h; rw [← Option.some.inj hb]
    exact ⟨fun v hv => (nomatch hv), rfl⟩
  | d :: ds, vs, b, h, hb => by
    dsimp only [Ats] at h
    refine x2_3 h fun w ws hr2 h1 h2 => ?_; subst hr2
    refine bnd hb fun p hp hb => mpd hb fun q hq hb => ?_
    refine x0_2 (ain_sound hx h2 hq) fun he hany => ?_
    refine ⟨fun v hv => ?_, by rw [List.any_cons, hany, eOf_of h1 hp]; exact hb⟩
    rcases List.mem_cons.mp hv with rfl | hv
    · rw [eOf_of h1 hp]; exact seq1_sound h1 hx hp
    · exact he v hv
theorem list_eqs {l m : List D} {vs ws : Array Value} {b : Bool} (h1 : Ats s.heap X vs.toList l) (h2 : Ats s.heap X ws.toList m) (hl : l.length = m.length) (h : seqL l m = some b) :
    ∃ e : Nat → Bool, (∀ j (h1 : j < vs.size) (h2 : j < ws.size), EqAt A.in1 s vs[j] ws[j] (e j)) ∧ b = (List.range vs.size).all e := by
  refine x1_2 (seqL_get h hl) fun e he hb => ?_
  refine ⟨e, fun j a1 a2 => ?_, ?_⟩
  · refine x1_2 (ats_at h1 a1) fun d1 e1 x1 => ?_
    refine x1_2 (ats_at h2 a2) fun d2 e2 x2 => ?_
    exact seq1_sound x1 x2 (he j d1 d2 e1 e2)
  · have := h1.length
    rw [Array.length_toList] at this
    rw [hb, this]
theorem lt_pairs {l b : Addr} {a1 a2 b1 b2 : Int} {t1 t2 u1 u2 : Tok} {Q : Value → Shared → Prop} (hu : A.units < cLine)
    (hl : s.heap.IsTuple l #[.int a1 t1, .int a2 t2]) (hb : s.heap.IsTuple b #[.int b1 u1, .int b2 u2])
    (h : Q (.bool (decide (a1 < b1) || (a1 == b1 && decide (a2 < b2)))) s) : wpAny (model Z.prog Z.w) A (compareOp .Lt (.ref l) (.ref b)) Q (fun _ _ => False) s := by
  obtain ⟨⟨cls, dd, data, sl⟩, ho, hc, n, hd⟩ := id hl
  obtain ⟨⟨cls2, dd2, data2, sl2⟩, ho2, hc2, n2, hd2⟩ := id hb
  simp only at hc hd hc2 hd2
  subst hc hd hc2 hd2
  exact richCompare_meets_room (op := .Lt) ⟨_, ho, rfl⟩ ⟨_, ho2, rfl⟩ PySem.F.slot_tuple_lt PySem.F.entry_tuple_lt (PySem.F.args_tuple_lt_2 _ _) (tuple_lt2 l b a1 a2 b1 b2 t1 t2 u1 u2 n n2 dd dd2 sl sl2)
    ⟨ho, ho2, show Value.bool (decide (a1 < b1) || (a1 == b1 && decide (a2 < b2))) ≠ Value.notImplemented ∧ Q (.bool (decide (a1 < b1) || (a1 == b1 && decide (a2 < b2)))) s from ⟨(fun x => nomatch x), h⟩⟩ hu
theorem ats_two {vs : Array Value} {d1 d2 : D} (h : Ats s.heap X vs.toList [d1, d2]) : ∃ v1 v2, vs = #[v1, v2] ∧ At s.heap X v1 d1 ∧ At s.heap X v2 d2 := by
  dsimp only [Ats] at h
  obtain ⟨v, vs', e, h1, v2, vs2, rfl, h2, rfl⟩ := h
  refine ⟨v, v2, ?_, h1, h2⟩
  obtain ⟨l⟩ := vs
  simp at e; rw [e]
theorem isNon_sound {v : Value} {d : D} (h : At s.heap X v d) : (v == Value.none) = isNon d := by
  cases d with
  | non => rw [at_non.mp h]; rfl
  | bool b => rw [at_bool.mp h]; rfl
  | int i => obtain ⟨t, rfl⟩ := at_int.mp h; rfl
  | str i => obtain ⟨t, rfl, _⟩ := at_strI h; rfl
  | flt i => obtain ⟨t, rfl⟩ := at_flt.mp h; rfl
  | list l => obtain ⟨a, vs, rfl, _⟩ := at_listI h; rfl
  | tup l => obtain ⟨a, vs, rfl, _⟩ := at_tupI h; rfl
  | obj a => obtain ⟨rfl, _⟩ := at_obj.mp h; rfl
theorem ofNe {a b : Value} {k : Bool} {Q : Value → Shared → Prop} {E : Value → Shared → Prop} (h : RcNeAt A s a b k) (hq : Q (.bool k) s) : wpAny (model Z.prog Z.w) A (compareOp .NotEq a b) Q E s := h Z.prog Z.w E Q hq
theorem isnot_objs {x y : Addr} {o1 o2 : Obj} (ho1 : s.heap.get? x = some o1) (ho2 : s.heap.get? y = some o2) (hc1 : o1.cls = .type "object") :
    wpAny (model Z.prog Z.w) A (compareOp .IsNot (.ref x) (.ref y)) (Post Z X s (.bool (!(x == y)))) (fun _ _ => False) s := by
  by_cases e : x = y
  · subst e
    have : (!(x == x)) = false := by simp
    rw [this]; exact wpAny_isNot_ref_self post_bool
  · have : (!(x == y)) = true := by simpa using e
    rw [this]; exact wpAny_isNot_ref_other e ho1 ho2 (by rw [hc1]; decide) post_bool
theorem is_objs {x y : Addr} {o1 o2 : Obj} (ho1 : s.heap.get? x = some o1) (ho2 : s.heap.get? y = some o2) (hc1 : o1.cls = .type "object") :
    wpAny (model Z.prog Z.w) A (compareOp .Is (.ref x) (.ref y)) (Post Z X s (.bool (x == y))) (fun _ _ => False) s := by
  by_cases e : x = y
  · subst e
    have : (x == x) = true := by simp
    rw [this]; exact wpAny_is_ref_self post_bool
  · have : (x == y) = false := by simpa using e
    rw [this]; exact wpAny_is_ref_other e ho1 ho2 (by rw [hc1]; decide) post_bool
theorem pairI_inv {d : D} {p : Int × Int} (h : pairI d = some p) : d = .tup [.int p.1, .int p.2] := by
  cases d with
  | tup l =>
    match l, h with
    | [.int a, .int b], h => cases h; rfl
  | _ => exact ofNone h
section
variable {d1 d2 : D} {v1 v2 : Value} {b : Bool} (hu : A.units < cLine) (h1 : At s.heap X v1 d1) (h2 : At s.heap X v2 d2)
include hu h1 h2
theorem eq_sound (h : cmpEq d1 d2 = some b) : Gives Z X A s (compareOp .Eq v1 v2) (.bool b) := by
  unfold Gives
  cases d1 with
  | int x =>
    cases d2 with
    | int y => obtain ⟨t, rfl⟩ := at_int.mp h1; obtain ⟨u, rfl⟩ := at_int.mp h2; rw [← Option.some.inj h]; exact PySem.P.eq_int post_bool
    | _ => exact ofNone h
  | bool x =>
    cases d2 with
    | bool y => cases at_bool.mp h1; cases at_bool.mp h2; rw [← Option.some.inj h]; exact PyProof.Rows.eq_bool post_bool
    | _ => exact ofNone h
  | str x =>
    cases d2 with
    | str y =>
      obtain ⟨t, rfl, _⟩ := at_strI h1; obtain ⟨u, rfl, _⟩ := at_strI h2; rw [← Option.some.inj h]
      rw [str_beq']; exact PySem.P.eq_str post_bool
    | _ => exact ofNone h
  | list l =>
    cases d2 with
    | list m =>
      obtain ⟨a, vs, rfl, _, hl, _, hs⟩ := at_listI h1; obtain ⟨a2, vs2, rfl, _, hl2, _, hs2⟩ := at_listI h2
      have e1 := hs.length; have e2 := hs2.length
      rw [Array.length_toList] at e1 e2
      change (bif l.length == m.length then seqL l m else some false) = some b at h
      cases hlen : l.length == m.length with
      | true =>
        rw [hlen] at h
        have hlen' : l.length = m.length := eq_of_beq hlen
        refine x1_2 (list_eqs (A := A) hs hs2 hlen' h) fun e he hr2 => ?_; subst hr2
        exact eq_listAt hl hl2 (by lia) hu he post_bool
      | false =>
        rw [hlen] at h; rw [← Option.some.inj h]
        have hlen' : ¬ l.length = m.length := by simpa using hlen
        exact eq_list_lengthsAt hl hl2 (by simp; lia) hu post_bool
    | _ => exact ofNone h
  | _ => exact ofNone h
theorem ne_sound (h : cmpNe d1 d2 = some b) : Gives Z X A s (compareOp .NotEq v1 v2) (.bool b) := by
  unfold Gives
  cases d1 with
  | int x =>
    cases d2 with
    | int y => obtain ⟨t, rfl⟩ := at_int.mp h1; obtain ⟨u, rfl⟩ := at_int.mp h2; rw [← Option.some.inj h]; exact PySem.P.ne_int post_bool
    | _ => exact ofNone h
  | bool x =>
    cases d2 with
    | bool y => cases at_bool.mp h1; cases at_bool.mp h2; rw [← Option.some.inj h]; exact PyProof.Rows.ne_bool post_bool
    | _ => exact ofNone h
  | str x =>
    cases d2 with
    | str y =>
      obtain ⟨t, rfl, _⟩ := at_strI h1; obtain ⟨u, rfl, _⟩ := at_strI h2; rw [← Option.some.inj h]
      rw [str_beq']; exact PySem.P.ne_str post_bool
    | _ => exact ofNone h
  | list l =>
    cases d2 with
    | list m =>
      obtain ⟨a, vs, rfl, _, hl, _, hs⟩ := at_listI h1; obtain ⟨a2, vs2, rfl, _, hl2, _, hs2⟩ := at_listI h2
      have e1 := hs.length; have e2 := hs2.length
      rw [Array.length_toList] at e1 e2
      change (bif l.length == m.length then (seqL l m).map (!·) else some true) = some b at h
      cases hlen : l.length == m.length with
      | true =>
        rw [hlen] at h
        have hlen' : l.length = m.length := eq_of_beq hlen
        refine mpd h ?_; clear h; intro b0 hq h
        cases h
        refine x1_2 (list_eqs (A := A) hs hs2 hlen' hq) fun e he hr2 => ?_; subst hr2
        exact ofNe (RcNeAt.lists hl hl2 (by lia) hu he) post_bool
      | false =>
        rw [hlen] at h; rw [← Option.some.inj h]
        have hlen' : ¬ l.length = m.length := by simpa using hlen
        exact ofNe (RcNeAt.lists_lengths hl hl2 (by simp; lia) hu) post_bool
    | _ => exact ofNone h
  | _ => exact ofNone h
theorem lt_sound (h : cmpLt d1 d2 = some b) : Gives Z X A s (compareOp .Lt v1 v2) (.bool b) := by
  unfold Gives
  cases d1 with
  | int x =>
    cases d2 with
    | int y => obtain ⟨t, rfl⟩ := at_int.mp h1; obtain ⟨u, rfl⟩ := at_int.mp h2; rw [← Option.some.inj h]; exact PySem.P.lt_int post_bool
    | _ => exact ofNone h
  | tup l =>
    change ((pairI (.tup l)).bind fun p => (pairI d2).map fun q => decide (p.1 < q.1) || (p.1 == q.1 && decide (p.2 < q.2))) = some b at h
    refine bnd h ?_; clear h; intro p hp h
    refine mpd h ?_; clear h; intro q hq h
    rw [pairI_inv hp] at h1
    rw [pairI_inv hq] at h2
    obtain ⟨a, vs, rfl, _, hl, _, hs⟩ := at_tupI h1; obtain ⟨a2, vs2, rfl, _, hl2, _, hs2⟩ := at_tupI h2
    refine x2_3 (ats_two hs) fun v1 v2 hr2 x1 x2 => ?_; subst hr2
    refine x2_3 (ats_two hs2) fun w1 w2 hr2 y1 y2 => ?_; subst hr2
    refine x1_1 (at_int.mp x1) fun _ hr1 => ?_; subst hr1; obtain ⟨_, rfl⟩ := at_int.mp x2
    refine x1_1 (at_int.mp y1) fun _ hr1 => ?_; subst hr1; obtain ⟨_, rfl⟩ := at_int.mp y2
    cases h
    exact lt_pairs hu hl hl2 post_bool
  | _ => exact ofNone h
theorem le_sound (h : cmpLe d1 d2 = some b) : Gives Z X A s (compareOp .LtE v1 v2) (.bool b) := by
  unfold Gives
  cases d1 with
  | int x =>
    cases d2 with
    | int y => obtain ⟨t, rfl⟩ := at_int.mp h1; obtain ⟨u, rfl⟩ := at_int.mp h2; rw [← Option.some.inj h]; exact PySem.P.le_int post_bool
    | _ => exact ofNone h
  | str x =>
    cases d2 with
    | str y => obtain ⟨t, rfl, _⟩ := at_strI h1; obtain ⟨u, rfl, _⟩ := at_strI h2; rw [← Option.some.inj h]; exact PySem.P.le_str post_bool
    | _ => exact ofNone h
  | _ => exact ofNone h
theorem gt_sound (h : cmpGt d1 d2 = some b) : Gives Z X A s (compareOp .Gt v1 v2) (.bool b) := by
  unfold Gives
  cases d1 with
  | int x =>
    cases d2 with
    | int y => obtain ⟨t, rfl⟩ := at_int.mp h1; obtain ⟨u, rfl⟩ := at_int.mp h2; rw [← Option.some.inj h]; exact PySem.P.gt_int post_bool
    | _ => exact ofNone h
  | str x =>
    cases d2 with
    | str y => obtain ⟨t, rfl, _⟩ := at_strI h1; obtain ⟨u, rfl, _⟩ := at_strI h2; rw [← Option.some.inj h]; exact PySem.P.gt_str post_bool
    | _ => exact ofNone h
  | _ => exact ofNone h
theorem ge_sound (h : cmpGe d1 d2 = some b) : Gives Z X A s (compareOp .GtE v1 v2) (.bool b) := by
  unfold Gives
  cases d1 with
  | int x =>
    cases d2 with
    | int y => obtain ⟨t, rfl⟩ := at_int.mp h1; obtain ⟨u, rfl⟩ := at_int.mp h2; rw [← Option.some.inj h]; exact PySem.P.ge_int post_bool
    | _ => exact ofNone h
  | _ => exact ofNone h
theorem isn_sound {c : Addr} (hd : d2 = .obj c) (h : isNotObj d1 c = some b) : wpAny (model Z.prog Z.w) A (compareOp .IsNot v1 v2) (Post Z X s (.bool b)) (fun _ _ => False) s ∧ wpAny (model Z.prog Z.w) A (compareOp .Is v1 v2) (Post Z X s (.bool (!b))) (fun _ _ => False) s := by
  rw [hd] at h2
  obtain ⟨rfl, _, o2, ho2, hc2⟩ := at_obj.mp h2
  cases d1 with
  | obj a =>
    obtain ⟨rfl, _, o1, ho1, hc1⟩ := at_obj.mp h1
    rw [← Option.some.inj h]
    exact ⟨isnot_objs ho1 ho2 hc1, by simp only [Bool.not_not]; exact is_objs ho1 ho2 hc1⟩
  | str x =>
    obtain ⟨t, rfl, _⟩ := at_strI h1; rw [← Option.some.inj h]
    exact ⟨wpAny_isNot_other rfl (fun e => nomatch e) post_bool, wpAny_is_other rfl (fun e => nomatch e) post_bool⟩
  | _ => exact ofNone h
theorem is_sound (h : cmpIs d1 d2 = some b) : Gives Z X A s (compareOp .Is v1 v2) (.bool b) := by
  unfold Gives
  cases d2 with
  | non =>
    cases at_non.mp h2
    rw [← Option.some.inj h]
    refine is_none ?_
    rw [isNon_sound h1]; exact post_bool
  | obj c =>
    change (isNotObj d1 c).map (!·) = some b at h
    refine mpd h ?_; clear h; intro q hn h
    cases h; exact (isn_sound hu h1 h2 rfl hn).2
  | _ => exact ofNone h
theorem in_sound (h : cmpIn d1 d2 = some b) : Gives Z X A s (compareOp .In v1 v2) (.bool b) := by
  unfold Gives
  cases d2 with
  | tup l =>
    obtain ⟨a, vs, rfl, _, hl, _, hs⟩ := at_tupI h2
    refine x0_2 (ain_sound (A := A.in1) h1 hs h) fun he hany => ?_
    refine in_tupleAt _ hl (fun y hy => he y (by simpa using hy)) ?_
    rw [← Array.any_toList, hany]; exact post_bool
  | list l =>
    obtain ⟨a, vs, rfl, _, hl, _, hs⟩ := at_listI h2
    refine x0_2 (ain_sound (A := A.in1) h1 hs h) fun he hany => ?_
    refine in_listAt _ hl (fun y hy => he y (by simpa using hy)) ?_
    rw [← Array.any_toList, hany]; exact post_bool
  | _ => exact ofNone h
theorem ni_sound (h : cmpNi d1 d2 = some b) : Gives Z X A s (compareOp .NotIn v1 v2) (.bool b) := by
  unfold Gives
  cases d1 with
  | str y =>
    cases d2 with
    | str x =>
      obtain ⟨t, rfl, _⟩ := at_strI h1; obtain ⟨u, rfl, _⟩ := at_strI h2; rw [← Option.some.inj h]
      exact PySem.P.notIn_str post_bool
    | _ => exact ofNone h
  | _ => exact ofNone h
end
theorem acmp_sound {op : CmpOp} {d1 d2 : D} {v1 v2 : Value} {b : Bool} (hu : A.units < cLine) (h1 : At s.heap X v1 d1) (h2 : At s.heap X v2 d2)
    (h : acmp op d1 d2 = some b) : Gives Z X A s (compareOp op v1 v2) (.bool b) := by
  cases op with
  | Eq => exact eq_sound hu h1 h2 h
  | NotEq => exact ne_sound hu h1 h2 h
  | Lt => exact lt_sound hu h1 h2 h
  | LtE => exact le_sound hu h1 h2 h
  | Gt => exact gt_sound hu h1 h2 h
  | GtE => exact ge_sound hu h1 h2 h
  | Is => exact is_sound hu h1 h2 h
  | IsNot =>
    cases d2 with
    | obj c => exact (isn_sound hu h1 h2 rfl h).1
    | _ => exact ofNone h
  | In => exact in_sound hu h1 h2 h
  | NotIn => exact ni_sound hu h1 h2 h
end
end Mine
namespace Mine
open PySem PySem.W PyProof.Rows PySem.SeqAt
noncomputable def atr : D → Option Bool
  | .bool b => some b
  | .int a => some (a != 0)
  | .str x => some (!(x.length == 0))
  | .list l => some (!l.isEmpty)
  | .non => some false
  | _ => none
noncomputable def idx (i : Int) (n : Nat) : Option Nat := bif decide (0 ≤ i) then (bif decide (i < n) then some i.toNat else none) else (bif decide (-(n : Int) ≤ i) then some (i + n).toNat else none)
noncomputable def asub : D → D → Option D
  | .list l, .int i => (idx i l.length).bind fun k => l[k]?
  | .tup l, .int i => (idx i l.length).bind fun k => l[k]?
  | .str x, .int i => (idx i x.length).bind fun k => (x.cps[k]?).map fun c => .str ⟨#[c]⟩
  | _, _ => none
noncomputable def clipN (i : Int) (n : Nat) : Nat := (max 0 (min (if i < 0 then i + n else i) n)).toNat
noncomputable def clipL (v : Option Int) (n : Nat) : Nat := match v with
  | none => 0
  | some i => clipN i n
noncomputable def clipH (v : Option Int) (n : Nat) : Nat := match v with
  | none => n
  | some i => clipN i n
noncomputable def cut {α : Type} (l : List α) (lo hi : Option Int) : List α := (l.drop (clipL lo l.length)).take (clipH hi l.length - clipL lo l.length)
noncomputable def asli : D → Option Int → Option Int → Option D
  | .list l, lo, hi => some (.list (cut l lo hi))
  | .str x, lo, hi => some (.str ⟨(cut x.cps.toList lo hi).toArray⟩)
  | _, _, _ => none
noncomputable def alen : D → Option D
  | .list l => some (.int l.length)
  | .tup l => some (.int l.length)
  | .str x => some (.int x.length)
  | _ => none
theorem clipN_le (i : Int) (n : Nat) : clipN i n ≤ n := by unfold clipN; lia
theorem clipL_le (v : Option Int) (n : Nat) : clipL v n ≤ n := by cases v with
  | none => exact Nat.zero_le _
  | some i => exact clipN_le i n
theorem clipH_le (v : Option Int) (n : Nat) : clipH v n ≤ n := by cases v with
  | none => exact Nat.le_refl _
  | some i => exact clipN_le i n
theorem cut_length {α : Type} (l : List α) (lo hi : Option Int) : (cut l lo hi).length = clipH hi l.length - clipL lo l.length := by
  unfold cut
  have := clipH_le hi l.length
  simp only [List.length_take, List.length_drop]; lia
theorem cut_length_le {α : Type} (l : List α) (lo hi : Option Int) : (cut l lo hi).length ≤ l.length := by
  rw [cut_length]; have := clipH_le hi l.length; lia
theorem range_run (a b : Nat) : sliceRange (a : Int) (b : Int) 1 = (List.range (b - a)).map (a + ·) := by
  rcases Nat.le_total a b with h | h
  · exact sliceRange_one a b
  · unfold sliceRange
    have : b - a = 0 := by lia
    rw [this]
    have : ¬ (a : Int) < (b : Int) := by lia
    simp [this]
theorem bounds_clip (lo hi : Option Int) (n : Nat) : sliceBounds lo hi none n = ((clipL lo n : Int), (clipH hi n : Int), 1) := by
  unfold sliceBounds
  dsimp only [Option.getD_none]
  have e : ∀ i : Int, (max 0 (min (if i < 0 then i + n else i) n) : Int) = ((clipN i n : Nat) : Int) := fun i => by unfold clipN; lia
  cases lo <;> cases hi <;> simp [clipL, clipH, e]
theorem str_clip (lo hi : Option Int) (n : Nat) : Builtin.Str.strSliceIndices lo hi 1 n = (List.range (clipH hi n - clipL lo n)).map (clipL lo n + ·) := by
  rw [← range_run]
  unfold Builtin.Str.strSliceIndices
  have e : ∀ i : Int, (max 0 (min (if i < 0 then i + n else i) n) : Int) = ((clipN i n : Nat) : Int) := fun i => by unfold clipN; lia
  cases lo <;> cases hi <;> simp [clipL, clipH, e]
theorem pick_cut (xs : Array Value) (lo hi : Option Int) : (slicePick xs lo hi none).toList = cut xs.toList lo hi := by
  unfold slicePick
  rw [bounds_clip]
  simp only
  rw [range_run, pick_run]
  unfold cut
  simp
section
variable {Z : Par} {X : Addr → Prop} {A : Around} {s : Shared}
theorem atr_sound {d : D} {v : Value} {b : Bool} (h1 : At s.heap X v d) (h : atr d = some b) :
    wpAny (model Z.prog Z.w) A (truthy v) (fun r s' => r = b ∧ Kp Z s s') (fun _ _ => False) s := by
  unfold atr at h
  split at h
  · have := at_bool.mp h1; subst this; rw [← Option.some.inj h]; exact wpAny_truthy_bool ⟨rfl, Kp.refl _⟩
  · refine x1_1 (at_int.mp h1) fun t hr1 => ?_; subst hr1; rw [← Option.some.inj h]; exact PySem.P.truthy_int ⟨rfl, Kp.refl _⟩
  · obtain ⟨t, rfl, hl⟩ := at_strI h1; rw [← Option.some.inj h]
    refine PySem.P.truthy_str (by unfold LIM at hl; lia) ⟨?_, Kp.tok⟩
    rename_i x
    cases e : x.length == 0 with
    | true => have : x.length = 0 := eq_of_beq e
              simp [this]
    | false => have : x.length ≠ 0 := by simpa using e
               simp; lia
  · rename_i l
    obtain ⟨a, vs, rfl, _, hl, hn, hs⟩ := at_listI h1; rw [← Option.some.inj h]
    have e1 := hs.length
    rw [Array.length_toList] at e1
    have hf : (vs.size : Int) < 2 ^ 63 := by unfold LIM at hn; lia
    refine wpAny_truthy_list hl hf ⟨?_, Kp.tok⟩
    congr 1
    rw [Bool.eq_iff_iff, Array.isEmpty_iff_size_eq_zero, List.isEmpty_iff_length_eq_zero, e1]
  · have := at_non.mp h1; subst this; rw [← Option.some.inj h]; exact (fun _ _ _ => ⟨rfl, Kp.refl _⟩)
  · exact ofNone h
theorem idx_seq {i : Int} {n k : Nat} (h : idx i n = some k) : seqIndex? i n = some k := by
  unfold idx at h
  unfold seqIndex?
  cases h0 : decide (0 ≤ i) with
  | true =>
    rw [h0] at h
    have h0' := of_decide_eq_true h0
    refine bfd h ?_; clear h; intro h1 h
    rw [← Option.some.inj h]
    have h1' := of_decide_eq_true h1
    simp only [if_neg (show ¬ i < 0 by lia)]
    rw [if_pos (by simp; lia)]
  | false =>
    rw [h0] at h
    have h0' := of_decide_eq_false h0
    refine bfd h ?_; clear h; intro h1 h
    rw [← Option.some.inj h]
    have h1' := of_decide_eq_true h1
    simp only [if_pos (show i < 0 by lia)]
    rw [if_pos (by simp; lia)]
theorem idx_bounds {i : Int} {n k : Nat} (h : idx i n = some k) : -(n : Int) ≤ i ∧ i < n ∧ k < n ∧ (0 ≤ i → k = i.toNat) ∧ (i < 0 → k = (i + n).toNat) := by
  unfold idx at h
  cases h0 : decide (0 ≤ i) with
  | true =>
    rw [h0] at h
    have h0' := of_decide_eq_true h0
    refine bfd h ?_; clear h; intro h1 h
    rw [← Option.some.inj h]
    have h1' := of_decide_eq_true h1
    lia
  | false =>
    rw [h0] at h
    have h0' := of_decide_eq_false h0
    refine bfd h ?_; clear h; intro h1 h
    rw [← Option.some.inj h]
    have h1' := of_decide_eq_true h1
    lia
theorem asub_sound {d1 d2 d : D} {v1 v2 : Value} (h1 : At s.heap X v1 d1) (h2 : At s.heap X v2 d2) (h : asub d1 d2 = some d) :
    Gives Z X A s (getItem v1 v2) d := by
  unfold Gives
  unfold asub at h
  split at h
  · rename_i l i
    obtain ⟨a, vs, rfl, _, hl, hn, hs⟩ := at_listI h1
    refine x1_1 (at_int.mp h2) fun t hr1 => ?_; subst hr1
    refine bnd h ?_; clear h; intro k hk h
    refine x0_5 (idx_bounds hk) fun b1 b2 b3 b4 b5 => ?_
    refine x1_2 (hs.get h) fun v hv ha => ?_
    have e1 := hs.length
    rw [Array.length_toList] at e1
    rw [Array.getElem?_toList] at hv
    unfold LIM at hn
    by_cases h0 : 0 ≤ i
    · rw [b4 h0] at hv
      exact wpAny_getItem_list hl h0 (by lia) hv ⟨Kp.refl _, ha⟩
    · rw [b5 (by lia)] at hv
      exact wpAny_getItem_list_neg hl (by lia) (by lia) (by lia) (by rw [e1]; exact hv) ⟨Kp.refl _, ha⟩
  · rename_i l i
    obtain ⟨a, vs, rfl, _, hl, hn, hs⟩ := at_tupI h1
    refine x1_1 (at_int.mp h2) fun t hr1 => ?_; subst hr1
    refine bnd h ?_; clear h; intro k hk h
    refine x0_5 (idx_bounds hk) fun b1 b2 b3 b4 b5 => ?_
    refine x1_2 (hs.get h) fun v hv ha => ?_
    have e1 := hs.length
    rw [Array.length_toList] at e1
    rw [Array.getElem?_toList] at hv
    unfold LIM at hn
    exact getItem_tuple hl (by lia) (by lia) (by rw [e1]; exact idx_seq hk) hv ⟨Kp.refl _, ha⟩
  · rename_i x i
    obtain ⟨t, rfl, hn⟩ := at_strI h1
    refine x1_1 (at_int.mp h2) fun u hr1 => ?_; subst hr1
    refine bnd h ?_; clear h; intro k hk h
    refine x0_5 (idx_bounds hk) fun b1 b2 b3 b4 b5 => ?_
    unfold LIM at hn
    cases hc : x.cps[k]? with
    | none => simp [hc] at h
    | some c =>
      simp [hc] at h; subst h
      refine PySem.P.getItem_str (c := c) (by simp; lia) (by rw [idx_seq hk]; exact hc) (post_str ?_)
      show 1 ≤ LIM
      decide
  · exact ofNone h
theorem alen_sound {d1 d : D} {v1 : Value} (h1 : At s.heap X v1 d1) (h : alen d1 = some d) : Gives Z X A s (call (.builtin "len") [v1]) d := by
  unfold Gives
  unfold alen at h
  split at h
  · obtain ⟨a, vs, rfl, _, hl, hn, hs⟩ := at_listI h1; rw [← Option.some.inj h]
    have e1 := hs.length
    rw [Array.length_toList] at e1
    unfold LIM at hn
    rw [← e1]
    exact PySem.Calls.call_len_list hl (by lia) post_int
  · obtain ⟨a, vs, rfl, _, hl, hn, hs⟩ := at_tupI h1; rw [← Option.some.inj h]
    have e1 := hs.length
    rw [Array.length_toList] at e1
    unfold LIM at hn
    rw [← e1]
    exact PyProof.Rows.len_tuple hl (by lia) post_int
  · obtain ⟨t, rfl, hn⟩ := at_strI h1; rw [← Option.some.inj h]
    unfold LIM at hn
    exact PySem.P.len_str (by lia) post_int
  · exact ofNone h
end
end Mine
namespace Mine
open PySem PySem.W PyProof.Rows PySem.SeqAt
noncomputable abbrev Str' := PySem.Str
noncomputable abbrev Vars := List (Str' × D)
structure AE where
  sc : Scope
  vars : Vars
noncomputable abbrev Fns := Str' → Option (List D → Option D)
noncomputable def AE.look (ae : AE) (x : Str') : Option D := match ae.sc.names.lookup x with
  | some .local => ae.vars.lookup x
  | some .cell => ae.vars.lookup x
  | some .free => ae.vars.lookup x
  | _ => none
noncomputable def AE.glob (ae : AE) (x : Str') : Bool := match ae.sc.names.lookup x with
  | some .globalImplicit => true
  | _ => false
noncomputable def aconst : Const → Option D
  | .none => some .non
  | .bool b => some (.bool b)
  | .int i => some (.int i)
  | .str x => bif decide (x.length ≤ LIM) then some (.str x) else none
  | .float x => some (.flt x)
  | _ => none
noncomputable def aevals (f : Expr → Option D) : List Expr → Option (List D)
  | [] => some []
  | e :: r => (f e).bind fun d => (aevals f r).map fun l => d :: l
noncomputable def nameR (e : Expr) : Option {q : Str' × Pos // e = .Name q.1 q.2} := match e with
  | .Name a p => some ⟨(a, p), rfl⟩
  | _ => none
noncomputable def nameOf (e : Expr) : Option Str' := (nameR e).map fun q => q.1.1
noncomputable def sGet : D → Option Str'
  | .str v => some v
  | _ => none
noncomputable def zipNames : List Expr → List D → Option Vars
  | [], ds => (match ds with
    | [] => some []
    | _ :: _ => none)
  | t :: ts, ds => (match ds with
    | [] => none
    | d :: ds => (nameOf t).bind fun x => (zipNames ts ds).map fun l => (x, d) :: l)
noncomputable def abind (t : Expr) (d : D) : Option Vars := match t with
  | .Name x _ => some [(x, d)]
  | .Tuple ts _ _ => match d with
    | .tup ds => zipNames ts ds
    | _ => none
  | _ => none
noncomputable def isStored : Option NameKind → Bool
  | some .local => true
  | some .cell => true
  | _ => false
noncomputable def setAll (vs : Vars) : Vars → Vars
  | [] => vs
  | p :: r => setAll (p :: vs) r
noncomputable def okScope (outer inner : Scope) : Bool :=
  (inner.kind == .function) && inner.names.all fun p => !(p.1 == (Str.ofString "__debug__")) && !(p.1 == (Str.ofString "__classdict__")) && match p.2 with
    | .local => inner.names.lookup p.1 == some .local
    | .cell => inner.names.lookup p.1 == some .cell
    | .free => (inner.names.lookup p.1 == some .free) && (outer.names.lookup p.1 == some .cell || outer.names.lookup p.1 == some .free)
    | .globalImplicit => true
    | _ => false
noncomputable def innerVars (ae : AE) (inner : Scope) : Vars := ae.vars.filter fun p => inner.names.lookup p.1 == some .free
noncomputable def acomp (f : D → Option (Option D)) : List D → Option (List D)
  | [] => some []
  | d :: r => (f d).bind fun o => (acomp f r).map fun l => match o with
    | some x => x :: l
    | none => l
noncomputable def atests (f : Expr → Option Bool) : List Expr → Option Bool
  | [] => some true
  | e :: r => (f e).bind fun b => bif b then atests f r else some false
noncomputable def pairsL : List D → List D → List D
  | a :: l, b :: m => .tup [a, b] :: pairsL l m
  | _, _ => []
noncomputable def rangeC (a c : Int) (n : Nat) : List D := (List.range n).map fun (i : Nat) => .int (a + i * c)
noncomputable def itemsOf : D → Option (List D)
  | .list l => some l
  | .tup l => some l
  | _ => none
noncomputable def tupR (e : Expr) : Option {q : List Expr × Nat × Pos // e = .Tuple q.1 q.2.1 q.2.2} := match e with
  | .Tuple es k p => some ⟨(es, k, p), rfl⟩
  | _ => none
noncomputable def tupOf (e : Expr) : Option (List Expr) := (tupR e).map fun q => q.1.1
noncomputable def isTupT (e : Expr) : Bool := (tupR e).isSome
noncomputable def isTup : D → Bool
  | .tup _ => true
  | _ => false
noncomputable def isFlt : D → Bool
  | .flt _ => true
  | _ => false
noncomputable def isStr : D → Bool
  | .str _ => true
  | _ => false
noncomputable def aisi (d : D) (T : Str') : Option D :=
  bif T == (Str.ofString "tuple") then (bif isTup d then some (.bool true) else none)
  else bif T == (Str.ofString "float") then (bif isFlt d then some (.bool true) else none)
  else bif T == (Str.ofString "str") then (bif isStr d then some (.bool true) else none) else none
noncomputable def achr : D → Option D
  | .int i => bif decide (0 ≤ i) && decide (i < 1114112) then some (.str ⟨#[i.toNat]⟩) else none
  | _ => none
noncomputable def aint : D → Option D
  | .flt x => match Float64.decode x with
    | .fin sg m e => some (.int (Float64.truncOf sg m e))
    | _ => none
  | _ => none
noncomputable def kasRun {α : Type} (c : Nat → Nat → Bool) : PySem.W.KasT α → α
  | .ret a => a
  | .ask i j k => kasRun c (k (c i j))
noncomputable abbrev pairOf : D → Option (Int × Int) := pairI
noncomputable def allPairs : List D → Option (List (Int × Int))
  | [] => some []
  | d :: r => (pairOf d).bind fun p => (allPairs r).map fun l => p :: l
noncomputable def ltPair (p q : Int × Int) : Bool := decide (p.1 < q.1) || (p.1 == q.1 && decide (p.2 < q.2))
noncomputable def asorted : D → Option D
  | .list l => (allPairs l).bind fun ps => bif decide (3 ≤ l.length) && decide (l.length ≤ 6) then
      some (.list ((kasRun (fun i j => ltPair (ps.getD i (0, 0)) (ps.getD j (0, 0))) (PySem.W.kas_sort l.length)).toList.map fun i => l.getD i .non)) else none
  | _ => none
noncomputable def strsOf : List D → Option (List Str')
  | [] => some []
  | .str x :: r => (strsOf r).map fun l => x :: l
  | _ => none
noncomputable def ajoin (sep : Str') : D → Option D
  | .list l => (strsOf l).bind fun xs => bif decide ((xs.map (·.length)).sum + xs.length * sep.length ≤ LIM) && decide ((Txt.join sep xs).length ≤ LIM) then some (.str (Txt.join sep xs)) else none
  | _ => none
noncomputable def areplace (x y z : Str') : Option D := bif (Builtin.Str.occurrences x y 0 x.length (x.length + 1)).isEmpty then some (.str x) else none
noncomputable def afind (x y : Str') (i j : Int) : Int := match Builtin.Str.occurrences x y (fromIndex x.length i) (min (fromIndex x.length j) x.length) 1 with
  | k :: _ => (k : Int)
  | [] => -1
noncomputable def iGet : D → Option Int
  | .int j => some j
  | _ => none
noncomputable def ameth (m : Str') (o : D) (ds : List D) : Option D := (sGet o).bind fun x => match ds with
  | [] => none
  | d :: r => match r with
    | [] => bif m == (Str.ofString "join") then ajoin x d else none
    | d2 :: r => (sGet d).bind fun y => match r with
      | [] => (sGet d2).bind fun z => bif m == (Str.ofString "replace") then areplace x y z else none
      | d3 :: r => match r with
        | [] => (iGet d2).bind fun i => (iGet d3).bind fun j => bif m == (Str.ofString "find") then some (.int (afind x y i j)) else none
        | _ :: _ => none
noncomputable def acall1 (f : Str') : List D → Option D
  | [d] => bif f == (Str.ofString "len") then alen d
      else bif f == (Str.ofString "chr") then achr d
      else bif f == (Str.ofString "sorted") then asorted d
      else bif f == (Str.ofString "int") then aint d else none
  | _ => none
noncomputable def addS (a b : Str') : Option Str' := bif decide (a.length + b.length ≤ LIM) then some (a ++ b) else none
noncomputable def partJ (f : Expr → Option D) (e : Expr) : Option D := match e with
  | .FormattedValue v c fs _ => (match fs with
    | none => bif c == (-1) then f v else none
    | some _ => none)
  | .Constant c _ _ => aconst c
  | _ => none
noncomputable def ajoined (f : Expr → Option D) (acc : Str') : List Expr → Option Str'
  | [] => some acc
  | e :: r => (partJ f e).bind fun d => (sGet d).bind fun x => (addS acc x).bind fun a => ajoined f a r
noncomputable def okBase : Expr → Bool
  | .Call (.Name _ _) [] [] _ => false
  | _ => true
noncomputable def two {α : Type} : List α → Option (α × α)
  | [a, b] => some (a, b)
  | _ => none
noncomputable def one {α : Type} : List α → Option α
  | [a] => some a
  | _ => none
noncomputable def tupL : D → Option (List D)
  | .tup l => some l
  | _ => none
noncomputable def slR (e : Expr) : Option {q : (Option Expr × Option Expr) × Option Expr × Pos // e = .Slice q.1.1 q.1.2 q.2.1 q.2.2} := match e with
  | .Slice lo hi st p => some ⟨((lo, hi), st, p), rfl⟩
  | _ => none
noncomputable def slOf (e : Expr) : Option (Option Expr × Option Expr) := (slR e).bind fun q => match q.1.2.1 with
  | none => some q.1.1
  | some _ => none
noncomputable def comOf : List Comprehension → Option (Expr × Expr × List Expr)
  | [] => none
  | g :: r => (match r with
    | [] => bif g.is_async == 0 then some (g.target, g.iter, g.ifs) else none
    | _ :: _ => none)
noncomputable def opsOf : List CmpOp → List Expr → Option ((CmpOp × Expr) × Option (CmpOp × Expr))
  | [], _ => none
  | op :: os, rs => match rs with
    | [] => none
    | r :: rs => match os with
      | [] => (match rs with
        | [] => some ((op, r), none)
        | _ :: _ => none)
      | op2 :: os => (match os with
        | _ :: _ => none
        | [] => (one rs).map fun r2 => ((op, r), some (op2, r2)))
noncomputable def negI : D → Option D
  | .int i => some (.int (-i))
  | _ => none
noncomputable def aun (op : UnaryOp) (a : D) : Option D := match op with
  | .USub => negI a
  | .Not => (atr a).map fun b => .bool (!b)
  | _ => none
noncomputable def callF (Φ : Fns) (f : Str') (ds : List D) : Option D := match Φ f with
  | some φ => φ ds
  | none => acall1 f ds
noncomputable def rngL : List D → Option (List D)
  | [] => none
  | d :: r => (iGet d).bind fun a => match r with
    | [] => bif decide (0 ≤ a) && decide (a ≤ 1000) then some (rangeC 0 1 a.toNat) else none
    | d2 :: r2 => (iGet d2).bind fun b => (one r2).bind fun d3 => (iGet d3).bind fun c => bif decide (0 ≤ a) && decide (a ≤ 1000) && decide (b = 0) && decide (c = -1) then some (rangeC a (-1) a.toNat) else none
noncomputable def lGet : D → Option (List D)
  | .list l => some l
  | _ => none
noncomputable def zipL : List D → Option (List D)
  | [] => none
  | d :: r => (lGet d).bind fun l => (one r).bind fun e => (lGet e).map fun m => pairsL l m
mutual
noncomputable def aeval (Φ : Fns) : Nat → Expr → AE → Option D
  | 0, _, _ => none
  | n + 1, e, ae => match e with
    | .Constant c _ _ => aconst c
    | .Name x _ => ae.look x
    | .BinOp l op r _ => (aeval Φ n l ae).bind fun a => (aeval Φ n r ae).bind fun b => abin op a b
    | .UnaryOp op x _ => (aeval Φ n x ae).bind fun a => aun op a
    | .BoolOp op vs _ => (two vs).bind fun q => (aeval Φ n q.1 ae).bind fun a => (atr a).bind fun b => match op with
        | .And => bif b then aeval Φ n q.2 ae else some a
        | .Or => bif b then some a else aeval Φ n q.2 ae
    | .IfExp t b o _ => (atrue Φ n t ae).bind fun c => bif c then aeval Φ n b ae else aeval Φ n o ae
    | .Compare l ops rs _ => (opsOf ops rs).bind fun q => match q.2 with
        | none => (aeval Φ n l ae).bind fun a => (aeval Φ n q.1.2 ae).bind fun b => (acmp q.1.1 a b).map .bool
        | some q2 => (aeval Φ n l ae).bind fun a => (aeval Φ n q.1.2 ae).bind fun b => (acmp q.1.1 a b).bind fun c =>
          bif c then (aeval Φ n q2.2 ae).bind fun d => (acmp q2.1 b d).map .bool else some (.bool false)
    | .Subscript v i _ => (aeval Φ n v ae).bind fun a => match slOf i with
        | some lh => (apart Φ n lh.1 ae).bind fun x => (apart Φ n lh.2 ae).bind fun y => asli a x y
        | none => (aeval Φ n i ae).bind fun b => asub a b
    | .List es _ => (aevals (fun e => aeval Φ n e ae) es).bind fun l => bif decide (l.length ≤ LIM) then some (.list l) else none
    | .Tuple es _ _ => (aevals (fun e => aeval Φ n e ae) es).bind fun l => bif decide (l.length ≤ LIM) then some (.tup l) else none
    | .ListComp elt gens scope _ => (comOf gens).bind fun g => bif okScope ae.sc scope then
        (aiter Φ n (isTupT g.1) g.2.1 ae).bind fun items => (acomp (fun d => (abind g.1 d).bind fun bs =>
          bif bs.all (fun p => isStored (scope.names.lookup p.1)) then
            (atests (fun c => atrue Φ n c ⟨scope, setAll (innerVars ae scope) bs⟩) g.2.2).bind fun ok =>
              bif ok then (aeval Φ n elt ⟨scope, setAll (innerVars ae scope) bs⟩).map some else some none
          else none) items).map .list
        else none
    | .Call f args kws pos => (match kws with
      | _ :: _ => none
      | [] => match f with
        | .Name f _ => bif ae.glob f then
            (bif f == (Str.ofString "isinstance") then (two args).bind fun q => (nameOf q.2).bind fun T => bif ae.glob T then (aeval Φ n q.1 ae).bind fun d => aisi d T else none
            else (aevals (fun e => aeval Φ n e ae) args).bind fun ds => callF Φ f ds) else none
        | .Attribute o m apos => bif (apos.endLine == pos.line) && okBase o then
            (aeval Φ n o ae).bind fun d => (aevals (fun e => aeval Φ n e ae) args).bind fun ds => ameth m d ds else none
        | _ => none)
    | .JoinedStr es _ => (match es with
      | [] => none
      | v1 :: es => match es with
        | [] => none
        | v2 :: r => (ajoined (fun e => aeval Φ n e ae) Str.empty (v1 :: v2 :: r)).map .str)
    | _ => none
noncomputable def atrue (Φ : Fns) : Nat → Expr → AE → Option Bool
  | 0, _, _ => none
  | n + 1, e, ae => match e with
    | .UnaryOp .Not x _ => (atrue Φ n x ae).map fun b => !b
    | .BoolOp op vs _ => aall Φ n op vs ae
    | .IfExp _ _ _ _ => none
    | e => (aeval Φ n e ae).bind atr
noncomputable def aall (Φ : Fns) : Nat → BoolOp → List Expr → AE → Option Bool
  | 0, _, _, _ => none
  | _ + 1, .And, [], _ => some true
  | _ + 1, .Or, [], _ => some false
  | n + 1, .And, x :: r, ae => (atrue Φ n x ae).bind fun b => bif b then aall Φ n .And r ae else some false
  | n + 1, .Or, x :: r, ae => (atrue Φ n x ae).bind fun b => bif b then some true else aall Φ n .Or r ae
noncomputable def apart (Φ : Fns) : Nat → Option Expr → AE → Option (Option Int)
  | 0, _, _ => none
  | _ + 1, none, _ => some none
  | n + 1, some e, ae => (aeval Φ n e ae).bind fun d => match d with
    | .int i => some (some i)
    | _ => none
noncomputable def aiter (Φ : Fns) : Nat → Bool → Expr → AE → Option (List D)
  | 0, _, _, _ => none
  | n + 1, tt, e, ae => match e with
    | .Call f args kws pos => (match kws with
      | _ :: _ => none
      | [] => (nameOf f).bind fun g => bif ae.glob g then
        (bif g == (Str.ofString "range") then (aevals (fun e => aeval Φ n e ae) args).bind rngL
        else bif tt && g == (Str.ofString "zip") then (aevals (fun e => aeval Φ n e ae) args).bind zipL
        else (aeval Φ n (.Call f args [] pos) ae).bind itemsOf) else none)
    | .Name x _ => (ae.look x).bind itemsOf
    | .Subscript v i p => (aeval Φ n (.Subscript v i p) ae).bind itemsOf
    | _ => none
end
theorem sGet_inv {d : D} {v : Str'} (h : sGet d = some v) : d = .str v := by
  cases d with
  | str j' => cases h; rfl
  | _ => exact ofNone h
theorem iGet_inv {d : D} {j : Int} (h : iGet d = some j) : d = .int j := by
  cases d with
  | int j' => cases h; rfl
  | _ => exact ofNone h
theorem tupL_inv {d : D} {x : List D} (h : tupL d = some x) : d = .tup x := by
  cases d with
  | tup j => cases h; rfl
  | _ => exact ofNone h
theorem lGet_inv {d : D} {l : List D} (h : lGet d = some l) : d = .list l := by
  cases d with
  | list j' => cases h; rfl
  | _ => exact ofNone h
theorem one_inv {α : Type} {es : List α} {a : α} (h : one es = some a) : es = [a] := by
  cases es with
  | nil => exact ofNone h
  | cons b r => cases r with
    | nil => cases h; rfl
    | cons _ _ => exact ofNone h
theorem two_inv {α : Type} {es : List α} {a b : α} (h : two es = some (a, b)) : es = [a, b] := by
  cases es with
  | nil => exact ofNone h
  | cons x r => cases r with
    | nil => exact ofNone h
    | cons y r => cases r with
      | nil => cases h; rfl
      | cons _ _ => exact ofNone h
theorem nameOf_inv {e : Expr} {a : Str'} (h : nameOf e = some a) : ∃ p, e = .Name a p := mpd h fun q _ h2 => ⟨q.1.2, h2 ▸ q.2⟩
theorem isTupT_inv {t : Expr} (h : isTupT t = true) : ∃ ts k p, t = .Tuple ts k p := by
  unfold isTupT at h
  cases q : tupR t with
  | none => rw [q] at h; exact Bool.noConfusion h
  | some r => exact ⟨_, _, _, r.2⟩
theorem slOf_inv {e : Expr} {q : Option Expr × Option Expr} (h : slOf e = some q) : ∃ p, e = .Slice q.1 q.2 none p := by
  refine bnd h fun r _ h => ?_
  obtain ⟨⟨l, st, p⟩, e1⟩ := r
  cases st with
  | none => rw [← Option.some.inj h]; exact ⟨p, e1⟩
  | some _ => exact ofNone h
theorem comOf_inv {gs : List Comprehension} {q : Expr × Expr × List Expr} (h : comOf gs = some q) : gs = [⟨q.1, q.2.1, q.2.2, 0⟩] := by
  cases gs with
  | nil => exact ofNone h
  | cons g r => cases r with
    | nil =>
      refine bfd h fun h1 h2 => ?_
      rw [← Option.some.inj h2]
      obtain ⟨a, b, c, d⟩ := g
      have : d = 0 := eq_of_beq h1
      rw [this]
    | cons _ _ => exact ofNone h
theorem opsOf_inv {os : List CmpOp} {rs : List Expr} {q : (CmpOp × Expr) × Option (CmpOp × Expr)} (h : opsOf os rs = some q) :
    (os = [q.1.1] ∧ rs = [q.1.2] ∧ q.2 = none) ∨ ∃ q2, os = [q.1.1, q2.1] ∧ rs = [q.1.2, q2.2] ∧ q.2 = some q2 := by
  cases os with
  | nil => exact ofNone h
  | cons o os => cases rs with
    | nil => exact ofNone h
    | cons r rs => cases os with
      | nil => cases rs with
        | nil => rw [← Option.some.inj h]; exact .inl ⟨rfl, rfl, rfl⟩
        | cons _ _ => exact ofNone h
      | cons o2 os => cases os with
        | cons _ _ => exact ofNone h
        | nil =>
          refine mpd h fun r2 h1 h2 => ?_
          rw [one_inv h1, ← h2]
          exact .inr ⟨(o2, r2), rfl, rfl, rfl⟩
theorem rngL_inv {ds l : List D} (h : rngL ds = some l) : (∃ k : Int, ds = [.int k] ∧ (0 ≤ k ∧ k ≤ 1000) ∧ l = rangeC 0 1 k.toNat) ∨ ∃ a : Int, ds = [.int a, .int 0, .int (-1)] ∧ (0 ≤ a ∧ a ≤ 1000) ∧ l = rangeC a (-1) a.toNat := by
  cases ds with
  | nil => exact ofNone h
  | cons d r =>
    refine bnd h fun a h1 h => ?_
    rw [iGet_inv h1]
    cases r with
    | nil =>
      refine bfd h fun h1 h => ?_
      rw [Bool.and_eq_true, decide_eq_true_iff, decide_eq_true_iff] at h1
      exact .inl ⟨a, rfl, h1, (Option.some.inj h).symm⟩
    | cons d2 r2 =>
      refine bnd h fun b h2 h => bnd h fun d3 h3 h => bnd h fun c h4 h => bfd h fun h5 hz => ?_
      rw [iGet_inv h2, one_inv h3, iGet_inv h4]
      rw [Bool.and_eq_true, Bool.and_eq_true, Bool.and_eq_true, decide_eq_true_iff, decide_eq_true_iff, decide_eq_true_iff, decide_eq_true_iff] at h5
      obtain ⟨⟨h6, rfl⟩, rfl⟩ := h5
      exact .inr ⟨a, rfl, h6, (Option.some.inj hz).symm⟩
theorem zipL_inv {ds l : List D} (h : zipL ds = some l) : ∃ a b, ds = [.list a, .list b] ∧ l = pairsL a b := by
  cases ds with
  | nil => exact ofNone h
  | cons d r =>
    refine bnd h fun a h1 h => bnd h fun e h2 h => mpd h fun m h3 h => ?_
    rw [lGet_inv h1, one_inv h2, lGet_inv h3]
    exact ⟨a, m, rfl, h.symm⟩
end Mine
namespace Mine
open PySem PySem.W PyProof.Rows PySem.SeqAt
structure Iter (Z : Par) (A : Around) (X : Addr → Prop) (tt : Bool) (I : Addr) (wr : List Addr) (R : List D → Heap → Prop) (R1 : D → List D → Value → Heap → Prop) : Prop where
  frame : ∀ rem h h', (∀ b o, (¬ X b ∨ b ∈ wr) → h.get? b = some o → h'.get? b = some o) → R rem h → R rem h'
  item : ∀ d rem (s : Shared) (Q : Option Value → Shared → Prop), St Z X s → R (d :: rem) s.heap →
    (∀ v h' tk, At h' X v d → R1 d rem v h' → (∀ b o, b ∉ wr → s.heap.get? b = some o → h'.get? b = some o) → (∀ b ∈ wr, ∃ o, h'.get? b = some o) → Q (some v) { s with heap := h', toks := tk }) →
    wpAny (model Z.prog Z.w) A (pyNext (.ref I)) Q (fun _ _ => False) s
  go : ∀ target d rem v (s : Shared) (Q : Unit → Shared → Prop), isTupT target = tt → At s.heap X v d → R1 d rem v s.heap →
    (∀ h', At h' X v d → R rem h' → (∀ b o, b ∉ wr → s.heap.get? b = some o → h'.get? b = some o) → (∀ b ∈ wr, (∃ o, s.heap.get? b = some o) → ∃ o, h'.get? b = some o) → Q () { s with heap := h' }) →
    wpAny (model Z.prog Z.w) A (letOwnedTupleGo target (.ref I) v) Q (fun _ _ => False) s
  done : ∀ (s : Shared) (Q : Option Value → Shared → Prop), R [] s.heap →
    (∀ h' tk, (∀ b o, b ∉ wr → s.heap.get? b = some o → h'.get? b = some o) → Q none { s with heap := h', toks := tk }) →
    wpAny (model Z.prog Z.w) A (pyNext (.ref I)) Q (fun _ _ => False) s
  self : ∀ rem (s : Shared) (Q : Value → Shared → Prop), R rem s.heap → Q (.ref I) s → wpAny (model Z.prog Z.w) A (pyIter (.ref I)) Q (fun _ _ => False) s
theorem istup_at {h h' : Heap} {a : Addr} {items : Array Value} (x : h.IsTuple a items) (e : ∀ o, h.get? a = some o → h'.get? a = some o) : h'.IsTuple a items := let ⟨o, ho, r⟩ := x; ⟨o, e _ ho, r⟩
theorem istupit_at {h h' : Heap} {a l : Addr} {i : Nat} (x : h.IsTupleIter a l i) (e : ∀ o, h.get? a = some o → h'.get? a = some o) : h'.IsTupleIter a l i := let ⟨o, ho, r⟩ := x; ⟨o, e _ ho, r⟩
section
variable {Z : Par} {X : Addr → Prop} {A : Around}
theorem letgo_list {target : Expr} {I l : Addr} {i : Nat} {v : Value} {s : Shared} {Q : Unit → Shared → Prop} {E : Value → Shared → Prop} (hit : s.heap.IsListIter I l i) (hQ : Q () s) :
    wpAny (model Z.prog Z.w) A (letOwnedTupleGo target (.ref I) v) Q E s := by
  refine x1_3 hit fun o ho hc hd => ?_
  have go : wpAny (model Z.prog Z.w) A (match (Value.ref I, v) with
      | (.ref r, .ref a) => do
        let o ← load r
        match o.cls, o.data with
        | .type n, .fields vs =>
          if ["enumerate", "zip", "dict_itemiterator", "dict_reverseitemiterator", "odict_iterator", "itertools.zip_longest", "itertools.pairwise"].contains n && vs[0]? == some (rawInt a) then
            rule "for.unpacks-the-owned-tuple"
            updateField r 0 .none
        | _, _ => pure ()
      | _ => pure () : Sem Unit) Q E s := by
    cases v with
    | ref a =>
      refine wpAny_bind (wpAny_load ho ?_)
      rw [hc, hd]
      exact wpAny_pure hQ
    | _ => exact wpAny_pure hQ
  cases target <;> first | exact wpAny_pure hQ | exact go
theorem letgo_tuple {target : Expr} {I l : Addr} {i : Nat} {v : Value} {s : Shared} {Q : Unit → Shared → Prop} {E : Value → Shared → Prop} (hit : s.heap.IsTupleIter I l i) (hQ : Q () s) :
    wpAny (model Z.prog Z.w) A (letOwnedTupleGo target (.ref I) v) Q E s := by
  refine x1_3 hit fun o ho hc hd => ?_
  have go : wpAny (model Z.prog Z.w) A (match (Value.ref I, v) with
      | (.ref r, .ref a) => do
        let o ← load r
        match o.cls, o.data with
        | .type n, .fields vs =>
          if ["enumerate", "zip", "dict_itemiterator", "dict_reverseitemiterator", "odict_iterator", "itertools.zip_longest", "itertools.pairwise"].contains n && vs[0]? == some (rawInt a) then
            rule "for.unpacks-the-owned-tuple"
            updateField r 0 .none
        | _, _ => pure ()
      | _ => pure () : Sem Unit) Q E s := by
    cases v with
    | ref a =>
      refine wpAny_bind (wpAny_load ho ?_)
      rw [hc, hd]
      exact wpAny_pure hQ
    | _ => exact wpAny_pure hQ
  cases target <;> first | exact wpAny_pure hQ | exact go
theorem letgo_range {target : Expr} {I : Addr} {x : Int} {t : Tok} {s : Shared} {Q : Unit → Shared → Prop} {E : Value → Shared → Prop} (hQ : Q () s) :
    wpAny (model Z.prog Z.w) A (letOwnedTupleGo target (.ref I) (.int x t)) Q E s := by
  cases target <;> exact wpAny_pure hQ
theorem iter_list (hh : A.handled = none) (tt : Bool) (I ax : Addr) (hI : X I) (hax : ¬ X ax) (items : Array Value) :
    Iter Z A X tt I [I] (fun rem h => ∃ i, h.IsListIter I ax i ∧ h.IsList ax items ∧ Ats h X (items.toList.drop i) rem)
      (fun _ rem _ h => ∃ i, h.IsListIter I ax i ∧ h.IsList ax items ∧ Ats h X (items.toList.drop i) rem) where
  frame := fun rem h h' k ⟨i, a, b, c⟩ => ⟨i, a.at fun o => k _ o (.inr (List.mem_singleton.mpr rfl)), b.at fun o => k _ o (.inl hax), Ats.mono (fun _ x => x) (fun b o n => k b o (.inl n)) _ _ c⟩
  item := fun d rem s Q S ⟨i, a, b, c⟩ hQ => by
    simp only [Ats] at c
    refine x2_3 c fun v vs' e h1 h2 => ?_
    have hne : ax ≠ I := fun e => hax (e ▸ hI)
    have hlt : i < items.toList.length := by
      rcases Nat.lt_or_ge i items.toList.length with q | q
      · exact q
      · rw [List.drop_of_length_le q] at e; cases e
    rw [List.drop_eq_getElem_cons hlt] at e
    injection e with e1 e2
    have hx : items[i]? = some v := by
      rw [← Array.getElem?_toList, List.getElem?_eq_getElem hlt, e1]
    refine wpAny_pyNext_list_item a b hx fun h' hit hs => ?_
    have hk : ∀ b o, b ∉ [I] → s.heap.get? b = some o → h'.get? b = some o := fun b o n e => hs.extBut b o (by simpa using n) e
    have hk' : ∀ b o, ¬ X b → s.heap.get? b = some o → h'.get? b = some o := fun b o n e => hk b o (fun m => n (by rw [List.mem_singleton.mp m]; exact hI)) e
    refine hQ v h' s.toks (At.mono (fun _ x => x) hk' _ _ h1) ⟨i + 1, hit, b.at fun o => hk' _ o hax, ?_⟩ hk ?_
    · rw [e2]; exact Ats.mono (fun _ x => x) hk' _ _ h2
    · intro b hb; obtain ⟨o, ho, _⟩ := hit; rw [List.mem_singleton.mp hb]; exact ⟨o, ho⟩
  go := fun target d rem v s Q _ hv ⟨i, a, b, c⟩ hQ => letgo_list a (hQ s.heap hv ⟨i, a, b, c⟩ (fun _ _ _ e => e) fun _ _ e => e)
  done := fun s Q ⟨i, a, b, c⟩ hQ => by
    simp only [Ats] at c
    have hn : items[i]? = none := by
      rw [← Array.getElem?_toList]
      rw [List.drop_eq_nil_iff] at c
      exact List.getElem?_eq_none c
    exact wpAny_pyNext_list_end hh a b hn fun h' hs => hQ h' s.toks fun b o n e => hs b o (by simpa using n) e
  self := fun rem s Q ⟨i, a, b, c⟩ hQ => wpAny_pyIter_listiter a hQ
theorem iter_tuple (hh : A.handled = none) (tt : Bool) (I ax : Addr) (hI : X I) (hax : ¬ X ax) (items : Array Value) :
    Iter Z A X tt I [I] (fun rem h => ∃ i, h.IsTupleIter I ax i ∧ h.IsTuple ax items ∧ Ats h X (items.toList.drop i) rem)
      (fun _ rem _ h => ∃ i, h.IsTupleIter I ax i ∧ h.IsTuple ax items ∧ Ats h X (items.toList.drop i) rem) where
  frame := fun rem h h' k ⟨i, a, b, c⟩ => ⟨i, istupit_at a fun o => k _ o (.inr (List.mem_singleton.mpr rfl)), istup_at b fun o => k _ o (.inl hax), Ats.mono (fun _ x => x) (fun b o n => k b o (.inl n)) _ _ c⟩
  item := fun d rem s Q S ⟨i, a, b, c⟩ hQ => by
    simp only [Ats] at c
    refine x2_3 c fun v vs' e h1 h2 => ?_
    have hne : ax ≠ I := fun e => hax (e ▸ hI)
    have hlt : i < items.toList.length := by
      rcases Nat.lt_or_ge i items.toList.length with q | q
      · exact q
      · rw [List.drop_of_length_le q] at e; cases e
    rw [List.drop_eq_getElem_cons hlt] at e
    injection e with e1 e2
    have hx : items[i]? = some v := by
      rw [← Array.getElem?_toList, List.getElem?_eq_getElem hlt, e1]
    refine wpAny_pyNext_tuple_item a b hx fun h' hit hs => ?_
    have hk : ∀ b o, b ∉ [I] → s.heap.get? b = some o → h'.get? b = some o := fun b o n e => hs.extBut b o (by simpa using n) e
    have hk' : ∀ b o, ¬ X b → s.heap.get? b = some o → h'.get? b = some o := fun b o n e => hk b o (fun m => n (by rw [List.mem_singleton.mp m]; exact hI)) e
    refine hQ v h' s.toks (At.mono (fun _ x => x) hk' _ _ h1) ⟨i + 1, hit, istup_at b fun o => hk' _ o hax, ?_⟩ hk ?_
    · rw [e2]; exact Ats.mono (fun _ x => x) hk' _ _ h2
    · intro b hb; obtain ⟨o, ho, _⟩ := hit; rw [List.mem_singleton.mp hb]; exact ⟨o, ho⟩
  go := fun target d rem v s Q _ hv ⟨i, a, b, c⟩ hQ => letgo_tuple a (hQ s.heap hv ⟨i, a, b, c⟩ (fun _ _ _ e => e) fun _ _ e => e)
  done := fun s Q ⟨i, a, b, c⟩ hQ => by
    simp only [Ats] at c
    have hn : items[i]? = none := by
      rw [← Array.getElem?_toList]
      rw [List.drop_eq_nil_iff] at c
      exact List.getElem?_eq_none c
    exact wpAny_pyNext_tuple_end hh a b hn fun h' hs => hQ h' s.toks fun b o n e => hs b o (by simpa using n) e
  self := fun rem s Q ⟨i, a, b, c⟩ hQ => wpAny_pyIter_tupleiter a hQ
theorem iter_range (hh : A.handled = none) (tt : Bool) (I : Addr) (hI : X I) (a c : Int) (n : Nat) :
    Iter Z A X tt I [I] (fun rem h => ∃ i, i ≤ n ∧ IsRangeIter h I (a + (i : Nat) * c) ((n : Int) - (i : Nat)) c ∧ rem = (rangeC a c n).drop i)
      (fun d rem v h => (∃ x, d = .int x) ∧ ∃ i, i ≤ n ∧ IsRangeIter h I (a + (i : Nat) * c) ((n : Int) - (i : Nat)) c ∧ rem = (rangeC a c n).drop i) where
  frame := fun rem h h' k ⟨i, l, x, e⟩ => ⟨i, l, k _ _ (.inr (List.mem_singleton.mpr rfl)) x, e⟩
  item := fun d rem s Q S ⟨i, l, x, e⟩ hQ => by
    have hlen : (rangeC a c n).length = n := by simp [rangeC]
    have hlt : i < (rangeC a c n).length := by
      rcases Nat.lt_or_ge i (rangeC a c n).length with q | q
      · exact q
      · rw [List.drop_of_length_le q] at e; cases e
    rw [List.drop_eq_getElem_cons hlt] at e
    injection e with e1 e2
    have ed : d = .int (a + (i : Nat) * c) := by rw [e1]; simp [rangeC]
    subst ed
    rw [hlen] at hlt
    refine wpAny_pyNext_range_item x (by lia) fun h' hit hs => ?_
    refine hQ _ h' _ (at_int.mpr ⟨_, rfl⟩) ⟨⟨_, rfl⟩, i + 1, by lia, ?_, e2⟩ (fun b o n e => hs.extBut b o (by simpa using n) e) ?_
    · have e3 : a + ((i : Nat) : Int) * c + c = a + ((i + 1 : Nat) : Int) * c := by
        rw [Int.natCast_add, Int.add_mul]; simp; lia
      have e4 : (n : Int) - ((i : Nat) : Int) - 1 = (n : Int) - ((i + 1 : Nat) : Int) := by lia
      rw [e3, e4] at hit; exact hit
    · intro b hb; rw [List.mem_singleton.mp hb]; exact ⟨_, hit⟩
  go := fun target d rem v s Q _ hv ⟨⟨x, e⟩, r⟩ hQ => by
    subst e
    refine x1_1 (at_int.mp hv) fun t hr1 => ?_; subst hr1
    exact letgo_range (hQ s.heap hv r (fun _ _ _ e => e) fun _ _ e => e)
  done := fun s Q ⟨i, l, x, e⟩ hQ => by
    have hlen : (rangeC a c n).length = n := by simp [rangeC]
    have : n ≤ i := by
      have := List.drop_eq_nil_iff.mp e.symm
      lia
    exact wpAny_pyNext_range_end hh x (by lia) fun h' hs => hQ h' s.toks fun b o n e => hs b o (by simpa using n) e
  self := fun rem s Q ⟨i, l, x, e⟩ hQ => wpAny_pyIter_rangeiter x hQ
end
end Mine
namespace Mine
open PySem PySem.W PyProof.Rows PySem.SeqAt
section
variable {Z : Par} {X : Addr → Prop} {A : Around}
theorem pairsL_nil : ∀ {l m : List D}, pairsL l m = [] → l = [] ∨ m = []
  | [], _, _ => .inl rfl
  | _ :: _, [], _ => .inr rfl
  | _ :: _, _ :: _, h => by simp [pairsL] at h
theorem pairsL_cons : ∀ {l m : List D} {d : D} {r : List D}, pairsL l m = d :: r → ∃ a l' b m', l = a :: l' ∧ m = b :: m' ∧ d = .tup [a, b] ∧ r = pairsL l' m'
  | [], _, _, _, h => by simp [pairsL] at h
  | _ :: _, [], _, _, h => by simp [pairsL] at h
  | a :: l, b :: m, d, r, h => by
    simp only [pairsL] at h
    injection h with h1 h2
    exact ⟨a, l, b, m, rfl, rfl, h1.symm, h2.symm⟩
theorem ats_drop_none {h : Heap} {vs : Array Value} {k : Nat} (c : Ats h X (vs.toList.drop k) []) : vs[k]? = none := by
  simp only [Ats] at c
  rw [← Array.getElem?_toList]
  rw [List.drop_eq_nil_iff] at c
  exact List.getElem?_eq_none c
theorem ats_drop_some {h : Heap} {vs : Array Value} {k : Nat} {d : D} {ds : List D} (c : Ats h X (vs.toList.drop k) (d :: ds)) : ∃ v, vs[k]? = some v ∧ At h X v d ∧ Ats h X (vs.toList.drop (k + 1)) ds := by
  simp only [Ats] at c
  refine x2_3 c fun v vs' e h1 h2 => ?_
  have hlt : k < vs.toList.length := by
    rcases Nat.lt_or_ge k vs.toList.length with q | q
    · exact q
    · rw [List.drop_of_length_le q] at e; cases e
  rw [List.drop_eq_getElem_cons hlt] at e
  injection e with e1 e2
  refine ⟨v, ?_, h1, by rw [e2]; exact h2⟩
  rw [← Array.getElem?_toList, List.getElem?_eq_getElem hlt, e1]
inductive ZipSt (X : Addr → Prop) (z TI TO i1 i2 l1 l2 : Addr) (xs ys : Array Value) (f0 : Value) (rem : List D) (h : Heap) : Prop
  | mk (k : Nat) (ds es : List D) (a b : Value) (c1 : IsZip h z TI TO f0) (c2 : IsPair h TI (.ref i1) (.ref i2)) (c3 : IsPair h TO a b) (c4 : h.IsListIter i1 l1 k) (c5 : h.IsListIter i2 l2 k) (c6 : h.IsList l1 xs) (c7 : h.IsList l2 ys)
    (c8 : Ats h X (xs.toList.drop k) ds) (c9 : Ats h X (ys.toList.drop k) es) (c10 : rem = pairsL ds es)
theorem ZipSt.keep {z TI TO i1 i2 l1 l2 : Addr} {xs ys : Array Value} {f0 : Value} {rem : List D} {h h' : Heap} (hTI : ¬ X TI) (hl1 : ¬ X l1) (hl2 : ¬ X l2)
    (k : ∀ b o, (¬ X b ∨ b ∈ [z, TO, i1, i2]) → h.get? b = some o → h'.get? b = some o) (H : ZipSt X z TI TO i1 i2 l1 l2 xs ys f0 rem h) : ZipSt X z TI TO i1 i2 l1 l2 xs ys f0 rem h' := by
  obtain ⟨n, ds, es, a, b, c1, c2, c3, c4, c5, c6, c7, c8, c9, c10⟩ := H
  have kn := fun b o n => k b o (.inl n)
  exact ⟨n, ds, es, a, b, k _ _ (.inr (by simp)) c1, kn _ _ hTI c2, k _ _ (.inr (by simp)) c3, c4.at fun o => k _ o (.inr (by simp)), c5.at fun o => k _ o (.inr (by simp)),
      c6.at fun o => kn _ o hl1, c7.at fun o => kn _ o hl2, Ats.mono (fun _ x => x) kn _ _ c8, Ats.mono (fun _ x => x) kn _ _ c9, c10⟩
theorem mem4 {a b c d x : Addr} {P : Addr → Prop} (h : x ∈ [a, b, c, d]) (ha : P a) (hb : P b) (hc : P c) (hd : P d) : P x := by
  simp only [List.mem_cons, List.not_mem_nil, or_false] at h
  rcases h with h | h | h | h <;> rw [h] <;> assumption
theorem not_mem4 {a b c d x : Addr} (h : x ∉ [a, b, c, d]) : x ≠ a ∧ x ≠ b ∧ x ≠ c ∧ x ≠ d := by
  simpa only [List.mem_cons, List.not_mem_nil, or_false, not_or] using h
theorem iter_zip (hh : A.handled = none) (z TI TO i1 i2 l1 l2 : Addr) (Dd : ZipApart z TI TO i1 i2 l1 l2) (hz : X z) (hTO : X TO) (h1 : X i1) (h2 : X i2) (hTI : ¬ X TI) (hl1 : ¬ X l1) (hl2 : ¬ X l2) (xs ys : Array Value) :
    Iter Z A X true z [z, TO, i1, i2] (ZipSt X z TI TO i1 i2 l1 l2 xs ys .none) (fun _ rem v h => ∃ T, v = .ref T ∧ ZipSt X z TI TO i1 i2 l1 l2 xs ys (rawInt T) rem h) where
  frame := fun rem h h' k x => ZipSt.keep hTI hl1 hl2 k x
  item := fun d rem s Q S H hQ => by
    obtain ⟨k, ds, es, a, b, c1, c2, c3, c4, c5, c6, c7, c8, c9, c10⟩ := H
    refine x4_4 (pairsL_cons c10.symm) fun da ds' db es' hr4 hr5 hr6 hr7 => ?_
    refine x1_3 (ats_drop_some (hr4 ▸ c8)) fun x hx ax c8' => ?_
    refine x1_3 (ats_drop_some (hr5 ▸ c9)) fun y hy ay c9' => ?_
    refine wpAny_pyNext_zip_item Dd c1 c2 c3 c4 c5 c6 c7 hx hy fun h' e1 e2 e3 e4 e5 e6 e7 => ?_
    have hk : ∀ b o, b ∉ [z, TO, i1, i2] → s.heap.get? b = some o → h'.get? b = some o := fun b o n e => have m := not_mem4 n; e7 b o m.1 m.2.1 m.2.2.1 m.2.2.2 e
    have hin : ∀ b ∈ [z, TO, i1, i2], X b := fun b hb => mem4 (P := X) hb hz hTO h1 h2
    have hk' : ∀ b o, ¬ X b → s.heap.get? b = some o → h'.get? b = some o := fun b o n e => hk b o (fun m => n (hin b m)) e
    refine hQ _ h' s.toks ?_ ⟨_, rfl, k + 1, ds', es', x, y, e1, hk' _ _ hTI c2, e2, e3, e4, c6.at fun o => hk' _ o hl1, c7.at fun o => hk' _ o hl2,
      Ats.mono (fun _ x => x) hk' _ _ c8', Ats.mono (fun _ x => x) hk' _ _ c9', hr7⟩ hk ?_
    · rw [hr6]
      exact at_tupM ⟨_, #[x, y], rfl, S.fresh, ⟨_, e5, rfl, _, rfl⟩, by show 2 ≤ LIM; decide, Ats.cons (At.mono (fun _ x => x) hk' _ _ ax) (Ats.cons (At.mono (fun _ x => x) hk' _ _ ay) Ats.nil)⟩
    · exact fun b hb => mem4 (P := fun b => ∃ o, h'.get? b = some o) hb ⟨_, e1⟩ ⟨_, e2⟩ (x1_2 e3 fun o ho _ => ⟨o, ho⟩) (x1_2 e4 fun o ho _ => ⟨o, ho⟩)
  go := fun target d rem v s Q ht hv H hQ => by
    obtain ⟨T, e, k, ds, es, a, b, c1, c2, c3, c4, c5, c6, c7, c8, c9, c10⟩ := H
    rw [e]
    obtain ⟨ts, tk, tp, ht⟩ := isTupT_inv ht
    rw [ht]
    refine wpAny_letOwnedTupleGo_zip c1 fun h' e1 e2 => ?_
    have hk' : ∀ b o, b ≠ z → s.heap.get? b = some o → h'.get? b = some o := fun b o n e => e2.extBut b o n e
    have hkX : ∀ b o, ¬ X b → s.heap.get? b = some o → h'.get? b = some o := fun b o n e => hk' b o (fun m => n (m ▸ hz)) e
    refine hQ h' (At.mono (fun _ x => x) hkX _ _ hv) ⟨k, ds, es, a, b, e1, hk' _ _ Dd.TIz c2, hk' _ _ Dd.TOz c3, c4.at fun o => hk' _ o Dd.i1z, c5.at fun o => hk' _ o Dd.i2z, c6.at fun o => hk' _ o Dd.l1z, c7.at fun o => hk' _ o Dd.l2z,
      Ats.mono (fun _ x => x) hkX _ _ c8, Ats.mono (fun _ x => x) hkX _ _ c9, c10⟩ (fun b o n e => hk' b o (fun m => n (by rw [m]; simp)) e) ?_
    intro b hb ⟨o, ho⟩
    by_cases hbz : b = z
    · rw [hbz]; exact ⟨_, e1⟩
    · exact ⟨o, hk' b o hbz ho⟩
  done := fun s Q H hQ => by
    obtain ⟨k, ds, es, a, b, c1, c2, c3, c4, c5, c6, c7, c8, c9, c10⟩ := H
    refine wpAny_pyNext_zip_end hh Dd c1 c2 c3 c4 c5 c6 c7 ?_ fun h' e7 => hQ h' s.toks fun b o n e => have m := not_mem4 n; e7 b o m.1 m.2.1 m.2.2.1 m.2.2.2 e
    exact (pairsL_nil c10.symm).imp (fun e => ats_drop_none (e ▸ c8)) fun e => ats_drop_none (e ▸ c9)
  self := fun rem s Q H hQ => by
    obtain ⟨k, ds, es, a, b, c1, _⟩ := H
    exact wpAny_pyIter_zip c1 hQ
noncomputable def Loads (h : Heap) (env : Env) (x : Str') (v : Value) : Prop :=
  (env.kindOf x = some .local ∧ ∃ m, h.Ns env.locals m ∧ m x = some v) ∨
  ((env.kindOf x = some .cell ∨ env.kindOf x = some .free) ∧ ∃ c, env.cells.lookup x = some c ∧ h.IsCell c (some v))
structure EnvOk (Z : Par) (X : Addr → Prop) (h : Heap) (env : Env) (ae : AE) : Prop where
  kind : env.scope.kind = .function
  gl : env.globals = mainGlobals
  bi : env.builtins = builtinsNs
  dbg : ∀ x k, ae.sc.names.lookup x = some k → (x == ("__debug__" : Str')) = false ∧ (x == ("__classdict__" : Str')) = false
  glob : ∀ x, ae.sc.names.lookup x = some .globalImplicit → env.kindOf x = some .globalImplicit
  loc : ∀ x, ae.sc.names.lookup x = some .local → env.kindOf x = some .local
  cel : ∀ x, (ae.sc.names.lookup x = some .cell ∨ ae.sc.names.lookup x = some .free) → (env.kindOf x = some .cell ∨ env.kindOf x = some .free) ∧ ∃ c, env.cells.lookup x = some c
  var : ∀ x d, ae.look x = some d → ∃ v, Loads h env x v ∧ At h X v d
  tl : ¬ Z.T env.locals
  tc : ∀ x c, env.cells.lookup x = some c → ¬ Z.T c
  cal : ∀ x c, env.cells.lookup x = some c → ∃ o, h.get? c = some o
theorem Loads.kp {s s' : Shared} {env : Env} {x : Str'} {v : Value} (k : Kp Z s s') (tl : ¬ Z.T env.locals) (tc : ∀ x c, env.cells.lookup x = some c → ¬ Z.T c) (l : Loads s.heap env x v) : Loads s'.heap env x v := by
  rcases l with ⟨a, m, hn, hm⟩ | ⟨a, c, hc, hv⟩
  · exact .inl ⟨a, m, hn.at' fun o => k.keep _ o tl, hm⟩
  · refine x1_2 hv fun o ho hd => ?_
    exact .inr ⟨a, c, hc, o, k.keep _ o (tc x c hc) ho, hd⟩
theorem EnvOk.kp {s s' : Shared} {env : Env} {ae : AE} (S : St Z X s) (k : Kp Z s s') (e : EnvOk Z X s.heap env ae) : EnvOk Z X s'.heap env ae :=
  { e with var := fun x d h => let ⟨v, l, a⟩ := e.var x d h; ⟨v, l.kp k e.tl e.tc, a.kp S k⟩, cal := fun x c h => let ⟨o, ho⟩ := e.cal x c h; ⟨o, k.keep c o (e.tc x c h) ho⟩ }
structure Glo (Z : Par) where
  mg : Str' → Option Value
  mb : Str' → Option Value
  nsg : Z.h0.Ns mainGlobals mg
  nsb : Z.h0.Ns builtinsNs mb
  nolimit_of : ∀ {h : Heap}, (∀ b o, ¬ Z.T b → Z.h0.get? b = some o → h.get? b = some o) → h.NoLimit
  tg : ¬ Z.T mainGlobals
  tb : ¬ Z.T builtinsNs
  ts : ¬ Z.T cStatics
noncomputable def Glo.val {Z : Par} (G : Glo Z) (x : Str') (v : Value) : Prop := G.mg x = some v ∨ (G.mg x = none ∧ G.mb x = some v)
theorem name_glob (G : Glo Z) {s : Shared} {env : Env} {ae : AE} {x : Str'} {pos : Pos} {v : Value} {Q : Value → Shared → Prop} {E : Value → Shared → Prop} (S : St Z X s) (e : EnvOk Z X s.heap env ae) (hx : ae.glob x = true) (hv : G.val x v) (h : Q v s) :
    wpAny (model Z.prog Z.w) A (eval (.Name x pos) env) Q E s := by
  have hx' : ae.sc.names.lookup x = some .globalImplicit := by
    unfold AE.glob at hx
    split at hx
    · assumption
    · cases hx
  have hg : s.heap.Ns env.globals G.mg := by rw [e.gl]; exact G.nsg.at' fun o => S.base _ o G.tg
  have hb : s.heap.Ns env.builtins G.mb := by rw [e.bi]; exact G.nsb.at' fun o => S.base _ o G.tb
  refine PySem.Calls.Name_function_global e.kind (e.glob x hx') ?_ (e.dbg x _ hx').1
  rcases hv with hv | ⟨h1, h2⟩
  · exact PySem.Calls.loadGlobal_global hg hv h
  · exact PySem.Calls.loadGlobal_builtin hg h1 hb h2 h
theorem name_var {s : Shared} {env : Env} {ae : AE} {x : Str'} {pos : Pos} {d : D} (S : St Z X s) (e : EnvOk Z X s.heap env ae) (hd : ae.look x = some d) : Gives Z X A s (eval (.Name x pos) env) d := by
  refine x1_2 (e.var x d hd) fun v l a => ?_
  have hk : ∃ k, ae.sc.names.lookup x = some k := by
    unfold AE.look at hd
    split at hd <;> first | exact ⟨_, by assumption⟩ | cases hd
  refine x1_1 hk fun k hk => ?_
  have hdbg := e.dbg x k hk
  refine wpAny_Name ?_ hdbg.1
  have q : Post Z X s d v s := ⟨Kp.refl _, a⟩
  rcases l with ⟨l1, m, hn, hm⟩ | ⟨l1, c, hc, hv⟩
  · exact wpAny_loadName_local e.kind l1 hn hm q
  · rcases l1 with l1 | l1
    · exact wpAny_loadName_cell e.kind l1 hc hv q
    · exact wpAny_loadName_free e.kind l1 hc hv q hdbg.2
end
end Mine
namespace Mine
open PySem PySem.W PyProof.Rows PySem.SeqAt
structure Room (L : Nat) (A : Around) : Prop where
  hd : A.handled = none
  dp : A.depth + L < recursionLimit
  un : A.units + 8 * L + 100 < cLine
theorem Room.un1 {L : Nat} {A : Around} (R : Room L A) : A.units < cLine := by have := R.un; lia
structure BiOk {Z : Par} (G : Glo Z) : Prop where
  len : G.val (Str.ofString "len") (.builtin "len")
  chr : G.val (Str.ofString "chr") (.builtin "chr")
  sorted : G.val (Str.ofString "sorted") (.builtin "sorted")
  isinstance : G.val (Str.ofString "isinstance") (.builtin "isinstance")
  int : G.val (Str.ofString "int") (.type "int")
  range : G.val (Str.ofString "range") (.type "range")
  zip : G.val (Str.ofString "zip") (.type "zip")
  tuple : G.val (Str.ofString "tuple") (.type "tuple")
  float : G.val (Str.ofString "float") (.type "float")
  str : G.val (Str.ofString "str") (.type "str")
noncomputable def Contract (Z : Par) (L : Nat) (a : Addr) (φ : List D → Option D) : Prop :=
  ∀ (A : Around) (X : Addr → Prop) (s : Shared) (vs : List Value) (ds : List D) (d : D), Room L A → St Z X s → Ats s.heap X vs ds → φ ds = some d → Gives Z X A s (call (.ref a) vs []) d
noncomputable def FnsOk {Z : Par} (G : Glo Z) (L : Nat) (Φ : Fns) : Prop :=
  ∀ f φ, Φ f = some φ → ∃ a o fd, G.val f (.ref a) ∧ Z.h0.get? a = some o ∧ ¬ Z.T a ∧ o.data = .func fd ∧ Contract Z L a φ
section
variable {Z : Par} {X : Addr → Prop} {A : Around}
noncomputable def EvalOk (G : Glo Z) (Φ : Fns) (L n : Nat) : Prop := ∀ e ae d, aeval Φ n e ae = some d → ∀ (A : Around) (X : Addr → Prop) (s : Shared) (env : Env), Room L A → St Z X s → EnvOk Z X s.heap env ae → Gives Z X A s (eval e env) d
noncomputable def TrueOk (G : Glo Z) (Φ : Fns) (L n : Nat) : Prop := ∀ e ae b, atrue Φ n e ae = some b → ∀ (A : Around) (X : Addr → Prop) (s : Shared) (env : Env), Room L A → St Z X s → EnvOk Z X s.heap env ae →
  wpAny (model Z.prog Z.w) A (isTrue e env (eval e env)) (fun r s' => r = b ∧ Kp Z s s') (fun _ _ => False) s
noncomputable def AllOk (G : Glo Z) (Φ : Fns) (L n : Nat) : Prop := ∀ op vs ae b, aall Φ n op vs ae = some b → ∀ (A : Around) (X : Addr → Prop) (s : Shared) (env : Env), Room L A → St Z X s → EnvOk Z X s.heap env ae →
  wpAny (model Z.prog Z.w) A (allTrue op vs env) (fun r s' => r = b ∧ Kp Z s s') (fun _ _ => False) s
noncomputable def PartOk (G : Glo Z) (Φ : Fns) (L n : Nat) : Prop := ∀ o ae r, apart Φ n o ae = some r → ∀ (A : Around) (X : Addr → Prop) (s : Shared) (env : Env), Room L A → St Z X s → EnvOk Z X s.heap env ae →
  wpAny (model Z.prog Z.w) A (evalPart o env) (fun v s' => Kp Z s s' ∧ IsPart v r) (fun _ _ => False) s
inductive IterPost (Z : Par) (A : Around) (X : Addr → Prop) (tt : Bool) (items : List D) (s : Shared) (it : Value) (s2 : Shared) : Prop
  | mk (k : Kp Z s s2) (n : items.length ≤ LIM) (I : Addr) (wr : List Addr) (e : it = .ref I) (hI : I ∈ wr) (hw : ∀ b ∈ wr, s.heap.get? b = none ∧ ∃ o, s2.heap.get? b = some o)
    (h : ∀ X' : Addr → Prop, (∀ b, X b → X' b) → (∀ b ∈ wr, X' b) → (∀ b, X' b → X b ∨ b ∈ wr ∨ s2.heap.get? b = none) → ∃ R R1, Iter Z A X' tt I wr R R1 ∧ R items s2.heap)
noncomputable def IterOk (G : Glo Z) (Φ : Fns) (L n : Nat) : Prop := ∀ tt e ae items, aiter Φ n tt e ae = some items → ∀ (A : Around) (X : Addr → Prop) (s : Shared) (env : Env), Room L A → St Z X s → EnvOk Z X s.heap env ae →
  wpAny (model Z.prog Z.w) A (eval e env) (fun x s1 => wpAny (model Z.prog Z.w) A (pyIter x) (IterPost Z A X tt items s) (fun _ _ => False) s1) (fun _ _ => False) s
theorem post_trans {s0 s1 s2 : Shared} {v : Value} {d : D} (k : Kp Z s0 s1) (h : Post Z X s1 d v s2) : Post Z X s0 d v s2 := ⟨k.trans h.1, h.2⟩
theorem EvalOk.run {G : Glo Z} {Φ : Fns} {L n : Nat} (iE : EvalOk G Φ L n) {e : Expr} {ae : AE} {a : D} (ha : aeval Φ n e ae = some a) {s : Shared} {env : Env} (Rm : Room L A) (S : St Z X s) (E : EnvOk Z X s.heap env ae) {Q : Value → Shared → Prop}
    (k : ∀ v s1, Kp Z s s1 → At s1.heap X v a → St Z X s1 → EnvOk Z X s1.heap env ae → Q v s1) : wpAny (model Z.prog Z.w) A (eval e env) Q (fun _ _ => False) s :=
  wpAny_mono (iE e ae a ha A X s env Rm S E) (fun v s1 h1 => k v s1 h1.1 h1.2 (S.kp h1.1) (E.kp S h1.1)) fun _ _ f => f
theorem TrueOk.run {G : Glo Z} {Φ : Fns} {L n : Nat} (iE : TrueOk G Φ L n) {e : Expr} {ae : AE} {a : Bool} (ha : atrue Φ n e ae = some a) {s : Shared} {env : Env} (Rm : Room L A) (S : St Z X s) (E : EnvOk Z X s.heap env ae) {Q : Bool → Shared → Prop}
    (k : ∀ s1, Kp Z s s1 → St Z X s1 → EnvOk Z X s1.heap env ae → Q a s1) : wpAny (model Z.prog Z.w) A (isTrue e env (eval e env)) Q (fun _ _ => False) s :=
  wpAny_mono (iE e ae a ha A X s env Rm S E) (fun v s1 h1 => by rw [h1.1]; exact k s1 h1.2 (S.kp h1.2) (E.kp S h1.2)) fun _ _ f => f
theorem Gives.post {s s1 : Shared} {t : Sem Value} {d : D} (k : Kp Z s s1) (h : Gives Z X A s1 t d) : wpAny (model Z.prog Z.w) A t (Post Z X s d) (fun _ _ => False) s1 := wpAny_mono h (fun _ _ h3 => post_trans k h3) fun _ _ f => f
theorem aeval_starred {Φ : Fns} {n : Nat} {e : Expr} {p : Pos} {ae : AE} : aeval Φ n (.Starred e p) ae = none := by cases n <;> rfl
theorem star_ne {Φ : Fns} {n : Nat} {e : Expr} {ae : AE} {d : D} {env : Env} {rest : List Expr} (h : aeval Φ n e ae = some d) : starEach (e :: rest) env = (false, eval e env) :: starEach rest env := by
  cases e <;> first | rfl | (rw [aeval_starred] at h; cases h)
theorem args_sound {G : Glo Z} {Φ : Fns} {L n : Nat} (ih : EvalOk G Φ L n) {ae : AE} : ∀ (es : List Expr) (ds : List D), aevals (fun e => aeval Φ n e ae) es = some ds →
    ∀ (A : Around) (X : Addr → Prop) (s : Shared) (env : Env) (pos : Pos), Room L A → St Z X s → EnvOk Z X s.heap env ae →
    wpAny (model Z.prog Z.w) A (spliced (backTo pos (starEach es env))) (fun vs s' => Kp Z s s' ∧ Ats s'.heap X vs ds) (fun _ _ => False) s
  | [], ds, h, A, X, s, env, pos, _, _, _ => by
    dsimp only [aevals] at h; rw [← Option.some.inj h]
    exact wpAny_items_nil ⟨Kp.refl _, Ats.nil⟩
  | e :: es, ds, h, A, X, s, env, pos, R, S, En => by
    dsimp only [aevals] at h
    refine bnd h ?_; clear h; intro d hd h
    refine mpd h ?_; clear h; intro l hl h
    cases h
    refine wpAny_items_cons (wpAny_mono (ih e ae d hd A X s env R S En) (fun v s1 h1 => ?_) fun _ _ x => x) (star_ne hd)
    obtain ⟨k1, a1⟩ := h1
    refine wpAny_mono (args_sound ih es l hl A X s1 env pos R (S.kp k1) (En.kp S k1)) (fun vs s2 h2 => ?_) fun _ _ x => x
    refine x0_2 h2 fun k2 a2 => ?_
    exact ⟨k1.trans k2, Ats.cons (a1.kp (S.kp k1) k2) a2⟩
theorem backTo_any {Φ : Fns} {n : Nat} {ae : AE} {env : Env} {pos : Pos} : ∀ (es : List Expr) (ds : List D), aevals (fun e => aeval Φ n e ae) es = some ds → (backTo pos (starEach es env)).any (·.1) = false ∧ (backTo pos (starEach es env)).all (fun x => !x.1) = true
  | [], _, _ => ⟨rfl, rfl⟩
  | e :: es, ds, h => by
    dsimp only [aevals] at h
    refine bnd h ?_; clear h; intro d hd h
    cases hl : aevals (fun e => aeval Φ n e ae) es with
    | none => rw [hl] at h; exact ofNone h
    | some l =>
      have ih := backTo_any (env := env) (pos := pos) es l hl
      rw [star_ne hd]
      unfold backTo at ih ⊢
      dsimp only [List.map_cons, List.any_cons, List.all_cons, Bool.false_or, Bool.not_false, Bool.true_and]
      exact ih
theorem evalArgs_sound {G : Glo Z} {Φ : Fns} {L n : Nat} (ih : EvalOk G Φ L n) {ae : AE} {es : List Expr} {ds : List D} (h : aevals (fun e => aeval Φ n e ae) es = some ds)
    {s : Shared} {env : Env} {pos : Pos} {f : Value} (R : Room L A) (S : St Z X s) (En : EnvOk Z X s.heap env ae) :
    wpAny (model Z.prog Z.w) A (evalArgs f true (backTo pos (starEach es env)) []) (fun a s' => ∃ vs, a = ⟨vs, []⟩ ∧ Kp Z s s' ∧ Ats s'.heap X vs ds) (fun _ _ => False) s := by
  cases es with
  | nil =>
    dsimp only [aevals] at h; rw [← Option.some.inj h]
    exact PySem.evalArgs_none ⟨[], rfl, Kp.refl _, Ats.nil⟩
  | cons e es =>
    have hd : ∃ d, aeval Φ n e ae = some d := by
      dsimp only [aevals] at h
      cases hd : aeval Φ n e ae with
      | none => rw [hd] at h; exact ofNone h
      | some d => exact ⟨d, rfl⟩
    refine x1_1 hd fun d hd => ?_
    have a := args_sound ih (e :: es) ds h A X s env pos R S En
    rw [star_ne hd] at a ⊢
    refine PySem.Calls.evalArgs_plain (wpAny_mono a (fun vs s' h' => ⟨vs, rfl, h'⟩) fun _ _ x => x)
theorem call_builtin_sound {G : Glo Z} {Φ : Fns} {L n : Nat} (ih : EvalOk G Φ L n) {ae : AE} {es : List Expr} {ds : List D} {d : D} (h : aevals (fun e => aeval Φ n e ae) es = some ds)
    {s : Shared} {env : Env} {pos : Pos} {id : String} (R : Room L A) (S : St Z X s) (En : EnvOk Z X s.heap env ae)
    (hc : ∀ s' vs, St Z X s' → Ats s'.heap X vs ds → Gives Z X A s' (call (.builtin id) vs []) d) : Gives Z X A s (callWith pos (.builtin id) [] (backTo pos (starEach es env)) []) d := by
  refine PySem.Calls.callWith_builtin (backTo_any es ds h).1 (wpAny_mono (evalArgs_sound ih h R S En) (fun a s1 h1 => ?_) fun _ _ x => x)
  refine x1_3 h1 fun vs hr1 k a => ?_; subst hr1
  exact wpAny_mono (hc s1 vs (S.kp k) a) (fun v s2 h2 => post_trans k h2) fun _ _ x => x
theorem call_type_sound {G : Glo Z} {Φ : Fns} {L n : Nat} (ih : EvalOk G Φ L n) {ae : AE} {es : List Expr} {ds : List D} {Q : Value → Shared → Prop} (h : aevals (fun e => aeval Φ n e ae) es = some ds)
    {s : Shared} {env : Env} {pos : Pos} {T : String} (R : Room L A) (S : St Z X s) (En : EnvOk Z X s.heap env ae)
    (hc : ∀ s' vs, Kp Z s s' → Ats s'.heap X vs ds → wpAny (model Z.prog Z.w) A (call (.type T) vs []) Q (fun _ _ => False) s') :
    wpAny (model Z.prog Z.w) A (callWith pos (.type T) [] (backTo pos (starEach es env)) []) Q (fun _ _ => False) s := by
  refine PyProof.Rows.callWith_type (backTo_any es ds h).1 (wpAny_mono (evalArgs_sound ih h R S En) (fun a s1 h1 => ?_) fun _ _ x => x)
  refine x1_3 h1 fun vs hr1 k a => ?_; subst hr1
  exact hc s1 vs k a
theorem call_fn_sound {G : Glo Z} {Φ : Fns} {L n : Nat} (ih : EvalOk G Φ L n) {ae : AE} {es : List Expr} {ds : List D} {d : D} (h : aevals (fun e => aeval Φ n e ae) es = some ds)
    {s : Shared} {env : Env} {pos : Pos} {a : Addr} {o : Obj} {fd : FuncData} {φ : List D → Option D} (R : Room L A) (S : St Z X s) (En : EnvOk Z X s.heap env ae)
    (ho : Z.h0.get? a = some o) (hT : ¬ Z.T a) (hfd : o.data = .func fd) (C : Contract Z L a φ) (hφ : φ ds = some d) : Gives Z X A s (callWith pos (.ref a) [] (backTo pos (starEach es env)) []) d := by
  refine PySem.Calls.callWith_function (o := o) (fd := fd) (wpAny_mono (evalArgs_sound ih h R S En) (fun x s1 h1 => ?_) fun _ _ x => x)
  refine x1_3 h1 fun vs hr1 k a => ?_; subst hr1
  exact ⟨⟨(S.kp k).base _ _ hT ho, hfd⟩, wpAny_mono (C A X s1 vs ds d R (S.kp k) a hφ) (fun v s2 h2 => post_trans k h2) fun _ _ x => x⟩
end
end Mine
namespace Mine
open PySem PySem.W PyProof.Rows PySem.SeqAt
noncomputable def kasIn {α : Type} (n : Nat) : KasT α → Bool
  | .ret _ => true
  | .ask i j k => decide (i < n) && decide (j < n) && kasIn n (k true) && kasIn n (k false)
theorem kas_in3 : kasIn 3 (kas_sort 3) = true := by decide +kernel
theorem kas_in4 : kasIn 4 (kas_sort 4) = true := by decide +kernel
theorem kas_in5 : kasIn 5 (kas_sort 5) = true := by decide +kernel
theorem kas_in6 : kasIn 6 (kas_sort 6) = true := by decide +kernel
theorem kas_in {n : Nat} (h3 : 3 ≤ n) (h6 : n ≤ 6) : kasIn n (kas_sort n) = true := by
  have : n = 3 ∨ n = 4 ∨ n = 5 ∨ n = 6 := by lia
  rcases this with rfl | rfl | rfl | rfl
  · exact kas_in3
  · exact kas_in4
  · exact kas_in5
  · exact kas_in6
theorem kas_run {α : Type} {prog : Program} {w : World} {A : Around} {κ : SortKind} {vs : List Value} {n : Nat} {c : Nat → Nat → Bool} (I : Shared → Prop)
    (hc : ∀ i j C (s : Shared), i < n → j < n → I s → (∀ s', I s' → C (c i j) s') → kas_ask prog w A κ vs i j C s) :
    ∀ (t : KasT α) (Q : α → Shared → Prop) (s : Shared), kasIn n t = true → I s → (∀ s', I s' → Q (kasRun c t) s') → t.kasWp (kas_ask prog w A κ vs) Q s
  | .ret a, Q, s, _, hI, h => h s hI
  | .ask i j k, Q, s, hin, hI, h => by
    unfold kasIn at hin
    simp only [Bool.and_eq_true, decide_eq_true_eq] at hin
    obtain ⟨⟨⟨hi, hj⟩, ht⟩, hf⟩ := hin
    refine hc i j _ s hi hj hI fun s' hI' => ?_
    refine kas_run I hc (k (c i j)) Q s' ?_ hI' fun s'' h'' => h s'' h''
    cases c i j
    · exact hf
    · exact ht
section
variable {Z : Par} {X : Addr → Prop} {A : Around}
noncomputable def PairsAt (h : Heap) : List Value → List (Int × Int) → Prop
  | [], [] => True
  | v :: vs, p :: ps => (∃ x t u, v = .ref x ∧ h.IsTuple x #[.int p.1 t, .int p.2 u]) ∧ PairsAt h vs ps
  | _, _ => False
theorem PairsAt.length {h : Heap} : ∀ {vs : List Value} {ps : List (Int × Int)}, PairsAt h vs ps → vs.length = ps.length
  | [], [], _ => rfl
  | _ :: _, _ :: _, x => by simp [PairsAt.length x.2]
  | [], _ :: _, x => x.elim
  | _ :: _, [], x => x.elim
theorem PairsAt.get {h : Heap} : ∀ {vs : List Value} {ps : List (Int × Int)}, PairsAt h vs ps → ∀ i, i < vs.length → ∃ x t u, vs.getD i Value.none = .ref x ∧ h.IsTuple x #[.int (ps.getD i (0, 0)).1 t, .int (ps.getD i (0, 0)).2 u]
  | [], [], _, i, hi => by simp at hi
  | v :: vs, p :: ps, x, 0, _ => by obtain ⟨y, t, u, e, r⟩ := x.1; exact ⟨y, t, u, by simpa using e, by simpa using r⟩
  | v :: vs, p :: ps, x, i + 1, hi => by
    refine x3_2 (PairsAt.get x.2 i (by simpa using hi)) fun y t u e r => ?_
    exact ⟨y, t, u, by simpa using e, by simpa using r⟩
  | [], _ :: _, x, _, _ => x.elim
  | _ :: _, [], x, _, _ => x.elim
theorem PairsAt.mono {h h' : Heap} : ∀ {vs : List Value} {ps : List (Int × Int)}, PairsAt h vs ps → (∀ x its, Value.ref x ∈ vs → h.IsTuple x its → h'.IsTuple x its) → PairsAt h' vs ps
  | [], [], _, _ => trivial
  | v :: vs, p :: ps, x, k => by
    obtain ⟨⟨y, t, u, e, r⟩, b⟩ := x
    exact ⟨⟨y, t, u, e, k y _ (by rw [e]; exact List.mem_cons_self) r⟩, b.mono fun z its m => k z its (List.mem_cons_of_mem _ m)⟩
  | [], _ :: _, x, _ => x.elim
  | _ :: _, [], x, _ => x.elim
theorem pairs_tups {h : Heap} : ∀ {vs : List Value} {ps : List (Int × Int)}, PairsAt h vs ps → ∃ fs, KatTups h vs fs ∧ fs.length = vs.length ∧ ∀ v ∈ fs, ∃ i t, v = Value.int i t
  | [], [], _ => ⟨[], .nil, rfl, fun _ h => (nomatch h)⟩
  | v :: vs, p :: ps, ⟨⟨y, t, u, e, o, ho, hc, n, hd⟩, b⟩ => by
    refine x1_3 (pairs_tups b) fun fs a1 a2 a3 => ?_
    rw [e]
    refine ⟨.int p.1 t :: fs, KatTups.cons ho hc hd rfl a1, by simp [a2], ?_⟩
    intro v hv
    rcases List.mem_cons.mp hv with rfl | hv
    · exact ⟨_, _, rfl⟩
    · exact a3 v hv
  | [], _ :: _, x => x.elim
  | _ :: _, [], x => x.elim
theorem ask_pairs {s : Shared} {x y : Addr} {p q : Int × Int} {t u t' u' : Tok} {C : Bool → Shared → Prop} (hx : s.heap.IsTuple x #[.int p.1 t, .int p.2 u]) (hy : s.heap.IsTuple y #[.int q.1 t', .int q.2 u'])
    (h : C (ltPair p q) s) : wpAny (model Z.prog Z.w) A (keyLt' (tuples' true) (.ref x) (.ref y)) C (fun _ _ => False) s := by
  obtain ⟨ox, hox, _, n, dx⟩ := hx
  obtain ⟨oy, hoy, _, k, dy⟩ := hy
  refine kat_lt hox dx hoy dy ?_
  show KatLex _ _ _ _ _ _ [(Value.int p.1 t, Value.int q.1 t'), (Value.int p.2 u, Value.int q.2 u')] 0 s
  delta ltPair at h
  refine kat_cons (wpAny_eqBool_int ?_)
  cases e1 : (p.1 == q.1) with
  | false =>
    rw [e1] at h
    refine kat_no ?_
    show wpAny _ _ (oneLt' true _ _) _ _ _
    refine oneLt_int ?_
    simpa using h
  | true =>
    rw [e1] at h
    refine kat_yes (kat_cons (wpAny_eqBool_int ?_))
    have e1' : p.1 = q.1 := eq_of_beq e1
    have hlt : decide (p.1 < q.1) = false := by simp [e1']
    rw [hlt, Bool.false_or, Bool.true_and] at h
    cases e2 : (p.2 == q.2) with
    | false =>
      refine kat_no ?_
      show wpAny _ _ (oneLt' false _ _) _ _ _
      refine kat_one _ _ (PySem.P.lt_int ?_)
      exact h
    | true =>
      have e2' : p.2 = q.2 := eq_of_beq e2
      have hlt2 : decide (p.2 < q.2) = false := by simp [e2']
      rw [hlt2] at h
      exact kat_yes (kat_nil (by simpa using h))
theorem list_sort_pairs {s : Shared} {a : Addr} {vs : List Value} {ps : List (Int × Int)} {n : Nat} {R : PySem.Fin → Shared → Prop} (ho : s.heap.get? a = some (seqObj "list" vs.toArray n))
    (hna : Value.ref a ∉ vs) (hp : PairsAt s.heap vs ps) (h3 : 3 ≤ vs.length) (h6 : vs.length ≤ 6)
    (h : ∀ tk, R (.done (.ret .none)) { s with heap := sortedHeap s.heap a vs (List.toArray ((kasRun (fun i j => ltPair (ps.getD i (0, 0)) (ps.getD j (0, 0))) (kas_sort vs.length)).toList.map fun i => vs.getD i Value.none)), toks := tk }) :
    wpAny (model Z.prog Z.w) A (Builtin.«list.sort» ⟨[.ref a], []⟩) R (fun _ _ => False) s := by
  obtain ⟨e1, ho1⟩ : ∃ e1, (s.heap.update a (Obj.mapSeq fun _ => (#[] : Array Value))).get? a = some (seqObj "list" #[] e1) := ⟨_, get?_update_seq ho fun _ => #[]⟩
  have s1 := Heap.SameBut.update s.heap a (Obj.mapSeq fun _ => (#[] : Array Value))
  have hp3 : PairsAt (((s.heap.update a (Obj.mapSeq fun _ => (#[] : Array Value))).push (seqObj "tuple" vs.toArray 0)).push (seqObj "list" #[] 0)) vs ps :=
    hp.mono fun x its m ht => ((ht.extBut s1.extBut (fun e => hna (e ▸ m))).push _).push _
  rw [list_sort_plain]
  refine wpAny_bind (listItems_at ho rfl ?_)
  refine wpAny_bind (listUpdate_at ho rfl ?_ (by rw [List.size_toArray, sizeLine_eq]; lia) (Nat.zero_le _))
  refine wpAny_bind (seqEpoch_at ho1 rfl ?_)
  refine wpAny_bind (wpAny_newTuple ?_ (by show vs.length ≤ _; rw [sizeLine_eq]; lia))
  refine wpAny_bind (wpAny_newList ?_ (Nat.zero_le _))
  refine wpAny_holding ?_
  show wpAny (model Z.prog Z.w) A _ R _ { s with heap := ((s.heap.update a (Obj.mapSeq fun _ => (#[] : Array Value))).push (seqObj "tuple" vs.toArray 0)).push (seqObj "list" #[] 0) }
  generalize hH : (((s.heap.update a (Obj.mapSeq fun _ => (#[] : Array Value))).push (seqObj "tuple" vs.toArray 0)).push (seqObj "list" #[] 0)) = H3 at hp3 ⊢
  have ho3 : H3.get? a = some (seqObj "list" #[] e1) := by rw [← hH]; exact Heap.get?_push_of_some _ (Heap.get?_push_of_some _ ho1)
  dsimp only
  have hn2 : ¬ vs.toArray.size < 2 := by rw [List.size_toArray]; lia
  rw [if_neg hn2, if_neg hn2]
  refine x1_3 (pairs_tups hp3) fun fs f1 f2 f3 => ?_
  refine wpAny_bind (kat_kind (T := .type "int") f1 (by lia) (fun v hv => ?_) (by decide) ?_)
  · refine x2_1 (f3 v hv) fun i t hr2 => ?_; subst hr2
    exact Looks.of_pure rfl
  have hb : (Value.type "int" != Value.type "tuple") = true := by decide
  rw [hb]
  refine wpAny_bind (wpAny_mono (kat_run (κ := tuples' true) (Q := fun st' s' => ∃ tk, s' = { s with heap := H3, toks := tk } ∧ failedOf st' = none ∧ (arrOf st').size = vs.length ∧ (arrOf st').map (·.2) = List.toArray ((kasRun (fun i j => ltPair (ps.getD i (0, 0)) (ps.getD j (0, 0))) (kas_sort vs.length)).toList.map fun i => vs.getD i Value.none))
    (G := fun p s' => (∃ tk, s' = { s with heap := H3, toks := tk }) ∧ p = kasRun (fun i j => ltPair (ps.getD i (0, 0)) (ps.getD j (0, 0))) (kas_sort vs.length)) rfl (by lia) (by lia)
    (fun p' st' s' a1 a2 a3 a4 => ?_) ?_) ?_ fun _ _ e => e)
  · obtain ⟨⟨tk, e⟩, ep⟩ := a4
    exact ⟨tk, e, a3, by rw [a2, Array.size_map, a1], by rw [kat_snds rfl a2, ep]⟩
  · refine kas_run (fun s' => ∃ tk, s' = { s with heap := H3, toks := tk }) (c := fun i j => ltPair (ps.getD i (0, 0)) (ps.getD j (0, 0))) ?_ _ _ _ (kas_in h3 h6) ⟨_, rfl⟩ fun s' hs => ⟨hs, rfl⟩
    intro i j C s' hi hj hI hC
    refine x3_2 (hp3.get i hi) fun x t u ex hx => ?_
    refine x3_2 (hp3.get j hj) fun y t' u' ey hy => ?_
    delta kas_ask
    rw [ex, ey]
    refine x1_1 (id hI) fun tk hr1 => ?_; subst hr1
    exact ask_pairs (s := { s with heap := H3, toks := tk }) hx hy (hC _ ⟨tk, rfl⟩)
  · rintro ⟨⟨⟩, st'⟩ s' ⟨tk, rfl, hf, hsz, hout⟩
    dsimp only at hf hout ⊢
    rw [hout]
    refine wpAny_bind (seqEpoch_at ho3 rfl ?_)
    refine wpAny_bind (listUpdate_at ho3 rfl ?_ (Nat.zero_le _) ?_)
    · rw [hf]
      simp only [bne_self_eq_false, Bool.false_eq_true, if_false]
      have := h tk
      unfold sortedHeap at this
      rw [hH] at this
      exact wpAny_pure this
    · rw [← hout, Array.size_map, hsz, sizeLine_eq]; lia
theorem call_sorted {s : Shared} {l : Addr} {vs : List Value} {ps : List (Int × Int)} {Q : Value → Shared → Prop} (hl : s.heap.IsList l vs.toArray)
    (hp : PairsAt s.heap vs ps) (h3 : 3 ≤ vs.length) (h6 : vs.length ≤ 6) (hlt : ∀ x, Value.ref x ∈ vs → x < s.heap.objs.size)
    (h : ∀ tk, Q (.ref (s.heap.objs.size + 1)) { s with heap := sortedAll s.heap vs (List.toArray ((kasRun (fun i j => ltPair (ps.getD i (0, 0)) (ps.getD j (0, 0))) (kas_sort vs.length)).toList.map fun i => vs.getD i Value.none)), toks := tk }) :
    wpAny (model Z.prog Z.w) A (call (.builtin "sorted") [.ref l]) Q (fun _ _ => False) s := by
  refine Calls.call_function_entry kind_sorted plain_sorted entry_sorted (args_sorted1 _) ?_
  delta Builtin.«sorted»
  refine wpAny_bind (m := checkCount "sorted" 1 1 _) (wpAny_pure ?_)
  refine wpAny_bind (collect_list hl ?_ (by rw [sizeLine_eq]; lia))
  refine wpAny_bind (wpAny_newList ?_ (by rw [sizeLine_eq]; lia))
  have hsz : ((s.heap.push (seqObj "list" #[] 0)).update s.heap.objs.size (Obj.mapSeq (· ++ vs.toArray))).objs.size = s.heap.objs.size + 1 := by
    rw [Heap.size_update, size_push']
  have hoL : (((s.heap.push (seqObj "list" #[] 0)).update s.heap.objs.size (Obj.mapSeq (· ++ vs.toArray))).push (seqObj "list" vs.toArray 0)).get? (s.heap.objs.size + 1) = some (seqObj "list" vs.toArray 0) := by
    rw [← hsz]; exact Heap.get?_push_size _ rfl
  have keep : ∀ b o, s.heap.get? b = some o → (((s.heap.push (seqObj "list" #[] 0)).update s.heap.objs.size (Obj.mapSeq (· ++ vs.toArray))).push (seqObj "list" vs.toArray 0)).get? b = some o := fun b o q => by
    have hlt : b < s.heap.objs.size := Heap.lt_size q
    rw [Heap.get?_push_ne _ _ _ (by rw [hsz]; exact Nat.ne_of_lt (Nat.lt_succ_of_lt hlt)), Heap.get?_update_ne _ _ _ _ (Nat.ne_of_lt hlt), Heap.get?_push_ne _ _ _ (Nat.ne_of_lt hlt)]
    exact q
  show wpAny _ _ _ _ _ { s with heap := ((s.heap.push (seqObj "list" #[] 0)).update s.heap.objs.size (Obj.mapSeq (· ++ vs.toArray))).push (seqObj "list" vs.toArray 0) }
  rw [hsz]
  refine wpAny_bind (wpAny_holding (wpAny_call_entry slot_list_sort ⟨_, hoL, rfl⟩ entry_list_sort
    (list_sort_pairs (s := { s with heap := ((s.heap.push (seqObj "list" #[] 0)).update s.heap.objs.size (Obj.mapSeq (· ++ vs.toArray))).push (seqObj "list" vs.toArray 0) }) hoL ?_
      (hp.mono fun x its m ht => ht.at fun o => keep _ o) h3 h6 fun tk => ⟨_, rfl, ?_⟩) (args_list_sort _)))
  · intro m
    exact Nat.not_lt.mpr (Nat.le_succ _) (hlt _ m)
  · exact wpAny_pure ⟨_, rfl, h tk⟩
theorem allPairs_at : ∀ {ds : List D} {ps : List (Int × Int)} {h : Heap} {vs : List Value}, allPairs ds = some ps → Ats h X vs ds → PairsAt h vs ps
  | [], ps, h, vs, e, x => by
    dsimp only [allPairs] at e; cases e
    dsimp only [Ats] at x; subst x
    exact trivial
  | d :: ds, ps, h, vs, e, x => by
    dsimp only [allPairs] at e
    refine bnd e ?_; clear e; intro p hd e
    refine mpd e ?_; clear e; intro l hl e
    cases e
    dsimp only [Ats] at x
    refine x2_3 x fun v vs' hr2 h1 h2 => ?_; subst hr2
    refine ⟨?_, allPairs_at hl h2⟩
    have e := pairI_inv hd
    subst e
    obtain ⟨a, vs, rfl, _, ht, _, hs⟩ := at_tupI h1
    refine x2_3 (ats_two (s := ⟨h, #[], {}, 0, {}⟩) hs) fun v1 v2 hr2 x1 x2 => ?_; subst hr2
    refine x1_1 (at_int.mp x1) fun t hr1 => ?_; subst hr1; obtain ⟨u, rfl⟩ := at_int.mp x2
    exact ⟨_, t, u, rfl, ht⟩
theorem ats_map {h : Heap} {vs : List Value} {ds : List D} (x : Ats h X vs ds) : ∀ (is : List Nat), (∀ i ∈ is, i < ds.length) → Ats h X (is.map fun i => vs.getD i Value.none) (is.map fun i => ds.getD i .non)
  | [], _ => Ats.nil
  | i :: is, hi => by
    have h1 := hi i List.mem_cons_self
    refine x1_2 (x.get (List.getElem?_eq_getElem h1)) fun v hv ha => ?_
    refine Ats.cons ?_ (ats_map x is fun j hj => hi j (List.mem_cons_of_mem _ hj))
    show At h X (vs.getD i Value.none) (ds.getD i .non)
    rw [List.getD_eq_getElem?_getD, List.getD_eq_getElem?_getD, hv, List.getElem?_eq_getElem h1]
    exact ha
noncomputable def kasOut (n : Nat) : KasT (Array Nat) → Bool
  | .ret a => decide (a.size = n) && a.all fun i => decide (i < n)
  | .ask _ _ k => kasOut n (k true) && kasOut n (k false)
theorem kas_out3 : kasOut 3 (kas_sort 3) = true := by decide +kernel
theorem kas_out4 : kasOut 4 (kas_sort 4) = true := by decide +kernel
theorem kas_out5 : kasOut 5 (kas_sort 5) = true := by decide +kernel
theorem kas_out6 : kasOut 6 (kas_sort 6) = true := by decide +kernel
theorem kas_out {n : Nat} (h3 : 3 ≤ n) (h6 : n ≤ 6) : kasOut n (kas_sort n) = true := by
  have : n = 3 ∨ n = 4 ∨ n = 5 ∨ n = 6 := by lia
  rcases this with rfl | rfl | rfl | rfl
  · exact kas_out3
  · exact kas_out4
  · exact kas_out5
  · exact kas_out6
theorem kas_out_run {n : Nat} {c : Nat → Nat → Bool} : ∀ {t : KasT (Array Nat)}, kasOut n t = true → ∀ i ∈ (kasRun c t).toList, i < n
  | .ret a, h, i, hi => by
    delta kasOut at h
    rw [Bool.and_eq_true] at h
    dsimp only [kasRun] at hi
    have := Array.all_eq_true'.mp h.2 i (by simpa using hi)
    simpa using this
  | .ask i j k, h, m, hm => by
    unfold kasOut at h
    rw [Bool.and_eq_true] at h
    dsimp only [kasRun] at hm
    refine kas_out_run (t := k (c i j)) ?_ m hm
    cases c i j
    · exact h.2
    · exact h.1
theorem At.live {h : Heap} {x : Addr} {d : D} (a : At h X (.ref x) d) : x < h.objs.size := by
  cases d with
  | non => cases at_non.mp a
  | bool b => cases at_bool.mp a
  | int i => obtain ⟨t, e⟩ := at_int.mp a; cases e
  | str i => obtain ⟨⟨t, e⟩, _⟩ := at_str.mp a; cases e
  | flt i => obtain ⟨t, e⟩ := at_flt.mp a; cases e
  | list l => obtain ⟨b, vs, e, _, ⟨o, ho, _⟩, _⟩ := at_listI a; cases e; exact Heap.lt_size ho
  | tup l => obtain ⟨b, vs, e, _, ⟨o, ho, _⟩, _⟩ := at_tupI a; cases e; exact Heap.lt_size ho
  | obj b => obtain ⟨e, _, o, ho, _⟩ := at_obj.mp a; cases e; exact Heap.lt_size ho
theorem kas_out_size {n : Nat} {c : Nat → Nat → Bool} : ∀ {t : KasT (Array Nat)}, kasOut n t = true → (kasRun c t).size = n
  | .ret a, h => by
    delta kasOut at h
    rw [Bool.and_eq_true] at h
    exact of_decide_eq_true h.1
  | .ask i j k, h => by
    unfold kasOut at h
    rw [Bool.and_eq_true] at h
    refine kas_out_size (t := k (c i j)) ?_
    cases c i j
    · exact h.2
    · exact h.1
theorem asorted_sound {s : Shared} {d1 d : D} {v1 : Value} (S : St Z X s) (h1 : At s.heap X v1 d1) (h : asorted d1 = some d) : Gives Z X A s (call (.builtin "sorted") [v1]) d := by
  delta asorted at h
  split at h
  · rename_i l
    obtain ⟨a, vs, rfl, _, hl, hn, hs⟩ := at_listI h1
    refine bnd h ?_; clear h; intro ps hps h
    refine bfd h ?_; clear h; intro hb h
    rw [← Option.some.inj h]
    simp only [Bool.and_eq_true, decide_eq_true_eq] at hb
    have hlen := hs.length
    have hpa := allPairs_at hps hs
    obtain ⟨items⟩ := vs
    simp only at hs hlen hpa
    have hsz := kas_out_size (c := fun i j => ltPair (ps.getD i (0, 0)) (ps.getD j (0, 0))) (kas_out hb.1 hb.2)
    have hmem := kas_out_run (c := fun i j => ltPair (ps.getD i (0, 0)) (ps.getD j (0, 0))) (kas_out hb.1 hb.2)
    have cs := fun Q h => call_sorted (Z := Z) (A := A) (Q := Q) hl hpa (by lia) (by lia) (fun x m => by obtain ⟨d, _, ha⟩ := ats_mem hs _ m; exact At.live ha) h
    rw [hlen] at cs
    generalize kasRun (fun i j => ltPair (ps.getD i (0, 0)) (ps.getD j (0, 0))) (kas_sort l.length) = out at hsz hmem cs
    refine cs _ fun tk => ⟨Kp.of_heap fun b o e => sortedAll_old e, at_listM ⟨_, List.toArray (out.toList.map fun i => items.getD i Value.none), rfl, ?_, ?_, ?_, ?_⟩⟩
    · intro hx
      refine x1_1 (S.live _ hx) fun o ho => ?_
      exact Nat.not_lt.mpr (Nat.le_succ _) (Heap.lt_size ho)
    · refine x1_1 (sortedAll_at s.heap items (List.toArray (out.toList.map fun i => items.getD i Value.none))) fun e he => ?_
      exact ⟨_, he, rfl, _, rfl⟩
    · rw [List.length_map, Array.length_toList, hsz]; exact hn
    · exact Ats.mono (fun _ x => x) (fun b o _ e => sortedAll_old e) _ _ (ats_map hs _ hmem)
  · exact ofNone h
end
end Mine
namespace Mine
open PySem PySem.W PyProof.Rows PySem.SeqAt
structure Chg (Z : Par) (W : Addr → Prop) (s s' : Shared) : Prop where
  os : s'.os = s.os
  gens : AllBare s.gens → AllBare s'.gens
  keep : ∀ b o, ¬ Z.T b → ¬ W b → s.heap.get? b = some o → s'.heap.get? b = some o
  J : Z.J s.heap → Z.J s'.heap
  live : ∀ b, W b → (∃ o, s.heap.get? b = some o) → ∃ o, s'.heap.get? b = some o
section
variable {Z : Par} {X : Addr → Prop} {A : Around}
theorem Chg.of_kp {W : Addr → Prop} {s s' : Shared} (k : Kp Z s s') (hJ : Z.J s.heap) : Chg Z W s s' :=
  ⟨k.os, k.gens, fun b o n _ e => k.keep b o n e, k.J, fun b _ ⟨o, ho⟩ => by
    by_cases hT : Z.T b
    · exact Z.JT _ (k.J hJ) b hT
    · exact ⟨o, k.keep b o hT ho⟩⟩
theorem Chg.refl {W : Addr → Prop} (s : Shared) : Chg Z W s s := ⟨rfl, id, fun _ _ _ _ e => e, id, fun _ _ h => h⟩
theorem Chg.trans {W : Addr → Prop} {s t u : Shared} (a : Chg Z W s t) (b : Chg Z W t u) : Chg Z W s u :=
  ⟨b.os.trans a.os, fun g => b.gens (a.gens g), fun x o n m e => b.keep x o n m (a.keep x o n m e), fun j => b.J (a.J j), fun x w l => b.live x w (a.live x w l)⟩
theorem Chg.mono {W V : Addr → Prop} {s s' : Shared} (a : Chg Z W s s') (hJ : Z.J s.heap) (h : ∀ b, W b → V b) : Chg Z V s s' :=
  ⟨a.os, a.gens, fun x o n m e => a.keep x o n (fun w => m (h x w)) e, a.J, fun x v l => by
    by_cases hw : W x
    · exact a.live x hw l
    · refine x1_1 l fun o ho => ?_
      by_cases hT : Z.T x
      · exact Z.JT _ (a.J hJ) x hT
      · exact ⟨o, a.keep x o hT hw ho⟩⟩
theorem Chg.after {W : Addr → Prop} {s t u : Shared} (k : Kp Z s t) (a : Chg Z W t u) (h : ∀ b, W b → s.heap.get? b = none) : Kp Z s u :=
  ⟨a.os.trans k.os, fun g => a.gens (k.gens g), fun b o n e => a.keep b o n (fun w => by rw [h b w] at e; cases e) (k.keep b o n e), fun j => a.J (k.J j)⟩
theorem St.chg {W : Addr → Prop} {s s' : Shared} (S : St Z X s) (c : Chg Z W s s') (h : ∀ b, W b → X b) : St Z X s' :=
  ⟨fun b o n e => c.keep b o n (fun w => by
      rcases S.nb b (h b w) with t | t
      · exact n t
      · rw [t] at e; cases e) (S.base b o n e), c.J S.J, fun a x => by
    by_cases hw : W a
    · exact c.live a hw (S.live a x)
    · refine x1_1 (S.live a x) fun o ho => ?_
      by_cases hT : Z.T a
      · exact Z.JT _ (c.J S.J) a hT
      · exact ⟨o, c.keep a o hT hw ho⟩, S.tx, S.nb⟩
theorem At.chg {W : Addr → Prop} {s s' : Shared} (S : St Z X s) (c : Chg Z W s s') (h : ∀ b, W b → X b) {v : Value} {d : D} (a : At s.heap X v d) : At s'.heap X v d :=
  At.mono (fun _ x => x) (fun b o n e => c.keep b o (fun t => n (S.tx b t)) (fun w => n (h b w)) e) d v a
theorem Ats.chg {W : Addr → Prop} {s s' : Shared} (S : St Z X s) (c : Chg Z W s s') (h : ∀ b, W b → X b) {v : List Value} {d : List D} (a : Ats s.heap X v d) : Ats s'.heap X v d :=
  Ats.mono (fun _ x => x) (fun b o n e => c.keep b o (fun t => n (S.tx b t)) (fun w => n (h b w)) e) d v a
theorem Chg.one {s : Shared} {a : Addr} {h' : Heap} {tk : Nat} (hT : ¬ Z.T a) (hs : Heap.SameBut a s.heap h') (hl : ∃ o, h'.get? a = some o) : Chg Z (fun b => b = a) s { s with heap := h', toks := tk } :=
  ⟨rfl, id, fun b o _ n e => (hs.2 b n).trans e, Z.Jk _ _ fun b o t e => (hs.2 b (fun q => hT (q ▸ t))).trans e, fun b e _ => by rw [e]; exact hl⟩
theorem ns_unique {h : Heap} {a : Addr} {m m' : Str' → Option Value} (x : h.Ns a m) (y : h.Ns a m') : m = m' := by
  refine x3_4 x fun o es ep ho hd _ hf => ?_
  refine x3_4 y fun o' es' ep' ho' hd' _ hf' => ?_
  rw [ho] at ho'; cases ho'
  rw [hd] at hd'; cases hd'
  funext n
  rw [← hf, ← hf']
structure FrmOk (Z : Par) (X : Addr → Prop) (h : Heap) (env : Env) (sc : Scope) (vars : Vars) : Prop where
  en : EnvOk Z X h env ⟨sc, vars⟩
  ns : ∃ m, h.Ns env.locals m
  lx : X env.locals
  cx : ∀ x c, env.cells.lookup x = some c → sc.names.lookup x = some .cell → X c
  cv : ∀ x c, env.cells.lookup x = some c → sc.names.lookup x = some .cell → ∃ v, h.IsCell c v
  ap : ∀ x y c, env.cells.lookup x = some c → sc.names.lookup x = some .cell → env.cells.lookup y = some c → x = y
  la : ∀ x c, env.cells.lookup x = some c → c ≠ env.locals
  kc : ∀ x, sc.names.lookup x = some .cell → env.kindOf x = some .cell
theorem look_cons {sc : Scope} {vs : Vars} {x y : Str'} {d d' : D} (h : AE.look ⟨sc, (x, d) :: vs⟩ y = some d') : (y = x ∧ d' = d) ∨ (y ≠ x ∧ AE.look ⟨sc, vs⟩ y = some d') := by
  have e0 : ∀ k, (match (some k : Option NameKind) with
    | some .local => ((x, d) :: vs : Vars).lookup y
    | some .cell => ((x, d) :: vs : Vars).lookup y
    | some .free => ((x, d) :: vs : Vars).lookup y
    | _ => none) = some d' → ((x, d) :: vs : Vars).lookup y = some d' := fun k hh => by cases k <;> first | exact hh | cases hh
  unfold AE.look at h ⊢
  dsimp only at h ⊢
  cases hk : sc.names.lookup y with
  | none => rw [hk] at h; exact ofNone h
  | some k =>
    rw [hk] at h
    have h2 := e0 k h
    by_cases e : y = x
    · subst e
      left
      rw [List.lookup_cons, beq_self_eq_true] at h2
      exact ⟨rfl, (Option.some.inj h2).symm⟩
    · right
      refine ⟨e, ?_⟩
      have hb : (y == x) = false := by simpa using e
      rw [List.lookup_cons, hb] at h2
      cases k <;> first | exact h2 | (exact absurd h (by intro q; cases q))
theorem FrmOk.chg {W : Addr → Prop} {s s' : Shared} {env : Env} {sc : Scope} {vars : Vars} (S : St Z X s) (F : FrmOk Z X s.heap env sc vars) (c : Chg Z W s s') (hW : ∀ b, W b → X b)
    (hl : ¬ W env.locals) (hc : ∀ x a, env.cells.lookup x = some a → ¬ W a) : FrmOk Z X s'.heap env sc vars := by
  have tl := F.en.tl
  have tc := F.en.tc
  have kl : ∀ o, s.heap.get? env.locals = some o → s'.heap.get? env.locals = some o := fun o => c.keep _ o tl hl
  have kc : ∀ x a, env.cells.lookup x = some a → ∀ o, s.heap.get? a = some o → s'.heap.get? a = some o := fun x a e o => c.keep _ o (tc x a e) (hc x a e)
  refine { F with en := { F.en with var := ?_, cal := fun x a e => let ⟨o, ho⟩ := F.en.cal x a e; ⟨o, kc x a e o ho⟩ }, ns := ?_, cv := ?_ }
  · intro x d h
    refine x1_2 (F.en.var x d h) fun v l a => ?_
    refine ⟨v, ?_, a.chg S c hW⟩
    rcases l with ⟨a1, m, hn, hm⟩ | ⟨a1, q, hq, o, ho, hd⟩
    · exact .inl ⟨a1, m, hn.at' kl, hm⟩
    · exact .inr ⟨a1, q, hq, o, kc x q hq o ho, hd⟩
  · refine x1_1 (F.ns) fun m hn => ?_
    exact ⟨m, hn.at' kl⟩
  · intro x a e e2
    refine x2_2 (F.cv x a e e2) fun v o ho hd => ?_
    exact ⟨v, o, kc x a e o ho, hd⟩
theorem store_sound {s : Shared} {env : Env} {sc : Scope} {vars : Vars} {x : Str'} {v : Value} {d : D} {Q : Unit → Shared → Prop} (S : St Z X s) (F : FrmOk Z X s.heap env sc vars)
    (hv : At s.heap X v d) (hx : isStored (sc.names.lookup x) = true)
    (h : ∀ s', Chg Z (fun b => b = env.locals ∨ ∃ y, sc.names.lookup y = some .cell ∧ env.cells.lookup y = some b) s s' → FrmOk Z X s'.heap env sc ((x, d) :: vars) → Q () s') :
    wpAny (model Z.prog Z.w) A (storeName env x v) Q (fun _ _ => False) s := by
  have hX : ∀ b, (b = env.locals ∨ ∃ y, sc.names.lookup y = some .cell ∧ env.cells.lookup y = some b) → X b := by
    rintro b (rfl | ⟨y, h1, h2⟩)
    · exact F.lx
    · exact F.cx y b h2 h1
  refine x1_1 (F.ns) fun m hm => ?_
  have tl := F.en.tl
  cases hk : sc.names.lookup x with
  | none => rw [hk] at hx; cases hx
  | some k =>
    rw [hk] at hx
    cases k with
    | «local» =>
      refine wpAny_storeName_local (F.en.loc x hk) hm (fun h' hn hs => ?_) (by rw [F.en.kind]; rfl)
      have c1 : Chg Z (fun b => b = env.locals) s { s with heap := h', toks := s.toks + 1 } := Chg.one tl hs (by obtain ⟨o, es, ep, ho, _⟩ := hn; exact ⟨o, ho⟩)
      have hX1 : ∀ b, b = env.locals → X b := fun b e => by rw [e]; exact F.lx
      refine h _ (c1.mono S.J fun b e => .inl e) { F with en := { F.en with var := ?_, cal := fun y c e => let ⟨o, ho⟩ := F.en.cal y c e; ⟨o, (hs.2 c (F.la y c e)).trans ho⟩ }, ns := ⟨_, hn⟩, cv := ?_ }
      · intro y d' hy
        rcases look_cons hy with ⟨rfl, rfl⟩ | ⟨hne, hy⟩
        · exact ⟨v, .inl ⟨F.en.loc y hk, _, hn, by simp⟩, hv.chg S c1 hX1⟩
        · refine x1_2 (F.en.var y d' hy) fun w l a => ?_
          refine ⟨w, ?_, a.chg S c1 hX1⟩
          rcases l with ⟨a1, m1, hn1, hm1⟩ | ⟨a1, q, hq, o, ho, hd⟩
          · refine .inl ⟨a1, _, hn, ?_⟩
            have := ns_unique hn1 hm
            subst this
            simp [hne, hm1]
          · exact .inr ⟨a1, q, hq, o, (hs.2 q (F.la y q hq)).trans ho, hd⟩
      · intro y c hc hc2
        refine x2_2 (F.cv y c hc hc2) fun w o ho hd => ?_
        exact ⟨w, o, (hs.2 c (F.la y c hc)).trans ho, hd⟩
    | cell =>
      obtain ⟨hkind, c, hc⟩ := F.en.cel x (.inl hk)
      refine x1_1 (F.cv x c hc hk) fun v0 hcell => ?_
      refine wpAny_storeName_cell F.en.kind (F.kc x hk) hc hcell fun h' hc' hs => ?_
      have c1 : Chg Z (fun b => b = c) s { s with heap := h', toks := s.toks } := Chg.one (F.en.tc x c hc) hs (by obtain ⟨o, ho, _⟩ := hc'; exact ⟨o, ho⟩)
      have hX1 : ∀ b, b = c → X b := fun b e => by rw [e]; exact F.cx x c hc hk
      refine h _ (c1.mono S.J fun b e => .inr ⟨x, hk, by rw [e]; exact hc⟩) { F with en := { F.en with var := ?_, cal := ?_ }, ns := ⟨m, hm.at' fun o e => (hs.2 _ (fun q => F.la x c hc q.symm)).trans e⟩, cv := ?_ }
      · intro y d' hy
        rcases look_cons hy with ⟨rfl, rfl⟩ | ⟨hne, hy⟩
        · exact ⟨v, .inr ⟨hkind, c, hc, hc'⟩, hv.chg S c1 hX1⟩
        · refine x1_2 (F.en.var y d' hy) fun w l a => ?_
          refine ⟨w, ?_, a.chg S c1 hX1⟩
          rcases l with ⟨a1, m1, hn1, hm1⟩ | ⟨a1, q, hq, o, ho, hd⟩
          · exact .inl ⟨a1, m1, hn1.at' fun o e => (hs.2 _ (fun q => F.la x c hc q.symm)).trans e, hm1⟩
          · exact .inr ⟨a1, q, hq, o, (hs.2 q (fun e => hne (F.ap x y c hc hk (e ▸ hq)).symm)).trans ho, hd⟩
      · intro y q hq
        by_cases e : q = c
        · rw [e]; obtain ⟨o, ho, _⟩ := hc'; exact ⟨o, ho⟩
        · refine x1_1 (F.en.cal y q hq) fun o ho => ?_
          exact ⟨o, (hs.2 q e).trans ho⟩
      · intro y q hq hq2
        by_cases e : q = c
        · rw [e]; exact ⟨_, hc'⟩
        · refine x2_2 (F.cv y q hq hq2) fun w o ho hd => ?_
          exact ⟨w, o, (hs.2 q e).trans ho, hd⟩
    | _ => cases hx
end
end Mine
namespace Mine
open PySem PySem.W PyProof.Rows PySem.SeqAt
section
variable {Z : Par} {X : Addr → Prop} {A : Around}
noncomputable def Own (env : Env) (sc : Scope) (b : Addr) : Prop := b = env.locals ∨ ∃ y, sc.names.lookup y = some .cell ∧ env.cells.lookup y = some b
theorem FrmOk.own {h : Heap} {env : Env} {sc : Scope} {vars : Vars} (F : FrmOk Z X h env sc vars) : ∀ b, Own env sc b → X b := by
  rintro b (rfl | ⟨y, h1, h2⟩)
  · exact F.lx
  · exact F.cx y b h2 h1
theorem FrmOk.kp {s s' : Shared} {env : Env} {sc : Scope} {vars : Vars} (S : St Z X s) (F : FrmOk Z X s.heap env sc vars) (k : Kp Z s s') : FrmOk Z X s'.heap env sc vars :=
  F.chg (W := fun _ => False) S (Chg.of_kp k S.J) (fun _ h => h.elim) (fun h => h) (fun _ _ _ h => h)
theorem assign_name {s : Shared} {env : Env} {sc : Scope} {vars : Vars} {x : Str'} {p : Pos} {v : Value} {d : D} {Q : Unit → Shared → Prop} (S : St Z X s) (F : FrmOk Z X s.heap env sc vars)
    (hv : At s.heap X v d) (hx : isStored (sc.names.lookup x) = true) (h : ∀ s', Chg Z (Own env sc) s s' → FrmOk Z X s'.heap env sc ((x, d) :: vars) → Q () s') :
    wpAny (model Z.prog Z.w) A (assign (.Name x p) env v) Q (fun _ _ => False) s :=
  wpAny_assign_Name (store_sound S F hv hx h)
theorem in_order {env : Env} {sc : Scope} : ∀ (ts : List Expr) (ds : List D) (bs : Vars), zipNames ts ds = some bs → bs.all (fun p => isStored (sc.names.lookup p.1)) = true →
    ∀ (vs : List Value) (s : Shared) (vars : Vars) (Q : Unit → Shared → Prop), St Z X s → FrmOk Z X s.heap env sc vars → Ats s.heap X vs ds →
    (∀ s', Chg Z (Own env sc) s s' → FrmOk Z X s'.heap env sc (setAll vars bs) → Q () s') →
    wpAny (model Z.prog Z.w) A (assignInOrder ((assignEach ts env).map (·.2)) vs) Q (fun _ _ => False) s
  | [], [], bs, h, _, vs, s, vars, Q, S, F, a, hq => by
    cases h
    cases (show vs = [] by simpa only [Ats] using a)
    exact wpAny_pure (hq s (Chg.refl s) F)
  | [], _ :: _, bs, h, _, _, _, _, _, _, _, _, _ => ofNone h
  | _ :: _, [], bs, h, _, _, _, _, _, _, _, _, _ => ofNone h
  | t :: ts, d :: ds, bs, h, hb, vs, s, vars, Q, S, F, a, hq => by
    refine bnd h fun x hx h => mpd h fun r hz hF => ?_
    refine x1_1 (nameOf_inv hx) fun p hr1 => ?_; subst hr1
    subst hF
    have hb := Bool.and_eq_true_iff.mp hb
    simp only [Ats] at a
    refine x2_3 a fun v vs' hr2 h1 h2 => ?_; subst hr2
    exact wpAny_assignInOrder_more (assign_name S F h1 hb.1 fun s1 c1 F1 => in_order ts ds r hz hb.2 vs' s1 _ Q (S.chg c1 F.own) F1 (h2.chg S c1 F.own) fun s2 c2 F2 => hq s2 (c1.trans c2) F2)
theorem zip_len {env : Env} : ∀ (ts : List Expr) (ds : List D) (bs : Vars), zipNames ts ds = some bs → (assignEach ts env).length = ds.length ∧ (assignEach ts env).findIdx? (·.1) = none ∧ ts.length = ds.length
  | [], [], _, _ => ⟨rfl, rfl, rfl⟩
  | [], _ :: _, _, h => ofNone h
  | _ :: _, [], bs, h => ofNone h
  | t :: ts, d :: ds, bs, h => by
    refine bnd h fun x hx h => mpd h fun r hz _ => ?_
    refine x1_1 (nameOf_inv hx) fun p hr1 => ?_; subst hr1
    refine x0_3 (zip_len (env := env) ts ds r hz) fun a b c => ?_
    refine ⟨congrArg (· + 1) a, ?_, congrArg (· + 1) c⟩
    show ((false, assign (.Name x p) env) :: assignEach ts env : List (Bool × (Value → Sem Unit))).findIdx? (·.1) = none
    rw [List.findIdx?_cons, b]
    rfl
theorem ext_kp {s : Shared} {h' : Heap} (h : Heap.ExtBut s.heap.objs.size s.heap h') : Kp Z s { s with heap := h' } :=
  Kp.of_heap (tk := s.toks) fun b o e => h b o (Nat.ne_of_lt (Heap.lt_size e)) e
theorem assign_sound {s : Shared} {env : Env} {sc : Scope} {vars : Vars} {t : Expr} {v : Value} {d : D} {bs : Vars} {Q : Unit → Shared → Prop} (hh : A.handled = none) (S : St Z X s) (F : FrmOk Z X s.heap env sc vars)
    (hv : At s.heap X v d) (hb : abind t d = some bs) (hs : bs.all (fun p => isStored (sc.names.lookup p.1)) = true)
    (h : ∀ s', Chg Z (Own env sc) s s' → FrmOk Z X s'.heap env sc (setAll vars bs) → Q () s') :
    wpAny (model Z.prog Z.w) A (assign t env v) Q (fun _ _ => False) s := by
  cases t with
  | Name x p => cases hb; exact assign_name S F hv (Bool.and_eq_true_iff.mp hs).1 h
  | Tuple ts k p => cases d with
    | tup ds =>
      obtain ⟨a, vs, rfl, _, ht, _, hvs⟩ := at_tupI hv
      refine x0_3 (zip_len (env := env) ts ds bs hb) fun l1 l2 l3 => ?_
      have e1 := hvs.length
      rw [Array.length_toList] at e1
      refine wpAny_assign_Tuple hh ht (by rw [l1, e1]) l2 fun h' he => ?_
      have k1 := ext_kp (Z := Z) he
      exact in_order ts ds bs hb hs _ _ vars Q (S.kp k1) (F.kp S k1) (hvs.kp S k1) fun s' c F' => h s' ((Chg.of_kp k1 S.J).trans c) F'
    | _ => exact ofNone hb
  | _ => exact ofNone hb
end
end Mine
namespace Mine
open PySem PySem.W PyProof.Rows PySem.SeqAt
noncomputable def clos (env : Env) : List (Str' × NameKind) → List (Str' × Addr) → List (Str' × Addr)
  | [], acc => acc
  | (n, k) :: r, acc => clos env r (bif k == .free then (n, (env.cells.lookup n).getD 0) :: acc else acc)
theorem closureFor_eq {scope : Scope} {env : Env} (h : ∀ p ∈ scope.names, p.2 = .free → ∃ c, env.cells.lookup p.1 = some c) : closureFor scope env = pure (clos env scope.names []) := by
  unfold closureFor
  have key : ∀ (l : List (Str' × NameKind)) (acc : List (Str' × Addr)), (∀ p ∈ l, p.2 = .free → ∃ c, env.cells.lookup p.1 = some c) →
      (forIn l acc fun x r => (match x with
        | (name, kind) => if (kind == NameKind.free) = true then do let __do_lift ← cellOf env name; pure (ForInStep.yield ((name, __do_lift) :: r)) else pure (ForInStep.yield r) : Sem (ForInStep (List (Str' × Addr))))) = pure (clos env l acc) := by
    intro l
    induction l with
    | nil => intro acc _; rfl
    | cons p r ih =>
      intro acc hp
      obtain ⟨n, k⟩ := p
      rw [List.forIn_cons]
      have ih' := fun acc => ih acc fun q hq => hp q (List.mem_cons_of_mem _ hq)
      by_cases hk : (k == NameKind.free) = true
      · have hk' : k = .free := by simpa using hk
        obtain ⟨c, hc⟩ := hp (n, k) List.mem_cons_self hk'
        dsimp only [hk, if_true]
        unfold cellOf
        simp only [hc]
        unfold clos
        rw [hk, hc]
        exact ih' _
      · dsimp only [hk]
        unfold clos
        have : (k == NameKind.free) = false := by simpa using hk
        rw [this]
        exact ih' _
  have := key scope.names [] h
  simp only [bind_pure]
  exact this
theorem clos_lookup {env : Env} : ∀ (l : List (Str' × NameKind)) (acc : List (Str' × Addr)) (x : Str'), ((x, NameKind.free) ∈ l ∨ acc.lookup x = some ((env.cells.lookup x).getD 0)) → (clos env l acc).lookup x = some ((env.cells.lookup x).getD 0)
  | [], acc, x, h => by
    rcases h with h | h
    · cases h
    · exact h
  | (n, k) :: r, acc, x, h => by
    unfold clos
    refine clos_lookup r _ x ?_
    by_cases hr : (x, NameKind.free) ∈ r
    · exact .inl hr
    · right
      rcases h with h | h
      · rcases List.mem_cons.mp h with e | h
        · cases e
          simp [List.lookup_cons]
        · exact absurd h hr
      · cases hk : (k == NameKind.free) with
        | false => exact h
        | true =>
          show List.lookup x ((n, (env.cells.lookup n).getD 0) :: acc) = _
          rw [List.lookup_cons]
          by_cases e : x = n
          · subst e; simp
          · have : (x == n) = false := by simpa using e
            rw [this]; exact h
theorem clos_mem {env : Env} : ∀ (l : List (Str' × NameKind)) (acc : List (Str' × Addr)) (x : Str') (c : Addr), (clos env l acc).lookup x = some c → (x, NameKind.free) ∈ l ∨ acc.lookup x = some c
  | [], acc, x, c, h => .inr h
  | (n, k) :: r, acc, x, c, h => by
    unfold clos at h
    rcases clos_mem r _ x c h with h2 | h2
    · exact .inl (List.mem_cons_of_mem _ h2)
    · clear h
      cases hk : (k == NameKind.free) with
      | false => rw [hk] at h2; exact .inr h2
      | true =>
        rw [hk] at h2
        have hk' : k = .free := by simpa using hk
        subst hk'
        change List.lookup x ((n, (env.cells.lookup n).getD 0) :: acc) = _ at h2
        rw [List.lookup_cons] at h2
        by_cases e : x = n
        · subst e; exact .inl List.mem_cons_self
        · have : (x == n) = false := by simpa using e
          rw [this] at h2; exact .inr h2
theorem cellsFrom_app : ∀ (l : List (Str' × NameKind)) (n : Nat) (acc : List (Str' × Addr)), cellsFrom n l acc = cellsFrom n l [] ++ acc
  | [], _, _ => rfl
  | (x, k) :: r, n, acc => by
    unfold cellsFrom
    split
    · rw [cellsFrom_app r (n + 1) ((x, n) :: acc), cellsFrom_app r (n + 1) [(x, n)], List.append_assoc]; rfl
    · exact cellsFrom_app r n acc
theorem cellsFrom_mem : ∀ (l : List (Str' × NameKind)) (n : Nat) (acc : List (Str' × Addr)) (x : Str') (c : Addr), (x, c) ∈ cellsFrom n l acc → (x, NameKind.cell) ∈ l ∨ (x, c) ∈ acc
  | [], _, _, _, _, h => .inr h
  | (y, k) :: r, n, acc, x, c, h => by
    unfold cellsFrom at h
    split at h
    · rename_i hk
      have hk' : k = .cell := by simpa using hk
      subst hk'
      rcases cellsFrom_mem r _ _ x c h with h | h
      · exact .inl (List.mem_cons_of_mem _ h)
      · rcases List.mem_cons.mp h with e | h
        · cases e; exact .inl List.mem_cons_self
        · exact .inr h
    · rcases cellsFrom_mem r _ _ x c h with h | h
      · exact .inl (List.mem_cons_of_mem _ h)
      · exact .inr h
section
variable {M : Model} {A : Around} {E : Value → Shared → Prop} {s : Shared}
theorem newEnv_around {scope : Scope} {globals : Addr} {cl : List (Str' × Addr)} {qual : Str'} {outer : Env} {Q : Env → Shared → Prop}
    (h : Q { scope, locals := s.heap.objs.size, globals, cells := cellsFrom (s.heap.objs.size + 1) scope.names cl, qual, func := none, code := outer.code, frame := outer.frame, builtins := outer.builtins }
      { s with heap := pushCells (s.heap.push { cls := .type "dict", data := .dict #[] }) scope.names }) :
    wpAny M A (newFunctionEnv scope globals cl [] qual none .none (some outer)) Q E s := by
  simp only [newFunctionEnv, Option.isSome_some, if_true]
  refine wpAny_bind (wpAny_alloc ?_)
  refine wpAny_bind (wpAny_layCells _ (fun name kind cells => by cases hkc : kind == NameKind.cell <;> simp [hkc]) _ _ _ _ ?_)
  rw [show ({ s with heap := s.heap.push { cls := .type "dict", data := .dict #[] } } : Shared).heap.objs.size = s.heap.objs.size + 1 from Heap.size_push ..]
  exact wpAny_bind (wpAny_pure (wpAny_pure h))
end
theorem relabel_other {env : Env} {k : NameKind} (hk : k ≠ .free) : ∀ {names : List (Str' × NameKind)} {x : Str'}, names.lookup x = some k →
    (names.map fun (n, k) => if (k == NameKind.free && env.scope.kind == .function && env.kindOf n == some .cell) then (n, NameKind.cell) else (n, k)).lookup x = some k
  | [], _, h => by simp at h
  | (n, k') :: r, x, h => by
    show List.lookup x ((if (k' == NameKind.free && env.scope.kind == .function && env.kindOf n == some .cell) = true then (n, NameKind.cell) else (n, k')) :: _) = _
    cases hx : x == n with
    | true =>
      simp only [List.lookup_cons, hx] at h
      cases h
      have : (k == NameKind.free) = false := by simpa using hk
      simp [List.lookup_cons, hx, this]
    | false =>
      simp only [List.lookup_cons, hx] at h
      have ih := relabel_other (env := env) hk h
      by_cases hc : (k' == NameKind.free && env.scope.kind == .function && env.kindOf n == some .cell) = true
      · rw [if_pos hc]; simp only [List.lookup_cons, hx]; exact ih
      · rw [if_neg hc]; simp only [List.lookup_cons, hx]; exact ih
theorem relabel_free {env : Env} : ∀ {names : List (Str' × NameKind)} {x : Str'}, names.lookup x = some .free →
    (names.map fun (n, k) => if (k == NameKind.free && env.scope.kind == .function && env.kindOf n == some .cell) then (n, NameKind.cell) else (n, k)).lookup x = some .cell ∨
    (names.map fun (n, k) => if (k == NameKind.free && env.scope.kind == .function && env.kindOf n == some .cell) then (n, NameKind.cell) else (n, k)).lookup x = some .free
  | [], _, h => by simp at h
  | (n, k') :: r, x, h => by
    show List.lookup x ((if (k' == NameKind.free && env.scope.kind == .function && env.kindOf n == some .cell) = true then (n, NameKind.cell) else (n, k')) :: _) = _ ∨
      List.lookup x ((if (k' == NameKind.free && env.scope.kind == .function && env.kindOf n == some .cell) = true then (n, NameKind.cell) else (n, k')) :: _) = _
    cases hx : x == n with
    | true =>
      simp only [List.lookup_cons, hx] at h
      cases h
      by_cases hc : (NameKind.free == NameKind.free && env.scope.kind == .function && env.kindOf n == some .cell) = true
      · rw [if_pos hc]; left; simp [List.lookup_cons, hx]
      · rw [if_neg hc]; right; simp [List.lookup_cons, hx]
    | false =>
      simp only [List.lookup_cons, hx] at h
      have ih := relabel_free (env := env) h
      by_cases hc : (k' == NameKind.free && env.scope.kind == .function && env.kindOf n == some .cell) = true
      · rw [if_pos hc]; simp only [List.lookup_cons, hx]; exact ih
      · rw [if_neg hc]; simp only [List.lookup_cons, hx]; exact ih
section
variable {prog : Program} {w : World} {A : Around} {R : Result → Shared → Prop} {s : Shared}
theorem compLoop_go {elt target iter : Expr} {ifs : List Expr} {scope : Scope} {pos : Pos} {it acc : Value} {env : Env} (I : Nat → Shared → Prop)
    (turn : ∀ n s, I n s → wpAny (model prog w) A (pyNext it) (fun r s₁ => match r with
      | none => R (.ok .next) s₁
      | some v => wpAny (model prog w) A (letOwnedTupleGo target it v) (fun _ s₁' => wpAny (model prog w) A (assign target env v) (fun _ s₂ =>
          wpAny (model prog w) A (forIn ifs true fun c r => if r = true then do let ok ← isTrue c env (eval c env); pure (ForInStep.yield ok) else pure (ForInStep.yield r)) (fun ok s₃ =>
            if ok = true then wpAny (model prog w) A (eval elt env) (fun x s₄ =>
              wpAny (model prog w) A (call (.builtin "list.append") [acc, x]) (fun _ s₅ => ∃ m, m < n ∧ I m s₅) (fun _ _ => False) s₄) (fun _ _ => False) s₃
            else ∃ m, m < n ∧ I m s₃) (fun _ _ => False) s₂) (fun _ _ => False) s₁') (fun _ _ => False) s₁) (fun _ _ => False) s)
    (n : Nat) (h : I n s) : codeAny (model prog w) A (.compLoop (.ListComp elt [⟨target, iter, ifs, 0⟩] scope pos) 0 it acc env) R s := by
  refine codeAny_loop rfl I (fun n s hI => ?_) n h
  show wpAny _ A ((compTurn (.ListComp elt [⟨target, iter, ifs, 0⟩] scope pos) 0 it acc env).onRaise (fun x => do noteFrame x env; theTreesLotGoes x)) _ _ s
  refine wpAny_noted ?_
  rw [compTurn_list]
  have ex : ∀ (e : Value) (s : Shared) (P : Prop), False → P := fun _ _ _ f => f.elim
  refine wpAny_bind (wpAny_standAt (wpAny_bind (wpAny_mono (turn n s hI) (fun r s₁ h₁ => ?_) fun _ _ f => f.elim)))
  cases r with
  | none => exact wpAny_pure h₁
  | some v =>
    refine wpAny_bind (wpAny_mono h₁ (fun _ s₁' h₁' => ?_) fun _ _ f => f.elim)
    refine wpAny_bind (wpAny_mono h₁' (fun _ s₂ h₂ => wpAny_bind (wpAny_mono h₂ (fun ok s₃ h₃ => ?_) fun _ _ f => f.elim)) fun _ _ f => f.elim)
    cases ok with
    | false => exact wpAny_pure ⟨rfl, h₃⟩
    | true =>
      exact wpAny_bind (wpAny_bind (wpAny_mono h₃ (fun x s₄ h₄ => wpAny_bind (wpAny_mono h₄ (fun _ s₅ h₅ => wpAny_pure (wpAny_pure ⟨rfl, h₅⟩)) fun _ _ f => f.elim)) fun _ _ f => f.elim))
end
end Mine
namespace Mine
open PySem PySem.W PyProof.Rows PySem.SeqAt
mutual
theorem At.grow {h h' : Heap} {X Y : Addr → Prop} (hX : ∀ a, Y a → X a ∨ h.get? a = none) (hk : ∀ a o, ¬ X a → h.get? a = some o → h'.get? a = some o) :
    ∀ (d : D) (v : Value), At h X v d → At h' Y v d
  | .non, v, x => by simp only [At] at x ⊢; exact x
  | .bool b, v, x => by simp only [At] at x ⊢; exact x
  | .int i, v, x => by simp only [At] at x ⊢; exact x
  | .str i, v, x => by simp only [At] at x ⊢; exact x
  | .flt i, v, x => by simp only [At] at x ⊢; exact x
  | .list l, v, x => by
    simp only [At] at x ⊢
    refine x2_5 x fun a vs e hx hl hn hs => ?_
    refine ⟨a, vs, e, fun y => ?_, hl.at fun o => hk a o hx, hn, Ats.grow hX hk l _ hs⟩
    rcases hX a y with q | q
    · exact hx q
    · refine x1_2 hl fun o ho _ => ?_; rw [q] at ho; exact ofNone ho
  | .tup l, v, x => by
    simp only [At] at x ⊢
    refine x2_5 x fun a vs e hx hl hn hs => ?_
    refine ⟨a, vs, e, fun y => ?_, hl.at fun o => hk a o hx, hn, Ats.grow hX hk l _ hs⟩
    rcases hX a y with q | q
    · exact hx q
    · refine x1_2 hl fun o ho _ => ?_; rw [q] at ho; exact ofNone ho
  | .obj a, v, x => by
    simp only [At] at x ⊢
    obtain ⟨e, hx, o, ho, hc⟩ := x
    refine ⟨e, fun y => ?_, o, hk a o hx ho, hc⟩
    rcases hX a y with q | q
    · exact hx q
    · rw [q] at ho; exact ofNone ho
theorem Ats.grow {h h' : Heap} {X Y : Addr → Prop} (hX : ∀ a, Y a → X a ∨ h.get? a = none) (hk : ∀ a o, ¬ X a → h.get? a = some o → h'.get? a = some o) :
    ∀ (ds : List D) (vs : List Value), Ats h X vs ds → Ats h' Y vs ds
  | [], vs, x => by simp only [Ats] at x ⊢; exact x
  | d :: ds, vs, x => by
    simp only [Ats] at x ⊢
    refine x2_3 x fun v vs' e h1 h2 => ?_
    exact ⟨v, vs', e, At.grow hX hk d v h1, Ats.grow hX hk ds vs' h2⟩
end
structure OkSc (outer inner : Scope) : Prop where
  kind : inner.kind = .function
  dbg : ∀ x k, inner.names.lookup x = some k → (x == ("__debug__" : Str')) = false ∧ (x == ("__classdict__" : Str')) = false
  loc : ∀ p ∈ inner.names, p.2 = .local → inner.names.lookup p.1 = some .local
  cel : ∀ x, (x, NameKind.cell) ∈ inner.names → inner.names.lookup x = some .cell
  fre : ∀ x, (x, NameKind.free) ∈ inner.names → inner.names.lookup x = some .free ∧ (outer.names.lookup x = some .cell ∨ outer.names.lookup x = some .free)
theorem ok_sc {outer inner : Scope} (h : okScope outer inner = true) : OkSc outer inner := by
  unfold okScope at h
  rw [Bool.and_eq_true] at h
  refine x0_2 h fun h1 h2 => ?_
  rw [List.all_eq_true] at h2
  refine ⟨eq_of_beq h1, fun x k hx => ?_, fun p hp hl => ?_, fun x hx => ?_, fun x hx => ?_⟩
  · have := h2 _ (mem_of_lookup hx)
    simp only [Bool.and_eq_true, Bool.not_eq_true'] at this
    exact this.1
  · have := h2 p hp
    simp only [Bool.and_eq_true] at this
    have := this.2
    rw [hl] at this
    simpa using this
  · have := h2 _ hx
    simp only [Bool.and_eq_true] at this
    simpa using this.2
  · have := h2 _ hx
    simp only [Bool.and_eq_true] at this
    have := this.2
    simpa using this
section
variable {Z : Par} {X : Addr → Prop} {A : Around}
theorem lookup_app {α : Type} {l m : List (Str' × α)} {x : Str'} : (l ++ m).lookup x = (l.lookup x).or (m.lookup x) := List.lookup_append
theorem inner_frame {s0 s3 : Shared} {env : Env} {ae : AE} {scope : Scope} (S0 : St Z X s0) (E0 : EnvOk Z X s0.heap env ae) (k : Kp Z s0 s3) (ok : OkSc ae.sc scope) (X' : Addr → Prop)
    (hfr : ∀ b, X' b → X b ∨ s0.heap.get? b = none) (hC : X' s3.heap.objs.size) (hcells : ∀ x c, (x, c) ∈ cellsFrom (s3.heap.objs.size + 1) scope.names [] → X' c) {cenv : Env}
    (hce : cenv = { scope := relabel scope env, locals := s3.heap.objs.size, globals := env.globals, cells := cellsFrom (s3.heap.objs.size + 1) scope.names (clos env scope.names []), qual := env.qual, func := none, code := env.code, frame := env.frame, builtins := env.builtins }) :
    FrmOk Z X' (pushCells (s3.heap.push { cls := .type "dict", data := .dict #[] }) scope.names) cenv scope (innerVars ae scope) := by
  have J3 := k.J S0.J
  have hdead : ∀ b, s3.heap.objs.size ≤ b → ¬ Z.T b := fun b hb t => by
    refine x1_1 (Z.JT _ J3 b t) fun o ho => ?_
    exact Nat.not_lt.mpr hb (Heap.lt_size ho)
  have keep4 : ∀ b o, s3.heap.get? b = some o → (pushCells (s3.heap.push { cls := .type "dict", data := .dict #[] }) scope.names).get? b = some o :=
    fun b o e => pushCells_keeps _ _ b o (Heap.get?_push_of_some _ e)
  have okc := cellsFrom_ok scope.names (s3.heap.push { cls := .type "dict", data := .dict #[] }) (s3.heap.objs.size + 1) [] ⟨fun _ _ hm => (nomatch hm), List.Pairwise.nil⟩ (by rw [Heap.size_push]; exact Nat.le_refl _)
  rw [Heap.size_push] at okc
  generalize hH : pushCells (s3.heap.push { cls := .type "dict", data := .dict #[] }) scope.names = H at keep4 okc
  generalize hown : cellsFrom (s3.heap.objs.size + 1) scope.names [] = own at hcells okc
  have hcs : cenv.cells = own ++ clos env scope.names [] := by rw [hce, ← hown]; exact cellsFrom_app _ _ _
  have hkof : ∀ x, cenv.kindOf x = (relabel scope env).names.lookup x := fun x => by rw [hce]; rfl
  have own_mem : ∀ x c, (x, c) ∈ own → (x, NameKind.cell) ∈ scope.names := fun x c h => by
    rw [← hown] at h
    rcases cellsFrom_mem _ _ _ _ _ h with h | h
    · exact h
    · cases h
  have own_some : ∀ x, scope.names.lookup x = some .cell → ∃ c, own.lookup x = some c := fun x h => by
    have := cellsFrom_some (x := x) scope.names (s3.heap.objs.size + 1) [] (.inl h)
    rw [hown] at this
    exact Option.isSome_iff_exists.mp this
  have own_none : ∀ x, scope.names.lookup x ≠ some .cell → own.lookup x = none := fun x h => by
    cases q : own.lookup x with
    | none => rfl
    | some c => exact absurd (ok.cel x (own_mem x c (mem_of_lookup q))) h
  have clo : ∀ x, (x, NameKind.free) ∈ scope.names → ∃ c, env.cells.lookup x = some c ∧ (clos env scope.names []).lookup x = some c := fun x h => by
    obtain ⟨_, c, hc⟩ := E0.cel x ((ok.fre x h).2)
    refine ⟨c, hc, ?_⟩
    rw [clos_lookup _ _ _ (.inl h), hc]; rfl
  have cases_ : ∀ x c, cenv.cells.lookup x = some c → (own.lookup x = some c) ∨ ((x, NameKind.free) ∈ scope.names ∧ env.cells.lookup x = some c) := fun x c h => by
    rw [hcs, lookup_app] at h
    cases q : own.lookup x with
    | some c' => rw [q] at h; left; exact h
    | none =>
      rw [q] at h
      right
      have h' : (clos env scope.names []).lookup x = some c := h
      rcases clos_mem _ _ _ _ h' with m | m
      · refine x1_2 (clo x m) fun c' a b => ?_
        rw [b] at h'; cases h'
        exact ⟨m, a⟩
      · cases m
  have own_at : ∀ x c, own.lookup x = some c → H.IsCell c none ∧ s3.heap.objs.size + 1 ≤ c := fun x c h => okc.empty x c (mem_of_lookup h)
  have outer_live : ∀ x c, env.cells.lookup x = some c → ∃ o, s3.heap.get? c = some o := fun x c h => by
    refine x1_1 (E0.cal x c h) fun o ho => ?_
    exact ⟨o, k.keep c o (E0.tc x c h) ho⟩
  have hns : H.Ns s3.heap.objs.size fun _ => none := by rw [← hH]; exact (Heap.Ns.new s3.heap (.type "dict")).keeps (pushCells_keeps _ _)
  have hlocals : cenv.locals = s3.heap.objs.size := by rw [hce]
  refine { en := { kind := ?_, gl := ?_, bi := ?_, dbg := ok.dbg, glob := ?_, loc := ?_, cel := ?_, var := ?_, tl := ?_, tc := ?_, cal := ?_ }, ns := ⟨_, by rw [hlocals]; exact hns⟩, lx := by rw [hlocals]; exact hC, cx := ?_, cv := ?_, ap := ?_, la := ?_, kc := ?_ }
  · rw [hce]; exact ok.kind
  · rw [hce]; exact E0.gl
  · rw [hce]; exact E0.bi
  · intro x hx; rw [hkof]; exact relabel_other (by decide) hx
  · intro x hx; rw [hkof]; exact relabel_other (by decide) hx
  · intro x hx
    rw [hkof]
    rcases hx with hx | hx
    · refine x1_1 (own_some x hx) fun c hc => ?_
      exact ⟨.inl (relabel_other (by decide) hx), c, by rw [hcs, lookup_app, hc]; rfl⟩
    · refine x1_2 (clo x (mem_of_lookup hx)) fun c _ hc => ?_
      exact ⟨relabel_free hx, c, by rw [hcs, lookup_app, own_none x (by dsimp only at hx; rw [hx]; intro q; cases q), hc]; rfl⟩
  · intro x d hx
    have hl : (innerVars ae scope).lookup x = some d := by
      unfold AE.look at hx
      dsimp only at hx
      split at hx <;> first | exact hx | cases hx
    have hm := mem_of_lookup hl
    unfold innerVars at hm
    have hfree : scope.names.lookup x = some .free := by simpa using (List.mem_filter.mp hm).2
    have hmem := mem_of_lookup hfree
    have hvo : ae.vars.lookup x = some d := by
      have key : ∀ l : Vars, (l.filter fun p => scope.names.lookup p.1 == some NameKind.free).lookup x = l.lookup x := by
        intro l
        induction l with
        | nil => rfl
        | cons p r ih =>
          obtain ⟨y, e⟩ := p
          by_cases hy : (scope.names.lookup y == some NameKind.free) = true
          · rw [List.filter_cons_of_pos (by exact hy), List.lookup_cons, List.lookup_cons, ih]
          · rw [List.filter_cons_of_neg (by exact hy), List.lookup_cons, ih]
            have : (x == y) = false := by
              rw [beq_eq_false_iff_ne]
              intro q; subst q
              rw [hfree] at hy; exact hy (by simp)
            rw [this]
      unfold innerVars at hl
      rw [key] at hl; exact hl
    have hlook : ae.look x = some d := by
      unfold AE.look
      rcases (ok.fre x hmem).2 with q | q <;> rw [q] <;> exact hvo
    refine x1_2 (E0.var x d hlook) fun v l a => ?_
    refine ⟨v, ?_, At.grow hfr (fun b o n e => keep4 b o (k.keep b o (fun t => n (S0.tx b t)) e)) _ _ a⟩
    have hk2 := (E0.cel x ((ok.fre x hmem).2)).1
    rcases l with ⟨a1, _⟩ | ⟨_, c, hc, o, ho, hd⟩
    · rcases hk2 with q | q <;> (rw [a1] at q; cases q)
    · refine .inr ⟨by rw [hkof]; exact relabel_free hfree, c, ?_, o, keep4 _ _ (k.keep c o (E0.tc x c hc) ho), hd⟩
      refine x1_2 (clo x hmem) fun c' h1 h2 => ?_
      rw [hc] at h1; cases h1
      rw [hcs, lookup_app, own_none x (by rw [hfree]; intro q; cases q), h2]; rfl
  · rw [hlocals]; exact hdead _ (Nat.le_refl _)
  · intro x c hc
    rcases cases_ x c hc with q | ⟨_, q⟩
    · exact hdead c (Nat.le_of_succ_le (own_at x c q).2)
    · exact E0.tc x c q
  · intro x c hc
    rcases cases_ x c hc with q | ⟨_, q⟩
    · obtain ⟨⟨o, ho, _⟩, _⟩ := own_at x c q
      exact ⟨o, ho⟩
    · refine x1_1 (outer_live x c q) fun o ho => ?_
      exact ⟨o, keep4 _ _ ho⟩
  · intro x c hc hx
    rcases cases_ x c hc with q | ⟨m, _⟩
    · exact hcells x c (mem_of_lookup q)
    · rw [(ok.fre x m).1] at hx; cases hx
  · intro x c hc hx
    rcases cases_ x c hc with q | ⟨m, _⟩
    · exact ⟨_, (own_at x c q).1⟩
    · rw [(ok.fre x m).1] at hx; cases hx
  · intro x y c hc hx hy
    rcases cases_ x c hc with q | ⟨m, _⟩
    · rcases cases_ y c hy with q' | ⟨_, q'⟩
      · exact name_of_addr okc.apart (mem_of_lookup q) (mem_of_lookup q')
      · refine x1_1 (outer_live y c q') fun o ho => ?_
        exact absurd (Heap.lt_size ho) (Nat.not_lt.mpr (Nat.le_of_succ_le (own_at x c q).2))
    · rw [(ok.fre x m).1] at hx; cases hx
  · intro x c hc
    rw [hlocals]
    rcases cases_ x c hc with q | ⟨_, q⟩
    · exact Nat.ne_of_gt (own_at x c q).2
    · refine x1_1 (outer_live x c q) fun o ho => ?_
      exact Nat.ne_of_lt (Heap.lt_size ho)
  · intro x hx; rw [hkof]; exact relabel_other (by decide) hx
end
end Mine
namespace Mine
open PySem PySem.W PyProof.Rows PySem.SeqAt
theorem setAll_eq : ∀ (bs vs : Vars), setAll vs bs = bs.reverse ++ vs
  | [], vs => rfl
  | p :: r, vs => by rw [setAll, setAll_eq r (p :: vs), List.reverse_cons, List.append_assoc]; rfl
theorem look_some {sc : Scope} {vs : Vars} {x : Str'} {d : D} (h : AE.look ⟨sc, vs⟩ x = some d) : vs.lookup x = some d ∧ ∃ k, sc.names.lookup x = some k ∧ (k = .local ∨ k = .cell ∨ k = .free) := by
  unfold AE.look at h
  dsimp only at h
  split at h
  · rename_i q; exact ⟨h, _, q, .inl rfl⟩
  · rename_i q; exact ⟨h, _, q, .inr (.inl rfl)⟩
  · rename_i q; exact ⟨h, _, q, .inr (.inr rfl)⟩
  · exact ofNone h
theorem look_of {sc : Scope} {vs : Vars} {x : Str'} {d : D} {k : NameKind} (h : vs.lookup x = some d) (hk : sc.names.lookup x = some k) (hh : k = .local ∨ k = .cell ∨ k = .free) : AE.look ⟨sc, vs⟩ x = some d := by
  unfold AE.look
  dsimp only
  rw [hk]
  rcases hh with rfl | rfl | rfl <;> exact h
theorem lookup_rev_mem {α : Type} {l : List (Str' × α)} {x : Str'} {c : α} (h : l.reverse.lookup x = some c) : (x, c) ∈ l := List.mem_reverse.mp (mem_of_lookup h)
section
variable {Z : Par} {X : Addr → Prop} {A : Around}
theorem FrmOk.sub {h : Heap} {env : Env} {sc : Scope} {v1 v2 : Vars} (hv : ∀ x d, AE.look ⟨sc, v2⟩ x = some d → AE.look ⟨sc, v1⟩ x = some d) (F : FrmOk Z X h env sc v1) : FrmOk Z X h env sc v2 :=
  { F with en := { F.en with var := fun x d e => F.en.var x d (hv x d e) } }
theorem acomp_len {f : D → Option (Option D)} : ∀ {l out : List D}, acomp f l = some out → out.length ≤ l.length
  | [], out, h => by dsimp only [acomp] at h; rw [← Option.some.inj h]; exact Nat.le_refl _
  | d :: r, out, h => by
    dsimp only [acomp] at h
    refine bnd h ?_; clear h; intro o hd h
    refine mpd h ?_; clear h; intro l hl h
    have := acomp_len hl
    cases o <;> (cases h; dsimp only [List.length_cons]; lia)
theorem tests_sound {G : Glo Z} {Φ : Fns} {L n : Nat} (iT : TrueOk G Φ L n) {ae : AE} : ∀ (ifs : List Expr) (ok : Bool), atests (fun c => atrue Φ n c ae) ifs = some ok →
    ∀ (s : Shared) (env : Env), Room L A → St Z X s → EnvOk Z X s.heap env ae →
    wpAny (model Z.prog Z.w) A (forIn ifs true fun c r => if r = true then do let ok ← isTrue c env (eval c env); pure (ForInStep.yield ok) else pure (ForInStep.yield r)) (fun r s' => r = ok ∧ Kp Z s s') (fun _ _ => False) s
  | [], ok, h, s, env, R, S, E => by
    dsimp only [atests] at h; rw [← Option.some.inj h]
    exact wpAny_pure ⟨rfl, Kp.refl _⟩
  | c :: ifs, ok, h, s, env, R, S, E => by
    dsimp only [atests] at h
    refine bnd h ?_; clear h; intro b hc h
    rw [List.forIn_cons]
    simp only [if_true]
    refine wpAny_bind (wpAny_bind (wpAny_mono (iT c ae b hc A X s env R S E) (fun r s1 h1 => wpAny_pure ?_) fun _ _ f => f))
    obtain ⟨rfl, k⟩ := h1
    cases r with
    | true => exact wpAny_mono (tests_sound iT ifs ok h s1 env R (S.kp k) (E.kp S k)) (fun r s2 h2 => ⟨h2.1, k.trans h2.2⟩) fun _ _ f => f
    | false =>
      rw [← Option.some.inj h]
      have rest : ∀ (l : List Expr), (forIn l false fun c r => if r = true then do let ok ← isTrue c env (eval c env); pure (ForInStep.yield ok) else pure (ForInStep.yield r) : Sem Bool) = pure false := by
        intro l
        induction l with
        | nil => rfl
        | cons a l ih => rw [List.forIn_cons]; simp only [Bool.false_eq_true, if_false]; exact ih
      show wpAny _ _ (forIn ifs false _) _ _ _
      rw [rest]
      exact wpAny_pure ⟨rfl, k⟩
theorem dead_of {s s' : Shared} (k : Kp Z s s') (J : Z.J s.heap) {b : Addr} (hb : s'.heap.objs.size ≤ b) : s.heap.get? b = none := by
  cases q : s.heap.get? b with
  | none => rfl
  | some o =>
    exfalso
    by_cases hT : Z.T b
    · obtain ⟨o', ho'⟩ := Z.JT _ (k.J J) b hT
      exact Nat.not_lt.mpr hb (Heap.lt_size ho')
    · exact Nat.not_lt.mpr hb (Heap.lt_size (k.keep b o hT q))
noncomputable def compF (Φ : Fns) (n : Nat) (ae : AE) (t elt : Expr) (ifs : List Expr) (scope : Scope) (d : D) : Option (Option D) :=
  (abind t d).bind fun bs =>
    bif bs.all (fun p => isStored (scope.names.lookup p.1)) then
      (atests (fun c => atrue Φ n c ⟨scope, setAll (innerVars ae scope) bs⟩) ifs).bind fun ok =>
        bif ok then (aeval Φ n elt ⟨scope, setAll (innerVars ae scope) bs⟩).map some else some none
    else none
theorem inner_free {ae : AE} {scope : Scope} {x : Str'} {d : D} (h : (innerVars ae scope).lookup x = some d) : scope.names.lookup x = some .free := by
  have hm := mem_of_lookup h
  unfold innerVars at hm
  simpa using (List.mem_filter.mp hm).2
theorem set_inner {ae : AE} {scope : Scope} {vs bs : Vars} (hb : bs.all (fun p => isStored (scope.names.lookup p.1)) = true)
    (hv : ∀ x d, AE.look ⟨scope, innerVars ae scope⟩ x = some d → AE.look ⟨scope, vs⟩ x = some d) :
    (∀ x d, AE.look ⟨scope, setAll (innerVars ae scope) bs⟩ x = some d → AE.look ⟨scope, setAll vs bs⟩ x = some d) ∧
    (∀ x d, AE.look ⟨scope, innerVars ae scope⟩ x = some d → AE.look ⟨scope, setAll vs bs⟩ x = some d) := by
  constructor
  · intro x d h
    obtain ⟨h1, k, hk, hh⟩ := look_some h
    refine look_of ?_ hk hh
    rw [setAll_eq, List.lookup_append] at h1 ⊢
    cases q : bs.reverse.lookup x with
    | some e => rw [q] at h1; exact h1
    | none =>
      rw [q] at h1
      have := hv x d (look_of h1 hk hh)
      exact (look_some this).1
  · intro x d h
    obtain ⟨h1, k, hk, hh⟩ := look_some h
    have hf := inner_free h1
    refine look_of ?_ hk hh
    rw [setAll_eq, List.lookup_append]
    cases q : bs.reverse.lookup x with
    | some e =>
      have hm := lookup_rev_mem q
      have := List.all_eq_true.mp hb _ hm
      rw [hf] at this; cases this
    | none => exact (look_some (hv x d h)).1
end
end Mine
namespace Mine
open PySem PySem.W PyProof.Rows PySem.SeqAt
section
variable {Z : Par} {X : Addr → Prop} {A : Around}
theorem iter_not_set {Φ : Fns} {n : Nat} {tt : Bool} {it : Expr} {ae : AE} {items : List D} {env : Env} (h : aiter Φ n tt it ae = some items) : ∀ x, foldedSetIterable it env x = pure x := by
  intro x
  cases n with
  | zero => exact ofNone h
  | succ n => cases it <;> first | rfl | exact ofNone h
theorem Iter.turn {tt : Bool} {I : Addr} {wr : List Addr} {R : List D → Heap → Prop} {R1 : D → List D → Value → Heap → Prop} (it : Iter Z A X tt I wr R R1) (hT : ∀ b ∈ wr, ¬ Z.T b) {d : D} {rem : List D} {t : Expr} {s : Shared} (ht : isTupT t = tt) (S : St Z X s)
    (r : R (d :: rem) s.heap) {Q : Option Value → Shared → Prop} {P : Value → Shared → Prop} (h : ∀ v s', Chg Z (fun b => b ∈ wr) s s' → At s'.heap X v d → R rem s'.heap → P v s') (hQ : ∀ v s', wpAny (model Z.prog Z.w) A (letOwnedTupleGo t (.ref I) v) (fun _ => P v) (fun _ _ => False) s' → Q (some v) s') :
    wpAny (model Z.prog Z.w) A (pyNext (.ref I)) Q (fun _ _ => False) s := by
  have go : ∀ (a : Shared) (h' : Heap) (tk : Nat), (∀ b o, b ∉ wr → a.heap.get? b = some o → h'.get? b = some o) → (∀ b ∈ wr, (∃ o, a.heap.get? b = some o) → ∃ o, h'.get? b = some o) → Chg Z (fun b => b ∈ wr) a { a with heap := h', toks := tk } := fun a h' tk hk hl =>
    ⟨rfl, id, fun b o _ n e => hk b o n e, Z.Jk _ _ fun b o tb e => hk b o (fun m => hT b m tb) e, hl⟩
  refine it.item d rem s _ S r fun v h4 tk4 hv hR4 hk4 hl4 => hQ v _ (it.go t d rem v _ _ ht hv hR4 fun h5 hv5 hR5 hk5 hl5 => ?_)
  exact h v _ ((go s h4 tk4 hk4 fun b hb _ => hl4 b hb).trans (go { s with heap := h4, toks := tk4 } h5 tk4 hk5 hl5)) hv5 hR5
noncomputable def CompTurn (Z : Par) (A : Around) (t elt : Expr) (ifs : List Expr) (env : Env) (P : Shared → Prop) (I : Nat → Shared → Prop) (it acc : Value) (n : Nat) (r : Option Value) (s : Shared) : Prop := match r with
  | none => P s
  | some v => wpAny (model Z.prog Z.w) A (letOwnedTupleGo t it v) (fun _ s => wpAny (model Z.prog Z.w) A (assign t env v) (fun _ s =>
      wpAny (model Z.prog Z.w) A (forIn ifs true fun c r => if r = true then do let ok ← isTrue c env (eval c env); pure (ForInStep.yield ok) else pure (ForInStep.yield r)) (fun ok s => match ok with
        | true => wpAny (model Z.prog Z.w) A (eval elt env) (fun x s => wpAny (model Z.prog Z.w) A (call (.builtin "list.append") [acc, x]) (fun _ s => ∃ m, m < n ∧ I m s) (fun _ _ => False) s) (fun _ _ => False) s
        | false => ∃ m, m < n ∧ I m s) (fun _ _ => False) s) (fun _ _ => False) s) (fun _ _ => False) s
theorem wpComp {elt target iter : Expr} {ifs : List Expr} {scope : Scope} {pos : Pos} {it acc : Value} {env : Env} {R : Result → Shared → Prop} {s : Shared} (I : Nat → Shared → Prop)
    (turn : ∀ n s, I n s → wpAny (model Z.prog Z.w) A (pyNext it) (CompTurn Z A target elt ifs env (R (.ok .next)) I it acc n) (fun _ _ => False) s)
    (n : Nat) (h : I n s) : codeAny (model Z.prog Z.w) A (.compLoop (.ListComp elt [⟨target, iter, ifs, 0⟩] scope pos) 0 it acc env) R s := by
  refine compLoop_go I (fun n s hn => wpAny_mono (turn n s hn) (fun r s1 h1 => ?_) fun _ _ f => f) n h
  cases r with
  | none => exact h1
  | some v => exact wpAny_mono h1 (fun _ s2 h2 => wpAny_mono h2 (fun _ s3 h3 => wpAny_mono h3 (fun ok s4 h4 => by cases ok <;> exact h4) fun _ _ f => f) fun _ _ f => f) fun _ _ f => f
inductive CompInv (Z : Par) (X W : Addr → Prop) (env : Env) (scope : Scope) (ae : AE) (R : List D → Heap → Prop) (F : List D → Option (List D)) (out : List D) (Dd : Addr) (s4 : Shared) (k : Nat) (s : Shared) : Prop
  | mk (rem out0 : List D) (ys : Array Value) (l : List D) (vs : Vars) (hR : R rem s.heap) (hl : F rem = some l) (ho : out0 ++ l = out) (hD : s.heap.IsList Dd ys) (hys : Ats s.heap X ys.toList out0) (hch : Chg Z W s4 s) (S : St Z X s)
    (Fr : FrmOk Z X s.heap env scope vs) (hvs : ∀ x d, AE.look ⟨scope, innerVars ae scope⟩ x = some d → AE.look ⟨scope, vs⟩ x = some d) (e : k = rem.length)
theorem compr_loop {G : Glo Z} {Φ : Fns} {L n : Nat} (iE : EvalOk G Φ L n) (iT : TrueOk G Φ L n) {t it elt : Expr} {ifs : List Expr} {scope : Scope} {pos : Pos} {ae : AE} {items out : List D} (Rm : Room L A) {W : Addr → Prop} {wr : List Addr} {I Dd : Addr}
    {R : List D → Heap → Prop} {R1 : D → List D → Value → Heap → Prop} (it0 : Iter Z A X (isTupT t) I wr R R1) {env : Env} {s4 : Shared} (hWX : ∀ b, W b → X b) (hWT : ∀ b, W b → ¬ Z.T b) (hWr : ∀ b ∈ wr, W b) (hown : ∀ b, Own env scope b → W b) (hOwnWr : ∀ b, Own env scope b → b ∉ wr) (hDW : W Dd) (hDwr : Dd ∉ wr)
    (hDC : ∀ b, Own env scope b → b ≠ Dd) (hCell : ∀ x c, env.cells.lookup x = some c → c ∉ wr ∧ c ≠ Dd) (hc : acomp (compF Φ n ae t elt ifs scope) items = some out) (hlen : out.length ≤ LIM) (S4 : St Z X s4) (F4 : FrmOk Z X s4.heap env scope (innerVars ae scope)) (hR4 : R items s4.heap) (hD4 : s4.heap.IsList Dd #[])
    {P : Result → Shared → Prop} (done : ∀ s' ys h' tk, Chg Z W s4 s' → St Z X s' → (∃ m, s'.heap.Ns env.locals m) → s'.heap.IsList Dd ys → Ats s'.heap X ys.toList out → (∀ b o, b ∉ wr → s'.heap.get? b = some o → h'.get? b = some o) → P (.ok .next) { s' with heap := h', toks := tk }) :
    codeAny (model Z.prog Z.w) A (.compLoop (.ListComp elt [⟨t, it, ifs, 0⟩] scope pos) 0 (.ref I) (.ref Dd) env) P s4 := by
  refine wpComp (CompInv Z X W env scope ae R (acomp (compF Φ n ae t elt ifs scope)) out Dd s4) (fun k s' H => ?_) items.length ⟨items, [], #[], out, _, hR4, hc, rfl, hD4, by simpa using Ats.nil, Chg.refl _, S4, F4, fun _ _ h => h, rfl⟩
  obtain ⟨rem, out0, ys, l, vs, hR', hl, ho, hD, hys, hch, S', F', hvs, rfl⟩ := H
  cases rem with
  | nil =>
    cases hl
    rw [List.append_nil] at ho
    exact it0.done s' _ hR' fun h' tk hk => done s' ys h' tk hch S' F'.ns hD (ho ▸ hys) hk
  | cons d rem =>
    refine bnd hl fun o hd hl => mpd hl fun l' hl' hl => bnd hd fun bs hb hd => bfd hd fun hst hd => bnd hd fun okb hte hd => ?_
    have wrX : ∀ b ∈ wr, X b := fun b h => hWX b (hWr b h)
    have ownX : ∀ b, Own env scope b → X b := fun b h => hWX b (hown b h)
    refine it0.turn (fun b h => hWT b (hWr b h)) rfl S' hR' (fun v s2 c2 hv2 hR2 => ?_) fun v s' h => h
    have S2 := S'.chg c2 wrX
    have F2 := F'.chg S' c2 wrX (hOwnWr _ (.inl rfl)) fun x c h => (hCell x c h).1
    refine assign_sound Rm.hd S2 F2 hv2 hb hst fun s5 c3 F3 => ?_
    have S3 := S2.chg c3 ownX
    have sub := set_inner hst hvs
    have E3 : EnvOk Z X s5.heap env ⟨scope, setAll (innerVars ae scope) bs⟩ := (F3.sub sub.1).en
    have hRk : ∀ (V : Addr → Prop) {a b : Shared}, (∀ x, V x → X x ∧ x ∉ wr) → Chg Z V a b → (∀ x, Z.T x → X x) → R rem a.heap → R rem b.heap := fun V a b hV c hT r =>
      it0.frame rem _ _ (fun x o hx e => c.keep x o (fun t => hx.elim (fun n => n (hT x t)) fun m => hWT x (hWr x m) t) (fun v => hx.elim (fun n => n (hV x v).1) fun m => (hV x v).2 m) e) r
    refine wpAny_mono (tests_sound iT ifs okb hte s5 env Rm S3 E3) (fun r s6 h6 => ?_) fun _ _ f => f
    have k6 := h6.2
    rw [h6.1]
    have S6 := S3.kp k6
    have F6 := F3.kp S3 k6
    have c6 : Chg Z (Own env scope) s2 s6 := c3.trans (Chg.of_kp k6 S3.J)
    have hR6 := hRk _ (fun x h => ⟨ownX x h, hOwnWr x h⟩) c6 S2.tx hR2
    have hD6 : s6.heap.IsList Dd ys := (hD.at fun o e => c2.keep _ o (hWT _ hDW) hDwr e).at fun o e => c6.keep _ o (hWT _ hDW) (fun h => hDC _ h rfl) e
    have hys6 := (hys.chg S' c2 wrX).chg S2 c6 ownX
    have ch6 : Chg Z W s4 s6 := hch.trans ((c2.mono S'.J hWr).trans (c6.mono S2.J hown))
    cases okb with
    | false =>
      cases hd
      cases hl
      exact ⟨rem.length, Nat.lt_succ_self _, rem, out0, ys, _, _, hR6, hl', ho, hD6, hys6, ch6, S6, F6, sub.2, rfl⟩
    | true =>
      refine mpd hd fun x hx hd => ?_
      cases hd
      cases hl
      refine iE.run hx Rm S6 (F6.sub sub.1).en fun vx s7 k7 hvx S7 _ => ?_
      have F7 := F6.kp S6 k7
      have hR7 := hRk _ (fun x h => h.elim) (Chg.of_kp (W := fun _ => False) k7 S6.J) S6.tx hR6
      have hys7 := hys6.kp S6 k7
      have hsz : ys.size ≤ sizeLine := by
        have e1 := hys7.length
        rw [Array.length_toList] at e1
        rw [← ho, List.length_append] at hlen
        exact lim_size (by rw [e1]; exact Nat.le_trans (Nat.le_add_right _ _) hlen)
      refine wpAny_list_append (hD6.at fun o e => k7.keep _ o (hWT _ hDW) e) (fun h8 hl8 hs8 => ?_) hsz
      have c8 : Chg Z (fun b => b = Dd) s7 { s7 with heap := h8, toks := s7.toks } := Chg.one (hWT _ hDW) hs8 (by obtain ⟨o, ho, _⟩ := hl8; exact ⟨o, ho⟩)
      have hV8 : ∀ b, b = Dd → X b := fun b e => e ▸ hWX _ hDW
      refine ⟨rem.length, Nat.lt_succ_self _, rem, out0 ++ [x], ys.push vx, l', _, hRk _ (fun b e => ⟨hV8 b e, e ▸ hDwr⟩) c8 S7.tx hR7, hl', (List.append_assoc ..).trans ho, hl8, ?_, (ch6.trans (Chg.of_kp k7 S6.J)).trans (c8.mono S7.J fun b e => e ▸ hDW), S7.chg c8 hV8,
        F7.chg S7 c8 hV8 (hDC _ (.inl rfl)) fun x c h => (hCell x c h).2, sub.2, rfl⟩
      rw [Array.toList_push]
      exact (hys7.chg S7 c8 hV8).append (Ats.one (hvx.chg S7 c8 hV8))
theorem no_get {h : Heap} {b : Addr} (hb : h.objs.size ≤ b) : h.get? b = none := by
  cases q : h.get? b with
  | none => rfl
  | some o => exact absurd (Heap.lt_size q) (Nat.not_lt.mpr hb)
theorem new_list0 {s : Shared} {Q : Value → Shared → Prop} (h : ∀ s3, Kp Z s s3 → (∀ b o, s.heap.get? b = some o → s3.heap.get? b = some o) → s3.heap.IsList s.heap.objs.size #[] → s3.heap.objs.size = s.heap.objs.size + 1 → Q (.ref s.heap.objs.size) s3) :
    wpAny (model Z.prog Z.w) A (newList []) Q (fun _ _ => False) s :=
  wpAny_newList (h _ (Kp.push _) (fun b o e => Heap.get?_push_of_some _ e) ⟨_, Heap.get?_push_size _ rfl, rfl, _, rfl⟩ (Heap.size_push ..)) (Nat.zero_le _)
theorem compr_sound {G : Glo Z} {Φ : Fns} {L n : Nat} (iE : EvalOk G Φ L n) (iT : TrueOk G Φ L n) (iI : IterOk G Φ L n) {t it elt : Expr} {ifs : List Expr} {scope : Scope} {pos cpos : Pos} {ae : AE} {items out : List D}
    {use : Option (Value → Sem Unit)} {Q : Value → Shared → Prop} {s : Shared} {env : Env} (Rm : Room L A) (S : St Z X s) (E : EnvOk Z X s.heap env ae) (ok : okScope ae.sc scope = true)
    (hi : aiter Φ n (isTupT t) it ae = some items) (hc : acomp (compF Φ n ae t elt ifs scope) items = some out)
    (hQ : ∀ D C s', Kp Z s s' → s.heap.get? C = none → (∃ m, s'.heap.Ns C m) → At s'.heap (fun b => X b ∨ b = C) (.ref D) (.list out) → compPost (model Z.prog Z.w) A (fun _ _ => False) use Q (.ref D) C (.ok .next) s') :
    wpAny (model Z.prog Z.w) A (comprehension (.ListComp elt [⟨t, it, ifs, 0⟩] scope pos) scope env cpos (newList []) false (eval it env) use) Q (fun _ _ => False) s := by
  have okS := ok_sc ok
  refine wpAny_comprehension_free (g := ⟨t, it, ifs, 0⟩) (gs := []) (cl := clos env scope.names []) rfl (iter_not_set hi) (closureFor_eq fun p hp hf => ?_) okS.kind okS.loc ?_
  · obtain ⟨x, k⟩ := p
    dsimp only at hf; subst hf
    exact (E.cel x (okS.fre x hp).2).2
  refine wpAny_mono (iI _ it ae items hi A X s env Rm S E) (fun x s1 h1 => wpAny_mono h1 (fun itv s2 h2 => ?_) fun _ _ f => f) fun _ _ f => f
  obtain ⟨k2, hlen, I, wr, rfl, hIwr, hwr, hXi⟩ := h2
  refine new_list0 fun s3 kD keep23 hDl hDsz => ?_
  have k3 : Kp Z s s3 := k2.trans kD
  have hDn : s2.heap.get? s2.heap.objs.size = none := no_get (Nat.le_refl _)
  refine newEnv_around ?_
  have keep34 : ∀ b o, s3.heap.get? b = some o → (pushCells (s3.heap.push { cls := .type "dict", data := .dict #[] }) scope.names).get? b = some o :=
    fun b o e => pushCells_keeps _ _ b o (Heap.get?_push_of_some _ e)
  have k4 : Kp Z s3 { s3 with heap := pushCells (s3.heap.push { cls := .type "dict", data := .dict #[] }) scope.names } := Kp.of_heap (tk := s3.toks) keep34
  have okc := cellsFrom_ok scope.names (s3.heap.push { cls := .type "dict", data := .dict #[] }) (s3.heap.objs.size + 1) [] ⟨fun _ _ hm => (nomatch hm), List.Pairwise.nil⟩ (by rw [Heap.size_push]; exact Nat.le_refl _)
  rw [Heap.size_push] at okc
  generalize hDd : s2.heap.objs.size = Dd at hDn hDl hDsz
  let W : Addr → Prop := fun b => b ∈ wr ∨ b = Dd ∨ b = s3.heap.objs.size ∨ ∃ x, (x, b) ∈ cellsFrom (s3.heap.objs.size + 1) scope.names []
  have hWdead : ∀ b, W b → s.heap.get? b = none := by
    rintro b (h | h | h | ⟨x, h⟩)
    · exact (hwr b h).1
    · exact dead_of k2 S.J (by rw [h, hDd]; exact Nat.le_refl _)
    · exact dead_of k3 S.J (by rw [h]; exact Nat.le_refl _)
    · exact dead_of k3 S.J (Nat.le_of_succ_le (okc.empty x b h).2)
  have hW2 : ∀ b, W b → b ∈ wr ∨ s2.heap.get? b = none := by
    have g : ∀ b, s3.heap.objs.size ≤ b → s2.heap.get? b = none := fun b hb => by
      cases q : s2.heap.get? b with
      | none => rfl
      | some o => exact absurd (Heap.lt_size (keep23 b o q)) (Nat.not_lt.mpr hb)
    rintro b (h | h | h | ⟨x, h⟩)
    · exact .inl h
    · exact .inr (by rw [h]; exact hDn)
    · exact .inr (g b (by rw [h]; exact Nat.le_refl _))
    · exact .inr (g b (Nat.le_of_succ_le (okc.empty x b h).2))
  let X' : Addr → Prop := fun b => X b ∨ W b
  have hfr : ∀ b, X' b → X b ∨ s.heap.get? b = none := fun b h => h.imp id (hWdead b)
  have F0 := inner_frame S E k3 okS X' hfr (.inr (.inr (.inr (.inl rfl)))) (fun x c h => .inr (.inr (.inr (.inr ⟨x, h⟩)))) (cenv := { scope := relabel scope env, locals := s3.heap.objs.size, globals := env.globals, cells := cellsFrom (s3.heap.objs.size + 1) scope.names (clos env scope.names []), qual := env.qual, func := none, code := env.code, frame := env.frame, builtins := env.builtins }) rfl
  obtain ⟨R, R1, it0, hR⟩ := hXi X' (fun b h => .inl h) (fun b h => .inr (.inl h)) (fun b h => by
    rcases h with h | h
    · exact .inl h
    · exact .inr (hW2 b h))
  generalize hs4 : ({ s3 with heap := pushCells (s3.heap.push { cls := .type "dict", data := .dict #[] }) scope.names } : Shared) = s4 at k4
  have hH4 : s4.heap = pushCells (s3.heap.push { cls := .type "dict", data := .dict #[] }) scope.names := by rw [← hs4]
  rw [← hH4] at F0 keep34 okc
  have hCns : ∀ b, b = s3.heap.objs.size → ∃ o, s4.heap.get? b = some o := by
    intro b e; obtain ⟨m, o, _, _, ho, _⟩ := F0.ns; rw [e]; exact ⟨o, ho⟩
  have kall : Kp Z s s4 := k3.trans k4
  have S4 : St Z X' s4 := by
    refine ⟨(S.kp kall).base, (S.kp kall).J, ?_, fun a ha => .inl (S.tx a ha), ?_⟩
    · rintro a (h | h | h | h | ⟨x, h⟩)
      · exact (S.kp kall).live a h
      · obtain ⟨_, o, ho⟩ := hwr a h; exact ⟨o, keep34 _ _ (keep23 _ _ ho)⟩
      · refine x1_2 hDl fun o ho _ => ?_; rw [h]; exact ⟨o, keep34 _ _ ho⟩
      · exact hCns a h
      · obtain ⟨⟨o, ho, _⟩, _⟩ := okc.empty x a h; exact ⟨o, ho⟩
    · rintro a (h | h)
      · exact S.nb a h
      · by_cases hT : Z.T a
        · exact .inl hT
        · right
          cases q : Z.h0.get? a with
          | none => rfl
          | some o => have := S.base a o hT q; rw [hWdead a h] at this; cases this
  have hWT : ∀ b, W b → ¬ Z.T b := fun b hw t => by
    refine x1_1 (Z.JT _ S.J b t) fun o ho => ?_
    rw [hWdead b hw] at ho; exact ofNone ho
  have hR4 : R items s4.heap := it0.frame _ _ _ (fun b o _ e => keep34 _ _ (keep23 _ _ e)) hR
  have hDl4 : s4.heap.IsList Dd #[] := hDl.at fun o => keep34 _ o
  generalize hcenv : ({ scope := relabel scope env, locals := s3.heap.objs.size, globals := env.globals, cells := cellsFrom (s3.heap.objs.size + 1) scope.names (clos env scope.names []), qual := env.qual, func := none, code := env.code, frame := env.frame, builtins := env.builtins } : Env) = cenv at F0
  have hcl : cenv.locals = s3.heap.objs.size := by rw [← hcenv]
  have hown : ∀ b, Own cenv scope b → W b := by
    rintro b (h | ⟨y, h1, h2⟩)
    · exact .inr (.inr (.inl (by rw [h, hcl])))
    · right; right; right
      refine ⟨y, ?_⟩
      rw [← hcenv] at h2
      dsimp only at h2
      rw [cellsFrom_app, List.lookup_append] at h2
      cases q : (cellsFrom (s3.heap.objs.size + 1) scope.names []).lookup y with
      | some c => rw [q] at h2; rw [← Option.some.inj h2]; exact mem_of_lookup q
      | none =>
        exfalso
        have := cellsFrom_some (x := y) scope.names (s3.heap.objs.size + 1) [] (.inl h1)
        rw [q] at this; cases this
  have hltD : Dd < s3.heap.objs.size := by rw [hDsz]; exact Nat.lt_succ_self _
  have wr_ne : ∀ b ∈ wr, ∃ o, s2.heap.get? b = some o := fun b hb => (hwr b hb).2
  have hOwnWr : ∀ b, Own cenv scope b → b ∉ wr := by
    intro b hb hm
    refine x1_1 (wr_ne b hm) fun o ho => ?_
    rcases hb with h | ⟨y, h1, h2⟩
    · rw [h, hcl] at ho
      exact absurd (Heap.lt_size (keep23 _ _ ho)) (Nat.lt_irrefl _)
    · rcases hown b (.inr ⟨y, h1, h2⟩) with h | h | h | ⟨x, h⟩
      · rw [← hcenv] at h2
        dsimp only at h2
        rw [cellsFrom_app, List.lookup_append] at h2
        cases q : (cellsFrom (s3.heap.objs.size + 1) scope.names []).lookup y with
        | some c =>
          rw [q] at h2; cases h2
          exact absurd (Heap.lt_size (keep23 _ _ ho)) (Nat.not_lt.mpr (Nat.le_of_succ_le (okc.empty y b (mem_of_lookup q)).2))
        | none =>
          have := cellsFrom_some (x := y) scope.names (s3.heap.objs.size + 1) [] (.inl h1)
          rw [q] at this; cases this
      · rw [h] at ho; rw [hDn] at ho; exact ofNone ho
      · rw [h] at ho; exact absurd (Heap.lt_size (keep23 _ _ ho)) (Nat.lt_irrefl _)
      · exact absurd (Heap.lt_size (keep23 _ _ ho)) (Nat.not_lt.mpr (Nat.le_of_succ_le (okc.empty x b h).2))
  have hDwr : Dd ∉ wr := fun h => by obtain ⟨o, ho⟩ := wr_ne _ h; rw [hDn] at ho; exact ofNone ho
  have hDC : ∀ b, Own cenv scope b → b ≠ Dd := by
    intro b hb e
    rcases hb with h | ⟨y, h1, h2⟩
    · rw [h, hcl] at e; exact absurd hltD (e ▸ Nat.lt_irrefl _)
    · rw [← hcenv] at h2
      dsimp only at h2
      rw [cellsFrom_app, List.lookup_append] at h2
      cases q : (cellsFrom (s3.heap.objs.size + 1) scope.names []).lookup y with
      | some c =>
        rw [q] at h2; cases h2
        have := (okc.empty y b (mem_of_lookup q)).2
        rw [e] at this
        exact Nat.lt_irrefl _ (Nat.lt_of_lt_of_le hltD (Nat.le_of_succ_le this))
      | none =>
        have := cellsFrom_some (x := y) scope.names (s3.heap.objs.size + 1) [] (.inl h1)
        rw [q] at this; cases this
  have hCell : ∀ x c, cenv.cells.lookup x = some c → s3.heap.objs.size + 1 ≤ c ∨ ∃ o, s.heap.get? c = some o := fun x c h => by
    rw [← hcenv] at h
    dsimp only at h
    rw [cellsFrom_app, List.lookup_append] at h
    cases q : (cellsFrom (s3.heap.objs.size + 1) scope.names []).lookup x with
    | some c' =>
      rw [q] at h
      exact .inl (okc.empty x c (mem_of_lookup (q.trans h))).2
    | none =>
      rw [q] at h
      have h' : (clos env scope.names []).lookup x = some c := h
      rcases clos_mem _ _ _ _ h' with mm | mm
      · obtain ⟨_, c', hc'⟩ := E.cel x (okS.fre x mm).2
        rw [clos_lookup _ _ _ (.inl mm), hc'] at h'
        exact .inr (E.cal x c (hc'.trans h'))
      · cases mm
  have loop : codeAny (model Z.prog Z.w) A (.compLoop (.ListComp elt [⟨t, it, ifs, 0⟩] scope pos) 0 (.ref I) (.ref Dd) cenv) (compPost (model Z.prog Z.w) A (fun _ _ => False) use Q (.ref Dd) cenv.locals) s4 := by
    refine compr_loop iE iT Rm it0 (fun b h => .inr h) hWT (fun b h => .inl h) hown hOwnWr (.inr (.inl rfl)) hDwr hDC (fun x c h => ⟨fun m => ?_, fun e => ?_⟩) hc (Nat.le_trans (acomp_len hc) hlen) S4 F0 hR4 hDl4 fun s' ys h' tk hch S' hns hD hys hk => ?_
    · rcases hCell x c h with q | ⟨o, q⟩
      · obtain ⟨o, ho⟩ := wr_ne _ m
        exact absurd (Heap.lt_size (keep23 _ _ ho)) (Nat.not_lt.mpr (Nat.le_of_succ_le q))
      · rw [(hwr c m).1] at q; exact ofNone q
    · rcases hCell x c h with q | ⟨o, q⟩
      · rw [e] at q
        exact Nat.lt_irrefl _ (Nat.lt_of_lt_of_le hltD (Nat.le_of_succ_le q))
      · rw [e, hWdead Dd (.inr (.inl rfl))] at q; exact ofNone q
    · have kend : Kp Z s { s' with heap := h', toks := tk } := by
        refine ⟨hch.os.trans kall.os, fun g => hch.gens (kall.gens g), fun b o n e => ?_, fun j => Z.Jk _ _ (fun b o tb e => hk b o (fun m => hWT b (.inl m) tb) e) (hch.J (kall.J j))⟩
        have nW : ¬ W b := fun w => by rw [hWdead b w] at e; exact ofNone e
        exact hk b o (fun m => nW (.inl m)) (hch.keep b o n nW (kall.keep b o n e))
      refine hQ Dd cenv.locals _ kend (hcl ▸ hWdead _ (.inr (.inr (.inl rfl)))) ?_ (at_listM ⟨Dd, ys, rfl, fun h => h.elim (fun h => ?_) fun h => Nat.ne_of_lt hltD (h.trans hcl), hD.at fun o e => hk _ o hDwr e, Nat.le_trans (acomp_len hc) hlen, ?_⟩)
      · obtain ⟨m, hm⟩ := hns
        exact ⟨m, hm.at' fun o e => hk _ o (hOwnWr _ (.inl rfl)) e⟩
      · obtain ⟨o, ho⟩ := S.live _ h
        rw [hWdead Dd (.inr (.inl rfl))] at ho; exact ofNone ho
      · exact Ats.mono (fun b h => h.imp id fun h => .inr (.inr (.inl (h.trans hcl)))) (fun b o n e => hk b o (fun m => n (.inr (.inl m))) e) _ _ hys
  rw [hcl] at loop
  refine codeAny_compStart_list (elt := elt) (target := t) (iter := it) (ifs := ifs) (rest := []) ?_ ?_
  · exact loop
  · refine wpAny_mono (it0.self items s4 (fun it' s' => it' = .ref I ∧ s' = s4) hR4 ⟨rfl, rfl⟩) (fun it' s' h => ?_) fun _ _ f => f.elim
    refine x0_2 h fun hr0 hr1 => ?_; subst hr0; subst hr1
    exact loop
end
end Mine
namespace Mine
open PySem PySem.W PyProof.Rows PySem.SeqAt
section
variable {Z : Par} {X : Addr → Prop} {A : Around}
theorem getitem_type {s : Shared} {o : Value} {d : D} (h : At s.heap X o d) (hd : (∃ l, d = .list l) ∨ (∃ l, d = .tup l) ∨ ∃ x, d = .str x) :
    ∃ T id, s.TypeIs o T ∧ typeLookup (.type T) "__getitem__" = pure (some (.builtin id)) := by
  rcases hd with ⟨l, rfl⟩ | ⟨l, rfl⟩ | ⟨x, rfl⟩
  · obtain ⟨a, vs, rfl, _, hl, _⟩ := at_listI h
    exact ⟨"list", _, hl.typeIs, slot_list_getitem.lookup⟩
  · obtain ⟨a, vs, rfl, _, hl, _⟩ := at_tupI h
    exact ⟨"tuple", _, hl.typeIs, PySem.F.slot_tuple_getitem.lookup⟩
  · obtain ⟨t, rfl, _⟩ := at_strI h
    exact ⟨"str", _, typeIs_str _ _ _, PySem.F.slot_str_getitem.lookup⟩
theorem sub_step {s : Shared} {value slice : Expr} {o i : Value} {d : D} {Q : Value → Shared → Prop} (h : At s.heap X o d) (hd : (∃ l, d = .list l) ∨ (∃ l, d = .tup l) ∨ ∃ x, d = .str x)
    (hg : wpAny (model Z.prog Z.w) A (getItem o i) Q (fun _ _ => False) s) :
    wpAny (model Z.prog Z.w) A (do let r ← subscripted slice (← getitemInPython o) o i; letTemporaryGo value o r; pure r) Q (fun _ _ => False) s := by
  refine x2_2 (getitem_type h hd) fun T id hT hl => ?_
  refine wpAny_bind ?_
  rw [getitemInPython_of_ne hT.not_modules]
  refine wpAny_bind (wpAny_specialOf hT hl (wpAny_pure ?_))
  have e : wpAny (model Z.prog Z.w) A (subscripted slice false o i) Q (fun _ _ => False) s := by
    have e1 : ∀ vs, wpAny (model Z.prog Z.w) A (operate vs (getItem o i)) Q (fun _ _ => False) s := fun vs Γ p hΓ => by rw [Sem.wp_operate]; exact hg Γ p hΓ
    unfold subscripted
    split
    · exact e1 _
    · cases ‹false = true›
    · exact e1 _
  exact wpAny_bind (wpAny_mono e (fun r s1 h1 => wpAny_bind (wpAny_letTemporaryGo (wpAny_pure h1))) fun _ _ f => f)
theorem asub_kind {d1 d2 d : D} (h : asub d1 d2 = some d) : (∃ l, d1 = .list l) ∨ (∃ l, d1 = .tup l) ∨ ∃ x, d1 = .str x := by
  unfold asub at h
  split at h
  · exact .inl ⟨_, rfl⟩
  · exact .inr (.inl ⟨_, rfl⟩)
  · exact .inr (.inr ⟨_, rfl⟩)
  · exact ofNone h
theorem asli_kind {d1 d : D} {lo hi : Option Int} (h : asli d1 lo hi = some d) : (∃ l, d1 = .list l) ∨ ∃ x, d1 = .str x := by
  unfold asli at h
  split at h
  · exact .inl ⟨_, rfl⟩
  · exact .inr ⟨_, rfl⟩
  · exact ofNone h
theorem sub_sound {G : Glo Z} {Φ : Fns} {L n : Nat} (iE : EvalOk G Φ L n) {v i : Expr} {pos : Pos} {ae : AE} {a b d : D} {s : Shared} {env : Env} (Rm : Room L A) (S : St Z X s) (E : EnvOk Z X s.heap env ae)
    (ha : aeval Φ n v ae = some a) (hb : aeval Φ n i ae = some b) (hd : asub a b = some d) : Gives Z X A s (eval (.Subscript v i pos) env) d := by
  unfold Gives
  rw [eval_Subscript]
  refine wpAny_bind (wpAny_mono (iE v ae a ha A X s env Rm S E) (fun o s1 h1 => ?_) fun _ _ f => f)
  obtain ⟨k1, a1⟩ := h1
  refine wpAny_bind (wpAny_holding (wpAny_mono (iE i ae b hb A X s1 env Rm (S.kp k1) (E.kp S k1)) (fun iv s2 h2 => wpAny_bind (wpAny_standAt ?_)) fun _ _ f => f))
  obtain ⟨k2, a2⟩ := h2
  have S2 := (S.kp k1).kp k2
  have a1' := a1.kp (S.kp k1) k2
  exact sub_step a1' (asub_kind hd) (wpAny_mono (asub_sound a1' a2 hd) (fun r s3 h3 => post_trans (k1.trans k2) h3) fun _ _ f => f)
theorem isPart_of {r : Option Int} {v : Value} (h : IsPart v r) : ∃ p : Option (Int × Tok), v = partValue p ∧ p.map (·.1) = r := by
  cases h with
  | none => exact ⟨none, rfl, rfl⟩
  | int i t => exact ⟨some (i, t), rfl, rfl⟩
theorem sli_getItem {s : Shared} {o vl vu : Value} {d1 d : D} {lo hi : Option Int} {sl : Addr} (S : St Z X s) (h1 : At s.heap X o d1) (hs : s.heap.get? sl = some { cls := .type "slice", data := .fields #[vl, vu, .none] })
    (pl : IsPart vl lo) (pu : IsPart vu hi) (h : asli d1 lo hi = some d) : Gives Z X A s (getItem o (.ref sl)) d := by
  unfold Gives
  unfold asli at h
  split at h
  · rename_i l
    obtain ⟨a, vs, rfl, _, hl, hn, hvs⟩ := at_listI h1
    rw [← Option.some.inj h]
    have e1 := hvs.length
    rw [Array.length_toList] at e1
    refine wpAny_getItem_list_slice hl ⟨_, hs, rfl, rfl⟩ pl pu IsPart.none (by decide) ?_ (lim_size (by rw [e1]; exact hn))
    refine post_newlist S ?_ (Nat.le_trans (cut_length_le _ _ _) hn)
    rw [pick_cut]
    unfold cut
    rw [Array.length_toList, e1]
    exact (hvs.drop _).take _
  · rename_i x
    obtain ⟨t, rfl, hn⟩ := at_strI h1
    rw [← Option.some.inj h]
    refine x1_2 (isPart_of pl) fun p hr1 hp => ?_; subst hr1
    refine x1_2 (isPart_of pu) fun q hr1 hq => ?_; subst hr1
    refine wpAny_getItem_str_slice (l := p) (u := q) (st := none) ⟨_, hs, rfl, rfl⟩ rfl ?_
    have e2 : slicePicked x p q none = (List.range (clipH hi x.length - clipL lo x.length)).map (clipL lo x.length + ·) := by
      unfold slicePicked
      rw [hp, hq]
      exact str_clip lo hi x.length
    have e3 : ((slicePicked x p q none).filterMap (x.cps[·]?)).toArray = (cut x.cps.toList lo hi).toArray := by
      rw [e2, pick_run]
      unfold cut
      rw [Array.length_toList]
      rfl
    have hlen : (⟨(cut x.cps.toList lo hi).toArray⟩ : PySem.Str).length ≤ LIM := by
      show (cut x.cps.toList lo hi).toArray.size ≤ LIM
      rw [List.size_toArray]
      refine Nat.le_trans (cut_length_le _ _ _) ?_
      rw [Array.length_toList]; exact hn
    unfold sliceMade
    split
    · rename_i hsame
      simp only [Bool.and_eq_true, beq_iff_eq] at hsame
      have hl := hsame.2
      rw [e2, List.length_map, List.length_range] at hl
      have b1 := clipH_le hi x.length
      have b2 := clipL_le lo x.length
      have e4 : cut x.cps.toList lo hi = x.cps.toList := by
        unfold cut
        have hx : x.cps.toList.length = x.length := Array.length_toList
        rw [hx]
        have : clipL lo x.length = 0 := by
          rcases Nat.eq_zero_or_pos x.length with z | z <;> lia
        rw [this, List.drop_zero, List.take_of_length_le (by rw [hx]; lia)]
      refine ⟨Kp.refl _, at_str.mpr ⟨⟨t, ?_⟩, hlen⟩⟩
      rw [e4]
    · rw [e3]
      exact ⟨lim_size hlen, post_str hlen⟩
  · exact ofNone h
theorem sli_sound {G : Glo Z} {Φ : Fns} {L n : Nat} (iE : EvalOk G Φ L n) (iP : PartOk G Φ L n) {v : Expr} {lo hi : Option Expr} {p pos : Pos} {ae : AE} {a d : D} {x y : Option Int} {s : Shared} {env : Env} (Rm : Room L A) (S : St Z X s) (E : EnvOk Z X s.heap env ae)
    (ha : aeval Φ n v ae = some a) (hx : apart Φ n lo ae = some x) (hy : apart Φ n hi ae = some y) (hd : asli a x y = some d) : Gives Z X A s (eval (.Subscript v (.Slice lo hi none p) pos) env) d := by
  unfold Gives
  rw [eval_Subscript]
  refine wpAny_bind (wpAny_mono (iE v ae a ha A X s env Rm S E) (fun o s1 h1 => ?_) fun _ _ f => f)
  obtain ⟨k1, a1⟩ := h1
  refine wpAny_bind (wpAny_holding (wpAny_Slice (wpAny_mono (iP lo ae x hx A X s1 env Rm (S.kp k1) (E.kp S k1)) (fun vl s2 h2 => ?_) fun _ _ f => f)))
  refine x0_2 h2 fun k2 pl => ?_
  have S2 := (S.kp k1).kp k2
  have E2 := (E.kp S k1).kp (S.kp k1) k2
  refine wpAny_mono (iP hi ae y hy A X s2 env Rm S2 E2) (fun vu s3 h3 => ?_) fun _ _ f => f
  refine x0_2 h3 fun k3 pu => ?_
  refine wpAny_evalPart_none ?_
  refine wpAny_bind (wpAny_standAt ?_)
  have S3 := S2.kp k3
  have k4 : Kp Z s3 { s3 with heap := s3.heap.push { cls := .type "slice", data := .fields #[vl, vu, .none] } } := Kp.push _
  have a1' := ((a1.kp (S.kp k1) k2).kp S2 k3).kp S3 k4
  have hk : (∃ l, a = .list l) ∨ (∃ l, a = .tup l) ∨ ∃ x, a = .str x := (asli_kind hd).imp id .inr
  exact sub_step a1' hk (wpAny_mono (sli_getItem (S3.kp k4) a1' (Heap.get?_push_size _ rfl) pl pu hd) (fun r s5 h5 => post_trans (((k1.trans k2).trans k3).trans k4) h5) fun _ _ f => f)
theorem strs_are {h : Heap} : ∀ {l : List D} {xs : List Str'} {vs : List Value}, strsOf l = some xs → Ats h X vs l → StrsAre vs xs
  | [], xs, vs, e, a => by simp only [strsOf] at e; cases e; simp only [Ats] at a; subst a; exact .nil
  | d :: l, xs, vs, e, a => by
    cases d <;> first | (simp [strsOf] at e; done) | skip
    simp only [strsOf] at e
    refine mpd e ?_; clear e; intro r hl e
    cases e
    simp only [Ats] at a
    refine x2_3 a fun v vs' hr2 h1 h2 => ?_; subst hr2
    obtain ⟨t, rfl, _⟩ := at_strI h1
    exact .cons _ _ (strs_are hl h2)
theorem ajoin_sound {s : Shared} {sep : Str'} {t : Tok} {d1 d : D} {v : Value} (h1 : At s.heap X v d1) (h : ajoin sep d1 = some d) : Gives Z X A s (call (.builtin "str.join") [.str sep t, v]) d := by
  unfold ajoin at h
  split at h
  · rename_i l
    obtain ⟨a, vs, rfl, _, hl, hn, hvs⟩ := at_listI h1
    refine bnd h ?_; clear h; intro xs hx h
    refine bfd h ?_; clear h; intro hb h
    rw [← Option.some.inj h]
    simp only [Bool.and_eq_true, decide_eq_true_eq] at hb
    refine join_list hl (strs_are hx hvs) ?_ fun t' k => ⟨Kp.tok, at_strM ⟨t', rfl, hb.2⟩⟩
    exact Nat.le_trans hb.1 (by decide)
  · exact ofNone h
end
end Mine
namespace Mine
open PySem PySem.W PyProof.Rows PySem.SeqAt
section
variable {Z : Par} {X : Addr → Prop} {A : Around}
theorem ats_one {h : Heap} {vs : List Value} {d : D} (a : Ats h X vs [d]) : ∃ v, vs = [v] ∧ At h X v d := by
  simp only [Ats] at a
  refine x2_3 a fun v vs' hr2 h1 hr4 => ?_; subst hr2; subst hr4
  exact ⟨v, rfl, h1⟩
theorem ats_twoL {h : Heap} {vs : List Value} {d e : D} (a : Ats h X vs [d, e]) : ∃ v u, vs = [v, u] ∧ At h X v d ∧ At h X u e := by
  simp only [Ats] at a
  obtain ⟨v, vs', rfl, h1, u, us, rfl, h2, rfl⟩ := a
  exact ⟨v, u, rfl, h1, h2⟩
theorem ats_three {h : Heap} {vs : List Value} {d e f : D} (a : Ats h X vs [d, e, f]) : ∃ v u w, vs = [v, u, w] ∧ At h X v d ∧ At h X u e ∧ At h X w f := by
  simp only [Ats] at a
  obtain ⟨v, vs', rfl, h1, u, us, rfl, h2, w, ws, rfl, h3, rfl⟩ := a
  exact ⟨v, u, w, rfl, h1, h2, h3⟩
theorem iter_of_list {s s1 : Shared} {x : Value} {l : List D} {tt : Bool} (hh : A.handled = none) (S : St Z X s) (h : Post Z X s (.list l) x s1) :
    wpAny (model Z.prog Z.w) A (pyIter x) (IterPost Z A X tt l s) (fun _ _ => False) s1 := by
  obtain ⟨k1, a1⟩ := h
  obtain ⟨ax, vs, rfl, hax, hl, hn, hs⟩ := at_listI a1
  refine wpAny_pyIter_list hl ?_
  have kp : Kp Z s1 { s1 with heap := s1.heap.push { cls := .type "list_iterator", data := .fields #[.ref ax, .int 0 0] } } := Kp.push _
  have hI1 : s1.heap.get? s1.heap.objs.size = none := by
    cases q : s1.heap.get? s1.heap.objs.size with
    | none => rfl
    | some o => exact absurd (Heap.lt_size q) (Nat.lt_irrefl _)
  have hnew : (s1.heap.push { cls := .type "list_iterator", data := .fields #[.ref ax, .int 0 0] }).get? s1.heap.objs.size = some { cls := .type "list_iterator", data := .fields #[.ref ax, .int 0 0] } := Heap.get?_push_size _ rfl
  refine ⟨k1.trans kp, hn, s1.heap.objs.size, [s1.heap.objs.size], rfl, by simp, ?_, ?_⟩
  · intro b hb
    rw [List.mem_singleton.mp hb]
    exact ⟨dead_of k1 S.J (Nat.le_refl _), _, hnew⟩
  · intro X' h1 h2 h3
    have hfr : ∀ b, X' b → X b ∨ s1.heap.get? b = none := fun b hb => by
      rcases h3 b hb with q | q | q
      · exact .inl q
      · rw [List.mem_singleton.mp q]; exact .inr hI1
      · cases r : s1.heap.get? b with
        | none => exact .inr rfl
        | some o => rw [Heap.get?_push_of_some _ r] at q; cases q
    have hax' : ¬ X' ax := fun y => by
      rcases hfr ax y with q | q
      · exact hax q
      · refine x1_2 hl fun o ho _ => ?_; rw [q] at ho; exact ofNone ho
    exact ⟨_, _, iter_list hh tt _ ax (h2 _ (by simp)) hax' vs, 0, ⟨_, hnew, rfl, rfl⟩, hl.push _, by
      rw [List.drop_zero]
      exact Ats.grow hfr (fun b o _ e => Heap.get?_push_of_some _ e) _ _ hs⟩
theorem iter_of_tuple {s s1 : Shared} {x : Value} {l : List D} {tt : Bool} (hh : A.handled = none) (S : St Z X s) (h : Post Z X s (.tup l) x s1) :
    wpAny (model Z.prog Z.w) A (pyIter x) (IterPost Z A X tt l s) (fun _ _ => False) s1 := by
  obtain ⟨k1, a1⟩ := h
  obtain ⟨ax, vs, rfl, hax, hl, hn, hs⟩ := at_tupI a1
  refine wpAny_pyIter_tuple hl ?_
  have kp : Kp Z s1 { s1 with heap := s1.heap.push { cls := .type "tuple_iterator", data := .fields #[.ref ax, .int 0 0] } } := Kp.push _
  have hI1 : s1.heap.get? s1.heap.objs.size = none := by
    cases q : s1.heap.get? s1.heap.objs.size with
    | none => rfl
    | some o => exact absurd (Heap.lt_size q) (Nat.lt_irrefl _)
  have hnew : (s1.heap.push { cls := .type "tuple_iterator", data := .fields #[.ref ax, .int 0 0] }).get? s1.heap.objs.size = some { cls := .type "tuple_iterator", data := .fields #[.ref ax, .int 0 0] } := Heap.get?_push_size _ rfl
  refine ⟨k1.trans kp, hn, s1.heap.objs.size, [s1.heap.objs.size], rfl, by simp, ?_, ?_⟩
  · intro b hb
    rw [List.mem_singleton.mp hb]
    exact ⟨dead_of k1 S.J (Nat.le_refl _), _, hnew⟩
  · intro X' h1 h2 h3
    have hfr : ∀ b, X' b → X b ∨ s1.heap.get? b = none := fun b hb => by
      rcases h3 b hb with q | q | q
      · exact .inl q
      · rw [List.mem_singleton.mp q]; exact .inr hI1
      · cases r : s1.heap.get? b with
        | none => exact .inr rfl
        | some o => rw [Heap.get?_push_of_some _ r] at q; cases q
    have hax' : ¬ X' ax := fun y => by
      rcases hfr ax y with q | q
      · exact hax q
      · refine x1_2 hl fun o ho _ => ?_; rw [q] at ho; exact ofNone ho
    exact ⟨_, _, iter_tuple hh tt _ ax (h2 _ (by simp)) hax' vs, 0, ⟨_, hnew, rfl, rfl⟩, hl.push _, by
      rw [List.drop_zero]
      exact Ats.grow hfr (fun b o _ e => Heap.get?_push_of_some _ e) _ _ hs⟩
theorem iter_of_items {s s1 : Shared} {x : Value} {d : D} {l : List D} {tt : Bool} (hh : A.handled = none) (S : St Z X s) (hd : itemsOf d = some l) (h : Post Z X s d x s1) :
    wpAny (model Z.prog Z.w) A (pyIter x) (IterPost Z A X tt l s) (fun _ _ => False) s1 := by
  cases d <;> first | (cases hd; done) | skip
  · rw [← Option.some.inj hd]; exact iter_of_list hh S h
  · rw [← Option.some.inj hd]; exact iter_of_tuple hh S h
theorem iter_of_range {s s1 : Shared} {r : Addr} {a b c : Int} {t u v : Tok} {n : Nat} {tt : Bool} (hh : A.handled = none) (S : St Z X s) (k1 : Kp Z s s1) (hr : IsRange s1.heap r a b c t u v) (hsm : Builtin.Range.small a b c = true)
    (hn : Builtin.Range.rangeSize a b c = n) (hlim : n ≤ LIM) :
    wpAny (model Z.prog Z.w) A (pyIter (.ref r)) (IterPost Z A X tt (rangeC a c n) s) (fun _ _ => False) s1 := by
  refine wpAny_pyIter_range hr hsm ?_
  have kp : Kp Z s1 { s1 with heap := s1.heap.push { cls := .type "range_iterator", data := .fields #[rawInt a, rawInt (Builtin.Range.rangeSize a b c), rawInt c] } } := Kp.push _
  have hnew : (s1.heap.push { cls := .type "range_iterator", data := .fields #[rawInt a, rawInt (Builtin.Range.rangeSize a b c), rawInt c] }).get? s1.heap.objs.size = some { cls := .type "range_iterator", data := .fields #[rawInt a, rawInt (Builtin.Range.rangeSize a b c), rawInt c] } := Heap.get?_push_size _ rfl
  refine ⟨k1.trans kp, by unfold rangeC; simpa using hlim, s1.heap.objs.size, [s1.heap.objs.size], rfl, by simp, ?_, ?_⟩
  · intro b hb
    rw [List.mem_singleton.mp hb]
    exact ⟨dead_of k1 S.J (Nat.le_refl _), _, hnew⟩
  · intro X' h1 h2 h3
    refine ⟨_, _, iter_range hh tt _ (h2 _ (by simp)) a c n, 0, Nat.zero_le _, ?_, rfl⟩
    rw [hn] at hnew
    have e1 : a + ((0 : Nat) : Int) * c = a := by simp
    have e2 : (n : Int) - ((0 : Nat) : Int) = n := by simp
    rw [e1, e2]
    rw [hn]
    exact hnew
theorem small_up {k : Int} (h0 : 0 ≤ k) (h1 : k ≤ 1000) : Builtin.Range.small 0 k 1 = true ∧ Builtin.Range.rangeSize 0 k 1 = ((k.toNat : Nat) : Int) := by
  have e : Builtin.Range.rangeSize 0 k 1 = k := by
    rw [rangeSize_one]; split <;> lia
  refine ⟨?_, by rw [e]; lia⟩
  unfold Builtin.Range.small
  rw [e]
  have f : ∀ x : Int, -2000 ≤ x → x ≤ 2000 → Builtin.Range.rangeFitsLong x = true := fun x a b => by
    unfold Builtin.Range.rangeFitsLong
    simp only [Bool.and_eq_true, decide_eq_true_eq]
    constructor <;> lia
  simp only [f 0 (by lia) (by lia), f k (by lia) (by lia), f 1 (by lia) (by lia), f (k + (1 - 1)) (by lia) (by lia), Bool.and_self, Bool.true_and]
  simp
theorem small_down {a : Int} (h0 : 0 ≤ a) (h1 : a ≤ 1000) : Builtin.Range.small a 0 (-1) = true ∧ Builtin.Range.rangeSize a 0 (-1) = ((a.toNat : Nat) : Int) := by
  have e : Builtin.Range.rangeSize a 0 (-1) = a := by
    unfold Builtin.Range.rangeSize
    rw [if_neg (by lia)]
    split
    · have : (a - 0 - 1) / -(-1) = a - 1 := by simp
      rw [this]; lia
    · lia
  refine ⟨?_, by rw [e]; lia⟩
  unfold Builtin.Range.small
  rw [e]
  have f : ∀ x : Int, -2000 ≤ x → x ≤ 2000 → Builtin.Range.rangeFitsLong x = true := fun x a b => by
    unfold Builtin.Range.rangeFitsLong
    simp only [Bool.and_eq_true, decide_eq_true_eq]
    constructor <;> lia
  simp only [f 0 (by lia) (by lia), f a (by lia) (by lia), f (-1) (by lia) (by lia), Bool.and_self, Bool.true_and]
  rw [if_neg (by lia), f (0 + (-1 + 1)) (by lia) (by lia)]
  simp
theorem iter_of_zip {s s1 : Shared} {l1 l2 : Addr} {xs ys : Array Value} {l m : List D} (hh : A.handled = none) (S : St Z X s) (k1 : Kp Z s s1) (hX1 : ¬ X l1) (hX2 : ¬ X l2) (hl1 : s1.heap.IsList l1 xs) (hl2 : s1.heap.IsList l2 ys) (h1 : Ats s1.heap X xs.toList l) (h2 : Ats s1.heap X ys.toList m)
    (hlim : l.length ≤ LIM) :
    wpAny (model Z.prog Z.w) A (call (.type "zip") [.ref l1, .ref l2]) (fun x s2 => wpAny (model Z.prog Z.w) A (pyIter x) (IterPost Z A X true (pairsL l m) s) (fun _ _ => False) s2) (fun _ _ => False) s1 := by
  refine call_zip_2 hl1 hl2 fun h' e1 e2 e3 e4 e5 e6 e7 => wpAny_pyIter_zip e1 ?_
  have kp : Kp Z s1 { s1 with heap := h' } := Kp.of_heap (tk := s1.toks) e7
  have lt1 : l1 < s1.heap.objs.size := by obtain ⟨o, ho, _⟩ := hl1; exact Heap.lt_size ho
  have lt2 : l2 < s1.heap.objs.size := by obtain ⟨o, ho, _⟩ := hl2; exact Heap.lt_size ho
  have hdead1 : ∀ b, s1.heap.objs.size ≤ b → s1.heap.get? b = none := fun b hb => by
    cases q : s1.heap.get? b with
    | none => rfl
    | some o => exact absurd (Heap.lt_size q) (Nat.not_lt.mpr hb)
  generalize hn : s1.heap.objs.size = n at *
  have hpl : ∀ (l m : List D), (pairsL l m).length ≤ l.length := by
    intro l
    induction l with
    | nil => intro m; simp [pairsL]
    | cons a l ih => intro m; cases m with
      | nil => simp [pairsL]
      | cons b m => simp only [pairsL, List.length_cons]; have := ih m; lia
  refine ⟨k1.trans kp, Nat.le_trans (hpl l m) hlim, n + 4, [n + 4, n + 3, n, n + 1], rfl, by simp, ?_, ?_⟩
  · intro b hb
    have hge : n ≤ b ∧ ∃ o, h'.get? b = some o := by
      simp only [List.mem_cons, List.not_mem_nil, or_false] at hb
      rcases hb with rfl | rfl | rfl | rfl
      · exact ⟨Nat.le_add_right _ _, _, e1⟩
      · exact ⟨Nat.le_add_right _ _, _, e3⟩
      · refine x1_2 e4 fun o ho _ => ?_; exact ⟨Nat.le_refl _, o, ho⟩
      · refine x1_2 e5 fun o ho _ => ?_; exact ⟨Nat.le_add_right _ _, o, ho⟩
    exact ⟨dead_of k1 S.J (by rw [hn]; exact hge.1), hge.2⟩
  · intro X' q1 q2 q3
    have hfr : ∀ b, X' b → X b ∨ s1.heap.get? b = none := fun b hb => by
      rcases q3 b hb with q | q | q
      · exact .inl q
      · right
        refine hdead1 b ?_
        simp only [List.mem_cons, List.not_mem_nil, or_false] at q
        rcases q with rfl | rfl | rfl | rfl <;> first | exact Nat.le_add_right _ _ | exact Nat.le_refl _
      · cases r : s1.heap.get? b with
        | none => exact .inr rfl
        | some o => have := e7 b o r; dsimp only at q; rw [this] at q; cases q
    have hnot : ∀ a, ¬ X a → (∃ o, s1.heap.get? a = some o) → ¬ X' a := fun a ha ⟨o, ho⟩ y => by
      rcases hfr a y with q | q
      · exact ha q
      · rw [q] at ho; exact ofNone ho
    have hTI : ¬ X' (n + 2) := fun y => by
      rcases q3 _ y with q | q | q
      · refine x1_1 (S.live _ q) fun o ho => ?_
        rw [dead_of k1 S.J (b := n + 2) (by rw [hn]; exact Nat.le_add_right _ _)] at ho; exact ofNone ho
      · simp only [List.mem_cons, List.not_mem_nil, or_false] at q
        rcases q with q | q | q | q
        · exact absurd (show (n + 2 : Nat) = n + 4 from q) (by lia)
        · exact absurd (show (n + 2 : Nat) = n + 3 from q) (by lia)
        · exact absurd (show (n + 2 : Nat) = n from q) (by lia)
        · exact absurd (show (n + 2 : Nat) = n + 1 from q) (by lia)
      · dsimp only at q; rw [e2] at q; cases q
    have ap : ZipApart (n + 4) (n + 2) (n + 3) n (n + 1) l1 l2 := by
      have a1 : @LT.lt Nat _ l1 n := lt1
      have a2 : @LT.lt Nat _ l2 n := lt2
      constructor <;> (refine neN ?_; lia)
    refine ⟨_, _, iter_zip hh (n + 4) (n + 2) (n + 3) n (n + 1) l1 l2 ap (q2 _ (by simp)) (q2 _ (by simp)) (q2 _ (by simp)) (q2 _ (by simp)) hTI (hnot l1 hX1 (by obtain ⟨o, ho, _⟩ := hl1; exact ⟨o, ho⟩)) (hnot l2 hX2 (by obtain ⟨o, ho, _⟩ := hl2; exact ⟨o, ho⟩)) xs ys,
      0, l, m, _, _, e1, e2, e3, e4, e5, hl1.at fun o => e7 _ o, hl2.at fun o => e7 _ o, ?_, ?_, rfl⟩
    · rw [List.drop_zero]; exact Ats.grow hfr (fun b o _ e => e7 b o e) _ _ h1
    · rw [List.drop_zero]; exact Ats.grow hfr (fun b o _ e => e7 b o e) _ _ h2
end
end Mine
namespace Mine
open PySem PySem.W PyProof.Rows PySem.SeqAt
section
variable {Z : Par} {X : Addr → Prop} {A : Around}
theorem aint_sound {s : Shared} {d1 d : D} {v : Value} (h1 : At s.heap X v d1) (h : aint d1 = some d) : Gives Z X A s (call (.type "int") [v]) d := by
  unfold aint at h
  split at h
  · rename_i x
    obtain ⟨t, rfl⟩ := at_flt.mp h1
    cases hd : Float64.decode x with
    | fin sg m e => rw [hd] at h; rw [← Option.some.inj h]; exact PySem.call_int_float hd post_int
    | _ => rw [hd] at h; exact ofNone h
  · exact ofNone h
theorem achr_sound {s : Shared} {d1 d : D} {v : Value} (h1 : At s.heap X v d1) (h : achr d1 = some d) : Gives Z X A s (call (.builtin "chr") [v]) d := by
  unfold achr at h
  split at h
  · rename_i i
    obtain ⟨t, rfl⟩ := at_int.mp h1
    refine bfd h ?_; clear h; intro hb h
    rw [← Option.some.inj h]
    simp only [Bool.and_eq_true, decide_eq_true_eq] at hb
    refine PySem.P.chr_of_int ?_ (post_str (by show 1 ≤ LIM; decide))
    rw [Bool.or_eq_false_iff, decide_eq_false_iff_not, decide_eq_false_iff_not]
    lia
  · exact ofNone h
theorem constant_sound {s : Shared} {env : Env} {c : Const} {k : Nat} {p : Pos} {d : D} (h : aconst c = some d) : Gives Z X A s (eval (.Constant c k p) env) d := by
  cases c with
  | none => rw [← Option.some.inj h]; exact wpAny_Constant_none ⟨Kp.refl _, at_non.mpr rfl⟩
  | bool b => rw [← Option.some.inj h]; exact wpAny_Constant_bool post_bool
  | int i => rw [← Option.some.inj h]; exact wpAny_Constant_int post_int
  | str x =>
    refine bfd h fun hb h => ?_
    rw [← Option.some.inj h]; exact wpAny_Constant_str (post_str (of_decide_eq_true hb))
  | float x => rw [← Option.some.inj h]; exact PySem.wpAny_Constant_float post_flt
  | _ => exact ofNone h
theorem bin_sound {G : Glo Z} {Φ : Fns} {L n : Nat} (iE : EvalOk G Φ L n) {l r : Expr} {op : Operator} {pos : Pos} {ae : AE} {a b d : D} {s : Shared} {env : Env} (Rm : Room L A) (S : St Z X s) (E : EnvOk Z X s.heap env ae)
    (ha : aeval Φ n l ae = some a) (hb : aeval Φ n r ae = some b) (hd : abin op a b = some d) : Gives Z X A s (eval (.BinOp l op r pos) env) d := by
  refine wpAny_BinOp (wpAny_mono (iE l ae a ha A X s env Rm S E) (fun v s1 h1 => ?_) fun _ _ f => f)
  obtain ⟨k1, a1⟩ := h1
  refine wpAny_mono (iE r ae b hb A X s1 env Rm (S.kp k1) (E.kp S k1)) (fun u s2 h2 => ?_) fun _ _ f => f
  obtain ⟨k2, a2⟩ := h2
  exact wpAny_mono (abin_sound ((S.kp k1).kp k2) (a1.kp (S.kp k1) k2) a2 hd) (fun r s3 h3 => post_trans (k1.trans k2) h3) fun _ _ f => f
theorem not_sound {s : Shared} {v : Value} {a : D} {b : Bool} (h1 : At s.heap X v a) (h : atr a = some b) : Gives Z X A s (unaryOp .Not v) (.bool (!b)) :=
  not_value (wpAny_mono (atr_sound h1 h) (fun r s' h' => ⟨h'.2, at_bool.mpr (by rw [h'.1])⟩) fun _ _ f => f)
theorem marked_pure {op : CmpOp} {e : Expr} {Φ : Fns} {n : Nat} {ae : AE} {d : D} (h : aeval Φ n e ae = some d) : behindInMarks op e = false := by
  cases e <;> first | rfl | skip
  cases n <;> exact ofNone h
theorem cmp1_sound {G : Glo Z} {Φ : Fns} {L n : Nat} (iE : EvalOk G Φ L n) {l r : Expr} {op : CmpOp} {pos : Pos} {ae : AE} {a b : D} {c : Bool} {s : Shared} {env : Env} (Rm : Room L A) (S : St Z X s) (E : EnvOk Z X s.heap env ae)
    (ha : aeval Φ n l ae = some a) (hb : aeval Φ n r ae = some b) (hd : acmp op a b = some c) : Gives Z X A s (eval (.Compare l [op] [r] pos) env) (.bool c) := by
  refine wpAny_Compare1 (wpAny_mono (iE l ae a ha A X s env Rm S E) (fun v s1 h1 => ?_) fun _ _ f => f) (marked_pure hb)
  obtain ⟨k1, a1⟩ := h1
  refine wpAny_mono (iE r ae b hb A X s1 env Rm (S.kp k1) (E.kp S k1)) (fun u s2 h2 => ?_) fun _ _ f => f
  obtain ⟨k2, a2⟩ := h2
  exact wpAny_mono (acmp_sound Rm.un1 (a1.kp (S.kp k1) k2) a2 hd) (fun r s3 h3 => post_trans (k1.trans k2) h3) fun _ _ f => f
theorem chain_sound {G : Glo Z} {Φ : Fns} {L n : Nat} (iE : EvalOk G Φ L n) {m r : Expr} {op1 op2 : CmpOp} {pos : Pos} {ae : AE} {a b : D} {c res : Bool} {s s0 : Shared} {env : Env} {lv : Value} (Rm : Room L A) (S : St Z X s) (E : EnvOk Z X s.heap env ae) (k0 : Kp Z s0 s)
    (ha : At s.heap X lv a) (hb : aeval Φ n m ae = some b) (hc : acmp op1 a b = some c)
    (hr : (c = true ∧ ∃ d, aeval Φ n r ae = some d ∧ acmp op2 b d = some res) ∨ (c = false ∧ res = false)) :
    wpAny (model Z.prog Z.w) A (compareChain pos lv [op1, op2] (markedEach [op1, op2] [m, r] (evalEach [m, r] env))) (Post Z X s0 (.bool res)) (fun _ _ => False) s ∧
    wpAny (model Z.prog Z.w) A (testChain pos lv [op1, op2] (markedEach [op1, op2] [m, r] (evalEach [m, r] env))) (fun q s' => q = res ∧ Kp Z s0 s') (fun _ _ => False) s := by
  have hm2 : ∀ op, c = true → markedBehindIn op r (eval r env) = eval r env := fun op hct => by
    rcases hr with ⟨_, d, hd, _⟩ | ⟨hf, _⟩
    · exact markedBehindIn_of_false (marked_pure hd)
    · rw [hct] at hf; cases hf
  have first_ : ∀ {β : Type} (K : Value → Value → Sem β) (Q : β → Shared → Prop), (∀ (rv : Value) (s2 : Shared), Kp Z s0 s2 → St Z X s2 → EnvOk Z X s2.heap env ae → At s2.heap X rv b → wpAny (model Z.prog Z.w) A (K rv (.bool c)) Q (fun _ _ => False) s2) →
      wpAny (model Z.prog Z.w) A (do let rv ← holding [lv] (eval m env); standAt pos; let c ← holding [lv, rv] (compareOp op1 lv rv); release [lv, rv] [c]; K rv c) Q (fun _ _ => False) s := by
    intro β K Q hK
    refine wpAny_bind (wpAny_holding (wpAny_mono (iE m ae b hb A X s env Rm S E) (fun rv s1 h1 => ?_) fun _ _ f => f))
    obtain ⟨k1, a1⟩ := h1
    have S1 := S.kp k1
    refine wpAny_bind (wpAny_standAt (wpAny_bind (wpAny_holding (wpAny_mono (acmp_sound Rm.un1 (ha.kp S k1) a1 hc) (fun cv s2 h2 => ?_) fun _ _ f => f))))
    obtain ⟨k2, a2⟩ := h2
    have := at_bool.mp a2; subst this
    refine wpAny_bind ?_
    refine wpAny_release ?_
    exact hK rv s2 ((k0.trans k1).trans k2) (S1.kp k2) ((E.kp S k1).kp S1 k2) (a1.kp S1 k2)
  constructor
  · show wpAny _ _ (do
      let rv ← holding [lv] (eval m env)
      standAt pos
      let c ← holding [lv, rv] (compareOp op1 lv rv)
      release [lv, rv] [c]
      if ← holding [c, rv] (truthy c) then compareChain pos rv [op2] [markedBehindIn op2 r (eval r env)] else pure c) _ _ _
    refine first_ (fun rv c => do if ← holding [c, rv] (truthy c) then compareChain pos rv [op2] [markedBehindIn op2 r (eval r env)] else pure c) _ ?_
    intro rv s2 k S2 E2 a2
    refine wpAny_bind (wpAny_holding (wpAny_truthy_bool ?_))
    rcases hr with ⟨rfl, d, hd, hres⟩ | ⟨rfl, rfl⟩
    · rw [hm2 op2 rfl]
      show wpAny _ _ (do let rv' ← holding [rv] (eval r env); standAt pos; operate [rv, rv'] (compareOp op2 rv rv')) _ _ _
      refine wpAny_bind (wpAny_holding (wpAny_mono (iE r ae d hd A X s2 env Rm S2 E2) (fun u s3 h3 => wpAny_bind (wpAny_standAt (wpAny_operating ?_))) fun _ _ f => f))
      obtain ⟨k3, a3⟩ := h3
      exact wpAny_mono (acmp_sound Rm.un1 (a2.kp S2 k3) a3 hres) (fun q s4 h4 => post_trans (k.trans k3) h4) fun _ _ f => f
    · exact wpAny_pure ⟨k, at_bool.mpr rfl⟩
  · show wpAny _ _ (do
      let rv ← holding [lv] (eval m env)
      standAt pos
      let c ← holding [lv, rv] (compareOp op1 lv rv)
      release [lv, rv] [c]
      if ← holding [c, rv] (truthy c) then testChain pos rv [op2] [markedBehindIn op2 r (eval r env)] else pure false) _ _ _
    refine first_ (fun rv c => do if ← holding [c, rv] (truthy c) then testChain pos rv [op2] [markedBehindIn op2 r (eval r env)] else pure false) _ ?_
    intro rv s2 k S2 E2 a2
    refine wpAny_bind (wpAny_holding (wpAny_truthy_bool ?_))
    rcases hr with ⟨rfl, d, hd, hres⟩ | ⟨rfl, rfl⟩
    · rw [hm2 op2 rfl]
      show wpAny _ _ (do let rv' ← holding [rv] (eval r env); standAt pos; let c ← operate [rv, rv'] (compareOp op2 rv rv'); holding [c] (truthy c)) _ _ _
      refine wpAny_bind (wpAny_holding (wpAny_mono (iE r ae d hd A X s2 env Rm S2 E2) (fun u s3 h3 => wpAny_bind (wpAny_standAt (wpAny_bind (wpAny_operating ?_)))) fun _ _ f => f))
      obtain ⟨k3, a3⟩ := h3
      refine wpAny_mono (acmp_sound Rm.un1 (a2.kp S2 k3) a3 hres) (fun q s4 h4 => ?_) fun _ _ f => f
      obtain ⟨k4, a4⟩ := h4
      have := at_bool.mp a4; subst this
      exact wpAny_holding (wpAny_truthy_bool ⟨rfl, (k.trans k3).trans k4⟩)
    · exact wpAny_pure ⟨rfl, k⟩
end
end Mine
namespace Mine
open PySem PySem.W PyProof.Rows PySem.SeqAt
section
variable {Z : Par} {X : Addr → Prop} {A : Around}
theorem joined_sound {G : Glo Z} {Φ : Fns} {L n : Nat} (iE : EvalOk G Φ L n) {ae : AE} : ∀ (vs : List Expr) (acc x : Str'), ajoined (fun e => aeval Φ n e ae) acc vs = some x →
    ∀ (s s0 : Shared) (env : Env) (Q : Str' → Shared → Prop), Kp Z s0 s → Room L A → St Z X s → EnvOk Z X s.heap env ae → acc.length ≤ LIM → (∀ s', Kp Z s0 s' → x.length ≤ LIM → Q x s') →
    Joins (model Z.prog Z.w) A (fun _ _ => False) (evalEach vs env) acc Q s
  | [], acc, x, h, s, s0, env, Q, k, R, S, E, hl, hq => by
    cases h
    exact hq s k hl
  | e :: vs, acc, x, h, s, s0, env, Q, k, R, S, E, hl, hq => by
    refine bnd h fun d hy h => bnd h fun y hd h => bnd h fun z ha hz => bfd ha fun hb ha => ?_
    rw [sGet_inv hd] at hy
    cases ha
    have hlen : (acc ++ y).length ≤ LIM := by rw [str_len_append]; exact of_decide_eq_true hb
    show wpAny _ _ (eval e env) _ _ _
    have go : ∀ (v : Value) (s1 : Shared), Post Z X s (.str y) v s1 → ∃ q t, v = .str q t ∧ (acc ++ q).length ≤ sizeLine ∧ Joins (model Z.prog Z.w) A (fun _ _ => False) (evalEach vs env) (acc ++ q) Q s1 := fun v s1 h1 => by
      obtain ⟨t, rfl, _⟩ := at_strI h1.2
      exact ⟨y, t, rfl, lim_size hlen, joined_sound iE vs (acc ++ y) x hz s1 s0 env Q (k.trans h1.1) R (S.kp h1.1) (E.kp S h1.1) hlen hq⟩
    cases e with
    | FormattedValue v c fs p =>
      cases fs with
      | some _ => exact ofNone hy
      | none =>
        refine bfd hy fun hc hy => ?_
        rw [eq_of_beq hc]
        refine wpAny_FormattedValue_plain (iE.run hy R S E fun u s1 k1 a1 _ _ => ?_)
        obtain ⟨t, rfl, hy2⟩ := at_strI a1
        exact wpAny_formatField_str (go _ _ ⟨k1, at_strM ⟨t, rfl, hy2⟩⟩) (go _ _ ⟨k1.trans Kp.tok, at_strM ⟨_, rfl, hy2⟩⟩) (lim_size hy2)
    | Constant c k p => exact wpAny_mono (constant_sound (X := X) hy) (fun v s1 h1 => go v s1 h1) fun _ _ f => f
    | _ => exact ofNone hy
theorem call1_sound {G : Glo Z} (B : BiOk G) {Φ : Fns} {L n : Nat} (iE : EvalOk G Φ L n) {ae : AE} {f : Str'} {fp pos : Pos} {args : List Expr} {ds : List D} {d : D} {s : Shared} {env : Env} (Rm : Room L A) (S : St Z X s) (E : EnvOk Z X s.heap env ae)
    (hg : ae.glob f = true) (ha : aevals (fun e => aeval Φ n e ae) args = some ds) (hd : acall1 f ds = some d) : Gives Z X A s (eval (.Call (.Name f fp) args [] pos) env) d := by
  unfold acall1 at hd
  split at hd
  · rename_i d1
    have bi : ∀ (id : String), G.val f (.builtin id) → (∀ s' v, St Z X s' → At s'.heap X v d1 → Gives Z X A s' (call (.builtin id) [v]) d) → Gives Z X A s (eval (.Call (.Name f fp) args [] pos) env) d := by
      intro id hv hc
      refine wpAny_Call_NameR (name_glob G S E hg hv (call_builtin_sound iE ha Rm S E fun s' vs S' a => ?_))
      refine x1_2 (ats_one a) fun v hr1 a1 => ?_; subst hr1
      exact hc s' v S' a1
    cases h1 : (f == Str.ofString "len") with
    | true =>
      rw [h1] at hd
      have e : f = Str.ofString "len" := eq_of_beq h1
      exact bi "len" (by rw [e]; exact B.len) fun s' v S' a => alen_sound a hd
    | false =>
      rw [h1] at hd
      dsimp only [cond_false] at hd
      cases h2 : (f == Str.ofString "chr") with
      | true =>
        rw [h2] at hd
        have e : f = Str.ofString "chr" := eq_of_beq h2
        exact bi "chr" (by rw [e]; exact B.chr) fun s' v S' a => achr_sound a hd
      | false =>
        rw [h2] at hd
        dsimp only [cond_false] at hd
        cases h3 : (f == Str.ofString "sorted") with
        | true =>
          rw [h3] at hd
          have e : f = Str.ofString "sorted" := eq_of_beq h3
          exact bi "sorted" (by rw [e]; exact B.sorted) fun s' v S' a => asorted_sound S' a hd
        | false =>
          rw [h3] at hd
          dsimp only [cond_false] at hd
          cases h4 : (f == Str.ofString "int") with
          | true =>
            rw [h4] at hd
            have e : f = Str.ofString "int" := eq_of_beq h4
            refine wpAny_Call_NameR (name_glob G S E hg (by rw [e]; exact B.int) (call_type_sound iE ha Rm S E fun s' vs k a => ?_))
            refine x1_2 (ats_one a) fun v hr1 a1 => ?_; subst hr1
            exact wpAny_mono (aint_sound a1 hd) (fun r s2 h2 => post_trans k h2) fun _ _ f => f
          | false => rw [h4] at hd; exact ofNone hd
  · exact ofNone hd
theorem isTup_inv {d : D} (h : isTup d = true) : ∃ l, d = .tup l := by
  cases d with
  | tup l => exact ⟨l, rfl⟩
  | _ => exact Bool.noConfusion h
theorem isFlt_inv {d : D} (h : isFlt d = true) : ∃ l, d = .flt l := by
  cases d with
  | flt l => exact ⟨l, rfl⟩
  | _ => exact Bool.noConfusion h
theorem isStr_inv {d : D} (h : isStr d = true) : ∃ l, d = .str l := by
  cases d with
  | str l => exact ⟨l, rfl⟩
  | _ => exact Bool.noConfusion h
theorem isi_sound {G : Glo Z} (B : BiOk G) {Φ : Fns} {L n : Nat} (iE : EvalOk G Φ L n) {ae : AE} {T : Str'} {fp tp pos : Pos} {x : Expr} {d1 d : D} {s : Shared} {env : Env} (Rm : Room L A) (S : St Z X s) (E : EnvOk Z X s.heap env ae)
    (hg : ae.glob (Str.ofString "isinstance") = true) (hT : ae.glob T = true) (hx : aeval Φ n x ae = some d1) (hd : aisi d1 T = some d) :
    Gives Z X A s (eval (.Call (.Name (Str.ofString "isinstance") fp) [x, .Name T tp] [] pos) env) d := by
  have go : ∀ (tn : String) (ty : typeOf (.type tn) = pure (.type "type")) (su : isSubtype (.type tn) (.type tn) = pure true), G.val T (.type tn) → (∀ (s' : Shared) v, At s'.heap X v d1 → s'.TypeIs v tn) → d = .bool true →
      Gives Z X A s (eval (.Call (.Name (Str.ofString "isinstance") fp) [x, .Name T tp] [] pos) env) d := by
    intro tn ty su hv hti hdt
    rw [hdt]
    refine wpAny_Call_NameR (name_glob G S E hg B.isinstance ?_)
    refine PySem.Calls.callWith_builtin (by rw [star_ne hx]; rfl) ?_
    have go2 : wpAny (model Z.prog Z.w) A (spliced (backTo pos (starEach [x, .Name T tp] env))) (fun vs s' => wpAny (model Z.prog Z.w) A (call (.builtin "isinstance") ([] ++ vs) []) (Post Z X s (.bool true)) (fun _ _ => False) s') (fun _ _ => False) s := by
      refine wpAny_items_cons (wpAny_mono (iE x ae d1 hx A X s env Rm S E) (fun v s1 h1 => ?_) fun _ _ f => f) (star_ne hx)
      obtain ⟨k1, a1⟩ := h1
      refine wpAny_items_cons (name_glob G (S.kp k1) (E.kp S k1) hT hv (wpAny_items_nil ?_))
      exact call_isinstance (isinstance_true ty su) ⟨hti s1 v a1, k1, at_bool.mpr rfl⟩
    rw [star_ne hx] at go2 ⊢
    exact PySem.Calls.evalArgs_plain go2
  unfold aisi at hd
  cases h1 : (T == Str.ofString "tuple") with
  | true =>
    rw [h1] at hd
    refine bfd hd fun hk hd => ?_
    obtain ⟨l, hl⟩ := isTup_inv hk
    exact go "tuple" (by kernel_rfl) PySem.AutoSeq1.sub_tuple_tuple (by rw [eq_of_beq h1]; exact B.tuple) (fun s' v a => by rw [hl] at a; obtain ⟨b, vs, rfl, _, ht, _⟩ := at_tupI a; exact Heap.IsTuple.typeIs ht) (Option.some.inj hd).symm
  | false =>
    rw [h1] at hd
    dsimp only [cond_false] at hd
    cases h2 : (T == Str.ofString "float") with
    | true =>
      rw [h2] at hd
      refine bfd hd fun hk hd => ?_
      obtain ⟨l, hl⟩ := isFlt_inv hk
      exact go "float" (by kernel_rfl) (by rw [isSubtype_type]; kernel_rfl) (by rw [eq_of_beq h2]; exact B.float) (fun s' v a => by rw [hl] at a; obtain ⟨t, rfl⟩ := at_flt.mp a; rfl) (Option.some.inj hd).symm
    | false =>
      rw [h2] at hd
      refine bfd hd fun h3 hd => bfd hd fun hk hd => ?_
      obtain ⟨l, hl⟩ := isStr_inv hk
      exact go "str" (by kernel_rfl) (by rw [isSubtype_type]; kernel_rfl) (by rw [eq_of_beq h3]; exact B.str) (fun s' v a => by rw [hl] at a; obtain ⟨t, rfl, _⟩ := at_strI a; rfl) (Option.some.inj hd).symm
end
end Mine
namespace Mine
open PySem PySem.W PyProof.Rows PySem.SeqAt
section
variable {Z : Par} {X : Addr → Prop} {A : Around}
theorem base_of {o : Expr} {name : Str'} {env : Env} {w : Sem Value} (h : okBase o = true) : attributeBase o name env w = w := by
  cases o with
  | Call f args kw pos =>
    cases f with
    | Name id p =>
      cases args with
      | nil => cases kw with
        | nil => cases h
        | cons _ _ => rfl
      | cons _ _ => rfl
    | _ => rfl
  | _ => rfl
theorem aevals_length {f : Expr → Option D} : ∀ {es : List Expr} {ds : List D}, aevals f es = some ds → es.length = ds.length
  | [], ds, h => by simp only [aevals] at h; rw [← Option.some.inj h]; rfl
  | e :: es, ds, h => by
    simp only [aevals] at h
    refine bnd h ?_; clear h; intro d hd h
    refine mpd h ?_; clear h; intro l hl h
    cases h; simp [aevals_length hl]
theorem gives_find4 (x y : Str') (i j : Int) (t u v w : Tok) : PySem.Gives (Builtin.«str.find» ⟨[.str x t, .str y u, .int i v, .int j w], []⟩) (.int (afind x y i j)) := by
  show PySem.Gives (match Builtin.Str.occurrences x y (fromIndex x.length i) (min (fromIndex x.length j) x.length) 1 with | k :: _ => retInt k | [] => (do rule "str.find.not-found"; retInt (-1))) _
  unfold afind
  cases Builtin.Str.occurrences x y (fromIndex x.length i) (min (fromIndex x.length j) x.length) 1 with
  | nil => exact .rule (.of_eq rfl)
  | cons k _ => exact .of_eq rfl
theorem meth_one {G : Glo Z} {Φ : Fns} {L n : Nat} (iE : EvalOk G Φ L n) {o : Expr} {m : Str'} {id : String} {apos pos : Pos} {args : List Expr} {ae : AE} {x : Str'} {d : D} {ds : List D} {s : Shared} {env : Env} (Rm : Room L A) (S : St Z X s) (E : EnvOk Z X s.heap env ae)
    (hl : (apos.endLine == pos.line) = true) (hb : okBase o = true) (ho : aeval Φ n o ae = some (.str x)) (ha : aevals (fun e => aeval Φ n e ae) args = some ds) (hlen : decide (args.length < 30) = true)
    (slot : Slot "str" m id) (hty : typeOf (.builtin id) = pure (.type "method_descriptor"))
    (hc : ∀ (s' : Shared) (t : Tok) (vs : List Value), St Z X s' → Ats s'.heap X vs ds → x.length ≤ LIM → Gives Z X A s' (call (.builtin id) (.str x t :: vs)) d) :
    Gives Z X A s (eval (.Call (.Attribute o m apos) args [] pos) env) d := by
  refine wpAny_Call_method (T := "str") (id := id) (base_of hb) ?_ hl PySem.F.plainAttrs_str slot hty ?_
  · rw [(backTo_any args _ ha).2]
    exact hlen
  · refine wpAny_mono (iE o ae _ ho A X s env Rm S E) (fun ov s1 h1 => ?_) fun _ _ f => f
    obtain ⟨k1, a1⟩ := h1
    obtain ⟨t, rfl, hx⟩ := at_strI a1
    refine ⟨typeIs_str _ _ _, (fun a e => by cases e), ?_⟩
    refine PySem.Calls.callWith_builtin (backTo_any args _ ha).1 (wpAny_mono (evalArgs_sound iE ha Rm (S.kp k1) (E.kp S k1)) (fun q s2 h2 => ?_) fun _ _ x => x)
    refine x1_3 h2 fun vs hr1 k2 a2 => ?_; subst hr1
    exact wpAny_mono (hc s2 t vs ((S.kp k1).kp k2) a2 hx) (fun r s3 h3 => post_trans (k1.trans k2) h3) fun _ _ f => f
theorem meth_sound {G : Glo Z} {Φ : Fns} {L n : Nat} (iE : EvalOk G Φ L n) {o : Expr} {m : Str'} {apos pos : Pos} {args : List Expr} {ae : AE} {d1 d : D} {ds : List D} {s : Shared} {env : Env} (Rm : Room L A) (S : St Z X s) (E : EnvOk Z X s.heap env ae)
    (hl : (apos.endLine == pos.line) = true) (hb : okBase o = true) (ho : aeval Φ n o ae = some d1) (ha : aevals (fun e => aeval Φ n e ae) args = some ds) (h : ameth m d1 ds = some d) :
    Gives Z X A s (eval (.Call (.Attribute o m apos) args [] pos) env) d := by
  have hlen := aevals_length ha
  refine bnd h fun x hx h => ?_
  have ho := sGet_inv hx ▸ ho
  cases ds with
  | nil => exact ofNone h
  | cons d2 r => cases r with
    | nil =>
      refine bfd h fun hm h => ?_
      rw [eq_of_beq hm]
      refine meth_one iE Rm S E hl hb ho ha (by rw [hlen]; rfl) PySem.F.slot_str_join PySem.F.type_str_join fun s' t vs S' a hx => ?_
      refine x1_2 (ats_one a) fun v hr1 a3 => ?_; subst hr1
      exact ajoin_sound a3 h
    | cons d3 r =>
      refine bnd h fun y hy h => ?_
      cases r with
      | nil =>
        refine bnd h fun z hz h => bfd h fun hm h => bfd h fun hc h => ?_
        rw [eq_of_beq hm, ← Option.some.inj h]
        refine meth_one iE Rm S E hl hb ho ha (by rw [hlen]; rfl) PySem.F.slot_str_replace PySem.F.type_str_replace fun s' t vs S' a hx => ?_
        refine x2_3 (ats_twoL a) fun v u hr2 a1 a2 => ?_; subst hr2
        obtain ⟨t1, rfl, _⟩ := at_strI (sGet_inv hy ▸ a1)
        obtain ⟨t2, rfl, _⟩ := at_strI (sGet_inv hz ▸ a2)
        refine call_gives PySem.F.slot_str_replace (typeIs_str _ _ _) PySem.F.entry_str_replace (PySem.F.args_str_replace_3 _ _ _) (gives_str_replace x y z t t1 t2 (fun hf => by rw [hc] at hf; cases hf)) ?_
        rw [hc, if_pos (by rfl)]
        exact ⟨Kp.refl _, at_strM ⟨_, rfl, hx⟩⟩
      | cons d4 r => cases r with
        | nil =>
          refine bnd h fun i hi h => bnd h fun j hj h => bfd h fun hm h => ?_
          rw [eq_of_beq hm, ← Option.some.inj h]
          refine meth_one iE Rm S E hl hb ho ha (by rw [hlen]; rfl) PySem.F.slot_str_find PySem.F.type_str_find fun s' t vs S' a hx => ?_
          refine x3_4 (ats_three a) fun v u w hr3 a1 a2 a3 => ?_; subst hr3
          obtain ⟨t1, rfl, _⟩ := at_strI (sGet_inv hy ▸ a1)
          refine x1_1 (at_int.mp (iGet_inv hi ▸ a2)) fun t2 hr1 => ?_; subst hr1
          refine x1_1 (at_int.mp (iGet_inv hj ▸ a3)) fun t3 hr1 => ?_; subst hr1
          exact call_gives PySem.F.slot_str_find (typeIs_str _ _ _) PySem.F.entry_str_find (PySem.F.args_str_find_4 _ _ _ _) (gives_find4 x y i j t t1 t2 t3) ⟨Kp.tok, at_int.mpr ⟨_, rfl⟩⟩
        | cons _ _ => exact ofNone h
theorem compr_end {s s' : Shared} {Dd C : Addr} {out : List D} (S : St Z X s) (k : Kp Z s s') (hC : s.heap.get? C = none) (hm : ∃ m, s'.heap.Ns C m) (ha : At s'.heap (fun b => X b ∨ b = C) (.ref Dd) (.list out)) :
    compPost (model Z.prog Z.w) A (fun _ _ => False) none (Post Z X s (.list out)) (.ref Dd) C (.ok .next) s' := by
  refine x1_1 hm fun m hm => ?_
  refine ⟨m, hm, fun h' hs => ?_⟩
  obtain ⟨a, vs, e, hx, hl, hn, hvs⟩ := at_listI ha
  cases e
  refine ⟨⟨k.os, k.gens, fun b o n e => ?_, fun j => ?_⟩, at_listM ⟨_, vs, rfl, fun x => hx (.inl x), hl.at fun o e => (hs.2 _ (fun q => hx (.inr q))).trans e, hn, ?_⟩⟩
  · exact (hs.2 b (fun q => by rw [q, hC] at e; cases e)).trans (k.keep b o n e)
  · refine Z.Jk _ _ (fun b o t e => (hs.2 b (fun q => ?_)).trans e) (k.J j)
    refine x1_1 (Z.JT _ S.J b t) fun o' ho' => ?_
    rw [q, hC] at ho'; cases ho'
  · exact Ats.mono (fun b x => .inl x) (fun b o n e => (hs.2 b (fun q => n (.inr q))).trans e) _ _ hvs
theorem eval_step {G : Glo Z} (B : BiOk G) {Φ : Fns} {L n : Nat} (hΦ : FnsOk G L Φ) (iE : EvalOk G Φ L n) (iT : TrueOk G Φ L n) (iP : PartOk G Φ L n) (iI : IterOk G Φ L n) : EvalOk G Φ L (n + 1) := by
  intro e ae d h A X s env Rm S E
  cases e with
  | Constant c k pos => exact constant_sound h
  | Name x pos => exact name_var S E h
  | BinOp l op r pos => exact bnd h fun a ha h => bnd h fun b hb h => bin_sound iE Rm S E ha hb h
  | UnaryOp op x pos =>
    refine bnd h fun a ha h => wpAny_UnaryOp (iE.run ha Rm S E fun v s1 k1 a1 S1 E1 => ?_)
    cases op with
    | USub =>
      cases a with
      | int i =>
        rw [← Option.some.inj h]
        refine x1_1 (at_int.mp a1) fun t hr1 => ?_; subst hr1
        exact PySem.P.neg_int ⟨k1.trans Kp.tok, at_int.mpr ⟨_, rfl⟩⟩
      | _ => exact ofNone h
    | Not =>
      refine mpd h fun b hb h2 => ?_
      rw [← h2]
      exact (not_sound a1 hb).post k1
    | _ => exact ofNone h
  | BoolOp op vs pos =>
    refine bnd h fun q hq h => bnd h fun a ha h => bnd h fun b hb h => ?_
    rw [two_inv hq]
    cases op with
    | And =>
      refine wpAny_And2 (iE.run ha Rm S E fun v s1 k1 a1 S1 E1 => wpAny_mono (atr_sound a1 hb) (fun r s2 h2 => ?_) fun _ _ f => f)
      rw [h2.1]
      cases b with
      | true => exact Gives.post (k1.trans h2.2) (iE q.2 ae d h A X s2 env Rm (S1.kp h2.2) (E1.kp S1 h2.2))
      | false => exact ⟨k1.trans h2.2, Option.some.inj h ▸ a1.kp S1 h2.2⟩
    | Or =>
      refine wpAny_Or2 (iE.run ha Rm S E fun v s1 k1 a1 S1 E1 => wpAny_mono (atr_sound a1 hb) (fun r s2 h2 => ?_) fun _ _ f => f)
      rw [h2.1]
      cases b with
      | false => exact Gives.post (k1.trans h2.2) (iE q.2 ae d h A X s2 env Rm (S1.kp h2.2) (E1.kp S1 h2.2))
      | true => exact ⟨k1.trans h2.2, Option.some.inj h ▸ a1.kp S1 h2.2⟩
  | IfExp t b o pos =>
    refine bnd h fun c hc h => wpAny_IfExp (iT.run hc Rm S E fun s1 k1 S1 E1 => ?_)
    cases c with
    | true => exact Gives.post k1 (iE b ae d h A X s1 env Rm S1 E1)
    | false => exact Gives.post k1 (iE o ae d h A X s1 env Rm S1 E1)
  | Compare l ops rs pos =>
    refine bnd h fun q hq hz => ?_
    rcases opsOf_inv hq with ⟨e1, e2, h3⟩ | ⟨q2, e1, e2, h3⟩
    · rw [h3] at hz
      rw [e1, e2]
      exact bnd hz fun a ha hz => bnd hz fun b hb hz => mpd hz fun c hc h => h ▸ cmp1_sound iE Rm S E ha hb hc
    · rw [h3] at hz
      rw [e1, e2]
      refine bnd hz fun a ha hz => bnd hz fun b hb hz => bnd hz fun c hc hz => ?_
      have fin : ∀ res, d = .bool res → ((c = true ∧ ∃ d, aeval Φ n q2.2 ae = some d ∧ acmp q2.1 b d = some res) ∨ (c = false ∧ res = false)) → Gives Z X A s (eval (.Compare l [q.1.1, q2.1] [q.1.2, q2.2] pos) env) d := by
        intro res hd hr
        rw [hd]
        show wpAny _ _ (do compareChain pos (← eval l env) [q.1.1, q2.1] (markedEach [q.1.1, q2.1] [q.1.2, q2.2] (evalEach [q.1.2, q2.2] env))) _ _ _
        exact wpAny_bind (iE.run ha Rm S E fun v s1 k1 a1 S1 E1 => (chain_sound iE Rm S1 E1 k1 a1 hb hc hr).1)
      cases c with
      | true => exact bnd hz fun d2 hd2 h => mpd h fun res hres h => fin res h.symm (.inl ⟨rfl, d2, hd2, hres⟩)
      | false => exact fin false (Option.some.inj hz).symm (.inr ⟨rfl, rfl⟩)
  | Subscript v i pos =>
    refine bnd h fun a ha h => ?_
    cases hs : slOf i with
    | some lh =>
      rw [hs] at h
      refine x1_1 (slOf_inv hs) fun p hp => ?_
      rw [hp]
      exact bnd h fun x hx h => bnd h fun y hy h => sli_sound iE iP Rm S E ha hx hy h
    | none =>
      rw [hs] at h
      exact bnd h fun b hb h => sub_sound iE Rm S E ha hb h
  | List es pos =>
    refine bnd h fun l hl h => bfd h fun hb h => ?_
    rw [← Option.some.inj h]
    exact PySem.wpAny_List (wpAny_mono (args_sound iE es l hl A X s env pos Rm S E) (fun vs s1 h1 => ⟨lim_size (by rw [h1.2.length]; exact of_decide_eq_true hb), post_trans h1.1 (post_newlist (S.kp h1.1) (by simpa using h1.2) (of_decide_eq_true hb))⟩) fun _ _ f => f)
  | Tuple es k pos =>
    refine bnd h fun l hl h => bfd h fun hb h => ?_
    rw [← Option.some.inj h]
    exact PySem.wpAny_Tuple (wpAny_mono (args_sound iE es l hl A X s env pos Rm S E) (fun vs s1 h1 => ⟨lim_size (by rw [h1.2.length]; exact of_decide_eq_true hb), post_trans h1.1 (post_newtup (S.kp h1.1) (by simpa using h1.2) (of_decide_eq_true hb))⟩) fun _ _ f => f)
  | ListComp elt gens scope pos =>
    refine bnd h fun g hg h => bfd h fun hok h => bnd h fun items hi h => mpd h fun out hc h => ?_
    rw [comOf_inv hg, ← h]
    unfold Gives
    rw [eval_ListComp]
    exact compr_sound iE iT iI Rm S E hok hi hc fun Dd C s' k hC hm ha => compr_end S k hC hm ha
  | Call f args kws pos =>
    cases kws with
    | cons _ _ => exact ofNone h
    | nil => cases f with
      | Name f fp =>
        refine bfd h fun hg h => ?_
        cases hi : (f == Str.ofString "isinstance") with
        | true =>
          rw [hi] at h
          rw [eq_of_beq hi]
          refine bnd h fun q hq h => bnd h fun T hT h => bfd h fun hgT h => bnd h fun d1 hx h => ?_
          refine x1_1 (nameOf_inv hT) fun tp htp => ?_
          rw [two_inv hq, htp]
          exact isi_sound B iE Rm S E (eq_of_beq hi ▸ hg) hgT hx h
        | false =>
          rw [hi] at h
          refine bnd h fun ds hl h => ?_
          unfold callF at h
          cases hf : Φ f with
          | none => rw [hf] at h; exact call1_sound B iE Rm S E hg hl h
          | some φ =>
            rw [hf] at h
            refine x3_5 (hΦ f φ hf) fun a o fd hv ho hT hfd C => ?_
            exact wpAny_Call_NameR (name_glob G S E hg hv (call_fn_sound iE hl Rm S E ho hT hfd C h))
      | Attribute o m apos =>
        exact bfd h fun hl h => bnd h fun d1 ho h => bnd h fun ds ha h => meth_sound iE Rm S E (Bool.and_eq_true_iff.mp hl).1 (Bool.and_eq_true_iff.mp hl).2 ho ha h
      | _ => exact ofNone h
  | JoinedStr es pos =>
    cases es with
    | nil => exact ofNone h
    | cons v1 es => cases es with
      | nil => exact ofNone h
      | cons v2 r =>
        refine mpd h fun x hj h => ?_
        rw [← h]
        exact wpAny_JoinedStr (joined_sound iE (v1 :: v2 :: r) Str.empty x hj s s env _ (Kp.refl _) Rm S E (by decide) fun s' k hl => ⟨lim_size hl, k.trans Kp.tok, at_strM ⟨_, rfl, hl⟩⟩)
  | _ => exact ofNone h
theorem true_step {G : Glo Z} {Φ : Fns} {L n : Nat} (iE' : ∀ k, k ≤ n → EvalOk G Φ L k) (iT : TrueOk G Φ L n) (iA : AllOk G Φ L n) : TrueOk G Φ L (n + 1) := by
  have iE := iE' n (Nat.le_refl _)
  intro e ae b h A X s env Rm S E
  have val : (aeval Φ n e ae).bind atr = some b → isTrue e env (eval e env) = (do let v ← eval e env; standAt e.pos; holding [v] (truthy v)) → wpAny (model Z.prog Z.w) A (isTrue e env (eval e env)) (fun r s' => r = b ∧ Kp Z s s') (fun _ _ => False) s := fun h he =>
    bnd h fun a ha h => wpAny_isTrue_value (iE.run ha Rm S E fun v s1 k1 a1 S1 E1 => wpAny_mono (atr_sound a1 h) (fun r s2 h2 => ⟨h2.1, k1.trans h2.2⟩) fun _ _ f => f) he
  cases e with
  | UnaryOp op x pos =>
    cases op with
    | Not => exact mpd h fun c hx h => wpAny_isTrue_Not (iT.run hx Rm S E fun s1 k1 S1 E1 => ⟨h, k1⟩)
    | _ => exact val h rfl
  | BoolOp op vs pos => exact wpAny_isTrue_BoolOp (iA _ _ _ _ h A X s env Rm S E)
  | IfExp => exact ofNone h
  | Compare l ops rs pos =>
    refine bnd h fun q hE hT => ?_
    cases n with
    | zero => exact ofNone hE
    | succ m =>
      have iM := iE' m (Nat.le_succ m)
      refine bnd hE fun q1 hq hz => ?_
      rcases opsOf_inv hq with ⟨e1, e2, h3⟩ | ⟨q2, e1, e2, h3⟩
      · rw [h3] at hz
        rw [e1, e2]
        refine bnd hz fun a ha hz => bnd hz fun b2 hb hz => mpd hz fun c hc hz => ?_
        rw [← hz] at hT
        rw [← Option.some.inj hT]
        exact wpAny_isTrue_Compare1 (iM.run ha Rm S E fun v s1 k1 a1 S1 E1 => iM.run hb Rm S1 E1 fun u s2 k2 a2 S2 E2 => wpAny_mono (acmp_sound Rm.un1 (a1.kp S1 k2) a2 hc) (fun r s3 h3 => by
          rw [at_bool.mp h3.2]
          exact wpAny_truthy_bool ⟨rfl, (k1.trans k2).trans h3.1⟩) fun _ _ f => f) (marked_pure hb)
      · rw [h3] at hz
        rw [e1, e2]
        refine bnd hz fun a ha hz => bnd hz fun b2 hb hz => bnd hz fun c hc hz => ?_
        have fin : ∀ res, q = .bool res → ((c = true ∧ ∃ d, aeval Φ m q2.2 ae = some d ∧ acmp q2.1 b2 d = some res) ∨ (c = false ∧ res = false)) → wpAny (model Z.prog Z.w) A (isTrue (.Compare l [q1.1.1, q2.1] [q1.1.2, q2.2] pos) env (eval (.Compare l [q1.1.1, q2.1] [q1.1.2, q2.2] pos) env)) (fun r s' => r = b ∧ Kp Z s s') (fun _ _ => False) s := by
          intro res hd hr
          rw [hd] at hT
          rw [← Option.some.inj hT]
          show wpAny _ _ (do testChain pos (← eval l env) [q1.1.1, q2.1] (markedEach [q1.1.1, q2.1] [q1.1.2, q2.2] (evalEach [q1.1.2, q2.2] env))) _ _ _
          exact wpAny_bind (iM.run ha Rm S E fun v s1 k1 a1 S1 E1 => (chain_sound iM Rm S1 E1 k1 a1 hb hc hr).2)
        cases c with
        | true => exact bnd hz fun d2 hd2 h => mpd h fun res hres h => fin res h.symm (.inl ⟨rfl, d2, hd2, hres⟩)
        | false => exact fin false (Option.some.inj hz).symm (.inr ⟨rfl, rfl⟩)
  | _ => exact val h rfl
theorem all_step {G : Glo Z} {Φ : Fns} {L n : Nat} (iT : TrueOk G Φ L n) (iA : AllOk G Φ L n) : AllOk G Φ L (n + 1) := by
  intro op vs ae b h A X s env Rm S E
  cases vs with
  | nil => cases op with
    | And => rw [← Option.some.inj h]; exact wpAny_allTrue_And_nil ⟨rfl, Kp.refl _⟩
    | Or => rw [← Option.some.inj h]; exact wpAny_allTrue_Or_nil ⟨rfl, Kp.refl _⟩
  | cons x r => cases op with
    | And =>
      refine bnd h fun c hx h => wpAny_allTrue_And_cons (iT.run hx Rm S E fun s1 k1 S1 E1 => ?_)
      cases c with
      | true => exact wpAny_mono (iA .And r ae b h A X s1 env Rm S1 E1) (fun q s2 h2 => ⟨h2.1, k1.trans h2.2⟩) fun _ _ f => f
      | false => rw [← Option.some.inj h]; exact ⟨rfl, k1⟩
    | Or =>
      refine bnd h fun c hx h => wpAny_allTrue_Or_cons (iT.run hx Rm S E fun s1 k1 S1 E1 => ?_)
      cases c with
      | false => exact wpAny_mono (iA .Or r ae b h A X s1 env Rm S1 E1) (fun q s2 h2 => ⟨h2.1, k1.trans h2.2⟩) fun _ _ f => f
      | true => rw [← Option.some.inj h]; exact ⟨rfl, k1⟩
theorem part_step {G : Glo Z} {Φ : Fns} {L n : Nat} (iE : EvalOk G Φ L n) : PartOk G Φ L (n + 1) := by
  intro o ae r h A X s env Rm S E
  cases o with
  | none => rw [← Option.some.inj h]; exact wpAny_evalPart_none ⟨Kp.refl _, IsPart.none⟩
  | some e =>
    refine bnd h fun d hd h => wpAny_evalPart_some (iE.run hd Rm S E fun v s1 k1 a1 S1 E1 => ?_)
    cases d with
    | int i =>
      rw [← Option.some.inj h]
      refine x1_1 (at_int.mp a1) fun t hr1 => ?_; subst hr1
      exact ⟨k1, IsPart.int _ t⟩
    | _ => exact ofNone h
end
end Mine
namespace Mine
open PySem PySem.W PyProof.Rows PySem.SeqAt
section
variable {Z : Par} {X : Addr → Prop} {A : Around}
theorem rngL_iter {ds l : List D} (h : rngL ds = some l) {tt : Bool} {s s' : Shared} {vs : List Value} {X' : Addr → Prop} (hh : A.handled = none) (hm : ∀ {y : Shared} {r : Addr} {a b c : Int} {t u v : Tok} {n : Nat}, Kp Z s y → IsRange y.heap r a b c t u v → Builtin.Range.small a b c = true → Builtin.Range.rangeSize a b c = n → n ≤ LIM →
      wpAny (model Z.prog Z.w) A (pyIter (.ref r)) (IterPost Z A X tt (rangeC a c n) s) (fun _ _ => False) y) (k : Kp Z s s') (a : Ats s'.heap X' vs ds) :
    wpAny (model Z.prog Z.w) A (call (.type "range") vs []) (fun x s1 => wpAny (model Z.prog Z.w) A (pyIter x) (IterPost Z A X tt l s) (fun _ _ => False) s1) (fun _ _ => False) s' := by
  rcases rngL_inv h with ⟨kk, rfl, hb, rfl⟩ | ⟨aa, rfl, hb, rfl⟩
  · refine x1_2 (ats_one a) fun v hr1 a1 => ?_; subst hr1
    refine x1_1 (at_int.mp a1) fun t hr1 => ?_; subst hr1
    have z := small_up hb.1 hb.2
    refine call_range_1 (hm (k.trans ((Kp.push _).trans Kp.tok)) (IsRange.new ..) z.1 z.2 ?_)
    unfold LIM; lia
  · refine x3_4 (ats_three a) fun v u w hr3 a1 a2 a3 => ?_; subst hr3
    refine x1_1 (at_int.mp a1) fun t hr1 => ?_; subst hr1
    refine x1_1 (at_int.mp a2) fun t2 hr1 => ?_; subst hr1
    refine x1_1 (at_int.mp a3) fun t3 hr1 => ?_; subst hr1
    have z := small_down hb.1 hb.2
    refine call_range_3 (by decide) (hm (k.trans ((Kp.push _).trans Kp.tok)) (IsRange.new ..) z.1 z.2 ?_) (.inl (PyProof.noPylong_small (by lia)))
    unfold LIM; lia
theorem iter_step {G : Glo Z} (B : BiOk G) {Φ : Fns} {L n : Nat} (iE : EvalOk G Φ L n) : IterOk G Φ L (n + 1) := by
  intro tt e ae items h A X s env Rm S E
  have go : ∀ {e d}, aeval Φ n e ae = some d → itemsOf d = some items → wpAny (model Z.prog Z.w) A (eval e env) (fun x s1 => wpAny (model Z.prog Z.w) A (pyIter x) (IterPost Z A X tt items s) (fun _ _ => False) s1) (fun _ _ => False) s := fun hd h =>
    wpAny_mono (iE _ ae _ hd A X s env Rm S E) (fun v s1 h1 => iter_of_items Rm.hd S h h1) fun _ _ f => f
  cases e with
  | Call f args kws pos =>
    cases kws with
    | cons _ _ => exact ofNone h
    | nil =>
      refine bnd h fun g hn h => bfd h fun hg h => ?_
      refine x1_1 (nameOf_inv hn) fun fp hr1 => ?_; subst hr1
      cases h1 : (g == Str.ofString "range") with
      | true =>
        rw [h1] at h
        have e : g = Str.ofString "range" := eq_of_beq h1
        subst e
        exact bnd h fun ds hl h => wpAny_Call_NameR (name_glob G S E hg B.range (call_type_sound iE hl Rm S E fun s' vs k a => rngL_iter h Rm.hd (fun k' => iter_of_range Rm.hd S k') k a))
      | false =>
        rw [h1] at h
        cases h2 : tt && g == Str.ofString "zip" with
        | false =>
          rw [h2] at h
          exact bnd h fun d hd h => go hd h
        | true =>
          rw [h2] at h
          refine bnd h fun ds hl hz => ?_
          rw [Bool.and_eq_true] at h2
          refine x0_2 h2 fun hr0 h3 => ?_; subst hr0
          have e : g = Str.ofString "zip" := eq_of_beq h3
          subst e
          refine wpAny_Call_NameR (name_glob G S E hg B.zip (call_type_sound iE hl Rm S E fun s' vs k a => ?_))
          refine x2_2 (zipL_inv hz) fun l m hr2 hr3 => ?_; subst hr2; subst hr3
          refine x2_3 (ats_twoL a) fun v u hr2 a1 a2 => ?_; subst hr2
          obtain ⟨l1, xs, rfl, x1, i1, n1, b1⟩ := at_listI a1
          obtain ⟨l2, ys, rfl, x2, i2, n2, b2⟩ := at_listI a2
          exact iter_of_zip Rm.hd S k x1 x2 i1 i2 b1 b2 n1
  | Name x p => exact bnd h fun d hd h => wpAny_mono (name_var S E hd) (fun v s1 h1 => iter_of_items Rm.hd S h h1) fun _ _ f => f
  | Subscript v i p => exact bnd h fun d hd h => go hd h
  | _ => exact ofNone h
theorem all_sound {G : Glo Z} (B : BiOk G) {Φ : Fns} {L : Nat} (hΦ : FnsOk G L Φ) : ∀ n, (∀ k, k ≤ n → EvalOk G Φ L k) ∧ TrueOk G Φ L n ∧ AllOk G Φ L n ∧ PartOk G Φ L n ∧ IterOk G Φ L n
  | 0 => by
    refine ⟨fun k hk => ?_, ?_, ?_, ?_, ?_⟩
    · have : k = 0 := by lia
      subst this
      exact fun e ae d h => ofNone h
    · exact fun e ae d h => ofNone h
    · exact fun op vs ae d h => ofNone h
    · exact fun o ae d h => ofNone h
    · exact fun tt e ae d h => ofNone h
  | n + 1 => by
    refine x0_5 (all_sound B hΦ n) fun h1 h2 h3 h4 h5 => ?_
    have hn := h1 n (Nat.le_refl _)
    refine ⟨fun k hk => ?_, true_step h1 h2 h3, all_step h2 h3, part_step hn, iter_step B hn⟩
    rcases Nat.lt_or_ge k (n + 1) with q | q
    · exact h1 k (by lia)
    · have : k = n + 1 := by lia
      subst this
      exact eval_step B hΦ hn h2 h4 h5
theorem eval_sound {G : Glo Z} (B : BiOk G) {Φ : Fns} {L : Nat} (hΦ : FnsOk G L Φ) (n : Nat) : EvalOk G Φ L n := (all_sound B hΦ n).1 n (Nat.le_refl _)
theorem true_sound {G : Glo Z} (B : BiOk G) {Φ : Fns} {L : Nat} (hΦ : FnsOk G L Φ) (n : Nat) : TrueOk G Φ L n := (all_sound B hΦ n).2.1
theorem iter_sound {G : Glo Z} (B : BiOk G) {Φ : Fns} {L : Nat} (hΦ : FnsOk G L Φ) (n : Nat) : IterOk G Φ L n := (all_sound B hΦ n).2.2.2.2
end
end Mine
namespace Mine
open PySem PySem.W PyProof.Rows PySem.SeqAt
inductive V where
  | un
  | d (x : D)
  | p (n : Nat)
  | app (n : Nat)
  deriving Inhabited
structure AS where
  vars : List (Str' × V)
  hp : List (List V)
  deriving Inhabited
inductive Fl where
  | next
  | brk
  | ret (x : D)
noncomputable def AS.get (s : AS) (x : Str') : Option V := s.vars.lookup x
noncomputable def AS.set (s : AS) (x : Str') (v : V) : AS := ⟨s.vars.map fun q => bif q.1 == x then (q.1, v) else q, s.hp⟩
noncomputable def AS.setMany (s : AS) : Vars → AS
  | [] => s
  | p :: r => AS.setMany (s.set p.1 (.d p.2)) r
noncomputable def frz (s : AS) : Vars := s.vars.filterMap fun q => match q.2 with
  | .d x => some (q.1, x)
  | _ => none
noncomputable def thawL (f : V → Option D) : List V → Option (List D)
  | [] => some []
  | v :: r => (f v).bind fun x => (thawL f r).map fun l => x :: l
noncomputable def thaw (hp : List (List V)) : Nat → V → Option D
  | 0, _ => none
  | k + 1, v => match v with
    | .d x => some x
    | .p n => (hp[n]?).bind fun l => bif decide (l.length ≤ LIM) then (thawL (thaw hp k) l).map .list else none
    | _ => none
noncomputable def wk (s : AS) : Vars := s.vars.filterMap fun q => (thaw s.hp 3 q.2).map fun x => (q.1, x)
noncomputable def plain : D → Bool
  | .list _ => false
  | .tup _ => false
  | .obj _ => false
  | _ => true
section
variable (Φ : Fns) (sc : Scope)
noncomputable def evF (n : Nat) (e : Expr) (s : AS) : Option D := match aeval Φ n e ⟨sc, frz s⟩ with
  | some d => some d
  | none => match aeval Φ n e ⟨sc, wk s⟩ with
    | some d => bif plain d then some d else none
    | none => none
noncomputable def trF (n : Nat) (e : Expr) (s : AS) : Option Bool := match atrue Φ n e ⟨sc, frz s⟩ with
  | some b => some b
  | none => atrue Φ n e ⟨sc, wk s⟩
noncomputable def itF (n : Nat) (tt : Bool) (e : Expr) (s : AS) : Option (List D) := match aiter Φ n tt e ⟨sc, frz s⟩ with
  | some l => some l
  | none => match e with
    | .Call f args kws _ => (match kws with
      | _ :: _ => none
      | [] => (nameOf f).bind fun g => bif AE.glob ⟨sc, []⟩ g && g == (Str.ofString "range") then (aevals (fun e => aeval Φ n e ⟨sc, wk s⟩) args).bind rngL else none)
    | _ => none
noncomputable def stored (x : Str') : Bool := isStored (sc.names.lookup x)
noncomputable def allStored (bs : Vars) : Bool := bs.all fun p => isStored (sc.names.lookup p.1)
noncomputable def unpack (ts : List Expr) : D → Option Vars
  | .tup l => zipNames ts l
  | .list l => zipNames ts l
  | _ => none
noncomputable def putAt (hp : List (List V)) (k : Nat) (l : List V) : List (List V) := hp.set k l
noncomputable def appendTo (s : AS) (k : Nat) (v : V) : Option AS := (s.hp[k]?).bind fun l => bif decide (l.length < LIM) then some ⟨s.vars, putAt s.hp k (l ++ [v])⟩ else none
noncomputable def aug : D → D → Option D
  | .int a, .int b => some (.int (a + b))
  | .str a, .str b => bif decide (a.length + b.length ≤ LIM) then some (.str (a ++ b)) else none
  | _, _ => none
noncomputable abbrev Spec := Stmt → AS → Option AS
noncomputable def afor (step : D → AS → Option (Fl × AS)) : List D → AS → Option (Fl × AS)
  | [], s => some (.next, s)
  | d :: r, s => (step d s).bind fun q => match q.1 with
    | .next => afor step r q.2
    | .brk => some (.next, q.2)
    | .ret x => some (.ret x, q.2)
noncomputable def awhile (test : AS → Option Bool) (step : AS → Option (Fl × AS)) : Nat → AS → Option (Fl × AS)
  | 0, _ => none
  | n + 1, s => (test s).bind fun b => bif b then (step s).bind fun q => (match q.1 with
      | .next => awhile test step n q.2
      | .brk => some (.next, q.2)
      | .ret x => some (.ret x, q.2)) else some (.next, s)
noncomputable def pGet : Option V → Option Nat
  | some (.p k) => some k
  | _ => none
noncomputable def aGet : Option V → Option Nat
  | some (.app k) => some k
  | _ => none
noncomputable def dGet : Option V → Option D
  | some (.d a) => some a
  | _ => none
noncomputable def tGet (d : D) : Option (D × D) := (tupL d).bind two
noncomputable def subR (e : Expr) : Option {q : (Expr × Expr) × Pos // e = .Subscript q.1.1 q.1.2 q.2} := match e with
  | .Subscript v i p => some ⟨((v, i), p), rfl⟩
  | _ => none
noncomputable def subOf (e : Expr) : Option (Expr × Expr) := (subR e).map fun q => q.1.1
noncomputable def attrR (e : Expr) : Option {q : Expr × Str' × Pos // e = .Attribute q.1 q.2.1 q.2.2} := match e with
  | .Attribute o m ap => some ⟨(o, m, ap), rfl⟩
  | _ => none
noncomputable def attrOf (e : Expr) : Option (Expr × Str' × Pos) := (attrR e).map fun q => q.1
noncomputable def listR (e : Expr) : Option {q : List Expr × Pos // e = .List q.1 q.2} := match e with
  | .List es p => some ⟨(es, p), rfl⟩
  | _ => none
noncomputable def listOf (e : Expr) : Option (List Expr) := (listR e).map fun q => q.1.1
noncomputable def callR (e : Expr) : Option {q : Expr × List Expr × List Keyword × Pos // e = .Call q.1 q.2.1 q.2.2.1 q.2.2.2} := match e with
  | .Call f args kws pos => some ⟨(f, args, kws, pos), rfl⟩
  | _ => none
noncomputable def callOf (e : Expr) : Option (Expr × List Expr × Bool × Pos) := (callR e).map fun q => (q.1.1, q.1.2.1, q.1.2.2.1.isEmpty, q.1.2.2.2)
noncomputable def twoNames (ts : List Expr) : Option (Str' × Str') := (two ts).bind fun ab => (nameOf ab.1).bind fun a => (nameOf ab.2).map fun b => (a, b)
section
variable (ow : Str' → Bool) (ev : Expr → Option D) (s : AS)
noncomputable def xGen (x : Str') (e : Expr) : Option (Fl × AS) := bif stored sc x then (ev e).map fun d => (.next, s.set x (.d d)) else none
noncomputable def xName (x : Str') (e : Expr) : Option (Fl × AS) := match listOf e with
  | some es => (match es with
    | [] => bif stored sc x then (bif ow x then some (.next, ⟨(s.set x (.p s.hp.length)).vars, s.hp ++ [[]]⟩) else some (.next, s.set x (.d (.list [])))) else none
    | e1 :: r => (match r with
      | [] => (match listOf e1 with
        | some es1 => (match es1 with
          | [] => bif stored sc x && ow x then some (.next, ⟨(s.set x (.p (s.hp.length + 1))).vars, s.hp ++ [[], [.p s.hp.length]]⟩) else none
          | _ :: _ => xGen sc ev s x e)
        | none => xGen sc ev s x e)
      | _ :: _ => xGen sc ev s x e))
  | none => (match attrOf e with
    | some om => (match nameOf om.1 with
      | some y => bif stored sc x && stored sc y && om.2.1 == Str.ofString "append" then (pGet (s.get y)).map fun k => (.next, s.set x (.app k)) else none
      | none => xGen sc ev s x e)
    | none => xGen sc ev s x e)
noncomputable def xTup (ts : List Expr) (e : Expr) : Option (Fl × AS) := match tupOf e with
  | some es => (twoNames ts).bind fun ab => (two es).bind fun ee => bif stored sc ab.1 && stored sc ab.2 && !(ab.1 == ab.2) && !(([ee.1, ee.2] : List Expr).all (constantsAlone 8)) then
      (ev e).bind fun d => (tGet d).map fun dd => (.next, (s.set ab.1 (.d dd.1)).set ab.2 (.d dd.2)) else none
  | none => (ev e).bind fun d => (unpack ts d).bind fun bs => bif allStored sc bs then some (.next, s.setMany bs) else none
noncomputable def xSet (x : Str') (i e : Expr) : Option (Fl × AS) := bif stored sc x then (ev e).bind fun d => (ev i).bind fun j => (pGet (s.get x)).bind fun k => (iGet j).bind fun j => (s.hp[k]?).bind fun l => bif decide (0 ≤ j) then (idx j l.length).map fun q => (.next, ⟨s.vars, putAt s.hp k (l.set q (.d d))⟩) else none else none
noncomputable def xAssign (ts : List Expr) (e : Expr) : Option (Fl × AS) := (one ts).bind fun t => match nameOf t with
  | some x => xName sc ow ev s x e
  | none => (match tupOf t with
    | some ts => xTup sc ev s ts e
    | none => (subOf t).bind fun vi => (nameOf vi.1).bind fun x => xSet sc ev s x vi.2 e)
noncomputable def isAdd : Operator → Bool
  | .Add => true
  | _ => false
noncomputable def xAug (t : Expr) (op : Operator) (e : Expr) : Option (Fl × AS) := (nameOf t).bind fun x => bif isAdd op then (bif stored sc x then (dGet (s.get x)).bind fun a => (ev e).bind fun b => (aug a b).map fun c => (.next, s.set x (.d c)) else none) else none
noncomputable def xApp (k : Nat) (e : Expr) : Option (Fl × AS) := (ev e).bind fun d => (appendTo s k (.d d)).map fun s' => (.next, s')
noncomputable def xApp0 (k : Nat) (e : Expr) : Option (Fl × AS) := match listOf e with
  | some es => (match es with
    | [] => (appendTo ⟨s.vars, s.hp ++ [[]]⟩ k (.p s.hp.length)).map fun s' => (.next, s')
    | _ :: _ => xApp ev s k e)
  | none => xApp ev s k e
noncomputable def xAppS (x : Str') (i e : Expr) : Option (Fl × AS) := (ev i).bind fun j => (pGet (s.get x)).bind fun k => (iGet j).bind fun j => (s.hp[k]?).bind fun l => (idx j l.length).bind fun q => (pGet (l[q]?)).bind fun r => xApp ev s r e
noncomputable def xExpr (e : Expr) : Option (Fl × AS) := (callOf e).bind fun q => (one q.2.1).bind fun e => bif q.2.2.1 then (match attrOf q.1 with
  | some om => bif om.2.1 == Str.ofString "append" && (om.2.2.endLine == q.2.2.2.line) then (match nameOf om.1 with
    | some x => bif stored sc x then (pGet (s.get x)).bind fun k => xApp0 ev s k e else none
    | none => (subOf om.1).bind fun vi => (nameOf vi.1).bind fun x => bif stored sc x then xAppS ev s x vi.2 e else none) else none
  | none => (nameOf q.1).bind fun x => bif stored sc x then (aGet (s.get x)).bind fun k => xApp ev s k e else none) else none
noncomputable def xDel (ts : List Expr) : Option (Fl × AS) := (one ts).bind fun t => (subOf t).bind fun vi => (nameOf vi.1).bind fun x => bif stored sc x then (ev vi.2).bind fun j => (pGet (s.get x)).bind fun k => (iGet j).bind fun j => (s.hp[k]?).bind fun l => bif decide (0 ≤ j) then (idx j l.length).map fun q => (.next, ⟨s.vars, putAt s.hp k (l.eraseIdx q)⟩) else none else none
end
variable (ow : Str' → Bool) (spec : Spec)
noncomputable def xPlain (n : Nat) (ex : List Stmt → AS → Option (Fl × AS)) (st : Stmt) (s : AS) : Option (Fl × AS) := match st with
    | .Assign ts e _ => xAssign sc ow (fun e => evF Φ sc n e s) s ts e
    | .AugAssign t op e _ => xAug sc (fun e => evF Φ sc n e s) s t op e
    | .Expr e _ => xExpr sc (fun e => evF Φ sc n e s) s e
    | .Delete ts _ => xDel sc (fun e => evF Φ sc n e s) s ts
    | .If t b o _ => (trF Φ sc n t s).bind fun c => bif c then ex b s else ex o s
    | .While t b o _ => (match o with
      | [] => awhile (trF Φ sc n t) (ex b) n s
      | _ :: _ => none)
    | .For t it b o _ => (match o with
      | [] => (itF Φ sc n (isTupT t) it s).bind fun items => afor (fun d s => (abind t d).bind fun bs => bif allStored sc bs then (ex b (s.setMany bs)).bind (fun q => bif q.2.hp.length == s.hp.length then some q else none) else none) items s
      | _ :: _ => none)
    | .Return v _ => (match v with
      | some e => (aeval Φ n e ⟨sc, wk s⟩).map fun d => (.ret d, s)
      | none => none)
    | .Assert t m _ => (match m with
      | none => (trF Φ sc n t s).bind fun c => bif c then some (.next, s) else none
      | some _ => none)
    | .Break _ => some (.brk, s)
    | _ => none
mutual
noncomputable def aexec : Nat → Stmt → AS → Option (Fl × AS)
  | 0, _, _ => none
  | n + 1, st, s => match spec st s with
    | some s' => some (.next, s')
    | none => xPlain Φ sc ow n (aexecs n) st s
noncomputable def aexecs : Nat → List Stmt → AS → Option (Fl × AS)
  | 0, _, _ => none
  | _ + 1, [], s => some (.next, s)
  | n + 1, st :: r, s => (aexec n st s).bind fun q => match q.1 with
    | .next => aexecs n r q.2
    | .brk => some (.brk, q.2)
    | .ret x => some (.ret x, q.2)
end
end
noncomputable def paramsOf : Arguments → Option (List Str')
  | ⟨[], args, none, [], [], none, []⟩ => some (args.map (·.arg))
  | _ => none
noncomputable def startVars (sc : Scope) : List (Str' × V) := sc.names.filterMap fun p => bif isStored (some p.2) then some (p.1, .un) else none
noncomputable def giveArgs : List Str' → List D → AS → Option AS
  | [], ds, s => (match ds with
    | [] => some s
    | _ :: _ => none)
  | x :: xs, ds, s => (match ds with
    | [] => none
    | d :: ds => giveArgs xs ds (s.set x (.d d)))
noncomputable def acall (Φ : Fns) (sc : Scope) (ow : Str' → Bool) (spec : Spec) (n : Nat) (ps : List Str') (body : List Stmt) (ds : List D) : Option D :=
  (giveArgs ps ds ⟨startVars sc, []⟩).bind fun s => (aexecs Φ sc ow spec n body s).bind fun q => match q.1 with
    | .ret x => some x
    | .next => some .non
    | .brk => none
noncomputable def forStep (Φ : Fns) (sc : Scope) (ow : Str' → Bool) (spec : Spec) (n : Nat) (t : Expr) (b : List Stmt) (d : D) (s : AS) : Option (Fl × AS) :=
  (abind t d).bind fun bs => bif allStored sc bs then (aexecs Φ sc ow spec n b (s.setMany bs)).bind (fun q => bif q.2.hp.length == s.hp.length then some q else none) else none
end Mine
namespace Mine
open PySem PySem.W PyProof.Rows PySem.SeqAt
theorem look_nil {sc : Scope} {x : Str'} {d : D} (h : AE.look ⟨sc, []⟩ x = some d) : False := by
  unfold AE.look at h
  dsimp only at h
  split at h <;> cases h
section
variable {Z : Par} {X : Addr → Prop} {A : Around}
theorem store_raw {s : Shared} {env : Env} {sc : Scope} {x : Str'} {v : Value} {Q : Unit → Shared → Prop} (S : St Z X s) (F : FrmOk Z X s.heap env sc []) (hx : isStored (sc.names.lookup x) = true)
    (h : ∀ s', Chg Z (Own env sc) s s' → FrmOk Z X s'.heap env sc [] → Loads s'.heap env x v → (∀ y u, y ≠ x → Loads s.heap env y u → Loads s'.heap env y u) → Q () s') :
    wpAny (model Z.prog Z.w) A (storeName env x v) Q (fun _ _ => False) s := by
  have hX : ∀ b, Own env sc b → X b := F.own
  refine x1_1 (F.ns) fun m hm => ?_
  have tl := F.en.tl
  cases hk : sc.names.lookup x with
  | none => rw [hk] at hx; cases hx
  | some k =>
    rw [hk] at hx
    cases k with
    | «local» =>
      refine wpAny_storeName_local (F.en.loc x hk) hm (fun h' hn hs => ?_) (by rw [F.en.kind]; rfl)
      have c1 : Chg Z (fun b => b = env.locals) s { s with heap := h', toks := s.toks + 1 } := Chg.one tl hs (by obtain ⟨o, es, ep, ho, _⟩ := hn; exact ⟨o, ho⟩)
      refine h _ (c1.mono S.J fun b e => .inl e) { F with en := { F.en with var := fun y d' hy => (look_nil hy).elim, cal := fun y c e => let ⟨o, ho⟩ := F.en.cal y c e; ⟨o, (hs.2 c (F.la y c e)).trans ho⟩ }, ns := ⟨_, hn⟩, cv := ?_ } ?_ ?_
      · intro y c hc hc2
        refine x2_2 (F.cv y c hc hc2) fun w o ho hd => ?_
        exact ⟨w, o, (hs.2 c (F.la y c hc)).trans ho, hd⟩
      · exact .inl ⟨F.en.loc x hk, _, hn, by simp⟩
      · intro y u hne l
        rcases l with ⟨a1, m1, hn1, hm1⟩ | ⟨a1, q, hq, o, ho, hd⟩
        · refine .inl ⟨a1, _, hn, ?_⟩
          have := ns_unique hn1 hm
          subst this
          simp [hne, hm1]
        · exact .inr ⟨a1, q, hq, o, (hs.2 q (F.la y q hq)).trans ho, hd⟩
    | cell =>
      obtain ⟨hkind, c, hc⟩ := F.en.cel x (.inl hk)
      refine x1_1 (F.cv x c hc hk) fun v0 hcell => ?_
      refine wpAny_storeName_cell F.en.kind (F.kc x hk) hc hcell fun h' hc' hs => ?_
      have c1 : Chg Z (fun b => b = c) s { s with heap := h', toks := s.toks } := Chg.one (F.en.tc x c hc) hs (by obtain ⟨o, ho, _⟩ := hc'; exact ⟨o, ho⟩)
      refine h _ (c1.mono S.J fun b e => .inr ⟨x, hk, by rw [e]; exact hc⟩) { F with en := { F.en with var := fun y d' hy => (look_nil hy).elim, cal := ?_ }, ns := ⟨m, hm.at' fun o e => (hs.2 _ (fun q => F.la x c hc q.symm)).trans e⟩, cv := ?_ } ?_ ?_
      · intro y q hq
        by_cases e : q = c
        · rw [e]; obtain ⟨o, ho, _⟩ := hc'; exact ⟨o, ho⟩
        · refine x1_1 (F.en.cal y q hq) fun o ho => ?_
          exact ⟨o, (hs.2 q e).trans ho⟩
      · intro y q hq hq2
        by_cases e : q = c
        · rw [e]; exact ⟨_, hc'⟩
        · refine x2_2 (F.cv y q hq hq2) fun w o ho hd => ?_
          exact ⟨w, o, (hs.2 q e).trans ho, hd⟩
      · exact .inr ⟨hkind, c, hc, hc'⟩
      · intro y u hne l
        rcases l with ⟨a1, m1, hn1, hm1⟩ | ⟨a1, q, hq, o, ho, hd⟩
        · exact .inl ⟨a1, m1, hn1.at' fun o e => (hs.2 _ (fun q => F.la x c hc q.symm)).trans e, hm1⟩
        · exact .inr ⟨a1, q, hq, o, (hs.2 q (fun e => hne (F.ap x y c hc hk (e ▸ hq)).symm)).trans ho, hd⟩
    | _ => cases hx
theorem Loads.chg {W : Addr → Prop} {s s' : Shared} {env : Env} {x : Str'} {v : Value} (c : Chg Z W s s') (tl : ¬ Z.T env.locals) (tc : ∀ x c, env.cells.lookup x = some c → ¬ Z.T c)
    (hl : ¬ W env.locals) (hc : ∀ x a, env.cells.lookup x = some a → ¬ W a) (l : Loads s.heap env x v) : Loads s'.heap env x v := by
  rcases l with ⟨a, m, hn, hm⟩ | ⟨a, q, hq, o, ho, hd⟩
  · exact .inl ⟨a, m, hn.at' fun o => c.keep _ o tl hl, hm⟩
  · exact .inr ⟨a, q, hq, o, c.keep _ o (tc x q hq) (hc x q hq) ho, hd⟩
end
noncomputable def appObj (a : Addr) : Obj := { cls := .type "builtin_function_or_method", data := .fields #[.builtin "list.append", .ref a] }
noncomputable def VAt (h : Heap) (X : Addr → Prop) (ι : List Addr) (v : Value) : V → Prop
  | .un => False
  | .d x => At h X v x
  | .p n => ∃ a, ι[n]? = some a ∧ v = .ref a
  | .app n => ∃ a b, ι[n]? = some a ∧ v = .ref b ∧ ¬ X b ∧ h.get? b = some (appObj a)
noncomputable def VAts (h : Heap) (X : Addr → Prop) (ι : List Addr) : List Value → List V → Prop
  | [], [] => True
  | v :: vs, w :: ws => VAt h X ι v w ∧ VAts h X ι vs ws
  | _, _ => False
theorem VAt.grow {h h' : Heap} {X Y : Addr → Prop} {ι κ : List Addr} (hι : ∀ (n : Nat) (a : Addr), ι[n]? = some a → κ[n]? = some a) (hX : ∀ a, Y a → X a ∨ h.get? a = none) (hk : ∀ a o, ¬ X a → h.get? a = some o → h'.get? a = some o) {w : V} {v : Value}
    (x : VAt h X ι v w) : VAt h' Y κ v w := by
  cases w with
  | un => exact x
  | d q => exact At.grow hX hk q v x
  | p n => obtain ⟨a, h1, h2⟩ := x; exact ⟨a, hι n a h1, h2⟩
  | app n =>
    refine x2_4 x fun a b h1 h2 h3 h4 => ?_
    refine ⟨a, b, hι n a h1, h2, fun y => ?_, hk b _ h3 h4⟩
    rcases hX b y with q | q
    · exact h3 q
    · rw [q] at h4; exact ofNone h4
theorem VAts.grow {h h' : Heap} {X Y : Addr → Prop} {ι κ : List Addr} (hι : ∀ (n : Nat) (a : Addr), ι[n]? = some a → κ[n]? = some a) (hX : ∀ a, Y a → X a ∨ h.get? a = none) (hk : ∀ a o, ¬ X a → h.get? a = some o → h'.get? a = some o) :
    ∀ {vs : List Value} {ws : List V}, VAts h X ι vs ws → VAts h' Y κ vs ws
  | [], [], _ => trivial
  | [], _ :: _, x => x.elim
  | _ :: _, [], x => x.elim
  | _ :: _, _ :: _, x => ⟨x.1.grow hι hX hk, VAts.grow hι hX hk x.2⟩
theorem VAts.length {h : Heap} {X : Addr → Prop} {ι : List Addr} : ∀ {vs : List Value} {ws : List V}, VAts h X ι vs ws → vs.length = ws.length
  | [], [], _ => rfl
  | [], _ :: _, x => x.elim
  | _ :: _, [], x => x.elim
  | _ :: _, _ :: _, x => by simp [VAts.length x.2]
theorem VAts.append {h : Heap} {X : Addr → Prop} {ι : List Addr} : ∀ {vs us : List Value} {ws zs : List V}, VAts h X ι vs ws → VAts h X ι us zs → VAts h X ι (vs ++ us) (ws ++ zs)
  | [], _, [], _, _, y => y
  | [], _, _ :: _, _, x, _ => x.elim
  | _ :: _, _, [], _, x, _ => x.elim
  | _ :: _, _, _ :: _, _, x, y => ⟨x.1, VAts.append x.2 y⟩
theorem VAts.get {h : Heap} {X : Addr → Prop} {ι : List Addr} : ∀ {vs : List Value} {ws : List V} {i : Nat} {w : V}, VAts h X ι vs ws → ws[i]? = some w → ∃ v, vs[i]? = some v ∧ VAt h X ι v w
  | [], [], _, _, _, e => by simp at e
  | [], _ :: _, _, _, x, _ => x.elim
  | _ :: _, [], _, _, x, _ => x.elim
  | v :: _, w :: _, 0, _, x, e => by simp at e; subst e; exact ⟨v, rfl, x.1⟩
  | _ :: _, _ :: _, i + 1, w, x, e => by
    simp at e
    refine x1_2 (VAts.get x.2 e) fun v h1 h2 => ?_
    exact ⟨v, by simpa using h1, h2⟩
theorem VAts.set {h : Heap} {X : Addr → Prop} {ι : List Addr} : ∀ {vs : List Value} {ws : List V} {v : Value} {w : V} (i : Nat), VAts h X ι vs ws → VAt h X ι v w → VAts h X ι (vs.set i v) (ws.set i w)
  | [], [], _, _, _, _, _ => trivial
  | [], _ :: _, _, _, _, x, _ => x.elim
  | _ :: _, [], _, _, _, x, _ => x.elim
  | _ :: _, _ :: _, _, _, 0, x, y => ⟨y, x.2⟩
  | _ :: _, _ :: _, _, _, i + 1, x, y => ⟨x.1, VAts.set i x.2 y⟩
theorem VAts.erase {h : Heap} {X : Addr → Prop} {ι : List Addr} : ∀ {vs : List Value} {ws : List V} (i : Nat), VAts h X ι vs ws → VAts h X ι (vs.eraseIdx i) (ws.eraseIdx i)
  | [], [], _, _ => trivial
  | [], _ :: _, _, x => x.elim
  | _ :: _, [], _, x => x.elim
  | _ :: _, _ :: _, 0, x => x.2
  | _ :: _, _ :: _, i + 1, x => ⟨x.1, VAts.erase i x.2⟩
noncomputable def XS (X0 : Addr → Prop) (env : Env) (sc : Scope) (ι : List Addr) (b : Addr) : Prop := X0 b ∨ Own env sc b ∨ b ∈ ι
noncomputable def WS (env : Env) (sc : Scope) (ι : List Addr) (b : Addr) : Prop := Own env sc b ∨ b ∈ ι
structure FOk (Z : Par) (X0 : Addr → Prop) (ι : List Addr) (s : Shared) (env : Env) (sc : Scope) (as : AS) : Prop where
  st : St Z (XS X0 env sc ι) s
  tx : ∀ a, Z.T a → X0 a
  fr : FrmOk Z (XS X0 env sc ι) s.heap env sc []
  var : ∀ x w, (x, w) ∈ as.vars → w ≠ .un → ∃ v, Loads s.heap env x v ∧ VAt s.heap (XS X0 env sc ι) ι v w
  own : ∀ a, a ∈ ι → ¬ X0 a ∧ a ≠ env.locals ∧ ∀ x c, env.cells.lookup x = some c → c ≠ a
  nodup : ι.Nodup
  len : ι.length = as.hp.length
  lst : ∀ (n : Nat) (a : Addr) (l : List V), ι[n]? = some a → as.hp[n]? = some l → ∃ vs, s.heap.PlainList a vs ∧ VAts s.heap (XS X0 env sc ι) ι vs.toList l ∧ l.length ≤ LIM
  ow0 : ∀ b, Own env sc b → ¬ X0 b
  cl : ∀ x c, env.cells.lookup x = some c → ¬ X0 c
section
variable {Z : Par} {X0 : Addr → Prop} {A : Around} {ι : List Addr} {s : Shared} {env : Env} {sc : Scope} {as : AS}
theorem FOk.st0 (F : FOk Z X0 ι s env sc as) : St Z X0 s :=
  ⟨F.st.base, F.st.J, fun a x => F.st.live a (.inl x), F.tx, fun a x => F.st.nb a (.inl x)⟩
theorem FOk.ws (b : Addr) (h : WS env sc ι b) : XS X0 env sc ι b := .inr h
theorem FOk.wsT (F : FOk Z X0 ι s env sc as) (b : Addr) (h : WS env sc ι b) : ¬ Z.T b := fun t => by
  have := F.tx b t
  rcases h with h | h
  · exact F.ow0 b h this
  · exact (F.own b h).1 this
theorem FOk.kp {s' : Shared} (F : FOk Z X0 ι s env sc as) (k : Kp Z s s') : FOk Z X0 ι s' env sc as := by
  have hk : ∀ b o, ¬ XS X0 env sc ι b → s.heap.get? b = some o → s'.heap.get? b = some o := fun b o n e => k.keep b o (fun t => n (.inl (F.tx b t))) e
  refine ⟨F.st.kp k, F.tx, F.fr.kp F.st k, fun x w hm hw => ?_, F.own, F.nodup, F.len, fun n a l h1 h2 => ?_, F.ow0, F.cl⟩
  · refine x1_2 (F.var x w hm hw) fun v l a => ?_
    exact ⟨v, l.kp k F.fr.en.tl F.fr.en.tc, a.grow (fun _ _ h => h) (fun _ h => .inl h) hk⟩
  · refine x1_3 (F.lst n a l h1 h2) fun vs h3 h4 h5 => ?_
    have hT : ¬ Z.T a := F.wsT a (.inr (List.mem_of_getElem? h1))
    exact ⟨vs, h3.at fun o => k.keep a o hT, h4.grow (fun _ _ h => h) (fun _ h => .inl h) hk, h5⟩
theorem lookup_filterMap {α β : Type} {f : Str' × α → Option (Str' × β)} (hf : ∀ p q, f p = some q → q.1 = p.1) : ∀ {l : List (Str' × α)} {x : Str'} {b : β}, (l.filterMap f).lookup x = some b → ∃ a, (x, a) ∈ l ∧ f (x, a) = some (x, b)
  | [], x, b, h => by simp at h
  | p :: r, x, b, h => by
    rw [List.filterMap_cons] at h
    cases hp : f p with
    | none =>
      rw [hp] at h
      refine x1_2 (lookup_filterMap hf h) fun a h1 h2 => ?_
      exact ⟨a, List.mem_cons_of_mem _ h1, h2⟩
    | some q =>
      rw [hp] at h
      obtain ⟨y, c⟩ := q
      have e1 := hf p _ hp
      dsimp only at e1 h
      rw [List.lookup_cons] at h
      cases hy : (x == y) with
      | true =>
        rw [hy] at h
        have hxy : x = y := eq_of_beq hy
        simp only [Option.some.injEq] at h
        subst h
        rw [hxy]
        obtain ⟨z, a⟩ := p
        dsimp only at e1
        subst e1
        exact ⟨a, List.mem_cons_self, hp⟩
      | false =>
        rw [hy] at h
        refine x1_2 (lookup_filterMap hf h) fun a h1 h2 => ?_
        exact ⟨a, List.mem_cons_of_mem _ h1, h2⟩
theorem FOk.strong (F : FOk Z X0 ι s env sc as) : EnvOk Z (XS X0 env sc ι) s.heap env ⟨sc, frz as⟩ :=
  { F.fr.en with
    var := fun x d h => by
      have hl := (look_some h).1
      unfold frz at hl
      obtain ⟨w, hm, hw⟩ := lookup_filterMap (fun p q e => by
        split at e
        · cases e; rfl
        · cases e) hl
      dsimp only at hw
      cases w with
      | d q => cases hw; exact F.var x _ hm (by intro q; cases q)
      | _ => cases hw }
theorem XS_sub {d : D} {v : Value} {h : Heap} (a : At h (XS X0 env sc ι) v d) : At h X0 v d := At.mono (fun _ x => .inl x) (fun _ _ _ e => e) d v a
theorem thawL_at {f : V → Option D} {h : Heap} {X Y : Addr → Prop} (hf : ∀ w d v, f w = some d → VAt h X ι v w → At h Y v d) : ∀ (ws : List V) (ds : List D) (vs : List Value), thawL f ws = some ds → VAts h X ι vs ws → Ats h Y vs ds
  | [], ds, vs, h, a => by
    dsimp only [thawL] at h; rw [← Option.some.inj h]
    cases vs with
    | nil => exact Ats.nil
    | cons _ _ => exact a.elim
  | w :: ws, ds, vs, h, a => by
    dsimp only [thawL] at h
    refine bnd h ?_; clear h; intro d h1 h
    refine mpd h ?_; clear h; intro l h2 h
    cases h
    cases vs with
    | nil => exact a.elim
    | cons v vs => exact Ats.cons (hf w d v h1 a.1) (thawL_at hf ws l vs h2 a.2)
theorem thaw_at (F : FOk Z X0 ι s env sc as) : ∀ (k : Nat) (w : V) (d : D) (v : Value), thaw as.hp k w = some d → VAt s.heap (XS X0 env sc ι) ι v w → At s.heap X0 v d
  | 0, w, d, v, h, _ => ofNone h
  | k + 1, w, d, v, h, a => by
    cases w with
    | un => exact ofNone h
    | app n => exact ofNone h
    | d q => rw [← Option.some.inj h]; exact XS_sub a
    | p n =>
      refine x1_2 a fun b hb hr2 => ?_; subst hr2
      refine bnd h ?_; clear h; intro l hl h
      refine bfd h ?_; clear h; intro hn h
      refine mpd h ?_; clear h; intro ds ht h
      cases h
      refine x1_3 (F.lst n b l hb hl) fun vs h3 h4 h5 => ?_
      have hds := thawL_at (thaw_at F k) l ds vs.toList ht h4
      refine at_listM ⟨b, vs, rfl, (F.own b (List.mem_of_getElem? hb)).1, h3.isList, ?_, hds⟩
      rw [← hds.length, h4.length]; exact h5
theorem FOk.weak (F : FOk Z X0 ι s env sc as) : EnvOk Z X0 s.heap env ⟨sc, wk as⟩ :=
  { F.fr.en with
    var := fun x d h => by
      have hl := (look_some h).1
      unfold wk at hl
      obtain ⟨w, hm, hw⟩ := lookup_filterMap (fun p q e => by
        refine x1_2 (Option.map_eq_some_iff.mp e) fun a ha e2 => ?_
        rw [← e2]) hl
      dsimp only at hw
      refine x1_2 (Option.map_eq_some_iff.mp hw) fun a ha e2 => ?_
      cases e2
      have hne : w ≠ .un := fun q => by subst q; exact ofNone ha
      refine x1_2 (F.var x w hm hne) fun v l q => ?_
      exact ⟨v, l, thaw_at F 3 w d v ha q⟩ }
theorem plain_up (F : FOk Z X0 ι s env sc as) {d : D} {v : Value} (hp : plain d = true) (a : At s.heap X0 v d) : At s.heap (XS X0 env sc ι) v d := by
  cases d with
  | list l => cases hp
  | tup l => cases hp
  | obj b => cases hp
  | _ => simpa only [At] using a
end
end Mine
namespace Mine
open PySem PySem.W PyProof.Rows PySem.SeqAt
section
variable {Z : Par} {X0 : Addr → Prop} {A : Around} {ι : List Addr} {s : Shared} {env : Env} {sc : Scope} {as : AS} {G : Glo Z} {Φ : Fns} {L : Nat}
theorem Chg.dead {W : Addr → Prop} {s s' : Shared} (c : Chg Z W s s') (hJ : Z.J s.heap) {b : Addr} (h : s'.heap.get? b = none) : s.heap.get? b = none := by
  cases q : s.heap.get? b with
  | none => rfl
  | some o =>
    exfalso
    by_cases hT : Z.T b
    · refine x1_1 (Z.JT _ (c.J hJ) b hT) fun o' ho' => ?_
      rw [h] at ho'; cases ho'
    · by_cases hW : W b
      · refine x1_1 (c.live b hW ⟨o, q⟩) fun o' ho' => ?_
        rw [h] at ho'; cases ho'
      · rw [c.keep b o hT hW q] at h; cases h
theorem evF_sound (B : BiOk G) (hΦ : FnsOk G L Φ) {n : Nat} {e : Expr} {d : D} (Rm : Room L A) (F : FOk Z X0 ι s env sc as) (h : evF Φ sc n e as = some d) :
    Gives Z (XS X0 env sc ι) A s (eval e env) d := by
  unfold evF at h
  split at h
  · rename_i d' hs
    cases h
    exact eval_sound B hΦ n e _ d hs A _ s env Rm F.st F.strong
  · split at h
    · rename_i d' hs
      refine bfd h ?_; clear h; intro hp h
      cases h
      exact wpAny_mono (eval_sound B hΦ n e _ d hs A _ s env Rm F.st0 F.weak) (fun v s1 h1 => ⟨h1.1, plain_up (F.kp h1.1) hp h1.2⟩) fun _ _ f => f
    · exact ofNone h
theorem trF_sound (B : BiOk G) (hΦ : FnsOk G L Φ) {n : Nat} {e : Expr} {b : Bool} (Rm : Room L A) (F : FOk Z X0 ι s env sc as) (h : trF Φ sc n e as = some b) :
    wpAny (model Z.prog Z.w) A (isTrue e env (eval e env)) (fun r s' => r = b ∧ Kp Z s s') (fun _ _ => False) s := by
  unfold trF at h
  split at h
  · rename_i d' hs
    cases h
    exact true_sound B hΦ n e _ b hs A _ s env Rm F.st F.strong
  · exact true_sound B hΦ n e _ b h A _ s env Rm F.st0 F.weak
theorem retF_sound (B : BiOk G) (hΦ : FnsOk G L Φ) {n : Nat} {e : Expr} {d : D} (Rm : Room L A) (F : FOk Z X0 ι s env sc as) (h : aeval Φ n e ⟨sc, wk as⟩ = some d) :
    Gives Z X0 A s (eval e env) d :=
  eval_sound B hΦ n e _ d h A _ s env Rm F.st0 F.weak
theorem itF_sound (B : BiOk G) (hΦ : FnsOk G L Φ) {n : Nat} {tt : Bool} {e : Expr} {items : List D} (Rm : Room L A) (F : FOk Z X0 ι s env sc as) (h : itF Φ sc n tt e as = some items) :
    (∀ x, foldedSetIterable e env x = pure x) ∧
    wpAny (model Z.prog Z.w) A (eval e env) (fun x s1 => wpAny (model Z.prog Z.w) A (pyIter x) (IterPost Z A (XS X0 env sc ι) tt items s) (fun _ _ => False) s1) (fun _ _ => False) s := by
  unfold itF at h
  split at h
  · rename_i l hs
    cases h
    exact ⟨iter_not_set hs, iter_sound B hΦ n tt e _ items hs A _ s env Rm F.st F.strong⟩
  · cases e with
    | Call f args kws pos =>
      cases kws with
      | cons _ _ => exact ofNone h
      | nil =>
        refine ⟨fun x => rfl, bnd h fun g hn h => bfd h fun hb hz => ?_⟩
        refine x1_1 (nameOf_inv hn) fun fp hr1 => ?_; subst hr1
        have hb := Bool.and_eq_true_iff.mp hb
        have e : g = Str.ofString "range" := eq_of_beq hb.2
        subst e
        exact bnd hz fun ds hl h => wpAny_Call_NameR (name_glob G F.st0 F.weak hb.1 B.range (call_type_sound (eval_sound B hΦ n) hl Rm F.st0 F.weak fun s' vs k a => rngL_iter h Rm.hd (fun k' => iter_of_range Rm.hd F.st k') k a))
    | _ => exact ofNone h
theorem mem_set {x y : Str'} {w u : V} (h : (y, u) ∈ (as.set x w).vars) : (y = x ∧ u = w) ∨ (y ≠ x ∧ (y, u) ∈ as.vars) := by
  unfold AS.set at h
  refine x1_2 (List.mem_map.mp h) fun q hq e => ?_
  cases hb : (q.1 == x) with
  | true =>
    rw [hb] at e
    have e1 : q.1 = x := eq_of_beq hb
    cases e
    exact .inl ⟨e1, rfl⟩
  | false =>
    rw [hb] at e
    have e1 : q.1 ≠ x := by simpa using hb
    simp only [cond_false] at e
    subst e
    exact .inr ⟨e1, hq⟩
theorem XS_own {b : Addr} (h : Own env sc b) : XS X0 env sc ι b := .inr (.inl h)
theorem FOk.notOwn (F : FOk Z X0 ι s env sc as) {a : Addr} (h : a ∈ ι) : ¬ Own env sc a := by
  rintro (q | ⟨y, h1, h2⟩)
  · exact (F.own a h).2.1 q
  · exact (F.own a h).2.2 y a h2 rfl
theorem FOk.store (F : FOk Z X0 ι s env sc as) {x : Str'} {v : Value} {w : V} {Q : Unit → Shared → Prop} (hx : stored sc x = true) (hv : VAt s.heap (XS X0 env sc ι) ι v w)
    (h : ∀ s', Chg Z (Own env sc) s s' → FOk Z X0 ι s' env sc (as.set x w) → Q () s') : wpAny (model Z.prog Z.w) A (storeName env x v) Q (fun _ _ => False) s := by
  refine store_raw F.st F.fr hx fun s' c fr l0 ls => h s' c ?_
  have hk : ∀ b o, ¬ XS X0 env sc ι b → s.heap.get? b = some o → s'.heap.get? b = some o := fun b o n e => c.keep b o (fun t => n (.inl (F.tx b t))) (fun q => n (XS_own q)) e
  refine ⟨F.st.chg c fun b q => XS_own q, F.tx, fr, fun y u hm hu => ?_, F.own, F.nodup, F.len, fun n a l h1 h2 => ?_, F.ow0, F.cl⟩
  · rcases mem_set hm with ⟨rfl, rfl⟩ | ⟨hne, hm⟩
    · exact ⟨v, l0, hv.grow (fun _ _ h => h) (fun _ h => .inl h) hk⟩
    · refine x1_2 (F.var y u hm hu) fun z l a => ?_
      exact ⟨z, ls y z hne l, a.grow (fun _ _ h => h) (fun _ h => .inl h) hk⟩
  · refine x1_3 (F.lst n a l h1 h2) fun vs h3 h4 h5 => ?_
    have hm := List.mem_of_getElem? h1
    exact ⟨vs, h3.at fun o => c.keep a o (F.wsT a (.inr hm)) (F.notOwn hm), h4.grow (fun _ _ h => h) (fun _ h => .inl h) hk, h5⟩
theorem Chg.own {s s' : Shared} (c : Chg Z (Own env sc) s s') (hJ : Z.J s.heap) : Chg Z (WS env sc ι) s s' := c.mono hJ fun b h => .inl h
theorem FOk.mutate (F : FOk Z X0 ι s env sc as) {k : Nat} {a : Addr} {l' : List V} {vs' : Array Value} {h' : Heap} {tk : Nat} (ha : ι[k]? = some a) (hs : Heap.SameBut a s.heap h') (hl : h'.PlainList a vs')
    (hv : VAts s.heap (XS X0 env sc ι) ι vs'.toList l') (hn : l'.length ≤ LIM) : Chg Z (WS env sc ι) s { s with heap := h', toks := tk } ∧ FOk Z X0 ι { s with heap := h', toks := tk } env sc ⟨as.vars, putAt as.hp k l'⟩ := by
  have hm := List.mem_of_getElem? ha
  have c : Chg Z (fun b => b = a) s { s with heap := h', toks := tk } := Chg.one (F.wsT a (.inr hm)) hs (by obtain ⟨n, ho⟩ := hl; exact ⟨_, ho⟩)
  have hX : ∀ b, b = a → XS X0 env sc ι b := fun b e => by rw [e]; exact .inr (.inr hm)
  have hk : ∀ b o, ¬ XS X0 env sc ι b → s.heap.get? b = some o → h'.get? b = some o := fun b o n e => (hs.2 b (fun q => n (hX b q))).trans e
  refine ⟨c.mono F.st.J fun b e => by rw [e]; exact .inr hm, F.st.chg c hX, F.tx, F.fr.chg F.st c hX (fun e => (F.own a hm).2.1 e.symm) (fun x q e r => (F.own a hm).2.2 x q e r), ?_, F.own, F.nodup, ?_, ?_, F.ow0, F.cl⟩
  · intro x w h1 h2
    refine x1_2 (F.var x w h1 h2) fun v l q => ?_
    exact ⟨v, l.chg c F.fr.en.tl F.fr.en.tc (fun e => (F.own a hm).2.1 e.symm) (fun x q e r => (F.own a hm).2.2 x q e r), q.grow (fun _ _ h => h) (fun _ h => .inl h) hk⟩
  · show ι.length = (as.hp.set k l').length
    rw [List.length_set]; exact F.len
  · intro n b m h1 h2
    change (as.hp.set k l')[n]? = some m at h2
    by_cases e : n = k
    · subst e
      rw [ha] at h1; rw [← Option.some.inj h1]
      rw [List.getElem?_set_self (by rw [← F.len]; exact (List.getElem?_eq_some_iff.mp ha).1)] at h2
      rw [← Option.some.inj h2]
      exact ⟨vs', hl, hv.grow (fun _ _ h => h) (fun _ h => .inl h) hk, hn⟩
    · rw [List.getElem?_set_ne (fun q => e q.symm)] at h2
      refine x1_3 (F.lst n b m h1 h2) fun vs h3 h4 h5 => ?_
      have hba : b ≠ a := by
        intro q
        subst q
        have := F.nodup
        obtain ⟨l1, e1⟩ := List.getElem?_eq_some_iff.mp h1
        obtain ⟨l2, e2⟩ := List.getElem?_eq_some_iff.mp ha
        exact e ((List.getElem_inj this).mp (e1.trans e2.symm))
      exact ⟨vs, h3.at fun o e => (hs.2 b hba).trans e, h4.grow (fun _ _ h => h) (fun _ h => .inl h) hk, h5⟩
theorem size_dead {h : Heap} : h.get? h.objs.size = none := by
  cases q : h.get? h.objs.size with
  | none => rfl
  | some o => exact absurd (Heap.lt_size q) (Nat.lt_irrefl _)
theorem FOk.alloc (F : FOk Z X0 ι s env sc as) {l : List V} {vs : List Value} {tk : Nat} (hv : VAts s.heap (XS X0 env sc ι) ι vs l) (hn : l.length ≤ LIM) :
    FOk Z X0 (ι ++ [s.heap.objs.size]) { s with heap := s.heap.push { cls := .type "list", data := .seq vs.toArray }, toks := tk } env sc ⟨as.vars, as.hp ++ [l]⟩ := by
  have hd : s.heap.get? s.heap.objs.size = none := size_dead
  have hk : ∀ b o, s.heap.get? b = some o → (s.heap.push { cls := .type "list", data := .seq vs.toArray }).get? b = some o := fun b o e => Heap.get?_push_of_some _ e
  have k : Kp Z s { s with heap := s.heap.push { cls := .type "list", data := .seq vs.toArray }, toks := tk } := Kp.of_heap hk
  have F1 := F.kp k
  have hX : ∀ a, XS X0 env sc (ι ++ [s.heap.objs.size]) a → XS X0 env sc ι a ∨ s.heap.get? a = none := by
    rintro a (h | h | h)
    · exact .inl (.inl h)
    · exact .inl (.inr (.inl h))
    · rcases List.mem_append.mp h with h | h
      · exact .inl (.inr (.inr h))
      · rw [List.mem_singleton.mp h]; exact .inr hd
  have hXi : ∀ a, XS X0 env sc ι a → XS X0 env sc (ι ++ [s.heap.objs.size]) a := by
    rintro a (h | h | h)
    · exact .inl h
    · exact .inr (.inl h)
    · exact .inr (.inr (List.mem_append_left _ h))
  have hι : ∀ (n : Nat) (a : Addr), ι[n]? = some a → (ι ++ [s.heap.objs.size])[n]? = some a := fun n a h => by
    rw [List.getElem?_append_left (List.getElem?_eq_some_iff.mp h).1]; exact h
  have hnew : (s.heap.push { cls := .type "list", data := .seq vs.toArray }).PlainList s.heap.objs.size vs.toArray := ⟨_, Heap.get?_push_size _ rfl⟩
  have hlive : ∀ a, XS X0 env sc ι a → a ≠ s.heap.objs.size := fun a h e => by
    refine x1_1 (F.st.live a h) fun o ho => ?_
    rw [e, hd] at ho; exact ofNone ho
  refine ⟨⟨F1.st.base, F1.st.J, fun a h => ?_, fun a h => .inl (F.tx a h), fun a h => ?_⟩, F.tx, ?_, fun x w h1 h2 => ?_, fun a h => ?_, ?_, ?_, fun n a m h1 h2 => ?_, F.ow0, F.cl⟩
  · rcases h with h | h | h
    · exact F1.st.live a (.inl h)
    · exact F1.st.live a (.inr (.inl h))
    · rcases List.mem_append.mp h with h | h
      · exact F1.st.live a (.inr (.inr h))
      · refine x1_1 hnew fun n ho => ?_
        rw [List.mem_singleton.mp h]; exact ⟨_, ho⟩
  · rcases hX a h with h | h
    · exact F.st.nb a h
    · by_cases hT : Z.T a
      · exact .inl hT
      · right
        cases q : Z.h0.get? a with
        | none => rfl
        | some o => rw [F.st.base a o hT q] at h; cases h
  · exact { F1.fr with en := { F1.fr.en with var := fun x d h => (look_nil h).elim }, lx := hXi _ F1.fr.lx, cx := fun x c h1 h2 => hXi _ (F1.fr.cx x c h1 h2) }
  · refine x1_2 (F.var x w h1 h2) fun v l a => ?_
    exact ⟨v, l.kp k F.fr.en.tl F.fr.en.tc, a.grow hι hX fun b o _ => hk b o⟩
  · rcases List.mem_append.mp h with h | h
    · exact F.own a h
    · rw [List.mem_singleton.mp h]
      refine ⟨fun x => hlive _ (.inl x) rfl, fun e => hlive _ F.fr.lx e.symm, fun x c hc e => ?_⟩
      refine x1_1 (F.fr.en.cal x c hc) fun o ho => ?_
      rw [e, hd] at ho; exact ofNone ho
  · rw [List.nodup_append]
    refine ⟨F.nodup, by simp, fun a h1 b h2 e => ?_⟩
    rw [List.mem_singleton.mp h2] at e
    exact hlive a (.inr (.inr h1)) e
  · rw [List.length_append, List.length_append, F.len]; rfl
  · by_cases e : n < ι.length
    · rw [List.getElem?_append_left e] at h1
      have h2' : as.hp[n]? = some m := by
        have : (as.hp ++ [l])[n]? = some m := h2
        rw [List.getElem?_append_left (by rw [← F.len]; exact e)] at this; exact this
      refine x1_3 (F.lst n a m h1 h2') fun us h3 h4 h5 => ?_
      exact ⟨us, h3.at fun o e => hk a o e, h4.grow hι hX fun b o _ => hk b o, h5⟩
    · have hle : ι.length ≤ n := Nat.le_of_not_lt e
      rw [List.getElem?_append_right hle] at h1
      have h2' : (as.hp ++ [l])[n]? = some m := h2
      rw [List.getElem?_append_right (by rw [← F.len]; exact hle), ← F.len] at h2'
      have e0 : n - ι.length = 0 := by
        cases q : n - ι.length with
        | zero => rfl
        | succ k => rw [q] at h1; simp at h1
      rw [e0] at h1 h2'
      simp at h1 h2'
      subst h1; subst h2'
      exact ⟨vs.toArray, hnew, by simpa using hv.grow hι hX fun b o _ => hk b o, hn⟩
end
end Mine
namespace Mine
open PySem PySem.W PyProof.Rows PySem.SeqAt
section
variable {Z : Par} {X0 : Addr → Prop} {A : Around} {ι : List Addr} {s : Shared} {env : Env} {sc : Scope} {as : AS} {G : Glo Z} {Φ : Fns} {L : Nat}
theorem FOk.chg0 {W : Addr → Prop} {s' : Shared} (F : FOk Z X0 ι s env sc as) (c : Chg Z W s s') (hW : ∀ b, W b → X0 b) : FOk Z X0 ι s' env sc as := by
  have hX : ∀ b, W b → XS X0 env sc ι b := fun b h => .inl (hW b h)
  have hl : ¬ W env.locals := fun w => F.ow0 _ (.inl rfl) (hW _ w)
  have hc : ∀ x a, env.cells.lookup x = some a → ¬ W a := fun x a e w => F.cl x a e (hW _ w)
  have hk : ∀ b o, ¬ XS X0 env sc ι b → s.heap.get? b = some o → s'.heap.get? b = some o := fun b o n e => c.keep b o (fun t => n (.inl (F.tx b t))) (fun q => n (hX b q)) e
  refine ⟨F.st.chg c hX, F.tx, F.fr.chg F.st c hX hl hc, fun x w h1 h2 => ?_, F.own, F.nodup, F.len, fun n a l h1 h2 => ?_, F.ow0, F.cl⟩
  · refine x1_2 (F.var x w h1 h2) fun v l a => ?_
    exact ⟨v, l.chg c F.fr.en.tl F.fr.en.tc hl hc, a.grow (fun _ _ h => h) (fun _ h => .inl h) hk⟩
  · refine x1_3 (F.lst n a l h1 h2) fun vs h3 h4 h5 => ?_
    have hm := List.mem_of_getElem? h1
    exact ⟨vs, h3.at fun o => c.keep a o (F.wsT a (.inr hm)) (fun w => (F.own a hm).1 (hW a w)), h4.grow (fun _ _ h => h) (fun _ h => .inl h) hk, h5⟩
theorem FOk.open_ {s2 : Shared} {wr : List Addr} (F : FOk Z X0 ι s env sc as) (k : Kp Z s s2) (hwr : ∀ b ∈ wr, s.heap.get? b = none ∧ ∃ o, s2.heap.get? b = some o) : FOk Z (fun b => X0 b ∨ b ∈ wr) ι s2 env sc as := by
  have F2 := F.kp k
  have hX : ∀ a, XS (fun b => X0 b ∨ b ∈ wr) env sc ι a → XS X0 env sc ι a ∨ s.heap.get? a = none := by
    rintro a ((h | h) | h)
    · exact .inl (.inl h)
    · exact .inr (hwr a h).1
    · exact .inl (.inr h)
  have hXi : ∀ a, XS X0 env sc ι a → XS (fun b => X0 b ∨ b ∈ wr) env sc ι a := by
    rintro a (h | h)
    · exact .inl (.inl h)
    · exact .inr h
  have hk : ∀ b o, ¬ XS X0 env sc ι b → s.heap.get? b = some o → s2.heap.get? b = some o := fun b o n e => k.keep b o (fun t => n (.inl (F.tx b t))) e
  have hlive : ∀ a, (∃ o, s.heap.get? a = some o) → a ∉ wr := fun a ⟨o, ho⟩ h => by rw [(hwr a h).1] at ho; exact ofNone ho
  refine ⟨⟨F2.st.base, F2.st.J, fun a h => ?_, fun a h => .inl (.inl (F.tx a h)), fun a h => ?_⟩, fun a h => .inl (F.tx a h), ?_, fun x w h1 h2 => ?_, fun a h => ?_, F.nodup, F.len, fun n a l h1 h2 => ?_, fun b h => ?_, fun x c h => ?_⟩
  · rcases h with (h | h) | h
    · exact F2.st.live a (.inl h)
    · exact (hwr a h).2
    · exact F2.st.live a (.inr h)
  · rcases hX a h with h | h
    · exact F.st.nb a h
    · by_cases hT : Z.T a
      · exact .inl hT
      · right
        cases q : Z.h0.get? a with
        | none => rfl
        | some o => rw [F.st.base a o hT q] at h; cases h
  · exact { F2.fr with en := { F2.fr.en with var := fun x d h => (look_nil h).elim }, lx := hXi _ F2.fr.lx, cx := fun x c h1 h2 => hXi _ (F2.fr.cx x c h1 h2) }
  · refine x1_2 (F.var x w h1 h2) fun v l a => ?_
    exact ⟨v, l.kp k F.fr.en.tl F.fr.en.tc, a.grow (fun _ _ h => h) hX hk⟩
  · refine x0_2 (F.own a h) fun h1 h2 => ?_
    exact ⟨fun q => q.elim h1 (hlive a (F.st.live a (.inr (.inr h)))), h2⟩
  · refine x1_3 (F.lst n a l h1 h2) fun vs h3 h4 h5 => ?_
    have hm := List.mem_of_getElem? h1
    exact ⟨vs, h3.at fun o => k.keep a o (F.wsT a (.inr hm)), h4.grow (fun _ _ h => h) hX hk, h5⟩
  · rintro (q | q)
    · exact F.ow0 b h q
    · exact hlive b (F.st.live b (.inr (.inl h))) q
  · rintro (q | q)
    · exact F.cl x c h q
    · exact hlive c (F.fr.en.cal x c h) q
theorem FOk.close {wr : List Addr} (F : FOk Z (fun b => X0 b ∨ b ∈ wr) ι s env sc as) (tx : ∀ a, Z.T a → X0 a) : FOk Z X0 ι s env sc as := by
  have hXi : ∀ a, XS X0 env sc ι a → XS (fun b => X0 b ∨ b ∈ wr) env sc ι a := by
    rintro a (h | h)
    · exact .inl (.inl h)
    · exact .inr h
  have up : ∀ {v w}, VAt s.heap (XS (fun b => X0 b ∨ b ∈ wr) env sc ι) ι v w → VAt s.heap (XS X0 env sc ι) ι v w := fun a => a.grow (fun _ _ h => h) (fun a h => .inl (hXi a h)) fun _ _ _ e => e
  refine ⟨⟨F.st.base, F.st.J, fun a h => F.st.live a (hXi a h), fun a h => .inl (tx a h), fun a h => F.st.nb a (hXi a h)⟩, tx, ?_, fun x w h1 h2 => ?_, fun a h => ?_, F.nodup, F.len, fun n a l h1 h2 => ?_, fun b h q => F.ow0 b h (.inl q), fun x c h q => F.cl x c h (.inl q)⟩
  · exact { F.fr with en := { F.fr.en with var := fun x d h => (look_nil h).elim }, lx := .inr (.inl (.inl rfl)), cx := fun x c h1 h2 => .inr (.inl (.inr ⟨x, h2, h1⟩)) }
  · refine x1_2 (F.var x w h1 h2) fun v l a => ?_
    exact ⟨v, l, up a⟩
  · refine x0_2 (F.own a h) fun h1 h2 => ?_
    exact ⟨fun q => h1 (.inl q), h2⟩
  · refine x1_3 (F.lst n a l h1 h2) fun vs h3 h4 h5 => ?_
    exact ⟨vs, h3, h4.grow (fun _ _ h => h) (fun a h => .inl (hXi a h)) fun _ _ _ e => e, h5⟩
noncomputable def FlAt (h : Heap) (X0 : Addr → Prop) : Flow → Fl → Prop
  | .next, .next => True
  | .brk, .brk => True
  | .ret v, .ret d => At h X0 v d
  | _, _ => False
inductive XPost (Z : Par) (X0 : Addr → Prop) (ι : List Addr) (env : Env) (sc : Scope) (s : Shared) (r : Fl × AS) (fl : Flow) (s' : Shared) : Prop
  | mk (κ : List Addr) (hκ : ∀ a ∈ κ, s.heap.get? a = none) (c : Chg Z (WS env sc ι) s s') (F : FOk Z X0 (ι ++ κ) s' env sc r.2) (f : FlAt s'.heap X0 fl r.1)
theorem ws_trans {κ : List Addr} {s1 s2 : Shared} (hJ : Z.J s.heap) (hκ : ∀ a ∈ κ, s.heap.get? a = none) (c1 : Chg Z (WS env sc ι) s s1) (c2 : Chg Z (WS env sc (ι ++ κ)) s1 s2) : Chg Z (WS env sc ι) s s2 := by
  refine ⟨c2.os.trans c1.os, fun g => c2.gens (c1.gens g), fun b o n m e => ?_, fun j => c2.J (c1.J j), fun b w l => ?_⟩
  · refine c2.keep b o n (fun w => ?_) (c1.keep b o n m e)
    rcases w with w | w
    · exact m (.inl w)
    · rcases List.mem_append.mp w with w | w
      · exact m (.inr w)
      · rw [hκ b w] at e; cases e
  · exact c2.live b (w.imp id fun w => List.mem_append_left _ w) (c1.live b w l)
theorem xpost_trans {κ : List Addr} {s1 s2 : Shared} {r : Fl × AS} {fl : Flow} (hJ : Z.J s.heap) (hκ : ∀ a ∈ κ, s.heap.get? a = none) (c1 : Chg Z (WS env sc ι) s s1) (h : XPost Z X0 (ι ++ κ) env sc s1 r fl s2) :
    XPost Z X0 ι env sc s r fl s2 := by
  obtain ⟨κ2, h1, c2, F2, fl2⟩ := h
  refine ⟨κ ++ κ2, fun a ha => ?_, ws_trans hJ hκ c1 c2, by rw [← List.append_assoc]; exact F2, fl2⟩
  rcases List.mem_append.mp ha with ha | ha
  · exact hκ a ha
  · exact c1.dead hJ (h1 a ha)
theorem xpost_next {s1 : Shared} {as' : AS} (c : Chg Z (WS env sc ι) s s1) (F : FOk Z X0 ι s1 env sc as') : XPost Z X0 ι env sc s (.next, as') .next s1 :=
  ⟨[], fun _ h => (nomatch h), c, by rw [List.append_nil]; exact F, trivial⟩
theorem chg_kp {s1 : Shared} (k : Kp Z s s1) (hJ : Z.J s.heap) : Chg Z (WS env sc ι) s s1 := Chg.of_kp k hJ
theorem set_name {s0 : Shared} {x : Str'} {v : Value} {w : V} (k0 : Chg Z (WS env sc ι) s0 s) (F : FOk Z X0 ι s env sc as) (hx : stored sc x = true) (hv : VAt s.heap (XS X0 env sc ι) ι v w) :
    wpAny (model Z.prog Z.w) A (storeName env x v) (fun _ s' => XPost Z X0 ι env sc s0 (.next, as.set x w) .next s') (fun _ _ => False) s :=
  F.store hx hv fun s' c F' => xpost_next (k0.trans (c.own F.st.J)) F'
end
end Mine
namespace Mine
open PySem PySem.W PyProof.Rows PySem.SeqAt
section
variable {Z : Par} {X0 : Addr → Prop} {A : Around} {ι : List Addr} {s : Shared} {env : Env} {sc : Scope} {as : AS} {G : Glo Z} {Φ : Fns} {L : Nat}
theorem evF_some {n : Nat} {e : Expr} {d : D} (h : evF Φ sc n e as = some d) : ∃ vars, aeval Φ n e ⟨sc, vars⟩ = some d := by
  unfold evF at h
  split at h
  · rename_i q hq; rw [← Option.some.inj h]; exact ⟨_, hq⟩
  · split at h
    · rename_i q hq
      refine bfd h ?_; clear h; intro hp h
      rw [← Option.some.inj h]; exact ⟨_, hq⟩
    · exact ofNone h
theorem evF_star {n : Nat} {e : Expr} {d : D} {rest : List Expr} (h : evF Φ sc n e as = some d) : starEach (e :: rest) env = (false, eval e env) :: starEach rest env := by
  refine x1_1 (evF_some h) fun v h => ?_
  exact star_ne h
theorem setItem_plain {l : Addr} {items : Array Value} {k : Int} {t : Tok} {v : Value} {Q : Unit → Shared → Prop} (hl : s.heap.PlainList l items)
    (h0 : 0 ≤ k) (hfit : k < 2 ^ 63) (hn : k < items.size)
    (hQ : ∀ h', h'.PlainList l (items.setIfInBounds k.toNat v) → Heap.SameBut l s.heap h' → Q () { s with heap := h' }) :
    wpAny (model Z.prog Z.w) A (setItem (.ref l) (.int k t) v) Q (fun _ _ => False) s := by
  refine x1_1 hl fun ne ho => ?_
  have hT : s.TypeIs (.ref l) "list" := ⟨_, ho, rfl⟩
  unfold setItem
  try with_reducible refine wpAny_holding ?_
  first | refine wpAny_bind (wpAny_pure ?_) | skip
  refine wpAny_bind (wpAny_sequenceKey hT (by decide) ?_)
  refine wpAny_bind (wpAny_callSpecial?_slot (name := Str.ofString "__setitem__") hT slot_list_setitem
    (wpAny_call_entry slot_list_setitem hT entry_list_setitem ?_ (args_list_setitem _ _ _)))
  show wpAny _ _ (Builtin.List.listSubscript? (.int k t) >>= _) _ _ s
  refine wpAny_bind (wpAny_listSubscript_int (fitsIndex_of h0 hfit) ?_)
  clear hfit
  refine x1_1 (Int.eq_ofNat_of_zero_le h0) fun j hr1 => ?_; subst hr1
  have hj : j < items.size := by lia
  have hx' : items[j]? = some items[j] := Array.getElem?_eq_getElem hj
  show wpAny _ _ ((seqItemAt l j >>= fun r => pure (r.map (j, ·))) >>= _) _ _ s
  refine wpAny_bind (wpAny_bind (wpAny_seqItemAt ho rfl (wpAny_pure ?_)))
  rw [hx']
  show wpAny _ _ (setSeqItemAt l j v >>= _) _ _ s
  have e : Obj.mapSeq (·.setIfInBounds j v) { cls := .type "list", data := .seq items ne } = { cls := .type "list", data := (Obj.mapSeq (·.setIfInBounds j v) { cls := .type "list", data := .seq items ne }).data } := rfl
  refine x1_1 (Obj.data_mapSeq (o := { cls := .type "list", data := .seq items ne }) rfl (·.setIfInBounds j v)) fun n' hd' => ?_
  have hfin : (s.heap.update l (Obj.mapSeq (·.setIfInBounds j v))).PlainList l (items.setIfInBounds j v) :=
    ⟨n', by rw [Heap.get?_update_self _ ho (Obj.isFreed_of_seq hd'), e, hd']⟩
  refine wpAny_bind (wpAny_setSeqItemAt ho rfl ?_)
  first
    | exact wpAny_bind (wpAny_pure (wpAny_pure ⟨.none, rfl, wpAny_pure (hQ _ hfin (Heap.SameBut.update ..))⟩))
    | exact wpAny_pure ⟨.none, rfl, wpAny_pure (hQ _ hfin (Heap.SameBut.update ..))⟩
theorem append_call {k : Nat} {a : Addr} {l : List V} {v : Value} {w : V} {Q : Value → Shared → Prop} (F : FOk Z X0 ι s env sc as) (ha : ι[k]? = some a) (hl : as.hp[k]? = some l) (hlt : l.length < LIM)
    (hv : VAt s.heap (XS X0 env sc ι) ι v w) (hQ : ∀ s', Chg Z (WS env sc ι) s s' → FOk Z X0 ι s' env sc ⟨as.vars, putAt as.hp k (l ++ [w])⟩ → Q .none s') :
    wpAny (model Z.prog Z.w) A (call (.builtin "list.append") [.ref a, v]) Q (fun _ _ => False) s := by
  refine x1_3 (F.lst k a l ha hl) fun vs h3 h4 h5 => ?_
  have e1 := h4.length
  rw [Array.length_toList] at e1
  refine wpAny_list_append_plain h3 (fun h' hp hs => ?_) (by rw [e1]; exact lim_size h5)
  refine x0_2 (F.mutate (tk := s.toks) (l' := l ++ [w]) ha hs hp (by rw [Array.toList_push]; exact h4.append ⟨hv, trivial⟩) (by rw [List.length_append]; exact hlt)) fun c F' => ?_
  exact hQ _ c F'
theorem app_some {k : Nat} {w : V} {as' : AS} (h : appendTo as k w = some as') : ∃ l, as.hp[k]? = some l ∧ l.length < LIM ∧ as' = ⟨as.vars, putAt as.hp k (l ++ [w])⟩ := by
  unfold appendTo at h
  cases hl : as.hp[k]? with
  | none => rw [hl] at h; exact ofNone h
  | some l =>
    rw [hl] at h
    simp only [Option.bind_some] at h
    refine bfd h ?_; clear h; intro hb h
    rw [← Option.some.inj h]; exact ⟨l, rfl, of_decide_eq_true hb, rfl⟩
theorem get_mem {x : Str'} {w : V} (h : as.get x = some w) : (x, w) ∈ as.vars := mem_of_lookup h
theorem FOk.name (F : FOk Z X0 ι s env sc as) {x : Str'} {w : V} {p : Pos} {Q : Value → Shared → Prop} (hx : stored sc x = true) (h : as.get x = some w) (hw : w ≠ .un)
    (hQ : ∀ v, VAt s.heap (XS X0 env sc ι) ι v w → Q v s) : wpAny (model Z.prog Z.w) A (eval (.Name x p) env) Q (fun _ _ => False) s := by
  refine x1_2 (F.var x w (get_mem h) hw) fun v l a => ?_
  have hk : ∃ k, sc.names.lookup x = some k := by
    unfold stored at hx
    cases q : sc.names.lookup x with
    | none => rw [q] at hx; cases hx
    | some k => exact ⟨k, rfl⟩
  refine x1_1 hk fun k hk => ?_
  have hdbg := F.fr.en.dbg x k hk
  refine wpAny_Name ?_ hdbg.1
  rcases l with ⟨l1, m, hn, hm⟩ | ⟨l1, c, hc, hv⟩
  · exact wpAny_loadName_local F.fr.en.kind l1 hn hm (hQ v a)
  · rcases l1 with l1 | l1
    · exact wpAny_loadName_cell F.fr.en.kind l1 hc hv (hQ v a)
    · exact wpAny_loadName_free F.fr.en.kind l1 hc hv (hQ v a) hdbg.2
theorem FOk.load (F : FOk Z X0 ι s env sc as) {x : Str'} {w : V} {Q : Value → Shared → Prop} (hx : stored sc x = true) (h : as.get x = some w) (hw : w ≠ .un)
    (hQ : ∀ v, VAt s.heap (XS X0 env sc ι) ι v w → Q v s) : wpAny (model Z.prog Z.w) A (loadName env x) Q (fun _ _ => False) s := by
  refine x1_2 (F.var x w (get_mem h) hw) fun v l a => ?_
  have hk : ∃ k, sc.names.lookup x = some k := by
    unfold stored at hx
    cases q : sc.names.lookup x with
    | none => rw [q] at hx; cases hx
    | some k => exact ⟨k, rfl⟩
  refine x1_1 hk fun k hk => ?_
  have hdbg := F.fr.en.dbg x k hk
  rcases l with ⟨l1, m, hn, hm⟩ | ⟨l1, c, hc, hv⟩
  · exact wpAny_loadName_local F.fr.en.kind l1 hn hm (hQ v a)
  · rcases l1 with l1 | l1
    · exact wpAny_loadName_cell F.fr.en.kind l1 hc hv (hQ v a)
    · exact wpAny_loadName_free F.fr.en.kind l1 hc hv (hQ v a) hdbg.2
theorem inter_false (F : FOk Z X0 ι s env sc as) : interactive env = false := by
  unfold interactive
  rw [F.fr.en.kind]; rfl
theorem append_stmt (B : BiOk G) (hΦ : FnsOk G L Φ) {n : Nat} {o e : Expr} {apos pos p : Pos} {k : Nat} {d : D} {as' : AS} (Rm : Room L A) (F : FOk Z X0 ι s env sc as) (hb : okBase o = true) (hln : (apos.endLine == pos.line) = true)
    (ho : wpAny (model Z.prog Z.w) A (eval o env) (fun v s1 => Kp Z s s1 ∧ ∃ a, ι[k]? = some a ∧ v = .ref a) (fun _ _ => False) s) (he : evF Φ sc n e as = some d) (ha : appendTo as k (.d d) = some as') :
    wpAny (model Z.prog Z.w) A (exec (.Expr (.Call (.Attribute o (Str.ofString "append") apos) [e] [] pos) p) env) (fun fl s' => XPost Z X0 ι env sc s (.next, as') fl s') (fun _ _ => False) s := by
  refine x1_3 (app_some ha) fun l hl hlt hr3 => ?_; subst hr3
  refine wpAny_Expr ?_ ?_ rfl
  · refine wpAny_Call_append (base_of hb) ?_ hln ?_ ?_
    · rw [evF_star he]; rfl
    · rw [evF_star he]; rfl
    · refine wpAny_mono ho (fun ov s1 h1 => ?_) fun _ _ f => f
      obtain ⟨k1, a, hk, rfl⟩ := h1
      have F1 := F.kp k1
      obtain ⟨vs, ⟨nn, h3⟩, h4, h5⟩ := F1.lst k a l hk hl
      refine ⟨a, vs, rfl, ⟨_, nn, h3, rfl, rfl, rfl⟩, wpAny_mono (evF_sound B hΦ Rm F1 he) (fun y s2 h2 => ?_) fun _ _ f => f⟩
      obtain ⟨k2, a2⟩ := h2
      have F2 := F1.kp k2
      refine append_call F2 hk hl hlt (w := .d d) a2 fun s3 c F3 => ?_
      exact xpost_next ((chg_kp (k1.trans k2) F.st.J).trans c) F3
  · exact inter_false F
theorem mk_list {s0 : Shared} {x : Str'} {xp lp pos : Pos} (F : FOk Z X0 ι s env sc as) (hx : stored sc x = true) :
    wpAny (model Z.prog Z.w) A (exec (.Assign [.Name x xp] (.List [] lp) pos) env) (fun fl s' => XPost Z X0 ι env sc s (.next, ⟨(as.set x (.p as.hp.length)).vars, as.hp ++ [[]]⟩) fl s') (fun _ _ => False) s := by
  refine wpAny_Assign_Name (PySem.wpAny_List (wpAny_items_nil ⟨Nat.zero_le _, ?_⟩))
  have F1 := F.alloc (l := []) (vs := []) (tk := s.toks) trivial (Nat.zero_le _)
  have k1 : Kp Z s { s with heap := s.heap.push { cls := .type "list", data := .seq ([] : List Value).toArray } } := Kp.push _
  refine F1.store hx (w := .p as.hp.length) ⟨s.heap.objs.size, by rw [← F.len]; simp, rfl⟩ fun s' c F' => ?_
  refine ⟨[s.heap.objs.size], fun a ha => by rw [List.mem_singleton.mp ha]; exact size_dead, (chg_kp k1 F.st.J).trans (c.own (k1.J F.st.J)), ?_, trivial⟩
  exact F'
theorem mk_list2 {s0 : Shared} {x : Str'} {xp lp lp2 pos : Pos} (F : FOk Z X0 ι s env sc as) (hx : stored sc x = true) :
    wpAny (model Z.prog Z.w) A (exec (.Assign [.Name x xp] (.List [.List [] lp2] lp) pos) env) (fun fl s' => XPost Z X0 ι env sc s (.next, ⟨(as.set x (.p (as.hp.length + 1))).vars, as.hp ++ [[], [.p as.hp.length]]⟩) fl s') (fun _ _ => False) s := by
  refine wpAny_Assign_Name (PySem.wpAny_List (wpAny_items_cons (PySem.wpAny_List (wpAny_items_nil ⟨Nat.zero_le _, wpAny_items_nil ⟨by show 1 ≤ sizeLine; decide, ?_⟩⟩)) rfl))
  have k1 : Kp Z s { s with heap := s.heap.push { cls := .type "list", data := .seq ([] : List Value).toArray } } := Kp.push _
  have F1 := F.alloc (l := []) (vs := []) (tk := s.toks) trivial (Nat.zero_le _)
  generalize hs1 : ({ s with heap := s.heap.push { cls := .type "list", data := .seq ([] : List Value).toArray } } : Shared) = s1 at k1 F1
  have hpp : (ι ++ [s.heap.objs.size])[as.hp.length]? = some s.heap.objs.size := by rw [← F.len]; simp
  have F2 := F1.alloc (l := [.p as.hp.length]) (vs := [.ref s.heap.objs.size]) (tk := s1.toks) ⟨⟨_, hpp, rfl⟩, trivial⟩ (by show 1 ≤ LIM; decide)
  have k2 : Kp Z s1 { s1 with heap := s1.heap.push { cls := .type "list", data := .seq [Value.ref s.heap.objs.size].toArray } } := Kp.push _
  refine F2.store hx (w := .p (as.hp.length + 1)) ⟨s1.heap.objs.size, ?_, rfl⟩ fun s' c F' => ?_
  · rw [← F.len]; simp
  · refine ⟨[s.heap.objs.size, s1.heap.objs.size], fun a ha => ?_, ((chg_kp k1 F.st.J).trans (chg_kp k2 (k1.J F.st.J))).trans (c.own (k2.J (k1.J F.st.J))), ?_, trivial⟩
    · rcases List.mem_cons.mp ha with e | ha
      · rw [e]; exact size_dead
      · rw [List.mem_singleton.mp ha]
        exact (chg_kp (ι := ι) (env := env) (sc := sc) k1 F.st.J).dead F.st.J size_dead
    · have := F'
      simpa [AS.set] using this
theorem append_new {x : Str'} {xp apos pos lp p : Pos} {k : Nat} {as' : AS} (Rm : Room L A) (F : FOk Z X0 ι s env sc as) (hx : stored sc x = true) (hln : (apos.endLine == pos.line) = true)
    (hg : as.get x = some (.p k)) (ha : appendTo ⟨as.vars, as.hp ++ [[]]⟩ k (.p as.hp.length) = some as') :
    wpAny (model Z.prog Z.w) A (exec (.Expr (.Call (.Attribute (.Name x xp) (Str.ofString "append") apos) [.List [] lp] [] pos) p) env) (fun fl s' => XPost Z X0 ι env sc s (.next, as') fl s') (fun _ _ => False) s := by
  refine x1_3 (app_some ha) fun l hl hlt hr3 => ?_; subst hr3
  refine wpAny_Expr ?_ (inter_false F) rfl
  refine wpAny_Call_append rfl rfl hln rfl (F.name hx hg (by intro q; cases q) fun v hv => ?_)
  refine x1_2 hv fun a hk hr2 => ?_; subst hr2
  have k1 : Kp Z s { s with heap := s.heap.push { cls := .type "list", data := .seq ([] : List Value).toArray } } := Kp.push _
  have F1 := F.alloc (l := []) (vs := []) (tk := s.toks) trivial (Nat.zero_le _)
  have hlen : k < as.hp.length := by rw [← F.len]; exact (List.getElem?_eq_some_iff.mp hk).1
  have hl0 : as.hp[k]? = some l := by
    have : (as.hp ++ [[]])[k]? = some l := hl
    rw [List.getElem?_append_left hlen] at this; exact this
  obtain ⟨vs, ⟨nn, h3⟩, h4, h5⟩ := F.lst k a l hk hl0
  refine ⟨a, vs, rfl, ⟨_, nn, h3, rfl, rfl, rfl⟩, PySem.wpAny_List (wpAny_items_nil ⟨Nat.zero_le _, ?_⟩)⟩
  have hk1 : (ι ++ [s.heap.objs.size])[k]? = some a := by rw [List.getElem?_append_left (by rw [F.len]; exact hlen)]; exact hk
  refine append_call F1 hk1 hl hlt (w := .p as.hp.length) ⟨_, by rw [← F.len]; simp, rfl⟩ fun s3 c F3 => ?_
  refine xpost_trans (κ := [s.heap.objs.size]) F.st.J (fun a ha => by rw [List.mem_singleton.mp ha]; exact size_dead) (chg_kp k1 F.st.J) (xpost_next c F3)
theorem append_at (B : BiOk G) (hΦ : FnsOk G L Φ) {n : Nat} {x : Str'} {i : Expr} {xp ip : Pos} {k r q : Nat} {j : Int} {l : List V} (Rm : Room L A) (F : FOk Z X0 ι s env sc as) (hx : stored sc x = true)
    (hg : as.get x = some (.p k)) (hj : evF Φ sc n i as = some (.int j)) (hl : as.hp[k]? = some l) (hi : idx j l.length = some q) (hq : l[q]? = some (.p r)) :
    wpAny (model Z.prog Z.w) A (eval (.Subscript (.Name x xp) i ip) env) (fun v s1 => Kp Z s s1 ∧ ∃ a, ι[r]? = some a ∧ v = .ref a) (fun _ _ => False) s := by
  rw [eval_Subscript]
  refine wpAny_bind (F.name hx hg (by intro q; cases q) fun v hv => ?_)
  refine x1_2 hv fun a hk hr2 => ?_; subst hr2
  refine wpAny_bind (wpAny_holding (wpAny_mono (evF_sound B hΦ Rm F hj) (fun iv s2 h2 => wpAny_bind (wpAny_standAt ?_)) fun _ _ f => f))
  obtain ⟨k2, a2⟩ := h2
  refine x1_1 (at_int.mp a2) fun t hr1 => ?_; subst hr1
  have F2 := F.kp k2
  refine x1_3 (F2.lst k a l hk hl) fun vs h3 h4 h5 => ?_
  have e1 := h4.length
  rw [Array.length_toList] at e1
  obtain ⟨v, hv, b, hb, rfl⟩ := h4.get hq
  rw [Array.getElem?_toList] at hv
  refine x0_5 (idx_bounds hi) fun b1 b2 b3 b4 b5 => ?_
  have hn : l.length ≤ 1000000 := h5
  have hget : wpAny (model Z.prog Z.w) A (getItem (.ref a) (.int j t)) (fun v s1 => Kp Z s s1 ∧ ∃ a, ι[r]? = some a ∧ v = .ref a) (fun _ _ => False) s2 := by
    by_cases h0 : 0 ≤ j
    · rw [b4 h0] at hv
      exact wpAny_getItem_list h3.isList h0 (by lia) hv ⟨k2, b, hb, rfl⟩
    · rw [b5 (by lia)] at hv
      exact wpAny_getItem_list_neg h3.isList (by lia) (by lia) (by lia) (by rw [e1]; exact hv) ⟨k2, b, hb, rfl⟩
  have hT : s2.TypeIs (.ref a) "list" := h3.isList.typeIs
  refine wpAny_bind ?_
  rw [getitemInPython_of_ne hT.not_modules]
  refine wpAny_bind (wpAny_specialOf hT slot_list_getitem.lookup (wpAny_pure ?_))
  have e : wpAny (model Z.prog Z.w) A (subscripted i false (.ref a) (.int j t)) (fun v s1 => Kp Z s s1 ∧ ∃ a, ι[r]? = some a ∧ v = .ref a) (fun _ _ => False) s2 := by
    have e1 : ∀ vs, wpAny (model Z.prog Z.w) A (operate vs (getItem (.ref a) (.int j t))) (fun v s1 => Kp Z s s1 ∧ ∃ a, ι[r]? = some a ∧ v = .ref a) (fun _ _ => False) s2 := fun vs Γ p hΓ => by rw [Sem.wp_operate]; exact hget Γ p hΓ
    unfold subscripted
    split
    · exact e1 _
    · cases ‹false = true›
    · exact e1 _
  exact wpAny_bind (wpAny_mono e (fun r s1 h1 => wpAny_bind (wpAny_letTemporaryGo (wpAny_pure h1))) fun _ _ f => f)
theorem setat_stmt (B : BiOk G) (hΦ : FnsOk G L Φ) {n : Nat} {x : Str'} {i e : Expr} {xp ip pos : Pos} {k q : Nat} {j : Int} {d : D} {l : List V} (Rm : Room L A) (F : FOk Z X0 ι s env sc as) (hx : stored sc x = true)
    (he : evF Φ sc n e as = some d) (hj : evF Φ sc n i as = some (.int j)) (hg : as.get x = some (.p k)) (hl : as.hp[k]? = some l) (hi : idx j l.length = some q) (h0 : 0 ≤ j) :
    wpAny (model Z.prog Z.w) A (exec (.Assign [.Subscript (.Name x xp) i ip] e pos) env) (fun fl s' => XPost Z X0 ι env sc s (.next, ⟨as.vars, putAt as.hp k (l.set q (.d d))⟩) fl s') (fun _ _ => False) s := by
  refine wpAny_Assign_Subscript (wpAny_mono (evF_sound B hΦ Rm F he) (fun v s1 h1 => ?_) fun _ _ f => f) ?_
  · obtain ⟨k1, a1⟩ := h1
    have F1 := F.kp k1
    refine F1.name hx hg (by intro q; cases q) fun ov hv => ?_
    refine x1_2 hv fun a hk hr2 => ?_; subst hr2
    refine wpAny_mono (evF_sound B hΦ Rm F1 hj) (fun iv s2 h2 => ?_) fun _ _ f => f
    obtain ⟨k2, a2⟩ := h2
    refine x1_1 (at_int.mp a2) fun t hr1 => ?_; subst hr1
    have F2 := F1.kp k2
    refine x1_3 (F2.lst k a l hk hl) fun vs h3 h4 h5 => ?_
    have e1 := h4.length
    rw [Array.length_toList] at e1
    refine x0_5 (idx_bounds hi) fun b1 b2 b3 b4 b5 => ?_
    have hn : l.length ≤ 1000000 := h5
    refine setItem_plain h3 h0 (by lia) (by lia) fun h' hp hs => ?_
    have hv2 : VAt s2.heap (XS X0 env sc ι) ι v (.d d) := a1.kp F1.st k2
    refine x0_2 (F2.mutate (tk := s2.toks) (l' := l.set q (.d d)) hk hs hp (by rw [Array.toList_setIfInBounds, ← b4 h0]; exact h4.set q hv2) (by rw [List.length_set]; exact h5)) fun c F3 => ?_
    exact xpost_next ((chg_kp (k1.trans k2) F.st.J).trans c) F3
  · cases e <;> rfl
theorem del_stmt (B : BiOk G) (hΦ : FnsOk G L Φ) {n : Nat} {x : Str'} {i : Expr} {xp ip pos : Pos} {k q : Nat} {j : Int} {l : List V} (Rm : Room L A) (F : FOk Z X0 ι s env sc as) (hx : stored sc x = true)
    (hj : evF Φ sc n i as = some (.int j)) (hg : as.get x = some (.p k)) (hl : as.hp[k]? = some l) (hi : idx j l.length = some q) (h0 : 0 ≤ j) :
    wpAny (model Z.prog Z.w) A (exec (.Delete [.Subscript (.Name x xp) i ip] pos) env) (fun fl s' => XPost Z X0 ι env sc s (.next, ⟨as.vars, putAt as.hp k (l.eraseIdx q)⟩) fl s') (fun _ _ => False) s := by
  refine wpAny_Delete (wpAny_deleteEach_cons (wpAny_delete_Subscript (F.name hx hg (by intro q; cases q) fun ov hv => ?_)))
  refine x1_2 hv fun a hk hr2 => ?_; subst hr2
  refine wpAny_mono (evF_sound B hΦ Rm F hj) (fun iv s2 h2 => ?_) fun _ _ f => f
  obtain ⟨k2, a2⟩ := h2
  refine x1_1 (at_int.mp a2) fun t hr1 => ?_; subst hr1
  have F2 := F.kp k2
  refine x1_3 (F2.lst k a l hk hl) fun vs h3 h4 h5 => ?_
  have e1 := h4.length
  rw [Array.length_toList] at e1
  refine x0_5 (idx_bounds hi) fun b1 b2 b3 b4 b5 => ?_
  have hn : l.length ≤ 1000000 := h5
  refine wpAny_delItem_plain h3 (fitsIndex_of h0 (by lia)) (k := q) ?_ (fun h' hp hs => wpAny_deleteEach_nil ?_) (by rw [e1]; exact lim_size h5)
  · rw [e1]; exact idx_seq hi
  · have this : (vs.eraseIdxIfInBounds q).toList = vs.toList.eraseIdx q := by
      rw [Array.eraseIdxIfInBounds, dif_pos (by lia)]
      simp
    refine x0_2 (F2.mutate (tk := s2.toks) (l' := l.eraseIdx q) hk hs hp (by rw [this]; exact h4.erase q) (Nat.le_trans (List.length_eraseIdx_le ..) h5)) fun c F3 => ?_
    exact xpost_next ((chg_kp k2 F.st.J).trans c) F3
theorem aug_stmt (B : BiOk G) (hΦ : FnsOk G L Φ) {n : Nat} {x : Str'} {e : Expr} {xp pos : Pos} {a b c : D} (Rm : Room L A) (F : FOk Z X0 ι s env sc as) (hx : stored sc x = true)
    (hg : as.get x = some (.d a)) (he : evF Φ sc n e as = some b) (hc : aug a b = some c) :
    wpAny (model Z.prog Z.w) A (exec (.AugAssign (.Name x xp) .Add e pos) env) (fun fl s' => XPost Z X0 ι env sc s (.next, as.set x (.d c)) fl s') (fun _ _ => False) s := by
  refine wpAny_AugAssign_Name (F.load hx hg (by intro q; cases q) fun v hv => wpAny_mono (evF_sound B hΦ Rm F he) (fun u s1 h1 => ?_) fun _ _ f => f)
  obtain ⟨k1, a1⟩ := h1
  have F1 := F.kp k1
  have hv1 : At s1.heap (XS X0 env sc ι) v a := At.kp F.st k1 hv
  have fin : ∀ r tk, At s1.heap (XS X0 env sc ι) r c → wpAny (model Z.prog Z.w) A (storeName env x r) (fun _ s' => XPost Z X0 ι env sc s (.next, as.set x (.d c)) .next s') (fun _ _ => False) { s1 with toks := tk } := fun r tk hr => by
    have k2 : Kp Z s1 { s1 with toks := tk } := Kp.tok
    exact set_name ((chg_kp (k1.trans k2) F.st.J)) (F1.kp k2) hx hr
  unfold aug at hc
  split at hc
  · cases hc
    refine x1_1 (at_int.mp hv1) fun t hr1 => ?_; subst hr1
    refine x1_1 (at_int.mp a1) fun t2 hr1 => ?_; subst hr1
    exact AutoIntOps.iadd_0 (fin _ _ (at_int.mpr ⟨_, rfl⟩))
  · rename_i x1 y1
    refine bfd hc ?_; clear hc; intro hb hc
    cases hc
    obtain ⟨t, rfl, _⟩ := at_strI hv1
    obtain ⟨t2, rfl, _⟩ := at_strI a1
    have hle := of_decide_eq_true hb
    refine iadd_str (fun t' tk => fin _ _ (at_strM ⟨_, rfl, ?_⟩)) (lim_size hle)
    rw [str_len_append]; exact hle
  · exact ofNone hc
end
end Mine
namespace Mine
open PySem PySem.W PyProof.Rows PySem.SeqAt
section
variable {Z : Par} {X0 : Addr → Prop} {A : Around} {ι : List Addr} {s : Shared} {env : Env} {sc : Scope} {as : AS} {G : Glo Z} {Φ : Fns} {L : Nat}
theorem FOk.drop {wr : List Addr} {h3 : Heap} {tk : Nat} (F : FOk Z (fun b => X0 b ∨ b ∈ wr) ι s env sc as) (tx : ∀ a, Z.T a → X0 a) (hC : ∀ b ∈ wr, ¬ X0 b) (hs : ∀ b o, b ∉ wr → s.heap.get? b = some o → h3.get? b = some o) : FOk Z X0 ι { s with heap := h3, toks := tk } env sc as := by
  have hXi : ∀ a, XS X0 env sc ι a → XS (fun b => X0 b ∨ b ∈ wr) env sc ι a := by
    rintro a (h | h)
    · exact .inl (.inl h)
    · exact .inr h
  have hne : ∀ a, XS X0 env sc ι a → a ∉ wr := by
    rintro a (h | h | h) e
    · exact hC a e h
    · exact F.ow0 a h (.inr e)
    · exact (F.own a h).1 (.inr e)
  have hk : ∀ b o, ¬ XS (fun b => X0 b ∨ b ∈ wr) env sc ι b → s.heap.get? b = some o → h3.get? b = some o := fun b o n e => hs b o (fun q => n (.inl (.inr q))) e
  have up : ∀ {v w}, VAt s.heap (XS (fun b => X0 b ∨ b ∈ wr) env sc ι) ι v w → VAt h3 (XS X0 env sc ι) ι v w := fun a => a.grow (fun _ _ h => h) (fun a h => .inl (hXi a h)) hk
  have hT : ∀ b ∈ wr, ¬ Z.T b := fun b h t => hC b h (tx b t)
  have hcl : ∀ x c, env.cells.lookup x = some c → c ∉ wr := fun x c h e => F.cl x c h (.inr e)
  have hlo : env.locals ∉ wr := fun e => F.ow0 _ (.inl rfl) (.inr e)
  refine ⟨⟨fun b o n e => ?_, Z.Jk _ _ (fun b o t e => hs b o (fun q => hT b q t) e) F.st.J, fun a h => ?_, fun a h => .inl (tx a h), fun a h => F.st.nb a (hXi a h)⟩, tx, ?_, fun x w h1 h2 => ?_, fun a h => ?_, F.nodup, F.len, fun n a l h1 h2 => ?_, fun b h q => F.ow0 b h (.inl q), fun x c h q => F.cl x c h (.inl q)⟩
  · by_cases q : b ∈ wr
    · rcases F.st.nb b (.inl (.inr q)) with t | t
      · exact absurd t n
      · rw [t] at e; cases e
    · exact hs b o q (F.st.base b o n e)
  · refine x1_1 (F.st.live a (hXi a h)) fun o ho => ?_
    exact ⟨o, hs a o (hne a h) ho⟩
  · have fr := F.fr
    refine { fr with en := { fr.en with var := fun x d h => (look_nil h).elim, cal := fun x c h => ?_ }, ns := ?_, lx := .inr (.inl (.inl rfl)), cx := fun x c h1 h2 => .inr (.inl (.inr ⟨x, h2, h1⟩)), cv := fun x c h1 h2 => ?_ }
    · refine x1_1 (fr.en.cal x c h) fun o ho => ?_
      exact ⟨o, hs c o (hcl x c h) ho⟩
    · refine x1_1 (fr.ns) fun m hm => ?_
      exact ⟨m, hm.at' fun o e => hs _ o hlo e⟩
    · refine x2_2 (fr.cv x c h1 h2) fun v o ho hd => ?_
      exact ⟨v, o, hs c o (hcl x c h1) ho, hd⟩
  · refine x1_2 (F.var x w h1 h2) fun v l a => ?_
    refine ⟨v, ?_, up a⟩
    rcases l with ⟨a, m, hn, hm⟩ | ⟨a, q, hq, o, ho, hd⟩
    · exact .inl ⟨a, m, hn.at' fun o e => hs _ o hlo e, hm⟩
    · exact .inr ⟨a, q, hq, o, hs q o (hcl x q hq) ho, hd⟩
  · refine x0_2 (F.own a h) fun h1 h2 => ?_
    exact ⟨fun q => h1 (.inl q), h2⟩
  · refine x1_3 (F.lst n a l h1 h2) fun vs h3' h4 h5 => ?_
    exact ⟨vs, h3'.at fun o e => hs a o (hne a (.inr (.inr (List.mem_of_getElem? h1)))) e, h4.grow (fun _ _ h => h) (fun a h => .inl (hXi a h)) hk, h5⟩
theorem comp_inv {n : Nat} {elt : Expr} {gens : List Comprehension} {scope : Scope} {cp : Pos} {ae : AE} {d : D} (h : aeval Φ n (.ListComp elt gens scope cp) ae = some d) :
    ∃ m t it ifs items out, n = m + 1 ∧ gens = [⟨t, it, ifs, 0⟩] ∧ okScope ae.sc scope = true ∧ aiter Φ m (isTupT t) it ae = some items ∧ acomp (compF Φ m ae t elt ifs scope) items = some out ∧ d = .list out := by
  cases n with
  | zero => exact ofNone h
  | succ m => exact bnd h fun g hg h => bfd h fun hok h => bnd h fun items hi h => mpd h fun out hc h => ⟨m, g.1, g.2.1, g.2.2, items, out, rfl, comOf_inv hg, hok, hi, hc, h.symm⟩
theorem assign_stmt (B : BiOk G) (hΦ : FnsOk G L Φ) {n : Nat} {x : Str'} {e : Expr} {xp pos : Pos} {d : D} (Rm : Room L A) (F : FOk Z X0 ι s env sc as) (hx : stored sc x = true) (h : evF Φ sc n e as = some d) :
    wpAny (model Z.prog Z.w) A (exec (.Assign [.Name x xp] e pos) env) (fun fl s' => XPost Z X0 ι env sc s (.next, as.set x (.d d)) fl s') (fun _ _ => False) s := by
  have plainly : swapsWith e (some (.Name x xp)) pos.line env = pure false → wpAny (model Z.prog Z.w) A (exec (.Assign [.Name x xp] e pos) env) (fun fl s' => XPost Z X0 ι env sc s (.next, as.set x (.d d)) fl s') (fun _ _ => False) s := by
    intro hs
    refine wpAny_Assign_Name (wpAny_mono (evF_sound B hΦ Rm F h) (fun v s1 h1 => ?_) fun _ _ f => f) hs
    exact set_name (chg_kp h1.1 F.st.J) (F.kp h1.1) hx h1.2
  cases e with
  | SetComp => obtain ⟨v, h⟩ := evF_some h; cases n <;> exact ofNone h
  | DictComp => obtain ⟨v, h⟩ := evF_some h; cases n <;> exact ofNone h
  | ListComp elt gens scope cp =>
    have hsw : ∃ b, swapsWith (.ListComp elt gens scope cp) (some (.Name x xp)) pos.line env = pure b := ⟨_, rfl⟩
    refine x1_1 hsw fun b hsw => ?_
    cases b with
    | false => exact plainly hsw
    | true =>
      have hS : aeval Φ n (.ListComp elt gens scope cp) ⟨sc, frz as⟩ = some d := by
        unfold evF at h
        split at h
        · rename_i q hq; rw [← Option.some.inj h]; exact hq
        · split at h
          · rename_i q hq
            obtain ⟨_, _, _, _, _, _, _, _, _, _, _, rfl⟩ := comp_inv hq
            exact ofNone h
          · exact ofNone h
      obtain ⟨m, t, it, ifs, items, out, rfl, rfl, hok, hi, hc, rfl⟩ := comp_inv hS
      rw [exec_Assign_Name_used _ _ _ _ hsw]
      refine wpAny_bind (wpAny_standAt (wpAny_bind ?_))
      show wpAny _ A (do let _ ← comprehension (.ListComp elt [⟨t, it, ifs, 0⟩] scope cp) scope env _ (newList []) false (eval it env) (some (assign (.Name x xp) env))) _ _ s
      refine wpAny_bind (wpAny_mono (compr_sound (use := some (assign (.Name x xp) env)) (Q := fun _ s' => XPost Z X0 ι env sc s (.next, as.set x (.d (.list out))) .next s') (eval_sound B hΦ m) (true_sound B hΦ m) (iter_sound B hΦ m) Rm F.st F.strong hok hi hc ?_) (fun _ s' hq => wpAny_pure (wpAny_pure hq)) fun _ _ f => f)
      intro Dv C s' k hC hm ha
      refine x1_1 hm fun mm hm => ?_
      have hCl : ∃ o, s'.heap.get? C = some o := by obtain ⟨o, es, ep, ho, _⟩ := hm; exact ⟨o, ho⟩
      have FC := F.open_ (wr := [C]) k fun b hb => by rw [List.mem_singleton.mp hb]; exact ⟨hC, hCl⟩
      have hv : VAt s'.heap (XS (fun b => X0 b ∨ b ∈ [C]) env sc ι) ι (.ref Dv) (.d (.list out)) := by
        refine At.mono (fun b hb => ?_) (fun _ _ _ e => e) _ _ ha
        rcases hb with (q | q) | q
        · exact .inl (.inl q)
        · exact .inr (List.mem_singleton.mp q)
        · exact .inl (.inr q)
      show wpAny _ A (assign (.Name x xp) env (.ref Dv)) _ _ _
      refine wpAny_assign_Name (FC.store hx hv fun s2 c F2 => ?_)
      have hCown : ¬ Own env sc C := fun q => FC.ow0 C q (.inr (by simp))
      have hCT : ¬ Z.T C := fun t => by
        refine x1_1 (Z.JT _ F.st.J C t) fun o ho => ?_
        rw [hC] at ho; exact ofNone ho
      have hm2 : s2.heap.Ns C mm := hm.at' fun o e => c.keep C o hCT hCown e
      refine ⟨mm, hm2, fun h3 hs3 => ?_⟩
      have hJ2 : Z.J s2.heap := c.J (k.J F.st.J)
      have hX0C : ¬ X0 C := fun q => by
        refine x1_1 (F.st.live C (.inl q)) fun o ho => ?_
        rw [hC] at ho; exact ofNone ho
      have F3 := F2.drop (h3 := h3) (tk := s2.toks) F.tx (fun b h => by rw [List.mem_singleton.mp h]; exact hX0C) fun b o n e => (hs3.2 b (fun q => n (by rw [q]; simp))).trans e
      have c03 : Chg Z (WS env sc ι) s { s2 with heap := h3 } := by
        have c01 := chg_kp (ι := ι) (env := env) (sc := sc) k F.st.J
        have c02 := c01.trans (c.own (k.J F.st.J))
        refine ⟨c02.os, fun g => c02.gens g, fun b o n q e => ?_, fun j => F3.st.J, fun b w l => ?_⟩
        · exact (hs3.2 b (fun q => by rw [q, hC] at e; cases e)).trans (c02.keep b o n q e)
        · exact F3.st.live b (.inr w)
      exact xpost_next c03 F3
  | _ => exact plainly rfl
end
end Mine
namespace Mine
open PySem PySem.W PyProof.Rows PySem.SeqAt
section
variable {Z : Par} {X0 : Addr → Prop} {A : Around} {ι : List Addr} {s : Shared} {env : Env} {sc : Scope} {as : AS} {G : Glo Z} {Φ : Fns} {L : Nat}
theorem draw_list {it t : Addr} {items : Array Value} (hne : t ≠ it) : ∀ (n i : Nat) (s : Shared) (Q : List Value → Shared → Prop), s.heap.IsListIter it t i → s.heap.IsList t items → i + n ≤ items.size →
    (∀ h', h'.IsListIter it t (i + n) → Heap.SameBut it s.heap h' → Q ((items.toList.drop i).take n) { s with heap := h' }) → wpAny (model Z.prog Z.w) A (draw (.ref it) n) Q (fun _ _ => False) s
  | 0, i, s, Q, hit, _, _, hQ => wpAny_pure (by simpa using hQ s.heap hit (Heap.SameBut.refl ..))
  | n + 1, i, s, Q, hit, ht, hle, hQ => by
    have hlt : i < items.size := by lia
    refine wpAny_bind (wpAny_pyNext_list_item hit ht (x := items[i]) (by simp [hlt]) fun h₁ hit₁ hs₁ => ?_)
    refine wpAny_bind (wpAny_holding (draw_list hne n (i + 1) _ _ hit₁ (ht.extBut hs₁.extBut hne) (by lia) fun h₂ hit₂ hs₂ => wpAny_pure ?_))
    have hd : items.toList.drop i = items[i] :: items.toList.drop (i + 1) := by simp [List.drop_eq_getElem_cons, hlt]
    have := hQ h₂ (by rw [show i + (n + 1) = i + 1 + n by lia]; exact hit₂) (hs₁.trans hs₂)
    rw [hd, List.take_succ_cons] at this
    exact this
theorem unpack_list_ {t : Addr} {items : Array Value} {Q : List Value → Shared → Prop} (hh : A.handled = none) (ht : s.heap.IsList t items)
    (hQ : ∀ h', Heap.ExtBut s.heap.objs.size s.heap h' → Q items.toList { s with heap := h' }) : wpAny (model Z.prog Z.w) A (unpackItems (.ref t) items.size none) Q (fun _ _ => False) s := by
  have hlt : t ≠ s.heap.objs.size := by obtain ⟨o, ho, _⟩ := ht; exact Nat.ne_of_lt (Heap.lt_size ho)
  unfold unpackItems
  refine wpAny_bind ?_
  unfold notIterableAtAll
  refine wpAny_bind (wpAny_specialOf ht.typeIs slot_list_iter.lookup ?_)
  refine wpAny_pure ?_
  dsimp only [Bool.false_eq_true, if_false]
  refine wpAny_bind (wpAny_holding (wpAny_pyIter_list ht ?_))
  refine wpAny_bind (wpAny_holding (draw_list hlt items.size 0 _ _ ⟨_, Heap.get?_push_size _ rfl, rfl, rfl⟩ (ht.push _) (by lia) fun h₁ hit₁ hs₁ => ?_))
  have hall : List.take items.size (List.drop 0 items.toList) = items.toList := by
    rw [List.drop_zero]; exact List.take_of_length_le (by simp)
  rw [hall, if_neg (by simp)]
  have ht₁ : h₁.IsList t items := (ht.push _).extBut hs₁.extBut hlt
  refine wpAny_bind (wpAny_holding (wpAny_pyNext_list_end hh hit₁ ht₁ (by simp) fun h₂ he₂ => ?_))
  dsimp only [Option.isSome_none, Bool.false_eq_true, if_false]
  exact wpAny_pure (hQ h₂ fun b o hb e => he₂ b o hb (hs₁.extBut b o hb (Heap.get?_push_of_some _ e)))
theorem set_order : ∀ (ts : List Expr) (ds : List D) (bs : Vars), zipNames ts ds = some bs → allStored sc bs = true →
    ∀ (vs : List Value) (s : Shared) (as : AS) (Q : Unit → Shared → Prop), FOk Z X0 ι s env sc as → Ats s.heap (XS X0 env sc ι) vs ds →
    (∀ s', Chg Z (Own env sc) s s' → FOk Z X0 ι s' env sc (as.setMany bs) → Q () s') →
    wpAny (model Z.prog Z.w) A (assignInOrder ((assignEach ts env).map (·.2)) vs) Q (fun _ _ => False) s
  | [], [], bs, h, _, vs, s, as, Q, F, a, hq => by
    cases h
    cases (show vs = [] by simpa only [Ats] using a)
    exact wpAny_pure (hq s (Chg.refl s) F)
  | [], _ :: _, bs, h, _, _, _, _, _, _, _, _ => ofNone h
  | _ :: _, [], bs, h, _, _, _, _, _, _, _, _ => ofNone h
  | t :: ts, d :: ds, bs, h, hb, vs, s, as, Q, F, a, hq => by
    refine bnd h fun x hx h => mpd h fun r hz hF => ?_
    refine x1_1 (nameOf_inv hx) fun p hr1 => ?_; subst hr1
    subst hF
    have hb := Bool.and_eq_true_iff.mp hb
    simp only [Ats] at a
    refine x2_3 a fun v vs' hr2 h1 h2 => ?_; subst hr2
    exact wpAny_assignInOrder_more (wpAny_assign_Name (F.store hb.1 (w := .d d) h1 fun s1 c1 F1 => set_order ts ds r hz hb.2 vs' s1 _ Q F1 (h2.chg F.st c1 fun b q => XS_own q) fun s2 c2 F2 => hq s2 (c1.trans c2) F2))
theorem set_target {ts : List Expr} {k : Nat} {p : Pos} {v : Value} {d : D} {bs : Vars} {Q : Unit → Shared → Prop} (hh : A.handled = none) (F : FOk Z X0 ι s env sc as) (hv : At s.heap (XS X0 env sc ι) v d)
    (hb : unpack ts d = some bs) (hs : allStored sc bs = true) (h : ∀ s', Chg Z (WS env sc ι) s s' → FOk Z X0 ι s' env sc (as.setMany bs) → Q () s') :
    wpAny (model Z.prog Z.w) A (assign (.Tuple ts k p) env v) Q (fun _ _ => False) s := by
  unfold unpack at hb
  have go : ∀ (ds : List D) (vs : List Value) (h' : Heap), zipNames ts ds = some bs → Ats s.heap (XS X0 env sc ι) vs ds → Heap.ExtBut s.heap.objs.size s.heap h' →
      wpAny (model Z.prog Z.w) A (assignInOrder ((assignEach ts env).map (·.2)) vs) Q (fun _ _ => False) { s with heap := h' } := by
    intro ds vs h' hz hvs he
    have k1 := ext_kp (Z := Z) he
    exact set_order ts ds bs hz hs vs _ as Q (F.kp k1) (hvs.kp F.st k1) fun s' c F' => h s' ((chg_kp k1 F.st.J).trans (c.own (k1.J F.st.J))) F'
  split at hb
  · rename_i ds
    obtain ⟨a, vs, rfl, _, ht, _, hvs⟩ := at_tupI hv
    refine x0_3 (zip_len (env := env) ts ds bs hb) fun l1 l2 l3 => ?_
    have e1 := hvs.length
    rw [Array.length_toList] at e1
    exact wpAny_assign_Tuple hh ht (by rw [l1, e1]) l2 fun h' he => go ds _ h' hb hvs he
  · rename_i ds
    obtain ⟨a, vs, rfl, _, ht, _, hvs⟩ := at_listI hv
    refine x0_3 (zip_len (env := env) ts ds bs hb) fun l1 l2 l3 => ?_
    have e1 := hvs.length
    rw [Array.length_toList] at e1
    rw [arm_assign_Tuple]
    refine wpAny_bind (wpAny_standAt ?_)
    show wpAny _ _ (PySem.unpack (.ref a) (assignEach ts env)) _ _ _
    unfold PySem.unpack
    rw [l1, l2, ← e1]
    exact wpAny_bind (wpAny_holding (unpack_list_ hh ht fun h' he => go ds _ h' hb hvs he))
  · exact ofNone hb
theorem sole_tuple {e : Expr} {ts : List Expr} {k : Nat} {p : Pos} {line : Nat} : swapsWithSole [.Tuple ts k p] e line env = pure false := by cases e <;> rfl
theorem swapped_none {e : Expr} {ts : List Expr} {k : Nat} {p : Pos} (h : ∀ es k p, e ≠ .Tuple es k p) : swappedStores [.Tuple ts k p] e env = pure none := by
  cases e <;> first | rfl | exact absurd rfl (h _ _ _)
theorem unpack_stmt (B : BiOk G) (hΦ : FnsOk G L Φ) {n : Nat} {ts : List Expr} {k : Nat} {e : Expr} {p pos : Pos} {d : D} {bs : Vars} (Rm : Room L A) (F : FOk Z X0 ι s env sc as) (hne : ∀ es k p, e ≠ .Tuple es k p)
    (he : evF Φ sc n e as = some d) (hb : unpack ts d = some bs) (hs : allStored sc bs = true) :
    wpAny (model Z.prog Z.w) A (exec (.Assign [.Tuple ts k p] e pos) env) (fun fl s' => XPost Z X0 ι env sc s (.next, as.setMany bs) fl s') (fun _ _ => False) s := by
  refine wpAny_Assign_stores (wpAny_mono (evF_sound B hΦ Rm F he) (fun v s1 h1 => ?_) fun _ _ f => f) sole_tuple (swapped_none hne)
  obtain ⟨k1, a1⟩ := h1
  show wpAny _ _ (assign (.Tuple ts k p) env v) _ _ _
  exact set_target Rm.hd (F.kp k1) a1 hb hs fun s' c F' => xpost_next ((chg_kp k1 F.st.J).trans c) F'
theorem set_comm {x y : Str'} {u w : V} (h : x ≠ y) : (as.set x u).set y w = (as.set y w).set x u := by
  unfold AS.set
  congr 1
  rw [List.map_map, List.map_map]
  refine List.map_congr_left fun q _ => ?_
  dsimp only [Function.comp]
  cases h1 : (q.1 == x) with
  | true =>
    have e1 : q.1 = x := eq_of_beq h1
    have h2 : (q.1 == y) = false := by rw [beq_eq_false_iff_ne, e1]; exact h
    simp [h2, h1]
  | false =>
    cases h2 : (q.1 == y) <;> simp [h1, h2]
theorem swapped_two {a b : Str'} {pa pb p p2 : Pos} {k k2 : Nat} {e1 e2 : Expr} (h : ([e1, e2] : List Expr).all (constantsAlone 8) = false) :
    swappedStores [.Tuple [.Name a pa, .Name b pb] k p] (.Tuple [e1, e2] k2 p2) env = pure none ∨ swappedStores [.Tuple [.Name a pa, .Name b pb] k p] (.Tuple [e1, e2] k2 p2) env = pure (some [a, b]) := by
  unfold swappedStores
  dsimp only
  split
  · exact .inl rfl
  · split
    · exact .inl rfl
    · split
      · exact .inl rfl
      · rename_i hn
        split
        · exact .inl rfl
        · rw [h]
          right
          simp only [Bool.false_eq_true, if_false]
          show (pure (some _) : Sem _) = _
          congr 2
          dsimp only [List.filterMap_cons, List.filterMap_nil] at hn ⊢
          by_cases c1 : (env.kindOf a == some NameKind.local && pa.line == (Option.map (fun x : Expr => x.pos.line) [Expr.Name a pa, Expr.Name b pb].head?).getD 0) = true
          · by_cases c2 : (env.kindOf b == some NameKind.local && pb.line == (Option.map (fun x : Expr => x.pos.line) [Expr.Name a pa, Expr.Name b pb].head?).getD 0) = true
            · rw [if_pos c1, if_pos c2]
            · rw [if_pos c1, if_neg c2] at hn
              simp at hn
          · by_cases c2 : (env.kindOf b == some NameKind.local && pb.line == (Option.map (fun x : Expr => x.pos.line) [Expr.Name a pa, Expr.Name b pb].head?).getD 0) = true
            · rw [if_neg c1, if_pos c2] at hn
              simp at hn
            · rw [if_neg c1, if_neg c2] at hn
              simp at hn
theorem pair_stmt (B : BiOk G) (hΦ : FnsOk G L Φ) {n : Nat} {a b : Str'} {pa pb p pos tp : Pos} {k tk : Nat} {e1 e2 : Expr} {d1 d2 : D} (Rm : Room L A) (F : FOk Z X0 ι s env sc as) (ha : stored sc a = true) (hb : stored sc b = true) (hab : a ≠ b)
    (hc : ([e1, e2] : List Expr).all (constantsAlone 8) = false) (he : evF Φ sc n (.Tuple [e1, e2] tk tp) as = some (.tup [d1, d2])) :
    wpAny (model Z.prog Z.w) A (exec (.Assign [.Tuple [.Name a pa, .Name b pb] k p] (.Tuple [e1, e2] tk tp) pos) env) (fun fl s' => XPost Z X0 ι env sc s (.next, (as.set a (.d d1)).set b (.d d2)) fl s') (fun _ _ => False) s := by
  rcases swapped_two (env := env) (a := a) (b := b) (pa := pa) (pb := pb) (p := p) (p2 := tp) (k := k) (k2 := tk) hc with hw | hw
  · refine wpAny_Assign_stores (wpAny_mono (evF_sound B hΦ Rm F he) (fun v s1 h1 => ?_) fun _ _ f => f) sole_tuple hw
    obtain ⟨k1, a1⟩ := h1
    show wpAny _ _ (assign (.Tuple [.Name a pa, .Name b pb] k p) env v) _ _ _
    refine set_target (bs := [(a, d1), (b, d2)]) Rm.hd (F.kp k1) a1 rfl ?_ fun s' c F' => xpost_next ((chg_kp k1 F.st.J).trans c) F'
    unfold allStored
    simp only [List.all_cons, List.all_nil, Bool.and_true, Bool.and_eq_true]
    exact ⟨ha, hb⟩
  · rw [exec_Assign_arm]
    refine wpAny_bind (wpAny_standAt ?_)
    rw [sole_tuple]
    refine wpAny_bind (wpAny_pure ?_)
    rw [if_neg (by decide)]
    refine wpAny_bind (wpAny_mono (evF_sound B hΦ Rm F he) (fun v s1 h1 => ?_) fun _ _ f => f)
    obtain ⟨k1, a1⟩ := h1
    have F1 := F.kp k1
    rw [hw]
    refine wpAny_bind (wpAny_pure ?_)
    obtain ⟨t, vs, rfl, _, ht, _, hvs⟩ := at_tupI a1
    refine x2_3 (ats_twoL hvs) fun v1 v2 ev h1 h2 => ?_
    have esz : vs.size = 2 := by rw [← Array.length_toList, ev]; rfl
    show wpAny _ _ (do
      rule "assign.swapped-stores"
      let items ← unpackItems (.ref t) 2 none
      assignInOrder ([bindName env b, bindName env a]) items.reverse
      (pure Flow.next : Sem Flow)) _ _ _
    refine wpAny_bind (wpAny_rule (wpAny_bind ?_))
    rw [← esz]
    refine wpAny_unpackItems_tuple Rm.hd ht fun h' hx => ?_
    rw [ev]
    have k2 := ext_kp (Z := Z) hx
    have F2 := F1.kp k2
    refine wpAny_bind ?_
    show wpAny _ _ (assignInOrder [bindName env b, bindName env a] [v2, v1]) _ _ _
    refine wpAny_assignInOrder_more (wpAny_bindName (F2.store hb (w := .d d2) (At.kp F1.st k2 h2) fun s3 c3 F3 => ?_))
    refine wpAny_assignInOrder_more (wpAny_bindName (F3.store ha (w := .d d1) ((At.kp F1.st k2 h1).chg F2.st c3 fun b q => XS_own q) fun s4 c4 F4 => ?_))
    refine wpAny_pure (wpAny_pure ?_)
    rw [set_comm hab]
    exact xpost_next (((chg_kp (k1.trans k2) F.st.J).trans (c3.own (k2.J (k1.J F.st.J)))).trans (c4.own F3.st.J)) F4
end
end Mine
namespace Mine
open PySem PySem.W PyProof.Rows PySem.SeqAt
theorem lk_append : typeLookup (.type "list") "append" = pure (some (.builtin "list.append")) := by rw [typeLookup_type, builtinLookup_eq_fast]; kernel_rfl
theorem slot_md_get : Slot "method_descriptor" "__get__" "method_descriptor.__get__" :=
  .of (owner := "method_descriptor") (n := "__get__") (by rw [typeLookup_type, builtinLookup_eq_fast]; kernel_rfl) (by decide +kernel) (by decide +kernel) (by decide +kernel)
    (by first | exact .inl (by decide +kernel) | exact .inr (by decide +kernel)) (by rw [isSubtype_type]; kernel_rfl)
theorem entry_md_get : entryFor table "method_descriptor.__get__" = some Builtin.«method_descriptor.__get__» := entryFor_of_tree (by kernel_rfl)
theorem args_md_get (a b c : Value) : argsOk "method_descriptor.__get__" ⟨[a, b, c], []⟩ := by unfold argsOk; kernel_rfl
theorem no_md_set : typeLookup (.type "method_descriptor") "__set__" = pure none := by rw [typeLookup_type, builtinLookup_eq_fast]; kernel_rfl
theorem no_md_del : typeLookup (.type "method_descriptor") "__delete__" = pure none := by rw [typeLookup_type, builtinLookup_eq_fast]; kernel_rfl
theorem type_app : typeOf (.builtin "list.append") = pure (.type "method_descriptor") := by show builtinType _ = _; rw [builtinType_eq_fast]; kernel_rfl
theorem owner_app : (".".intercalate ("list.append".cutAt '.').dropLast) = "list" := by
  have e0 : "list.append".cutAt '.' = ["list", "append"] := by first | rfl | decide +kernel
  rw [e0]; decide +kernel
theorem sub_app : isSubtype (.type "list") (.type (".".intercalate ("list.append".cutAt '.').dropLast)) = pure true := by
  rw [owner_app, isSubtype_type]; kernel_rfl
section
variable {prog : Program} {w : World} {A : Around} {E : Value → Shared → Prop} {h : Heap} {g : Array GenState} {d : Drawn} {t : Nat} {os : OsState} {a : Addr} {o : Obj} {items : Array Value} {n : Nat}
theorem check_app {Q : Unit → Shared → Prop} {s : Shared} {y : Value} (hx : s.heap.get? a = some { cls := .type "list", data := .seq items n }) (hq : Q () s) : wpAny (model prog w) A (checkBoundCall "list.append" ⟨[.ref a, y], []⟩) Q E s := by
  have hT : s.TypeIs (.ref a) "list" := ⟨_, hx, rfl⟩
  have f1 : isSubtype (.type "list") (.type "module") = pure false := by rw [isSubtype_type]; kernel_rfl
  have f2 : isSubtype (.type "list") (.type "type") = pure false := by rw [isSubtype_type]; kernel_rfl
  repeat (any_goals (first | assumption | wp_step))
theorem call_app {s : Shared} {b : Addr} {y : Value} {Q : Value → Shared → Prop} (hb : s.heap.get? b = some (appObj a)) (hx : s.heap.PlainList a items)
    (hQ : ∀ h', h'.PlainList a (items.push y) → Heap.SameBut a s.heap h' → Q .none { s with heap := h' }) (hsz : items.size ≤ sizeLine) :
    wpAny (model prog w) A (call (.ref b) [y]) Q E s := by
  refine x1_1 hx fun n hx => ?_
  refine wpAny_call (codeAny_of_tree ?_)
  show wpAny _ A.in1 (callAny (.ref b) ⟨[y], []⟩) _ _ s
  dsimp only [callAny]
  refine wpAny_bind (wpAny_load hb ?_)
  dsimp only [appObj, show (Value.type "builtin_function_or_method" == Value.type "method" || Value.type "builtin_function_or_method" == Value.type "builtin_function_or_method" || Value.type "builtin_function_or_method" == Value.type "method-wrapper") = true by decide, if_true]
  show wpAny _ _ (if (Value.type "builtin_function_or_method" != Value.type "method") = true then do
      checkBoundCall "list.append" ⟨[.ref a, y], []⟩
      again (.builtin "list.append" ⟨[.ref a, y], []⟩) else again (.call (.builtin "list.append") ⟨[.ref a, y], []⟩)) _ _ _
  rw [if_pos (by decide)]
  refine wpAny_bind (check_app hx ?_)
  refine wpAny_bind (wpAny_pure (wpAny_pure ?_))
  refine ⟨Code.quiet_builtin _ (by decide +kernel), codeAny_builtin entry_list_append ?_⟩
  show wpAny _ _ (updateSeq a (·.push y) >>= fun _ => ret .none) _ _ s
  refine wpAny_bind ?_
  refine wpAny_updateSeq hx rfl (wpAny_pure (hQ _ ⟨n + 1, ?_⟩ (Heap.SameBut.update ..)))
  rw [Heap.get?_update_self _ hx (by rw [Obj.mapSeq_push_plain]; rfl), Obj.mapSeq_push_plain]
theorem app_get {P : Fin → Shared → Prop} (hx : h.get? a = some o) (hc : o.cls = .type "list") (hq : P (.done (.ret (.ref h.objs.size))) ⟨h.push (appObj a), g, d, t, os⟩) :
    wpAny (model prog w) A (Builtin.«method_descriptor.__get__» ⟨[.builtin "list.append", .ref a, .type "list"], []⟩) P E ⟨h, g, d, t, os⟩ := by
  have hT : (⟨h, g, d, t, os⟩ : Shared).TypeIs (.ref a) "list" := ⟨_, hx, hc⟩
  have f1 := type_app
  have f3 := sub_app
  repeat (any_goals (first | assumption | wp_step))
theorem app_call {R : Result → Shared → Prop} (hx : h.get? a = some o) (hc : o.cls = .type "list") (hq : R (.ok (.ret (.ref h.objs.size))) ⟨h.push (appObj a), g, d, t, os⟩) :
    codeAny (model prog w) A (.call (.builtin "method_descriptor.__get__") ⟨[.builtin "list.append", .ref a, .type "list"], []⟩) R ⟨h, g, d, t, os⟩ := by
  have hT5 : (⟨h, g, d, t, os⟩ : Shared).TypeIs (.builtin "list.append") "method_descriptor" := type_app
  exact codeAny_call_builtin slot_md_get.plain entry_md_get (slot_md_get.check _ _ _ _ _ _ _ _ hT5 (args_md_get _ _ _) (app_get hx hc hq))
theorem app_entry {tk : Tok} {Q : Fin → Shared → Prop} (hx : h.get? a = some { cls := .type "list", data := .seq items n }) (hq : Q (.done (.ret (.ref h.objs.size))) ⟨h.push (appObj a), g, d, t, os⟩) :
    wpAny (model prog w) A (Builtin.«object.__getattribute__» ⟨[.ref a, .str "append" tk], []⟩) Q E ⟨h, g, d, t, os⟩ := by
  have hT : (⟨h, g, d, t, os⟩ : Shared).TypeIs (.ref a) "list" := ⟨_, hx, rfl⟩
  have hT5 : (⟨h, g, d, t, os⟩ : Shared).TypeIs (.builtin "list.append") "method_descriptor" := type_app
  have f4 := lk_append
  have f5 := type_app
  have f6 := slot_md_get.lookup
  have f7 := no_md_set
  have f8 := no_md_del
  repeat (any_goals (first | assumption | wp_step))
  refine app_call hx rfl ?_
  repeat (any_goals (first | assumption | wp_step))
theorem app_ga {tk : Tok} {R : Result → Shared → Prop} (hx : h.get? a = some { cls := .type "list", data := .seq items n }) (hq : R (.ok (.ret (.ref h.objs.size))) ⟨h.push (appObj a), g, d, t, os⟩) :
    codeAny (model prog w) A (.call (.builtin "list.__getattribute__") ⟨[.ref a, .str "append" tk], []⟩) R ⟨h, g, d, t, os⟩ :=
  codeAny_call_builtin PySem.F.slot_list_getattribute.plain PySem.F.entry_list_ga (PySem.F.slot_list_getattribute.check _ _ _ _ _ _ _ _ (show (⟨h, g, d, t, os⟩ : Shared).TypeIs (.ref a) "list" from ⟨_, hx, rfl⟩) (PySem.F.args_list_getattribute_2 _ _) (app_entry hx hq))
theorem app_by {tk : Tok} {Q : Value → Shared → Prop} (hx : h.get? a = some { cls := .type "list", data := .seq items n }) (hq : Q (.ref h.objs.size) ⟨h.push (appObj a), g, d, t, os⟩) :
    wpAny (model prog w) A (getAttrBy (.ref a) (.str "append" tk) true true) Q E ⟨h, g, d, t, os⟩ := by
  have hT : (⟨h, g, d, t, os⟩ : Shared).TypeIs (.ref a) "list" := ⟨_, hx, rfl⟩
  have f2 := PySem.F.slot_list_getattribute.lookup
  have f3 := PySem.F.slot_list_getattribute.bind (.ref a)
  repeat (any_goals (first | assumption | wp_step))
  refine app_ga hx ?_
  repeat (any_goals (first | assumption | wp_step))
theorem app_attr {Q : Value → Shared → Prop} (hx : h.get? a = some { cls := .type "list", data := .seq items n }) (hq : Q (.ref h.objs.size) ⟨h.push (appObj a), g, d, t + 1, os⟩) :
    wpAny (model prog w) A (getAttr (.ref a) (Str.ofString "append") true) Q E ⟨h, g, d, t, os⟩ := by
  unfold getAttr
  repeat (any_goals (first | assumption | with_reducible apply app_by hx | wp_step))
end
section
variable {Z : Par} {X0 : Addr → Prop} {A : Around} {ι : List Addr} {s : Shared} {env : Env} {sc : Scope} {as : AS} {G : Glo Z} {Φ : Fns} {L : Nat}
theorem bound_stmt {x y : Str'} {xp yp p pos : Pos} {k : Nat} (F : FOk Z X0 ι s env sc as) (hx : stored sc x = true) (hy : stored sc y = true) (hg : as.get y = some (.p k)) :
    wpAny (model Z.prog Z.w) A (exec (.Assign [.Name x xp] (.Attribute (.Name y yp) (Str.ofString "append") p) pos) env) (fun fl s' => XPost Z X0 ι env sc s (.next, as.set x (.app k)) fl s') (fun _ _ => False) s := by
  refine wpAny_Assign_Name (Attribute_name (F.name hy hg (by intro q; cases q) fun v hv => ?_))
  refine x1_2 hv fun a hk hr2 => ?_; subst hr2
  obtain ⟨l, hl⟩ : ∃ l, as.hp[k]? = some l := by
    have : k < as.hp.length := by rw [← F.len]; exact (List.getElem?_eq_some_iff.mp hk).1
    exact ⟨_, List.getElem?_eq_getElem this⟩
  obtain ⟨vs, ⟨nn, h3⟩, h4, h5⟩ := F.lst k a l hk hl
  obtain ⟨hp, g, d, t, os⟩ := s
  refine app_attr h3 ?_
  have k1 : Kp Z ⟨hp, g, d, t, os⟩ ⟨hp.push (appObj a), g, d, t + 1, os⟩ := (Kp.push (appObj a)).trans Kp.tok
  exact set_name (w := .app k) (chg_kp k1 F.st.J) (F.kp k1) hx ⟨a, _, hk, rfl, F.st.fresh, Heap.get?_push_size _ rfl⟩
theorem bound_call (B : BiOk G) (hΦ : FnsOk G L Φ) {n : Nat} {x : Str'} {e : Expr} {xp pos p : Pos} {k : Nat} {d : D} {as' : AS} (Rm : Room L A) (F : FOk Z X0 ι s env sc as) (hx : stored sc x = true) (hg : as.get x = some (.app k))
    (he : evF Φ sc n e as = some d) (ha : appendTo as k (.d d) = some as') :
    wpAny (model Z.prog Z.w) A (exec (.Expr (.Call (.Name x xp) [e] [] pos) p) env) (fun fl s' => XPost Z X0 ι env sc s (.next, as') fl s') (fun _ _ => False) s := by
  refine x1_3 (app_some ha) fun l hl hlt hr3 => ?_; subst hr3
  refine wpAny_Expr (wpAny_Call_NameR (F.name hx hg (by intro q; cases q) fun v hv => ?_)) (inter_false F) rfl
  refine x2_4 hv fun a b hk hr3 hb ho => ?_; subst hr3
  unfold callWith
  refine wpAny_bind (wpAny_holding ?_)
  rw [evF_star he]
  refine PySem.Calls.evalArgs_plain (PySem.Calls.spliced_cons (wpAny_mono (evF_sound B hΦ Rm F he) (fun y s2 h2 => PySem.Calls.spliced_nil ?_) fun _ _ f => f))
  obtain ⟨k2, a2⟩ := h2
  have F2 := F.kp k2
  have ho2 : s2.heap.get? b = some (appObj a) := k2.keep b _ (fun t => hb (.inl (F.tx b t))) ho
  refine wpAny_bind (wpAny_standAt ?_)
  dsimp only [backTo, List.map_cons, List.map_nil, List.any_cons, List.any_nil, Bool.or_false]
  refine wpAny_bind (m := keeperOf (.ref b)) ?_
  unfold keeperOf
  refine wpAny_bind (wpAny_load ho2 ?_)
  dsimp only [appObj, show (Value.type "builtin_function_or_method" != Value.type "method") = true by decide, show (Value.type "builtin_function_or_method" == Value.type "builtin_function_or_method" || Value.type "builtin_function_or_method" == Value.type "method-wrapper") = true by decide, if_true]
  refine wpAny_pure ?_
  refine x1_3 (F2.lst k a l hk hl) fun vs h3 h4 h5 => ?_
  have e1 := h4.length
  rw [Array.length_toList] at e1
  refine wpAny_bind (call_app ho2 h3 (fun h' hp hs => wpAny_bind (wpAny_holding (wpAny_point (wpAny_pure ?_)))) (by rw [e1]; exact lim_size h5))
  refine x0_2 (F2.mutate (tk := s2.toks) (l' := l ++ [.d d]) hk hs hp (by rw [Array.toList_push]; exact h4.append ⟨a2, trivial⟩) (by rw [List.length_append]; exact hlt)) fun c F' => ?_
  exact xpost_next ((chg_kp k2 F.st.J).trans c) F'
end
end Mine
namespace Mine
open PySem PySem.W PyProof.Rows PySem.SeqAt
noncomputable def ExecOk {Z : Par} (G : Glo Z) (Φ : Fns) (L : Nat) (sc : Scope) (ow : Str' → Bool) (spec : Spec) (cv : Value) (n : Nat) : Prop :=
  ∀ st as r, aexec Φ sc ow spec n st as = some r → ∀ (A : Around) (X0 : Addr → Prop) (ι : List Addr) (s : Shared) (env : Env), env.code = cv → Room L A → FOk Z X0 ι s env sc as →
    wpAny (model Z.prog Z.w) A (exec st env) (fun fl s' => XPost Z X0 ι env sc s r fl s') (fun _ _ => False) s
noncomputable def ExecsOk {Z : Par} (G : Glo Z) (Φ : Fns) (L : Nat) (sc : Scope) (ow : Str' → Bool) (spec : Spec) (cv : Value) (n : Nat) : Prop :=
  ∀ sts as r, aexecs Φ sc ow spec n sts as = some r → ∀ (A : Around) (X0 : Addr → Prop) (ι : List Addr) (s : Shared) (env : Env), env.code = cv → Room L A → FOk Z X0 ι s env sc as →
    wpAny (model Z.prog Z.w) A (execs sts env) (fun fl s' => XPost Z X0 ι env sc s r fl s') (fun _ _ => False) s
noncomputable def SpecOk {Z : Par} (G : Glo Z) (L : Nat) (sc : Scope) (spec : Spec) (cv : Value) : Prop :=
  ∀ st as as', spec st as = some as' → ∀ (A : Around) (X0 : Addr → Prop) (ι : List Addr) (s : Shared) (env : Env), env.code = cv → Room L A → FOk Z X0 ι s env sc as →
    wpAny (model Z.prog Z.w) A (exec st env) (fun fl s' => XPost Z X0 ι env sc s (.next, as') fl s') (fun _ _ => False) s
section
variable {Z : Par} {X0 : Addr → Prop} {A : Around} {ι : List Addr} {s : Shared} {env : Env} {sc : Scope} {as : AS} {G : Glo Z} {Φ : Fns} {L : Nat} {ow : Str' → Bool} {spec : Spec} {cv : Value}
theorem flat_next {h : Heap} {fl : Flow} (x : FlAt h X0 fl .next) : fl = .next := by cases fl <;> first | rfl | exact x.elim
theorem flat_brk {h : Heap} {fl : Flow} (x : FlAt h X0 fl .brk) : fl = .brk := by cases fl <;> first | rfl | exact x.elim
theorem flat_ret {h : Heap} {fl : Flow} {d : D} (x : FlAt h X0 fl (.ret d)) : ∃ v, fl = .ret v ∧ At h X0 v d := by cases fl <;> first | exact ⟨_, rfl, x⟩ | exact x.elim
theorem if_step {n : Nat} (B : BiOk G) (hΦ : FnsOk G L Φ) (ih : ExecsOk G Φ L sc ow spec cv n) {t : Expr} {b o : List Stmt} {pos : Pos} {c : Bool} {r : Fl × AS} (hcv : env.code = cv) (Rm : Room L A) (F : FOk Z X0 ι s env sc as)
    (ht : trF Φ sc n t as = some c) (h : (bif c then aexecs Φ sc ow spec n b as else aexecs Φ sc ow spec n o as) = some r) :
    wpAny (model Z.prog Z.w) A (exec (.If t b o pos) env) (fun fl s' => XPost Z X0 ι env sc s r fl s') (fun _ _ => False) s := by
  refine wpAny_If (wpAny_mono (trF_sound B hΦ Rm F ht) (fun q s1 h1 => ?_) fun _ _ f => f)
  refine x0_2 h1 fun hr0 k1 => ?_; subst hr0
  have F1 := F.kp k1
  have go : ∀ body, aexecs Φ sc ow spec n body as = some r → wpAny (model Z.prog Z.w) A (execs body env) (fun fl s' => XPost Z X0 ι env sc s r fl s') (fun _ _ => False) s1 := fun body hb =>
    wpAny_mono (ih body as r hb A X0 ι s1 env hcv Rm F1) (fun fl s2 h2 => xpost_trans (κ := []) F.st.J (fun _ h => (nomatch h)) (chg_kp k1 F.st.J) (by rw [List.append_nil]; exact h2)) fun _ _ f => f
  cases q with
  | true => exact go b h
  | false => exact go o h
theorem execs_step {n : Nat} (ih : ExecOk G Φ L sc ow spec cv n) (ihs : ExecsOk G Φ L sc ow spec cv n) : ExecsOk G Φ L sc ow spec cv (n + 1) := by
  intro sts as r h A X0 ι s env hcv Rm F
  cases sts with
  | nil =>
    dsimp only [aexecs] at h; rw [← Option.some.inj h]
    exact wpAny_execs_nil ⟨[], fun _ h => (nomatch h), Chg.refl s, by rw [List.append_nil]; exact F, trivial⟩
  | cons st rest =>
    dsimp only [aexecs] at h
    refine bnd h ?_; clear h; intro q hq h
    refine wpAny_execs_cons (wpAny_mono (ih st as q hq A X0 ι s env hcv Rm F) (fun fl s1 h1 => ?_) fun _ _ f => f)
    obtain ⟨f, as1⟩ := q
    obtain ⟨κ, hκ, c1, F1, hf⟩ := h1
    cases f with
    | next =>
      have := flat_next hf; subst this
      exact wpAny_mono (ihs rest as1 r h A X0 (ι ++ κ) s1 env hcv Rm F1) (fun fl s2 h2 => xpost_trans F.st.J hκ c1 h2) fun _ _ f => f
    | brk =>
      have := flat_brk hf; subst this
      rw [← Option.some.inj h]; exact ⟨κ, hκ, c1, F1, hf⟩
    | ret d =>
      refine x1_2 (flat_ret hf) fun v hr1 hv => ?_; subst hr1
      rw [← Option.some.inj h]; exact ⟨κ, hκ, c1, F1, hv⟩
noncomputable def LoopEnd (I : Nat → Shared → Prop) (P : Flow → Shared → Prop) (k : Nat) (f : Flow) (s : Shared) : Prop := match f with
  | .next => ∃ m, m < k ∧ I m s
  | .cont => ∃ m, m < k ∧ I m s
  | .brk => P .next s
  | .ret v => P (.ret v) s
noncomputable def WhileTurn (Z : Par) (A : Around) (b : List Stmt) (env : Env) (I : Nat → Shared → Prop) (P : Flow → Shared → Prop) (k : Nat) (q : Bool) (s : Shared) : Prop := match q with
  | true => wpAny (model Z.prog Z.w) A (execs b env) (LoopEnd I P k) (fun _ _ => False) s
  | false => P .next s
theorem wpWhile {t : Expr} {b : List Stmt} {pos : Pos} {P : Flow → Shared → Prop} (I : Nat → Shared → Prop) (k : Nat) (hI : I k s) (ht : ∀ k s, I k s → wpAny (model Z.prog Z.w) A (isTrue t env (eval t env)) (WhileTurn Z A b env I P k) (fun _ _ => False) s) :
    wpAny (model Z.prog Z.w) A (exec (.While t b [] pos) env) P (fun _ _ => False) s :=
  wpAny_While (codeAny_whileLoop I (fun n s hn => wpAny_mono (ht n s hn) (fun q s1 h1 => by
    cases q with
    | true => exact wpAny_mono h1 (fun f s2 h2 => by cases f <;> exact h2) fun _ _ f => f.elim
    | false => exact wpAny_execs_nil h1) fun _ _ f => f.elim) k hI)
inductive WhileInv (Z : Par) (X0 : Addr → Prop) (ι : List Addr) (env : Env) (sc : Scope) (s : Shared) (run : Nat → AS → Option (Fl × AS)) (r : Fl × AS) (k : Nat) (s' : Shared) : Prop
  | mk (as' : AS) (κ : List Addr) (h : run k as' = some r) (hκ : ∀ a ∈ κ, s.heap.get? a = none) (c : Chg Z (WS env sc ι) s s') (F : FOk Z X0 (ι ++ κ) s' env sc as')
theorem while_step {n : Nat} (B : BiOk G) (hΦ : FnsOk G L Φ) (ih : ExecsOk G Φ L sc ow spec cv n) {t : Expr} {b : List Stmt} {pos : Pos} {r : Fl × AS} {k : Nat} (hcv : env.code = cv) (Rm : Room L A) (F : FOk Z X0 ι s env sc as)
    (h : awhile (trF Φ sc n t) (aexecs Φ sc ow spec n b) k as = some r) :
    wpAny (model Z.prog Z.w) A (exec (.While t b [] pos) env) (fun fl s' => XPost Z X0 ι env sc s r fl s') (fun _ _ => False) s := by
  refine wpWhile (WhileInv Z X0 ι env sc s (awhile (trF Φ sc n t) (aexecs Φ sc ow spec n b)) r) k ⟨as, [], h, fun _ h => (nomatch h), Chg.refl s, by rw [List.append_nil]; exact F⟩ fun k s1 H => ?_
  obtain ⟨as1, κ, hw, hκ, c1, F1⟩ := H
  cases k with
  | zero => exact ofNone hw
  | succ k =>
    refine bnd hw fun c ht hw => wpAny_mono (trF_sound B hΦ Rm F1 ht) (fun q s2 h2 => ?_) fun _ _ f => f
    rw [h2.1]
    have F2 := F1.kp h2.2
    have c2 := c1.trans (chg_kp h2.2 F1.st.J)
    cases c with
    | false =>
      rw [← Option.some.inj hw]
      exact ⟨κ, hκ, c2, F2, trivial⟩
    | true =>
      refine bnd hw fun q hb hw => wpAny_mono (ih b as1 q hb A X0 (ι ++ κ) s2 env hcv Rm F2) (fun fl s3 h3 => ?_) fun _ _ f => f
      obtain ⟨f, as3⟩ := q
      obtain ⟨κ3, hκ3, c3, F3, hf⟩ := xpost_trans F.st.J hκ c2 h3
      cases f with
      | next =>
        rw [flat_next hf]
        exact ⟨k, Nat.lt_succ_self k, as3, κ3, hw, hκ3, c3, F3⟩
      | brk =>
        rw [flat_brk hf]
        rw [← Option.some.inj hw]
        exact ⟨κ3, hκ3, c3, F3, trivial⟩
      | ret d =>
        refine x1_2 (flat_ret hf) fun v hr1 hv => ?_; subst hr1
        rw [← Option.some.inj hw]
        exact ⟨κ3, hκ3, c3, F3, hv⟩
theorem bind_target {t : Expr} {v : Value} {d : D} {bs : Vars} {Q : Unit → Shared → Prop} (hh : A.handled = none) (F : FOk Z X0 ι s env sc as) (hv : At s.heap (XS X0 env sc ι) v d)
    (hb : abind t d = some bs) (hs : allStored sc bs = true) (h : ∀ s', Chg Z (WS env sc ι) s s' → FOk Z X0 ι s' env sc (as.setMany bs) → Q () s') :
    wpAny (model Z.prog Z.w) A (assign t env v) Q (fun _ _ => False) s := by
  cases t with
  | Name x p =>
    cases hb
    refine wpAny_assign_Name (F.store ((Bool.and_eq_true_iff.mp hs).1) (w := .d d) hv fun s' c F' => h s' (c.own F.st.J) F')
  | Tuple ts k p => cases d with
    | tup ds => exact set_target hh F hv hb hs h
    | _ => exact ofNone hb
  | _ => exact ofNone hb
noncomputable def ForTurn (Z : Par) (A : Around) (t : Expr) (b : List Stmt) (env : Env) (I : Nat → Shared → Prop) (P : Flow → Shared → Prop) (it : Value) (k : Nat) (o : Option Value) (s : Shared) : Prop := match o with
  | none => P .next s
  | some v => wpAny (model Z.prog Z.w) A (letOwnedTupleGo t it v) (fun _ s => wpAny (model Z.prog Z.w) A (assign t env v) (fun _ s => wpAny (model Z.prog Z.w) A (execs b env) (LoopEnd I P k) (fun _ _ => False) s) (fun _ _ => False) s) (fun _ _ => False) s
theorem wpFor {t it : Expr} {b : List Stmt} {pos : Pos} {P : Flow → Shared → Prop} (hs : ∀ x, foldedSetIterable it env x = pure x)
    (h : wpAny (model Z.prog Z.w) A (eval it env) (fun x s => wpAny (model Z.prog Z.w) A (pyIter x) (fun iv s => ∃ (I : Nat → Shared → Prop) (k : Nat), I k s ∧ ∀ k s, I k s → wpAny (model Z.prog Z.w) A (pyNext iv) (ForTurn Z A t b env I P iv k) (fun _ _ => False) s) (fun _ _ => False) s) (fun _ _ => False) s) :
    wpAny (model Z.prog Z.w) A (exec (.For t it b [] pos) env) P (fun _ _ => False) s := by
  refine wpAny_For (wpAny_mono h (fun x s1 h1 => wpAny_mono h1 (fun iv s2 h2 => ?_) fun _ _ f => f) fun _ _ f => f) hs
  refine x2_2 h2 fun I k hI ht => ?_
  refine codeAny_forLoop_any I (fun n s hn => wpAny_mono (ht n s hn) (fun r s1 h1 => ?_) fun _ _ f => f.elim) k hI
  cases r with
  | none => exact wpAny_execs_nil h1
  | some v => exact wpAny_mono h1 (fun _ s2 h2 => wpAny_mono h2 (fun _ s3 h3 => wpAny_mono h3 (fun f s4 h4 => by cases f <;> exact h4) fun _ _ f => f.elim) fun _ _ f => f.elim) fun _ _ f => f.elim
noncomputable def XW (X0 : Addr → Prop) (wr : List Addr) (b : Addr) : Prop := X0 b ∨ b ∈ wr
inductive ForInv (Z : Par) (X0 : Addr → Prop) (ι : List Addr) (env : Env) (sc : Scope) (wr : List Addr) (R : List D → Heap → Prop) (run : List D → AS → Option (Fl × AS)) (r : Fl × AS) (s2 : Shared) (k : Nat) (s' : Shared) : Prop
  | mk (rem : List D) (as' : AS) (e : k = rem.length) (hr : run rem as' = some r) (hR : R rem s'.heap) (F : FOk Z (XW X0 wr) ι s' env sc as') (c : Chg Z (XW (WS env sc ι) wr) s2 s')
theorem Chg.off {W : Addr → Prop} {wr : List Addr} {s s2 s' : Shared} (k : Kp Z s s2) (hw : ∀ b, W b → ¬ Z.T b) (hwr : ∀ b ∈ wr, s.heap.get? b = none) (c : Chg Z (XW W wr) s2 s') : Chg Z W s s' :=
  ⟨c.os.trans k.os, fun g => c.gens (k.gens g), fun b o n m e => c.keep b o n (fun w => w.elim m fun w => by rw [hwr b w] at e; exact ofNone e) (k.keep b o n e), fun j => c.J (k.J j), fun b w l => by
    refine x1_1 l fun o ho => ?_
    exact c.live b (.inl w) ⟨o, k.keep b o (hw b w) ho⟩⟩
theorem for_step {n : Nat} (B : BiOk G) (hΦ : FnsOk G L Φ) (ih : ExecsOk G Φ L sc ow spec cv n) {t it : Expr} {b : List Stmt} {pos : Pos} {items : List D} {r : Fl × AS} (hcv : env.code = cv) (Rm : Room L A) (F : FOk Z X0 ι s env sc as)
    (hi : itF Φ sc n (isTupT t) it as = some items) (h : afor (forStep Φ sc ow spec n t b) items as = some r) :
    wpAny (model Z.prog Z.w) A (exec (.For t it b [] pos) env) (fun fl s' => XPost Z X0 ι env sc s r fl s') (fun _ _ => False) s := by
  have hit := itF_sound B hΦ Rm F hi
  refine wpFor hit.1 (wpAny_mono hit.2 (fun x s1 h1 => wpAny_mono h1 (fun itv s2 h2 => ?_) fun _ _ f => f) fun _ _ f => f)
  obtain ⟨k2, hlen, I, wr, rfl, hIwr, hwr, hXi⟩ := h2
  have F2 : FOk Z (XW X0 wr) ι s2 env sc as := F.open_ k2 hwr
  obtain ⟨R, R1, it0, hR⟩ := hXi (XS (XW X0 wr) env sc ι) (fun b h => h.imp .inl id) (fun b h => .inl (.inr h)) (fun b h => by
      rcases h with (h | h) | h
      · exact .inl (.inl h)
      · exact .inr (.inl h)
      · exact .inl (.inr h))
  have hwrT : ∀ b ∈ wr, ¬ Z.T b := fun b hb t => by
    refine x1_1 (Z.JT _ F.st.J b t) fun o ho => ?_
    rw [(hwr b hb).1] at ho; exact ofNone ho
  have hWwr : ∀ b, WS env sc ι b → b ∉ wr := fun b hb hw => hb.elim (fun hb => F2.ow0 b hb (.inr hw)) fun hb => (F2.own b hb).1 (.inr hw)
  have fin : ∀ {s'}, Chg Z (XW (WS env sc ι) wr) s2 s' → Chg Z (WS env sc ι) s s' := fun c => c.off k2 F.wsT fun b hb => (hwr b hb).1
  refine ⟨ForInv Z X0 ι env sc wr R (afor (forStep Φ sc ow spec n t b)) r s2, items.length, ⟨items, as, rfl, h, hR, F2, Chg.refl s2⟩, fun k s3 H => ?_⟩
  obtain ⟨rem, as3, rfl, hr, hR3, F3, c3⟩ := H
  cases rem with
  | nil =>
    rw [← Option.some.inj hr]
    refine it0.done s3 _ hR3 fun h4 tk4 hk4 => ?_
    have c := fin c3
    refine ⟨[], fun _ h => (nomatch h), ⟨c.os, c.gens, fun b o n m e => hk4 b o (fun w => by rw [(hwr b w).1] at e; exact ofNone e) (c.keep b o n m e), fun j => Z.Jk _ _ (fun b o tb e => hk4 b o (fun w => hwrT b w tb) e) (c.J j), fun b w l => ?_⟩, ?_, trivial⟩
    · refine x1_1 (c.live b w l) fun o ho => ?_
      exact ⟨o, hk4 b o (hWwr b w) ho⟩
    · rw [List.append_nil]
      refine F3.drop F.tx (fun b hb x => ?_) fun b o n e => hk4 b o n e
      refine x1_1 (F.st.live b (.inl x)) fun o ho => ?_
      rw [(hwr b hb).1] at ho; exact ofNone ho
  | cons d rem =>
    refine bnd hr fun q hq hr => bnd hq fun bs hb hq => bfd hq fun hst hq => bnd hq fun q' hx hq => bfd hq fun hl hq => ?_
    have eq := Option.some.inj hq
    clear hq h
    subst eq
    refine it0.turn hwrT rfl F3.st hR3 (fun v s5 c5 hv5 hR5 => ?_) fun v s' h => h
    have F5 := F3.chg0 c5 fun b h => .inr h
    refine bind_target Rm.hd F5 hv5 hb hst fun s6 c6 F6 => wpAny_mono (ih b _ q' hx A _ ι s6 env hcv Rm F6) (fun fl s7 h7 => ?_) fun _ _ f => f
    have hRk : ∀ {a b : Shared}, Chg Z (WS env sc ι) a b → R rem a.heap → R rem b.heap := fun c r =>
      it0.frame rem _ _ (fun x o hx e => c.keep x o (fun t => hx.elim (fun n => n (.inl (.inl (F.tx x t)))) fun m => hwrT x m t) (fun v => hx.elim (fun n => n (.inr v)) fun m => hWwr x v m) e) r
    obtain ⟨f, as7⟩ := q'
    obtain ⟨κ, hκ, c7, F7, hf⟩ := h7
    have e1 := F7.len
    rw [List.length_append, F3.len] at e1
    have e0 : κ = [] := List.eq_nil_of_length_eq_zero (Nat.add_left_cancel (n := as3.hp.length) (e1.trans (eq_of_beq hl)))
    rw [e0, List.append_nil] at F7
    have c27 : Chg Z (XW (WS env sc ι) wr) s2 s7 := c3.trans ((c5.mono F3.st.J fun b h => .inr h).trans ((c6.trans c7).mono F5.st.J fun b h => .inl h))
    cases f with
    | next =>
      rw [flat_next hf]
      exact ⟨rem.length, Nat.lt_succ_self _, rem, as7, rfl, hr, hRk (c6.trans c7) hR5, F7, c27⟩
    | brk =>
      rw [flat_brk hf]
      rw [← Option.some.inj hr]
      exact ⟨[], fun _ h => (nomatch h), fin c27, by rw [List.append_nil]; exact F7.close F.tx, trivial⟩
    | ret x =>
      refine x1_2 (flat_ret hf) fun v hr1 hv => ?_; subst hr1
      rw [← Option.some.inj hr]
      exact ⟨[], fun _ h => (nomatch h), fin c27, by rw [List.append_nil]; exact F7.close F.tx, At.mono (fun _ h => .inl h) (fun _ _ _ e => e) _ _ hv⟩
end
end Mine
namespace Mine
open PySem PySem.W PyProof.Rows PySem.SeqAt
section
variable {Z : Par} {X0 : Addr → Prop} {A : Around} {ι : List Addr} {s : Shared} {env : Env} {sc : Scope} {as : AS} {G : Glo Z} {Φ : Fns} {L : Nat} {ow : Str' → Bool} {spec : Spec} {cv : Value}
theorem pGet_inv {v : Option V} {k : Nat} (h : pGet v = some k) : v = some (.p k) := by
  match v, h with
  | some (.p k'), h => cases h; rfl
theorem aGet_inv {v : Option V} {k : Nat} (h : aGet v = some k) : v = some (.app k) := by
  match v, h with
  | some (.app k'), h => cases h; rfl
theorem dGet_inv {v : Option V} {k : D} (h : dGet v = some k) : v = some (.d k) := by
  match v, h with
  | some (.d k'), h => cases h; rfl
theorem tGet_inv {d a b : D} (h : tGet d = some (a, b)) : d = .tup [a, b] := bnd h fun l hl h => by rw [tupL_inv hl, two_inv h]
theorem subOf_inv {e v i : Expr} (h : subOf e = some (v, i)) : ∃ p, e = .Subscript v i p := mpd h fun q _ h2 => by
  obtain ⟨⟨q, p⟩, e⟩ := q
  cases h2; exact ⟨p, e⟩
theorem attrOf_inv {e o : Expr} {m : Str'} {ap : Pos} (h : attrOf e = some (o, m, ap)) : e = .Attribute o m ap := mpd h fun q _ h2 => by
  obtain ⟨q, e⟩ := q
  cases h2; exact e
theorem listOf_inv {e : Expr} {es : List Expr} (h : listOf e = some es) : ∃ p, e = .List es p := mpd h fun q _ h2 => ⟨q.1.2, h2 ▸ q.2⟩
theorem tupOf_inv {e : Expr} {es : List Expr} (h : tupOf e = some es) : ∃ k p, e = .Tuple es k p := mpd h fun q _ h2 => ⟨q.1.2.1, q.1.2.2, h2 ▸ q.2⟩
theorem callOf_inv {e f : Expr} {args : List Expr} {pos : Pos} (h : callOf e = some (f, args, true, pos)) : e = .Call f args [] pos := mpd h fun q _ h2 => by
  obtain ⟨⟨f', a', kws, p'⟩, e⟩ := q
  cases kws with
  | nil => cases h2; exact e
  | cons _ _ => cases h2
theorem twoNames_inv {ts : List Expr} {a b : Str'} (h : twoNames ts = some (a, b)) : ∃ pa pb, ts = [.Name a pa, .Name b pb] :=
  bnd h fun q h1 h => bnd h fun a' h2 h => mpd h fun b' h3 h => by
    refine x1_1 (nameOf_inv h2) fun pa h2 => ?_
    refine x1_1 (nameOf_inv h3) fun pb h3 => ?_
    cases h
    exact ⟨pa, pb, by rw [two_inv h1, h2, h3]⟩
theorem isAdd_inv {op : Operator} (h : isAdd op = true) : op = .Add := by
  cases op with
  | Add => rfl
  | _ => cases h
noncomputable abbrev Done (Z : Par) (X0 : Addr → Prop) (A : Around) (ι : List Addr) (s : Shared) (env : Env) (sc : Scope) (st : Stmt) (r : Fl × AS) : Prop := wpAny (model Z.prog Z.w) A (exec st env) (fun fl s' => XPost Z X0 ι env sc s r fl s') (fun _ _ => False) s
section
variable {n : Nat} (B : BiOk G) (hΦ : FnsOk G L Φ) (Rm : Room L A) (F : FOk Z X0 ι s env sc as)
include B hΦ Rm F
theorem xGen_ok {x : Str'} {xp p : Pos} {e : Expr} {r : Fl × AS} (h : xGen sc (fun e => evF Φ sc n e as) as x e = some r) : Done Z X0 A ι s env sc (.Assign [.Name x xp] e p) r := by
  refine bfd h ?_; clear h; intro hx h
  refine mpd h ?_; intro d he hr2; subst hr2
  exact assign_stmt B hΦ Rm F hx he
theorem xName_ok {x : Str'} {xp p : Pos} {e : Expr} {r : Fl × AS} (h : xName sc ow (fun e => evF Φ sc n e as) as x e = some r) : Done Z X0 A ι s env sc (.Assign [.Name x xp] e p) r := by
  have gen := fun h' => xGen_ok (n := n) B hΦ Rm F (xp := xp) (p := p) (x := x) (e := e) (r := r) h'
  unfold xName at h
  cases hl : listOf e with
  | some es =>
    rw [hl] at h
    refine x1_1 (listOf_inv hl) fun lp he => ?_
    cases es with
    | nil =>
      rw [he]
      refine bfd h ?_; clear h; intro hx h
      cases ho : ow x with
      | true => rw [ho] at h; rw [← Option.some.inj h]; exact mk_list (s0 := s) F hx
      | false =>
        rw [ho] at h; rw [← Option.some.inj h]
        exact assign_stmt B hΦ (n := 2) Rm F hx rfl
    | cons e1 r1 =>
      cases r1 with
      | cons _ _ => exact gen h
      | nil =>
        dsimp only at h
        cases hl1 : listOf e1 with
        | none => rw [hl1] at h; exact gen h
        | some es1 =>
          rw [hl1] at h
          cases es1 with
          | cons _ _ => exact gen h
          | nil =>
            refine x1_1 (listOf_inv hl1) fun lp1 hr1 => ?_; subst hr1
            rw [he]
            refine bfd h ?_; clear h; intro hx h
            rw [← Option.some.inj h]
            exact mk_list2 (s0 := s) F (Bool.and_eq_true_iff.mp hx).1
  | none =>
    rw [hl] at h
    dsimp only at h
    cases ha : attrOf e with
    | none => rw [ha] at h; exact gen h
    | some om =>
      rw [ha] at h
      dsimp only at h
      cases hn : nameOf om.1 with
      | none => rw [hn] at h; exact gen h
      | some y =>
        rw [hn] at h
        obtain ⟨o, m, ap⟩ := om
        refine bfd h ?_; clear h; intro hx h
        refine mpd h ?_; intro k hk hr
        refine x0_2 (Bool.and_eq_true_iff.mp hx) fun hx hm => ?_
        refine x0_2 (Bool.and_eq_true_iff.mp hx) fun h1 h2 => ?_
        have hm' : m = Str.ofString "append" := eq_of_beq hm
        refine x1_1 (nameOf_inv hn) fun yp hy => ?_
        rw [attrOf_inv ha, show o = _ from hy, hm', ← hr]
        exact bound_stmt F h1 h2 (pGet_inv hk)
theorem xTup_ok {ts : List Expr} {k : _} {tp p : Pos} {e : Expr} {r : Fl × AS} (h : xTup sc (fun e => evF Φ sc n e as) as ts e = some r) : Done Z X0 A ι s env sc (.Assign [.Tuple ts k tp] e p) r := by
  unfold xTup at h
  cases hu : tupOf e with
  | some es =>
    rw [hu] at h
    refine bnd h fun ab ht h => bnd h fun ee h2 h => bfd h fun hc h => bnd h fun d he h => mpd h fun dd hd h => ?_
    refine x2_1 (twoNames_inv ht) fun pa pb ht => ?_
    refine x2_1 (tupOf_inv hu) fun tk etp hu => ?_
    have hc := Bool.and_eq_true_iff.mp hc
    have h4 := Bool.and_eq_true_iff.mp hc.1
    have h5 := Bool.and_eq_true_iff.mp h4.1
    rw [hu, two_inv h2, tGet_inv hd] at he
    rw [ht, hu, two_inv h2, ← h]
    exact pair_stmt B hΦ Rm F h5.1 h5.2 (bne_iff_ne.mp h4.2) ((Bool.not_eq_true' _).mp hc.2) he
  | none =>
    rw [hu] at h
    refine bnd h fun d he h => bnd h fun bs hb h => bfd h fun hs h => ?_
    rw [← Option.some.inj h]
    exact unpack_stmt B hΦ Rm F (fun es tk tp q => by rw [q] at hu; cases hu) he hb hs
theorem xSet_ok {x : Str'} {xp ip p : Pos} {i e : Expr} {r : Fl × AS} (h : xSet sc (fun e => evF Φ sc n e as) as x i e = some r) : Done Z X0 A ι s env sc (.Assign [.Subscript (.Name x xp) i ip] e p) r :=
  bfd h fun hx h => bnd h fun d he h => bnd h fun j hj h => bnd h fun k hk h => bnd h fun j' hj' h => bnd h fun l hl h => bfd h fun h0 h => mpd h fun q hq h => by
    rw [← h]
    exact setat_stmt B hΦ Rm F hx he (iGet_inv hj' ▸ hj) (pGet_inv hk) hl hq (of_decide_eq_true h0)
theorem xAssign_ok {ts : List Expr} {e : Expr} {p : Pos} {r : Fl × AS} (h0 : xAssign sc ow (fun e => evF Φ sc n e as) as ts e = some r) : Done Z X0 A ι s env sc (.Assign ts e p) r := by
  refine bnd h0 fun t ht h => ?_
  rw [one_inv ht]
  cases hn : nameOf t with
  | some x =>
    rw [hn] at h
    refine x1_1 (nameOf_inv hn) fun xp hn => ?_
    rw [hn]
    exact xName_ok B hΦ Rm F h
  | none =>
    rw [hn] at h
    dsimp only at h
    cases hu : tupOf t with
    | some ts =>
      rw [hu] at h
      refine x2_1 (tupOf_inv hu) fun k tp hu => ?_
      rw [hu]
      exact xTup_ok B hΦ Rm F h
    | none =>
      rw [hu] at h
      refine bnd h fun vi hs h => bnd h fun x hx h => ?_
      refine x1_1 (subOf_inv hs) fun ip hs => ?_
      refine x1_1 (nameOf_inv hx) fun xp hv => ?_
      rw [hs, hv]
      exact xSet_ok B hΦ Rm F h
theorem xAug_ok {t : Expr} {op : Operator} {e : Expr} {p : Pos} {r : Fl × AS} (h0 : xAug sc (fun e => evF Φ sc n e as) as t op e = some r) : Done Z X0 A ι s env sc (.AugAssign t op e p) r :=
  bnd h0 fun x ht h => bfd h fun ho h => bfd h fun hx h => bnd h fun a ha h => bnd h fun b hb h => mpd h fun c hc h => by
    refine x1_1 (nameOf_inv ht) fun xp ht => ?_
    rw [isAdd_inv ho, ht, ← h]
    exact aug_stmt B hΦ Rm F hx (dGet_inv ha) hb hc
theorem xApp_ok {x : Str'} {xp apos pos p : Pos} {k : Nat} {e : Expr} {r : Fl × AS} (hx : stored sc x = true) (hl : (apos.endLine == pos.line) = true) (hg : as.get x = some (.p k)) (h : xApp (fun e => evF Φ sc n e as) as k e = some r) : Done Z X0 A ι s env sc (.Expr (.Call (.Attribute (.Name x xp) (Str.ofString "append") apos) [e] [] pos) p) r :=
  bnd h fun d he h => mpd h fun as' ha h => by
    rw [← h]
    refine append_stmt B hΦ Rm F rfl hl (F.name hx hg (by intro q; cases q) fun v hv => ?_) he ha
    refine x1_2 hv fun a hk hr2 => ?_; subst hr2
    exact ⟨Kp.refl _, a, hk, rfl⟩
theorem xApp0_ok {x : Str'} {xp apos pos p : Pos} {k : Nat} {e : Expr} {r : Fl × AS} (hx : stored sc x = true) (hl : (apos.endLine == pos.line) = true) (hg : as.get x = some (.p k)) (h : xApp0 (fun e => evF Φ sc n e as) as k e = some r) : Done Z X0 A ι s env sc (.Expr (.Call (.Attribute (.Name x xp) (Str.ofString "append") apos) [e] [] pos) p) r := by
  unfold xApp0 at h
  cases hle : listOf e with
  | none => rw [hle] at h; exact xApp_ok B hΦ Rm F hx hl hg h
  | some es =>
    rw [hle] at h
    cases es with
    | cons _ _ => exact xApp_ok B hΦ Rm F hx hl hg h
    | nil =>
      refine x1_1 (listOf_inv hle) fun lp hle => ?_
      refine mpd h fun as' ha h => ?_
      rw [hle, ← h]
      exact append_new Rm F hx hl hg ha
theorem xAppS_ok {x : Str'} {xp ip apos pos p : Pos} {i e : Expr} {r : Fl × AS} (hx : stored sc x = true) (hl : (apos.endLine == pos.line) = true) (h : xAppS (fun e => evF Φ sc n e as) as x i e = some r) : Done Z X0 A ι s env sc (.Expr (.Call (.Attribute (.Subscript (.Name x xp) i ip) (Str.ofString "append") apos) [e] [] pos) p) r :=
  bnd h fun j hj h => bnd h fun k hk h => bnd h fun j' hj' h => bnd h fun l hll h => bnd h fun q hq h => bnd h fun r' hr h => bnd h fun d he h => mpd h fun as' ha h => by
    rw [← h]
    exact append_stmt B hΦ Rm F rfl hl (append_at B hΦ Rm F hx (pGet_inv hk) (iGet_inv hj' ▸ hj) hll hq (pGet_inv hr)) he ha
theorem xExpr_ok {e : Expr} {p : Pos} {r : Fl × AS} (h0 : xExpr sc (fun e => evF Φ sc n e as) as e = some r) : Done Z X0 A ι s env sc (.Expr e p) r := by
  refine bnd h0 fun q hc h => bnd h fun e' h1 h => bfd h fun hk h => ?_
  rw [callOf_inv (hc.trans (by rw [← hk])), one_inv h1]
  cases ha : attrOf q.1 with
  | some om =>
    rw [ha] at h
    refine bfd h fun hx h => ?_
    have h2 := Bool.and_eq_true_iff.mp hx
    rw [attrOf_inv ha, eq_of_beq h2.1]
    cases hn : nameOf om.1 with
    | some x =>
      rw [hn] at h
      refine x1_1 (nameOf_inv hn) fun xp hn => ?_
      rw [hn]
      exact bfd h fun hx h => bnd h fun k hk h => xApp0_ok B hΦ Rm F hx h2.2 (pGet_inv hk) h
    | none =>
      rw [hn] at h
      refine bnd h fun vi hs h => bnd h fun x hx h => bfd h fun hs' h => ?_
      refine x1_1 (subOf_inv hs) fun ip hi => ?_
      refine x1_1 (nameOf_inv hx) fun xp hv => ?_
      rw [hi, hv]
      exact xAppS_ok B hΦ Rm F hs' h2.2 h
  | none =>
    rw [ha] at h
    refine bnd h fun x hn h => bfd h fun hx h => bnd h fun k hk h => bnd h fun d he h => mpd h fun as' haa h => ?_
    refine x1_1 (nameOf_inv hn) fun xp hf => ?_
    rw [hf, ← h]
    exact bound_call B hΦ Rm F hx (aGet_inv hk) he haa
theorem xDel_ok {ts : List Expr} {p : Pos} {r : Fl × AS} (h0 : xDel sc (fun e => evF Φ sc n e as) as ts = some r) : Done Z X0 A ι s env sc (.Delete ts p) r :=
  bnd h0 fun t ht h => bnd h fun vi hs h => bnd h fun x hn h => bfd h fun hx h => bnd h fun j hj h => bnd h fun k hk h => bnd h fun j' hj' h => bnd h fun l hl h => bfd h fun h0 h => mpd h fun q hq h => by
    refine x1_1 (subOf_inv hs) fun ip hs => ?_
    refine x1_1 (nameOf_inv hn) fun xp hv => ?_
    rw [one_inv ht, hs, hv, ← h]
    exact del_stmt B hΦ Rm F hx (iGet_inv hj' ▸ hj) (pGet_inv hk) hl hq (of_decide_eq_true h0)
end
theorem exec_eq {n : Nat} {st : Stmt} {as : AS} : aexec Φ sc ow spec (n + 1) st as = (match spec st as with
  | some s' => some (.next, s')
  | none => xPlain Φ sc ow n (aexecs Φ sc ow spec n) st as) := by kernel_rfl
theorem exec_step {n : Nat} (B : BiOk G) (hΦ : FnsOk G L Φ) (hS : SpecOk G L sc spec cv) (ihs : ExecsOk G Φ L sc ow spec cv n) : ExecOk G Φ L sc ow spec cv (n + 1) := by
  intro st as r h A X0 ι s env hcv Rm F
  rw [exec_eq] at h
  cases hs : spec st as with
  | some s' =>
    rw [hs] at h
    rw [← Option.some.inj h]
    exact hS st as s' hs A X0 ι s env hcv Rm F
  | none =>
    rw [hs] at h
    clear hs
    cases st with
    | Assign ts e p => exact xAssign_ok B hΦ Rm F h
    | AugAssign t op e p => exact xAug_ok B hΦ Rm F h
    | Expr e p => exact xExpr_ok B hΦ Rm F h
    | Delete ts p => exact xDel_ok B hΦ Rm F h
    | If t b o p =>
      exact bnd h fun c ht h => if_step B hΦ ihs hcv Rm F ht h
    | While t b o p =>
      cases o with
      | nil => exact while_step B hΦ ihs hcv Rm F h
      | cons _ _ => exact ofNone h
    | For t it b o p =>
      cases o with
      | nil =>
        exact bnd h fun items hi h => for_step B hΦ ihs hcv Rm F hi h
      | cons _ _ => exact ofNone h
    | Return v p =>
      cases v with
      | none => exact ofNone h
      | some e =>
        refine mpd h fun d he h => ?_
        rw [← h]
        refine wpAny_Return_some (wpAny_mono (retF_sound B hΦ Rm F he) (fun v s1 h1 => ?_) fun _ _ f => f)
        exact ⟨[], fun _ h => (nomatch h), chg_kp h1.1 F.st.J, by rw [List.append_nil]; exact F.kp h1.1, h1.2⟩
    | Assert t m p =>
      cases m with
      | some _ => exact ofNone h
      | none =>
        refine bnd h ?_; clear h; intro c ht h
        refine bfd h ?_; clear h; intro hr0 h; subst hr0
        rw [← Option.some.inj h]
        refine wpAny_Assert_holds (wpAny_mono (trF_sound B hΦ Rm F ht) (fun q s1 h1 => ?_) fun _ _ f => f)
        exact ⟨h1.1, xpost_next (chg_kp h1.2 F.st.J) (F.kp h1.2)⟩
    | Break p =>
      rw [← Option.some.inj h]
      exact wpAny_Break ⟨[], fun _ h => (nomatch h), Chg.refl s, by rw [List.append_nil]; exact F, trivial⟩
    | _ => exact ofNone h
theorem body_sound (B : BiOk G) (hΦ : FnsOk G L Φ) (hS : SpecOk G L sc spec cv) : ∀ n, ExecOk G Φ L sc ow spec cv n ∧ ExecsOk G Φ L sc ow spec cv n
  | 0 => ⟨fun st as r h => (nomatch (show (none : Option (Fl × AS)) = some r from h)), fun sts as r h => (nomatch (show (none : Option (Fl × AS)) = some r from h))⟩
  | n + 1 => by
    refine x0_2 (body_sound B hΦ hS n) fun h1 h2 => ?_
    exact ⟨exec_step B hΦ hS h2, execs_step h1 h2⟩
end
end Mine
namespace Mine
open PySem PySem.W PyProof.Rows PySem.SeqAt
noncomputable def okFun (sc : Scope) : Bool :=
  (sc.kind == .function) && (!sc.isGenerator) && (!sc.isCoroutine) && sc.names.all fun p => !(p.1 == (Str.ofString "__debug__")) && !(p.1 == (Str.ofString "__classdict__")) && (sc.names.lookup p.1 == some p.2) && match p.2 with
    | .local => true
    | .cell => true
    | .globalImplicit => true
    | _ => false
structure FunSc (sc : Scope) : Prop where
  kind : sc.kind = .function
  gen : sc.isGenerator = false
  cor : sc.isCoroutine = false
  dbg : ∀ x k, sc.names.lookup x = some k → (x == ("__debug__" : Str')) = false ∧ (x == ("__classdict__" : Str')) = false
  look : ∀ p ∈ sc.names, sc.names.lookup p.1 = some p.2
  free : ∀ x, sc.names.lookup x ≠ some .free
theorem fun_sc {sc : Scope} (h : okFun sc = true) : FunSc sc := by
  unfold okFun at h
  rw [Bool.and_eq_true, Bool.and_eq_true, Bool.and_eq_true, List.all_eq_true] at h
  obtain ⟨⟨⟨h1, h2⟩, h3⟩, h4⟩ := h
  refine ⟨by simpa using h1, by simpa using h2, by simpa using h3, fun x k hx => ?_, fun p hp => ?_, fun x hx => ?_⟩
  · have := h4 _ (mem_of_lookup hx)
    simp only [Bool.and_eq_true, Bool.not_eq_true'] at this
    exact this.1.1
  · have := h4 p hp
    simp only [Bool.and_eq_true] at this
    simpa using this.1.2
  · have := h4 _ (mem_of_lookup hx)
    simp only [Bool.and_eq_true] at this
    cases this.2
section
variable {Z : Par} {X : Addr → Prop} {A : Around}
theorem give_ok {h : Heap} {kindOf : Str' → Option NameKind} : ∀ (ps : List Str') (vals : List Value) (ds : List D) (as as0 : AS) (m cm : Str' → Option Value), Ats h X vals ds → giveArgs ps ds as = some as0 →
    (∀ x w, (x, w) ∈ as.vars → w ≠ .un → ∃ v, VAt h X [] v w ∧ ((kindOf x = some .local ∧ m x = some v) ∨ (kindOf x ≠ some .local ∧ cm x = some v))) →
    as0.hp = as.hp ∧ as0.vars.map (·.1) = as.vars.map (·.1) ∧
    ∀ x w, (x, w) ∈ as0.vars → w ≠ .un → ∃ v, VAt h X [] v w ∧ ((kindOf x = some .local ∧ bindL kindOf (ps.zip vals) m x = some v) ∨ (kindOf x ≠ some .local ∧ bindC kindOf (ps.zip vals) cm x = some v))
  | [], vals, [], as, as0, m, cm, ha, hg, hp => by
    rw [← Option.some.inj hg]
    exact ⟨rfl, rfl, hp⟩
  | [], _, _ :: _, _, _, _, _, _, hg, _ => ofNone hg
  | _ :: _, _, [], _, _, _, _, _, hg, _ => ofNone hg
  | x :: ps, vals, d :: ds, as, as0, m, cm, ha, hg, hp => by
    simp only [Ats] at ha
    refine x2_3 ha fun v vs hr2 h1 h2 => ?_; subst hr2
    rw [List.zip_cons_cons]
    have := give_ok (kindOf := kindOf) ps vs ds (as.set x (.d d)) as0 (if kindOf x = some .local then fun y => if y = x then some v else m y else m) (if kindOf x = some .local then cm else fun y => if y = x then some v else cm y) h2 hg ?_
    · refine x0_3 this fun a1 a2 a3 => ?_
      refine ⟨a1, ?_, a3⟩
      rw [a2]
      unfold AS.set
      rw [List.map_map]
      refine List.map_congr_left fun q _ => ?_
      simp only [Function.comp]
      cases (q.1 == x) <;> rfl
    · intro y w hm hw
      rcases mem_set hm with ⟨rfl, rfl⟩ | ⟨hne, hm⟩
      · refine ⟨v, h1, ?_⟩
        by_cases hk : kindOf y = some .local
        · left; refine ⟨hk, ?_⟩; rw [if_pos hk]; simp
        · right; refine ⟨hk, ?_⟩; rw [if_neg hk]; simp
      · refine x1_2 (hp y w hm hw) fun u hu hh => ?_
        refine ⟨u, hu, ?_⟩
        rcases hh with ⟨a, b⟩ | ⟨a, b⟩
        · left; refine ⟨a, ?_⟩
          split
          · simp [hne, b]
          · exact b
        · right; refine ⟨a, ?_⟩
          split
          · exact b
          · simp [hne, b]
theorem start_names {sc : Scope} {x : Str'} (hx : x ∈ (startVars sc).map (·.1)) (F : FunSc sc) : isStored (sc.names.lookup x) = true := by
  unfold startVars at hx
  refine x1_2 (List.mem_map.mp hx) fun q hq hr2 => ?_; subst hr2
  refine x1_2 (List.mem_filterMap.mp hq) fun p hp e => ?_
  refine bfd e ?_; clear e; intro hb e
  cases e
  show isStored (sc.names.lookup p.1) = true
  rw [F.look p hp]; exact hb
theorem start_un {sc : Scope} {x : Str'} {w : V} (hx : (x, w) ∈ startVars sc) : w = .un := by
  unfold startVars at hx
  refine x1_2 (List.mem_filterMap.mp hx) fun p hp e => ?_
  refine bfd e ?_; clear e; intro hb e
  cases e; rfl
structure FnIs (Z : Par) (a : Addr) (sc : Scope) (ps : List Str') (body : List Stmt) (cv : Value) : Prop where
  ok : okFun sc = true
  live : ∃ o fd, Z.h0.get? a = some o ∧ o.data = .func fd ∧ fd.scope = sc ∧ fd.globals = mainGlobals ∧ fd.builtins = builtinsNs ∧ fd.closure = [] ∧ fd.body = .stmts body ∧ fd.code = cv ∧
    (∃ c oc vs t, fd.code = .ref c ∧ ¬ Z.T c ∧ Z.h0.get? c = some oc ∧ oc.data = .fields vs ∧ vs[1]? = some (.str fd.qualname t)) ∧
    ∀ vals, vals.length = ps.length → bindArgs fd ⟨vals, []⟩ = pure (ps.zip vals)
  nt : ¬ Z.T a
  par : ∀ x ∈ ps, isStored (sc.names.lookup x) = true
theorem give_len : ∀ (ps : List Str') (ds : List D) (as as0 : AS), giveArgs ps ds as = some as0 → ps.length = ds.length
  | [], [], _, _, _ => rfl
  | [], _ :: _, _, _, h => ofNone h
  | _ :: _, [], _, _, h => ofNone h
  | x :: ps, d :: ds, as, as0, h => by
    exact congrArg (· + 1) (give_len ps ds _ _ h)
theorem st_noLimit {s : Shared} (G : Glo Z) (S : St Z X s) : s.heap.NoLimit := G.nolimit_of fun b o => S.base b o
theorem frame_start {s s1 : Shared} {fd : FuncData} {a : Addr} {sc : Scope} {ps : List Str'} {vals : List Value} {ds : List D} {as0 : AS} (S : St Z X s) (hok : okFun sc = true) (hsc : fd.scope = sc) (hgl : fd.globals = mainGlobals) (hbi : fd.builtins = builtinsNs)
    (ha : Ats s.heap X vals ds) (hg : giveArgs ps ds ⟨startVars sc, []⟩ = some as0)
    (x : InCallC s (callEnvC fd s.heap.objs.size a).locals (bindL (callEnvC fd s.heap.objs.size a).kindOf (ps.zip vals) fun _ => none) (callEnvC fd s.heap.objs.size a).cells
        (bindC (callEnvC fd s.heap.objs.size a).kindOf (ps.zip vals) fun _ => none) s1) :
    Kp Z s s1 ∧ FOk Z X [] s1 (callEnvC fd s.heap.objs.size a) sc as0 ∧ ∀ b, Own (callEnvC fd s.heap.objs.size a) sc b → s.heap.get? b = none := by
  have F := fun_sc hok
  subst hsc
  generalize henv : callEnvC fd s.heap.objs.size a = env at x
  have hloc : env.locals = s.heap.objs.size := by rw [← henv]; rfl
  have hcel : env.cells = cellsFrom (s.heap.objs.size + 1) fd.scope.names [] := by rw [← henv]; rfl
  have hscope : env.scope = fd.scope := by rw [← henv]; rfl
  have hkof : ∀ y, env.kindOf y = fd.scope.names.lookup y := fun y => by rw [← henv]; rfl
  refine x2_1 (x.toInCall.same) fun h1 tk hr2 => ?_; subst hr2
  have k : Kp Z s { s with heap := h1, toks := tk } := Kp.of_heap x.toInCall.keep
  have hdead : ∀ b, s.heap.objs.size ≤ b → s.heap.get? b = none := fun b hb => by
    cases q : s.heap.get? b with
    | none => rfl
    | some o => exact absurd (Heap.lt_size q) (Nat.not_lt.mpr hb)
  have hcd : ∀ y c, env.cells.lookup y = some c → s.heap.get? c = none := fun y c hc => hdead c (by
    have := x.above y c (mem_of_lookup hc)
    rw [hloc] at this
    exact Nat.le_of_lt this)
  have hown : ∀ b, Own env fd.scope b → s.heap.get? b = none := by
    rintro b (rfl | ⟨y, _, hc⟩)
    · rw [hloc]; exact hdead _ (Nat.le_refl _)
    · exact hcd y b hc
  have hTd : ∀ b, s.heap.get? b = none → ¬ Z.T b := fun b hb t => by
    refine x1_1 (Z.JT _ S.J b t) fun o ho => ?_
    rw [hb] at ho; exact ofNone ho
  have hXd : ∀ b, s.heap.get? b = none → ¬ X b := fun b hb t => by
    refine x1_1 (S.live b t) fun o ho => ?_
    rw [hb] at ho; exact ofNone ho
  have hcsome : ∀ y, fd.scope.names.lookup y = some .cell → ∃ c, env.cells.lookup y = some c := fun y hy => by
    rw [hcel]
    exact Option.isSome_iff_exists.mp (cellsFrom_some (x := y) fd.scope.names (s.heap.objs.size + 1) [] (.inl hy))
  have hccell : ∀ y c, env.cells.lookup y = some c → fd.scope.names.lookup y = some .cell := fun y c hc => by
    rw [hcel] at hc
    rcases cellsFrom_mem _ _ _ _ _ (mem_of_lookup hc) with q | q
    · exact F.look _ q
    · cases q
  have hX : ∀ b, XS X env fd.scope [] b → X b ∨ s.heap.get? b = none := by
    rintro b (h | h | h)
    · exact .inl h
    · exact .inr (hown b h)
    · cases h
  have S1 := S.kp k
  have hoL : ∀ b, Own env fd.scope b → ∃ o, h1.get? b = some o := by
    rintro b (rfl | ⟨y, _, hc⟩)
    · refine x3_2 (x.toInCall.ns) fun o es ep ho _ => ?_; exact ⟨o, ho⟩
    · refine x1_2 (x.cell y b hc) fun o ho _ => ?_; exact ⟨o, ho⟩
  refine x0_3 (give_ok (h := s.heap) (X := X) (kindOf := env.kindOf) ps vals ds ⟨startVars fd.scope, []⟩ as0 (fun _ => none) (fun _ => none) ha hg (fun y w hm hw => absurd (start_un hm) hw)) fun e1 e2 e3 => ?_
  refine ⟨k, ⟨⟨S1.base, S1.J, fun b hb => ?_, fun b hb => .inl (S.tx b hb), fun b hb => ?_⟩, S.tx, ?_, fun y w hm hw => ?_, fun b hb => (nomatch hb), List.Pairwise.nil, by rw [e1]; rfl, fun n b l hb => by simp at hb, fun b hb => hXd b (hown b hb), fun y c hc => hXd c (hcd y c hc)⟩, hown⟩
  · rcases hb with h | h | h
    · exact S1.live b h
    · exact hoL b h
    · cases h
  · rcases hX b hb with h | h
    · exact S.nb b h
    · right
      cases q : Z.h0.get? b with
      | none => rfl
      | some o => rw [S.base b o (hTd b h) q] at h; cases h
  · refine { en := { kind := by rw [hscope]; exact F.kind, gl := by rw [← henv]; exact hgl, bi := by rw [← henv]; exact hbi, dbg := F.dbg, glob := fun y hy => by rw [hkof]; exact hy, loc := fun y hy => by rw [hkof]; exact hy, cel := fun y hy => ?_, var := fun y d hy => (look_nil hy).elim, tl := hTd _ (by rw [hloc]; exact hdead _ (Nat.le_refl _)), tc := fun y c hc => hTd c (hcd y c hc), cal := fun y c hc => ?_ }, ns := ⟨_, x.toInCall.ns⟩, lx := .inr (.inl (.inl rfl)), cx := fun y c h1 h2 => .inr (.inl (.inr ⟨y, h2, h1⟩)), cv := fun y c hc _ => ⟨_, x.cell y c hc⟩, ap := fun y z c hy _ hz => name_of_addr x.apart (mem_of_lookup hy) (mem_of_lookup hz), la := fun y c hc => Nat.ne_of_gt (x.above y c (mem_of_lookup hc)), kc := fun y hy => by rw [hkof]; exact hy }
    · rcases hy with hy | hy
      · rw [hkof]; exact ⟨.inl hy, hcsome y hy⟩
      · exact absurd hy (F.free y)
    · refine x1_2 (x.cell y c hc) fun o ho _ => ?_; exact ⟨o, ho⟩
  · refine x1_2 (e3 y w hm hw) fun v hv hh => ?_
    refine ⟨v, ?_, hv.grow (fun _ _ h => h) hX fun b o _ e => x.toInCall.keep b o e⟩
    rcases hh with ⟨q1, q2⟩ | ⟨q1, q2⟩
    · exact .inl ⟨q1, _, x.toInCall.ns, q2⟩
    · have hin : y ∈ (startVars fd.scope).map (·.1) := by
        have : y ∈ as0.vars.map (·.1) := List.mem_map.mpr ⟨_, hm, rfl⟩
        rw [e2] at this; exact this
      have hst := start_names hin F
      have hk : fd.scope.names.lookup y = some .cell := by
        rw [hkof] at q1
        cases q : fd.scope.names.lookup y with
        | none => rw [q] at hst; cases hst
        | some kk =>
          rw [q] at hst q1
          cases kk <;> first | rfl | exact absurd rfl q1 | cases hst
      refine x1_1 (hcsome y hk) fun c hc => ?_
      refine .inr ⟨.inl (by rw [hkof]; exact hk), c, hc, ?_⟩
      rw [← q2]; exact x.cell y c hc
theorem fn_code_gen {G : Glo Z} {L : Nat} {a : Addr} {sc : Scope} {ps : List Str'} {body : List Stmt} {cv : Value} (H : FnIs Z a sc ps body cv)
    {s : Shared} {vs : List Value} {ds : List D} {d : D} {as0 : AS} (Rm : Room (L + 1) A) (S : St Z X s) (ha : Ats s.heap X vs ds) (hg : giveArgs ps ds ⟨startVars sc, []⟩ = some as0)
    (hb : ∀ (A' : Around) (s1 : Shared) (env : Env), env.code = cv → Room L A' → FOk Z X [] s1 env sc as0 →
      wpAny (model Z.prog Z.w) A' (execs body env) (fun fl s2 => ∃ f as', XPost Z X [] env sc s1 (f, as') fl s2 ∧ (f = .ret d ∨ (f = .next ∧ d = .non))) (fun _ _ => False) s1) :
    codeAny (model Z.prog Z.w) A (.call (.ref a) ⟨vs, []⟩) (fun r s' => ∃ v, r = .ok (.ret v) ∧ Post Z X s d v s') s := by
  obtain ⟨o, fd, ho, hfd, hsc, hgl, hbi, hclo, hbody, hcv, ⟨c, oc, cvs, t, hc1, hcT, hc2, hc3, hc4⟩, hbind⟩ := H.live
  have hlen : vs.length = ps.length := by rw [ha.length, give_len _ _ _ _ hg]
  have F := fun_sc H.ok
  have hcode : s.heap.CodeRec fd.code fd.qualname := ⟨c, oc, cvs, t, hc1, S.base _ _ hcT hc2, hc3, hc4⟩
  refine (codeAny_call_cells (by have := Rm.dp; lia) (S.base _ _ H.nt ho) hfd (st_noLimit G S) hcode hbody (hbind vs hlen) hclo ?_ ?_ (by rw [hsc]; exact F.cor) (by rw [hsc]; exact F.gen) (by rw [hsc]; exact F.kind))
  · intro x hx
    have hp := H.par x.1 (List.of_mem_zip hx).1
    rw [hsc]
    cases q : sc.names.lookup x.1 with
    | none => rw [q] at hp; cases hp
    | some kk =>
      rw [q] at hp
      cases kk with
      | «local» => exact .inl rfl
      | cell => exact .inr ⟨rfl, cellsFrom_some (x := x.1) sc.names _ [] (.inl q)⟩
      | _ => cases hp
  · intro s1 x
    refine x0_3 (frame_start S H.ok hsc hgl hbi ha hg x) fun k F0 hown => ?_
    have Rm' : Room L (A.deeper (callEnvC fd s.heap.objs.size a)) := ⟨Rm.hd, by have := Rm.dp; show A.depth + 1 + L < recursionLimit; lia, by have := Rm.un; show A.units + 3 + 8 * L + 100 < cLine; lia⟩
    refine wpAny_mono (hb _ s1 _ hcv Rm' F0) (fun fl s2 h2 => ?_) fun _ _ f => f.elim
    obtain ⟨f, as2, ⟨κ, hκ, c2, F2, hf⟩, hd⟩ := h2
    have kfin : Kp Z s s2 := Chg.after k c2 (by
      rintro b (h | h)
      · exact hown b h
      · cases h)
    rcases hd with rfl | ⟨rfl, rfl⟩
    · refine x1_2 (flat_ret hf) fun v hr1 hv => ?_; subst hr1
      exact ⟨_, rfl, kfin, hv⟩
    · have := flat_next hf; subst this
      exact ⟨_, rfl, kfin, at_non.mpr rfl⟩
theorem fn_code {G : Glo Z} (B : BiOk G) {Φ : Fns} {L : Nat} (hΦ : FnsOk G L Φ) {a : Addr} {sc : Scope} {ps : List Str'} {body : List Stmt} {ow : Str' → Bool} {spec : Spec} {cv : Value} (hS : SpecOk G L sc spec cv) (H : FnIs Z a sc ps body cv) (n : Nat)
    {s : Shared} {vs : List Value} {ds : List D} {d : D} (Rm : Room (L + 1) A) (S : St Z X s) (ha : Ats s.heap X vs ds) (hd : acall Φ sc ow spec n ps body ds = some d) :
    codeAny (model Z.prog Z.w) A (.call (.ref a) ⟨vs, []⟩) (fun r s' => ∃ v, r = .ok (.ret v) ∧ Post Z X s d v s') s := by
  unfold acall at hd
  refine bnd hd ?_; clear hd; intro as0 hg hd
  refine bnd hd ?_; clear hd; intro q hr hd
  refine fn_code_gen (G := G) H Rm S ha hg fun A' s1 env hcv Rm' F0 => ?_
  refine wpAny_mono ((body_sound B hΦ hS n).2 body as0 q hr _ X [] s1 _ hcv Rm' F0) (fun fl s2 h2 => ?_) fun _ _ f => f.elim
  obtain ⟨f, as2⟩ := q
  refine ⟨f, as2, h2, ?_⟩
  cases f with
  | next => rw [← Option.some.inj hd]; exact .inr ⟨rfl, rfl⟩
  | brk => exact ofNone hd
  | ret x => rw [← Option.some.inj hd]; exact .inl rfl
theorem fn_contract {G : Glo Z} (B : BiOk G) {Φ : Fns} {L : Nat} (hΦ : FnsOk G L Φ) {a : Addr} {sc : Scope} {ps : List Str'} {body : List Stmt} {ow : Str' → Bool} {spec : Spec} {cv : Value} (hS : SpecOk G L sc spec cv) (H : FnIs Z a sc ps body cv) (n : Nat)
    {φ : List D → Option D} (hφ : ∀ ds d, φ ds = some d → acall Φ sc ow spec n ps body ds = some d) : Contract Z (L + 1) a φ := by
  intro A X s vs ds d Rm S ha hd
  refine wpAny_call (codeAny_mono (fn_code B hΦ hS H n Rm S ha (hφ ds d hd)) fun r s' h => ?_)
  obtain ⟨v, rfl, h⟩ := h
  exact h
end
end Mine
namespace Mine
open PySem PySem.W PyProof.Rows PySem.SeqAt
noncomputable def J57 (h : Heap) : Prop := ∃ ps, h.get? 57 = some (tabObj ps) ∧ TriplesOk ps.toList
noncomputable def ZP (w : World) (h0 : Heap) : Par where
  prog := PySem.Challenge.rw_ij0022_01.row.prog
  w := w
  h0 := h0
  T := fun a => a = (57 : Nat)
  J := J57
  Jk := fun h h' k ⟨ps, e, t⟩ => ⟨ps, k 57 _ rfl e, t⟩
  JT := fun h ⟨ps, e, _⟩ a t => ⟨tabObj ps, by have t' : a = 57 := t; subst t'; exact e⟩
noncomputable def gval (P : Params) (x : Str') : Option Value := ((cap.heap_1 P).lookup 3).bind fun o => match o.data with
  | .dict es _ => nsFind es x
  | _ => none
noncomputable def fnAt (P : Params) (a : Addr) : Option FuncData := ((cap.heap_1 P).lookup a).bind fun o => match o.data with
  | .func fd => some fd
  | _ => none
noncomputable def fieldsAt (P : Params) (a : Addr) : Option (Array Value) := ((cap.heap_1 P).lookup a).bind fun o => match o.data with
  | .fields vs => some vs
  | _ => none
theorem gval_eq {P : Params} {h : Heap} {mg : Str' → Option Value} (KX : (cap.heap_1 P).In h) (g : h.Ns mainGlobals mg) (x : Str') : mg x = gval P x := by
  refine x3_4 g fun o es ep ho hdd _ hf => ?_
  have h3 : ∃ o', (cap.heap_1 P).lookup 3 = some o' := ⟨_, rfl⟩
  refine x1_1 h3 fun o' h3 => ?_
  have e := KX 3 o' h3
  have hm : (mainGlobals : Nat) = 3 := by decide
  rw [show (mainGlobals : Addr) = 3 from hm, e] at ho
  cases ho
  unfold gval
  rw [h3]
  simp only [Option.bind_some, hdd]
  exact (hf x).symm
theorem fnAt_in {P : Params} {h : Heap} (KX : (cap.heap_1 P).In h) {a : Addr} {fd : FuncData} (e : fnAt P a = some fd) : ∃ o, h.get? a = some o ∧ o.data = .func fd := by
  unfold fnAt at e
  refine bnd e ?_; clear e; intro o q e
  split at e
  · rename_i fd' hf; cases e; exact ⟨o, KX a o q, hf⟩
  · cases e
theorem fieldsAt_in {P : Params} {h : Heap} (KX : (cap.heap_1 P).In h) {a : Addr} {vs : Array Value} (e : fieldsAt P a = some vs) : ∃ o, h.get? a = some o ∧ o.data = .fields vs := by
  unfold fieldsAt at e
  refine bnd e ?_; clear e; intro o q e
  split at e
  · rename_i fd' hf; cases e; exact ⟨o, KX a o q, hf⟩
  · cases e
structure Chk (P : Params) (a : Addr) (sc : Scope) (ps : List Str') (body : List Stmt) (fd : FuncData) (c : Addr) (vs : Array Value) (t : Tok) : Prop where
  fn : fnAt P a = some fd
  sco : fd.scope = sc
  gl : fd.globals = mainGlobals
  bi : fd.builtins = builtinsNs
  clo : fd.closure = []
  bod : fd.body = .stmts body
  cod : fd.code = .ref c
  ne : (c == (57 : Nat)) = false
  ne2 : (a == (57 : Nat)) = false
  fs : fieldsAt P c = some vs
  q : vs[1]? = some (.str fd.qualname t)
  bind : ∀ vals, vals.length = ps.length → bindArgs fd ⟨vals, []⟩ = pure (ps.zip vals)
  ok : okFun sc = true
  par : ps.all (fun x => isStored (sc.names.lookup x)) = true
theorem fnIs_of {w : World} {h0 : Heap} (KX : (cap.heap_1 w.params).In h0) {a : Addr} {sc : Scope} {ps : List Str'} {body : List Stmt} {fd : FuncData} {c : Addr} {vs : Array Value} {t : Tok} (K : Chk w.params a sc ps body fd c vs t) : FnIs (ZP w h0) a sc ps body (.ref c) := by
  refine x1_2 (fnAt_in KX K.fn) fun o ho hf => ?_
  refine x1_2 (fieldsAt_in KX K.fs) fun oc hoc hvs => ?_
  refine ⟨K.ok, ⟨o, fd, ho, hf, K.sco, K.gl, K.bi, K.clo, K.bod, K.cod, ⟨c, oc, vs, t, K.cod, ?_, hoc, hvs, K.q⟩, K.bind⟩, ?_, fun x hx => List.all_eq_true.mp K.par x hx⟩
  · intro e
    have := K.ne
    rw [show (c : Nat) = 57 from e] at this
    exact absurd this (by decide)
  · intro e
    have := K.ne2
    rw [show (a : Nat) = 57 from e] at this
    exact absurd this (by decide)
noncomputable def theBody : List Stmt := PySem.Challenge.pw_ij0022_01.main.body
structure FnP where
  name : Str'
  ps : List Str'
  body : List Stmt
  sc : Scope
noncomputable def fnP (k : Nat) : FnP := match theBody.getD k (.Pass ⟨0, 0, 0, 0⟩) with
  | .FunctionDef n args body _ _ _ scope _ _ _ => ⟨n, (paramsOf args).getD [], body, scope⟩
  | _ => ⟨Str.empty, [], [], ⟨.module, [], false, false, []⟩⟩
noncomputable def tokOf : Option Value → Tok
  | some (.str _ t) => t
  | _ => default
theorem len0 {Q : List Value → Prop} (h : Q []) : ∀ vals : List Value, vals.length = 0 → Q vals := fun vals e => List.eq_nil_of_length_eq_zero e ▸ h
theorem lenS {n : Nat} {Q : List Value → Prop} (h : ∀ a (vals : List Value), vals.length = n → Q (a :: vals)) (vals : List Value) (e : vals.length = n + 1) : Q vals := by
  cases vals with
  | nil => exact absurd e (Nat.succ_ne_zero n).symm
  | cons a l => exact h a l (Nat.succ.inj e)
theorem len1 {Q : List Value → Prop} (h : ∀ a, Q [a]) : ∀ vals : List Value, vals.length = 1 → Q vals := lenS fun a => len0 (Q := fun l => Q (a :: l)) (h a)
theorem len2 {Q : List Value → Prop} (h : ∀ a b, Q [a, b]) : ∀ vals : List Value, vals.length = 2 → Q vals := lenS fun a => len1 (Q := fun l => Q (a :: l)) (h a)
theorem len3 {Q : List Value → Prop} (h : ∀ a b c, Q [a, b, c]) : ∀ vals : List Value, vals.length = 3 → Q vals := lenS fun a => len2 (Q := fun l => Q (a :: l)) (h a)
theorem len4 {Q : List Value → Prop} (h : ∀ a b c d, Q [a, b, c, d]) : ∀ vals : List Value, vals.length = 4 → Q vals := lenS fun a => len3 (Q := fun l => Q (a :: l)) (h a)
noncomputable def Binds (fd : FuncData) (ps : List Str') (vals : List Value) : Prop := bindArgs fd ⟨vals, []⟩ = pure (ps.zip vals)
theorem mk_chk {P : Params} {a c : Addr} {k : Nat} (h : (fnAt P a).isSome = true) (h2 : (fieldsAt P c).isSome = true) (e1 : ((fnAt P a).get h).scope = (fnP k).sc) (e2 : ((fnAt P a).get h).globals = mainGlobals) (e3 : ((fnAt P a).get h).builtins = builtinsNs)
    (e4 : ((fnAt P a).get h).closure = []) (e5 : ((fnAt P a).get h).body = .stmts (fnP k).body) (e6 : ((fnAt P a).get h).code = .ref c) (e7 : ((c == (57 : Nat)) || (a == (57 : Nat))) = false) (e8 : ((fieldsAt P c).get h2)[1]? = some (.str ((fnAt P a).get h).qualname (tokOf ((fieldsAt P c).get h2)[1]?)))
    (e9 : ∀ vals, vals.length = (fnP k).ps.length → Binds ((fnAt P a).get h) (fnP k).ps vals) (e10 : (okFun (fnP k).sc && (fnP k).ps.all (fun x => isStored ((fnP k).sc.names.lookup x))) = true) :
    ∃ fd c vs t, Chk P a (fnP k).sc (fnP k).ps (fnP k).body fd c vs t := by
  have e7' := Bool.or_eq_false_iff.mp e7
  have e10' := Bool.and_eq_true_iff.mp e10
  exact ⟨_, c, _, _, ⟨(Option.some_get h).symm, e1, e2, e3, e4, e5, e6, e7'.1, e7'.2, (Option.some_get h2).symm, e8, e9, e10'.1, e10'.2⟩⟩
theorem chk_things (P : Params) : ∃ fd c vs t, Chk P 83 (fnP 13).sc (fnP 13).ps (fnP 13).body fd c vs t :=
  mk_chk (c := 82) (by kernel_rfl) (by kernel_rfl) (by kernel_rfl) (by kernel_rfl) (by kernel_rfl) (by kernel_rfl) (by kernel_rfl) (by kernel_rfl) (by kernel_rfl) (by kernel_rfl) (len1 (Q := Binds _ _) fun v => by unfold Binds; kernel_rfl) (by kernel_rfl)
end Mine
namespace Mine
open PySem PySem.W PyProof.Rows PySem.SeqAt
theorem chk_translate (P : Params) : ∃ fd c vs t, Chk P 43 (fnP 3).sc (fnP 3).ps (fnP 3).body fd c vs t :=
  mk_chk (c := 42) (by kernel_rfl) (by kernel_rfl) (by kernel_rfl) (by kernel_rfl) (by kernel_rfl) (by kernel_rfl) (by kernel_rfl) (by kernel_rfl) (by kernel_rfl) (by kernel_rfl) (len1 (Q := Binds _ _) fun v0 => by unfold Binds; kernel_rfl) (by kernel_rfl)
theorem chk_escape (P : Params) : ∃ fd c vs t, Chk P 55 (fnP 6).sc (fnP 6).ps (fnP 6).body fd c vs t :=
  mk_chk (c := 54) (by kernel_rfl) (by kernel_rfl) (by kernel_rfl) (by kernel_rfl) (by kernel_rfl) (by kernel_rfl) (by kernel_rfl) (by kernel_rfl) (by kernel_rfl) (by kernel_rfl) (len1 (Q := Binds _ _) fun v0 => by unfold Binds; kernel_rfl) (by kernel_rfl)
theorem chk_utranslate (P : Params) : ∃ fd c vs t, Chk P 62 (fnP 8).sc (fnP 8).ps (fnP 8).body fd c vs t :=
  mk_chk (c := 61) (by kernel_rfl) (by kernel_rfl) (by kernel_rfl) (by kernel_rfl) (by kernel_rfl) (by kernel_rfl) (by kernel_rfl) (by kernel_rfl) (by kernel_rfl) (by kernel_rfl) (len3 (Q := Binds _ _) fun v0 v1 v2 => by unfold Binds; kernel_rfl) (by kernel_rfl)
theorem chk_join (P : Params) : ∃ fd c vs t, Chk P 69 (fnP 9).sc (fnP 9).ps (fnP 9).body fd c vs t :=
  mk_chk (c := 68) (by kernel_rfl) (by kernel_rfl) (by kernel_rfl) (by kernel_rfl) (by kernel_rfl) (by kernel_rfl) (by kernel_rfl) (by kernel_rfl) (by kernel_rfl) (by kernel_rfl) (len2 (Q := Binds _ _) fun v0 v1 => by unfold Binds; kernel_rfl) (by kernel_rfl)
theorem chk_rgb (P : Params) : ∃ fd c vs t, Chk P 76 (fnP 11).sc (fnP 11).ps (fnP 11).body fd c vs t :=
  mk_chk (c := 75) (by kernel_rfl) (by kernel_rfl) (by kernel_rfl) (by kernel_rfl) (by kernel_rfl) (by kernel_rfl) (by kernel_rfl) (by kernel_rfl) (by kernel_rfl) (by kernel_rfl) (len3 (Q := Binds _ _) fun v0 v1 v2 => by unfold Binds; kernel_rfl) (by kernel_rfl)
theorem chk_items (P : Params) : ∃ fd c vs t, Chk P 90 (fnP 14).sc (fnP 14).ps (fnP 14).body fd c vs t :=
  mk_chk (c := 89) (by kernel_rfl) (by kernel_rfl) (by kernel_rfl) (by kernel_rfl) (by kernel_rfl) (by kernel_rfl) (by kernel_rfl) (by kernel_rfl) (by kernel_rfl) (by kernel_rfl) (len3 (Q := Binds _ _) fun v0 v1 v2 => by unfold Binds; kernel_rfl) (by kernel_rfl)
theorem chk_piece (P : Params) : ∃ fd c vs t, Chk P 97 (fnP 15).sc (fnP 15).ps (fnP 15).body fd c vs t :=
  mk_chk (c := 96) (by kernel_rfl) (by kernel_rfl) (by kernel_rfl) (by kernel_rfl) (by kernel_rfl) (by kernel_rfl) (by kernel_rfl) (by kernel_rfl) (by kernel_rfl) (by kernel_rfl) (len1 (Q := Binds _ _) fun v0 => by unfold Binds; kernel_rfl) (by kernel_rfl)
theorem chk_read (P : Params) : ∃ fd c vs t, Chk P 104 (fnP 16).sc (fnP 16).ps (fnP 16).body fd c vs t :=
  mk_chk (c := 103) (by kernel_rfl) (by kernel_rfl) (by kernel_rfl) (by kernel_rfl) (by kernel_rfl) (by kernel_rfl) (by kernel_rfl) (by kernel_rfl) (by kernel_rfl) (by kernel_rfl) (len1 (Q := Binds _ _) fun v0 => by unfold Binds; kernel_rfl) (by kernel_rfl)
theorem chk_fits (P : Params) : ∃ fd c vs t, Chk P 111 (fnP 17).sc (fnP 17).ps (fnP 17).body fd c vs t :=
  mk_chk (c := 110) (by kernel_rfl) (by kernel_rfl) (by kernel_rfl) (by kernel_rfl) (by kernel_rfl) (by kernel_rfl) (by kernel_rfl) (by kernel_rfl) (by kernel_rfl) (by kernel_rfl) (len3 (Q := Binds _ _) fun v0 v1 v2 => by unfold Binds; kernel_rfl) (by kernel_rfl)
theorem chk_takes (P : Params) : ∃ fd c vs t, Chk P 118 (fnP 18).sc (fnP 18).ps (fnP 18).body fd c vs t :=
  mk_chk (c := 117) (by kernel_rfl) (by kernel_rfl) (by kernel_rfl) (by kernel_rfl) (by kernel_rfl) (by kernel_rfl) (by kernel_rfl) (by kernel_rfl) (by kernel_rfl) (by kernel_rfl) (len2 (Q := Binds _ _) fun v0 v1 => by unfold Binds; kernel_rfl) (by kernel_rfl)
theorem chk_told (P : Params) : ∃ fd c vs t, Chk P 123 (fnP 19).sc (fnP 19).ps (fnP 19).body fd c vs t :=
  mk_chk (c := 122) (by kernel_rfl) (by kernel_rfl) (by kernel_rfl) (by kernel_rfl) (by kernel_rfl) (by kernel_rfl) (by kernel_rfl) (by kernel_rfl) (by kernel_rfl) (by kernel_rfl) (len1 (Q := Binds _ _) fun v0 => by unfold Binds; kernel_rfl) (by kernel_rfl)
theorem chk_scales (P : Params) : ∃ fd c vs t, Chk P 130 (fnP 20).sc (fnP 20).ps (fnP 20).body fd c vs t :=
  mk_chk (c := 129) (by kernel_rfl) (by kernel_rfl) (by kernel_rfl) (by kernel_rfl) (by kernel_rfl) (by kernel_rfl) (by kernel_rfl) (by kernel_rfl) (by kernel_rfl) (by kernel_rfl) (len1 (Q := Binds _ _) fun v0 => by unfold Binds; kernel_rfl) (by kernel_rfl)
theorem chk_order (P : Params) : ∃ fd c vs t, Chk P 135 (fnP 21).sc (fnP 21).ps (fnP 21).body fd c vs t :=
  mk_chk (c := 134) (by kernel_rfl) (by kernel_rfl) (by kernel_rfl) (by kernel_rfl) (by kernel_rfl) (by kernel_rfl) (by kernel_rfl) (by kernel_rfl) (by kernel_rfl) (by kernel_rfl) (len4 (Q := Binds _ _) fun v0 v1 v2 v3 => by unfold Binds; kernel_rfl) (by kernel_rfl)
theorem chk_rows (P : Params) : ∃ fd c vs t, Chk P 140 (fnP 22).sc (fnP 22).ps (fnP 22).body fd c vs t :=
  mk_chk (c := 139) (by kernel_rfl) (by kernel_rfl) (by kernel_rfl) (by kernel_rfl) (by kernel_rfl) (by kernel_rfl) (by kernel_rfl) (by kernel_rfl) (by kernel_rfl) (by kernel_rfl) (len1 (Q := Binds _ _) fun v0 => by unfold Binds; kernel_rfl) (by kernel_rfl)
theorem chk_law (P : Params) : ∃ fd c vs t, Chk P 145 (fnP 23).sc (fnP 23).ps (fnP 23).body fd c vs t :=
  mk_chk (c := 144) (by kernel_rfl) (by kernel_rfl) (by kernel_rfl) (by kernel_rfl) (by kernel_rfl) (by kernel_rfl) (by kernel_rfl) (by kernel_rfl) (by kernel_rfl) (by kernel_rfl) (len1 (Q := Binds _ _) fun v0 => by unfold Binds; kernel_rfl) (by kernel_rfl)
theorem main_ne : ¬ ((mainGlobals : Addr) = (57 : Nat)) := by decide
theorem bi_ne : ¬ ((builtinsNs : Addr) = (57 : Nat)) := by decide
theorem st_ne : ¬ ((cStatics : Addr) = (57 : Nat)) := by decide
noncomputable def gloOf {w : World} {h0 : Heap} {p : Program} {loose : List Str'} {mean : ExcName → Option Value} {mg mb : Str' → Option Value} (T : Top p loose mean mg mb h0) : Glo (ZP w h0) where
  mg := mg
  mb := mb
  nsg := T.g
  nsb := T.b
  nolimit_of := fun {h} k => let ⟨mc, h1, h2⟩ := T.nolimit; ⟨mc, h1.at' fun o e => k _ o st_ne e, h2⟩
  tg := main_ne
  tb := bi_ne
  ts := st_ne
theorem val_bi {w : World} {h0 : Heap} {p : Program} {loose : List Str'} {mean : ExcName → Option Value} {mg mb : Str' → Option Value} (KX : (cap.heap_1 w.params).In h0) (T : Top p loose mean mg mb h0) {x : Str'} {v : Value}
    (h1 : gval w.params x = none) (h2 : x ≠ "__name__") (h3 : bootBuiltins x = some v) : (gloOf (w := w) T).val x v :=
  .inr ⟨(gval_eq KX T.g x).trans h1, (T.builtins x h2).trans h3⟩
theorem val_fn {w : World} {h0 : Heap} {p : Program} {loose : List Str'} {mean : ExcName → Option Value} {mg mb : Str' → Option Value} (KX : (cap.heap_1 w.params).In h0) (T : Top p loose mean mg mb h0) {x : Str'} {v : Value}
    (h1 : gval w.params x = some v) : (gloOf (w := w) T).val x v := .inl ((gval_eq KX T.g x).trans h1)
theorem bi_ok {w : World} {h0 : Heap} {p : Program} {loose : List Str'} {mean : ExcName → Option Value} {mg mb : Str' → Option Value} (KX : (cap.heap_1 w.params).In h0) (T : Top p loose mean mg mb h0) : BiOk (gloOf (w := w) T) where
  len := val_bi KX T (by kernel_rfl) (by decide) (by kernel_rfl)
  chr := val_bi KX T (by kernel_rfl) (by decide) (by kernel_rfl)
  sorted := val_bi KX T (by kernel_rfl) (by decide) (by kernel_rfl)
  isinstance := val_bi KX T (by kernel_rfl) (by decide) (by kernel_rfl)
  int := val_bi KX T (by kernel_rfl) (by decide) (by kernel_rfl)
  range := val_bi KX T (by kernel_rfl) (by decide) (by kernel_rfl)
  zip := val_bi KX T (by kernel_rfl) (by decide) (by kernel_rfl)
  tuple := val_bi KX T (by kernel_rfl) (by decide) (by kernel_rfl)
  float := val_bi KX T (by kernel_rfl) (by decide) (by kernel_rfl)
  str := val_bi KX T (by kernel_rfl) (by decide) (by kernel_rfl)
end Mine
namespace Mine
open PySem PySem.W PyProof.Rows PySem.SeqAt
theorem oldK_of {w : World} {s₁ s' : Shared} (k : Kp (ZP w s₁.heap) s₁ s') (hT9 : TabsAt [(61, 57)] s₁.heap) : OldK s₁.heap s'.heap := by
  refine x0_2 (hT9 (61, 57) (by simp)) fun C h57 => ?_
  have hJ : J57 s'.heap := k.J ⟨#[], h57, trivial⟩
  refine x1_2 hJ fun ps h' _ => ?_
  refine ⟨fun b o e => ?_, fun b o e => ?_⟩
  · by_cases hb : b = (57 : Nat)
    · subst hb
      rw [h57] at e; cases e
      refine .inr (.inl ⟨?_, rfl, #[], ps, rfl, ?_⟩)
      · obtain ⟨o, vs, file, tf, flags, tg, inF, text, tt, e1, e2, e3, e4, _⟩ := C
        exact ⟨61, o, vs, e1, e2, e3, e4⟩
      · rw [h']; simp
    · exact .inl (k.keep b o hb e)
  · by_cases hb : b = (57 : Nat)
    · subst hb; exact ⟨_, h'⟩
    · exact ⟨o, k.keep b o hb e⟩
theorem good_of {w : World} {s₀ s₁ s' : Shared} {ns : List Int} (k : Kp (ZP w s₁.heap) s₁ s') (hT9 : TabsAt [(61, 57)] s₁.heap) (hg : s₁.gens = #[]) :
    GoodWG PySem.Challenge.rw_ij0022_01.row.claim (classAt s₀.heap) (ExcName.means s₀.heap) [ofPy (PyData.list (ns.map PyData.int))] s₁ (.ok (.ret (.bool true))) s' :=
  ⟨.inl ⟨_, _, [], rfl, fun _ => rfl, ReadsW.bool true, by kernel_rfl, fun _ => ⟨List.nodup_nil, fun _ hm => (nomatch hm)⟩⟩, oldK_of k hT9, k.os, k.gens (by rw [hg]; exact AllBare.empty)⟩
theorem ints_at {h : Heap} {X : Addr → Prop} : ∀ {vs : List Value} {ns : List Int}, IntsAre vs ns → Ats h X vs (ns.map .int)
  | _, _, .nil => Ats.nil
  | _, _, .cons n t r => Ats.cons (at_int.mpr ⟨_, rfl⟩) (ints_at r)
end Mine
namespace Mine
open PySem PySem.W PyProof.Rows PySem.SeqAt
structure Mk (w : World) (h0 : Heap) (G : Glo (ZP w h0)) : Prop where
  code : CodeHd h0 61 57
  bm : ∃ bm ob, G.mg "__builtins__" = some (.ref bm) ∧ bm ≠ builtinsNs ∧ bm ≠ (57 : Nat) ∧ h0.get? bm = some ob ∧ ob.cls = .type "module" ∧ ob.dict = some builtinsNs ∧ ob.data = .plain
section
variable {w : World} {h0 : Heap} {X : Addr → Prop} {A : Around} {G : Glo (ZP w h0)}
theorem codeHd_at {s : Shared} (hC : CodeHd h0 61 57) (S : St (ZP w h0) X s) : CodeHd s.heap 61 57 := by
  obtain ⟨o, vs, file, tf, flags, tg, inF, text, tt, e, r⟩ := hC
  exact ⟨o, vs, file, tf, flags, tg, inF, text, tt, S.base _ _ (show ¬ ((61 : Nat) = 57) by decide) e, r⟩
theorem genCode {s : Shared} {env : Env} {pos : Pos} {qual : Str'} {scope : Scope} {Q : Value → Shared → Prop} (M : Mk w h0 G) (S : St (ZP w h0) X s) (hcode : env.code = .ref 61)
    (h : ∀ cv s', Kp (ZP w h0) s s' → s'.gens = s.gens → s.heap.objs.size ≤ s'.heap.objs.size → Q cv s') : wpAny (model (ZP w h0).prog w) A (genexprCode env pos qual scope) Q (fun _ _ => False) s := by
  refine x1_2 (S.J) fun ps hP ht => ?_
  have C := codeHd_at M.code S
  cases hf : codeAmong pos ps.toList with
  | some cv => exact wpAny_genexprCode_hit hcode (C.code hP ht) hf (h _ _ (Kp.refl s) rfl (Nat.le_refl _))
  | none =>
    refine wpAny_genexprCodeX hcode (C.code hP ht) (C.tab hP) hf fun c' h' tk hx hge hlt hcd _ htab _ => ?_
    refine h _ _ ⟨rfl, id, fun b o n e => hx b o n e, fun _ => ?_⟩ rfl (Nat.le_trans hge (Nat.le_of_lt hlt))
    obtain ⟨o, vs, file, tf, flags, tg, inF, text, tt, op, _, _, _, _, _, _, _, _, _, ht', _⟩ := hcd
    exact ⟨_, htab.2, ht'⟩
theorem builtins_for {s : Shared} {g r : Addr} {Q : Addr → Shared → Prop} (M : Mk w h0 G) (S : St (ZP w h0) X s) (hg : g = mainGlobals) (h : Q builtinsNs s) : wpAny (model (ZP w h0).prog w) A (builtinsFor g r) Q (fun _ _ => False) s := by
  refine x2_7 (M.bm) fun bm ob h1 h2 h3 h4 h5 h6 h7 => ?_
  subst hg
  exact wpAny_builtinsFor (G.nsg.at' fun o => S.base _ o G.tg) h1 h2 (S.base _ _ h3 h4) h5 h6 h7 h
noncomputable def okGen (gs : Scope) (v : Str') : Bool :=
  (gs.kind == .function) && (!gs.isCoroutine) && (gs.names.all fun p => !(p.2 == .cell) && !(p.2 == .free)) && (gs.names.lookup (".0" : Str') == some NameKind.local) && (gs.names.lookup v == some NameKind.local) && !(v == ("__debug__" : Str'))
structure GenSc (gs : Scope) (v : Str') : Prop where
  kind : gs.kind = .function
  cor : gs.isCoroutine = false
  cell : ∀ y ∈ gs.names, y.2 ≠ .cell
  free : ∀ y ∈ gs.names, y.2 ≠ .free
  z : gs.names.lookup (".0" : Str') = some NameKind.local
  lv : gs.names.lookup v = some NameKind.local
  nd : (v == ("__debug__" : Str')) = false
theorem gen_sc {gs : Scope} {v : Str'} (h : okGen gs v = true) : GenSc gs v := by
  unfold okGen at h
  simp only [Bool.and_eq_true, Bool.not_eq_true', List.all_eq_true] at h
  obtain ⟨⟨⟨⟨⟨h1, h2⟩, h3⟩, h4⟩, h5⟩, h6⟩ := h
  refine ⟨eq_of_beq h1, h2, fun y hy e => ?_, fun y hy e => ?_, eq_of_beq h4, eq_of_beq h5, h6⟩
  · have := (h3 y hy).1
    rw [e] at this; cases this
  · have := (h3 y hy).2
    rw [e] at this; cases this
noncomputable def noOcc (x y : Str') : Bool := (Builtin.Str.occurrences x y 0 x.length (x.length + 1)).isEmpty
noncomputable def strV : V → Option Str'
  | .d a => sGet a
  | _ => none
noncomputable def strsV : List V → Option (List Str')
  | [] => some []
  | w :: r => (strV w).bind fun x => (strsV r).map fun l => x :: l
theorem strV_inv {w : V} {x : Str'} (h : strV w = some x) : w = .d (.str x) := by
  cases w with
  | d a => rw [sGet_inv h]
  | _ => exact ofNone h
theorem rep_const {s : Shared} {env : Env} {o : Expr} {ap pos : Pos} {x a b : Str'} {k1 k2 : Nat} {c1 c2 : Pos} {prog : Program} {w' : World} {E : Value → Shared → Prop} {Q : Value → Shared → Prop} (hb : okBase o = true) (hl : (ap.endLine == pos.line) = true) (hn : noOcc x a = true)
    (ho : wpAny (model prog w') A (eval o env) (fun v s' => ∃ t, v = .str x t ∧ ∀ tk t', Q (.str x t') { s' with toks := tk }) E s) :
    wpAny (model prog w') A (eval (.Call (.Attribute o (Str.ofString "replace") ap) [.Constant (.str a) k1 c1, .Constant (.str b) k2 c2] [] pos) env) Q E s := by
  refine wpAny_Call_method (T := "str") (id := "str.replace") (base_of hb) rfl hl PySem.F.plainAttrs_str PySem.F.slot_str_replace PySem.F.type_str_replace ?_
  refine wpAny_mono ho (fun ov s1 h1 => ?_) fun _ _ f => f
  refine x1_2 h1 fun t hr1 hQ => ?_; subst hr1
  refine ⟨typeIs_str _ _ _, (fun a e => by cases e), ?_⟩
  refine PySem.Calls.callWith_builtin rfl (PySem.Calls.evalArgs_plain (PySem.Calls.spliced_cons ?_))
  refine wpAny_Constant_str (k := k1) (pos := c1) (PySem.Calls.spliced_cons (wpAny_Constant_str (k := k2) (pos := c2) (PySem.Calls.spliced_nil ?_)))
  unfold noOcc at hn
  refine call_gives PySem.F.slot_str_replace (typeIs_str _ _ _) PySem.F.entry_str_replace (PySem.F.args_str_replace_3 _ _ _) (gives_str_replace x a b t _ _ (fun hf => by rw [hn] at hf; cases hf)) ?_
  rw [hn, if_pos (by rfl)]
  exact hQ _ t
end
end Mine
namespace Mine
open PySem PySem.W PyProof.Rows PySem.SeqAt
theorem strsV_len : ∀ {l : List V} {xs : List Str'}, strsV l = some xs → xs.length = l.length
  | [], xs, h => by cases h; rfl
  | w :: r, xs, h => bnd h fun x _ h => mpd h fun l hl h => h ▸ congrArg (· + 1) (strsV_len hl)
theorem strsV_get : ∀ {l : List V} {xs : List Str'} {h : Heap} {X : Addr → Prop} {ι : List Addr} {vs : List Value} {i : Nat} {v : Value}, strsV l = some xs → VAts h X ι vs l → vs[i]? = some v → ∃ t, v = .str (xs.getD i "") t ∧ xs[i]? = some (xs.getD i "")
  | [], xs, h, X, ι, vs, i, v, e, a, hv => by
    cases vs with
    | nil => exact ofNone hv
    | cons _ _ => exact a.elim
  | w :: r, xs, h, X, ι, vs, i, v, e, a, hv => by
    refine bnd e fun x hx e => mpd e fun l hl hF => ?_
    have hx := strV_inv hx
    subst hx hF
    cases vs with
    | nil => exact ofNone hv
    | cons u us =>
      cases i with
      | zero =>
        cases hv
        obtain ⟨t, rfl, _⟩ := at_strI (show At h X v (.str x) from a.1)
        exact ⟨t, rfl, rfl⟩
      | succ j =>
        refine x1_2 (strsV_get (i := j) hl a.2 hv) fun t h1 h2 => ?_
        exact ⟨t, h1, h2⟩
section
variable {w : World} {h0 : Heap} {X0 : Addr → Prop} {A : Around} {G : Glo (ZP w h0)} {ι : List Addr} {s : Shared} {env : Env} {sc : Scope} {as : AS} {L : Nat}
theorem passing_true_all (n : Nat) : passing (fun _ => true) n 0 = List.range n := by
  unfold passing
  simp
theorem list_iter {la : Addr} {vs : Array Value} {Q : Value → Shared → Prop} (hl : s.heap.IsList la vs) (h : ∀ s2, Kp (ZP w h0) s s2 → s2.gens = s.gens → s2.heap.IsListIter s.heap.objs.size la 0 → s2.heap.IsList la vs → s2.heap.objs.size = s.heap.objs.size + 1 → Q (.ref s.heap.objs.size) s2) :
    wpAny (model (ZP w h0).prog w) A (pyIter (.ref la)) Q (fun _ _ => False) s :=
  wpAny_pyIter_list hl (h _ (Kp.push _) rfl ⟨_, Heap.get?_push_size _ rfl, rfl, rfl⟩ (hl.push _) (Heap.size_push ..))
theorem join_stmt {x v y sep a b c d : Str'} {xp p0 ap vp yp gp pos p vp2 ap1 ap2 p1 p2 c1 c2 c3 c4 : Pos} {k0 k1 k2 k3 k4 k : Nat} {gs : Scope} {l : List V} {xs : List Str'} (M : Mk w h0 G) (Rm : Room L A) (F : FOk (ZP w h0) X0 ι s env sc as) (hcode : env.code = .ref 61)
    (hx : stored sc x = true) (hy : stored sc y = true) (hl : (ap.endLine == pos.line) = true) (hl1 : (ap1.endLine == p1.line) = true) (hl2 : (ap2.endLine == p2.line) = true) (hgs : okGen gs v = true) (hsep : sep.length ≤ LIM)
    (hg : as.get y = some (.p k)) (hk : as.hp[k]? = some l) (hxs : strsV l = some xs) (hno : xs.all (fun x => noOcc x a && noOcc x c) = true) (hj : JoinOk sep xs = true) (hlen : (Txt.join sep xs).length ≤ LIM) :
    wpAny (model (ZP w h0).prog w) A (exec (.Assign [.Name x xp] (.Call (.Attribute (.Constant (.str sep) k0 p0) (Str.ofString "join") ap)
      [.GeneratorExp (.Call (.Attribute (.Call (.Attribute (.Name v vp2) (Str.ofString "replace") ap1) [.Constant (.str a) k1 c1, .Constant (.str b) k2 c2] [] p1) (Str.ofString "replace") ap2) [.Constant (.str c) k3 c3, .Constant (.str d) k4 c4] [] p2)
        [⟨.Name v vp, .Name y yp, [], 0⟩] gs gp] [] pos) p) env) (fun fl s' => XPost (ZP w h0) X0 ι env sc s (.next, as.set x (.d (.str (Txt.join sep xs)))) fl s') (fun _ _ => False) s := by
  have S := gen_sc hgs
  refine wpAny_Assign_Name ?_
  refine wpAny_Call_method (T := "str") (id := "str.join") rfl rfl hl PySem.F.plainAttrs_str PySem.F.slot_str_join PySem.F.type_str_join ?_
  refine wpAny_Constant_str ?_
  refine ⟨typeIs_str _ _ _, (fun a e => by cases e), ?_⟩
  refine PySem.Calls.callWith_builtin rfl (PySem.Calls.evalArgs_plain (PySem.Calls.spliced_cons ?_))
  have kt : Kp (ZP w h0) s { s with toks := s.toks + 1 } := Kp.tok
  have F1 := F.kp kt
  generalize hs1 : ({ s with toks := s.toks + 1 } : Shared) = s1 at kt F1
  have hroom : A.depth < recursionLimit := by have := Rm.dp; lia
  refine wpAny_GeneratorExp_walksQD (cl := []) Rm.hd S.cor (closureFor_none S.free) S.cell S.z S.lv S.kind hroom ?_ (fun _ => rfl)
  refine F1.name hy hg (by intro q; cases q) fun yv hv => ?_
  refine x1_2 hv fun la hka hr2 => ?_; subst hr2
  refine x1_3 (F1.lst k la l hka hk) fun vs h3 h4 h5 => ?_
  have hitem : ∀ i val, vs[i]? = some val → ∃ t, val = .str (xs.getD i "") t ∧ xs[i]? = some (xs.getD i "") := fun i val hv => strsV_get hxs h4 (by rw [Array.getElem?_toList]; exact hv)
  have hvsz : vs.size = xs.length := by rw [← Array.length_toList, h4.length, strsV_len hxs]
  have hlalt : la < s1.heap.objs.size := by obtain ⟨n, e⟩ := h3; exact Heap.lt_size e
  have hla57 : la ≠ (57 : Nat) := F1.wsT la (.inr (List.mem_of_getElem? hka))
  refine list_iter h3.isList fun s2 k2 hgen2 hit2 hl2' hsz2 => ?_
  have F2 := F1.kp k2
  refine ⟨st_noLimit G F2.st, genCode M F2.st hcode fun cv s3 k3 hg3 hsz3 => builtins_for M (F2.kp k3).st F.fr.en.gl ?_⟩
  have F3 := F2.kp k3
  have hI57 : s1.heap.objs.size ≠ (57 : Nat) := fun e => by
    refine x1_1 (F1.st.live 57 (.inl (F1.tx 57 rfl))) fun o ho => ?_
    have := Heap.lt_size ho
    rw [e] at this; exact Nat.lt_irrefl _ this
  have hlt2 : s1.heap.objs.size < s2.heap.objs.size := by rw [hsz2]; exact Nat.lt_succ_self _
  have hst3 : s3.heap.IsListIter s1.heap.objs.size la 0 ∧ s3.heap.IsList la vs := ⟨hit2.at fun o => k3.keep _ o hI57, hl2'.at fun o => k3.keep _ o hla57⟩
  refine ⟨s1.heap.objs.size, [s1.heap.objs.size, la], [s1.heap.objs.size], vs.size, (fun i v => vs[i]? = some v), (fun i h => h.IsListIter s1.heap.objs.size la i ∧ h.IsList la vs), (fun _ => true), (fun i y => ∃ t, y = .str (xs.getD i "") t), rfl,
    (fun A' hA => Walks.list hA _ _ (Nat.ne_of_lt hlalt) vs), hst3, ?_, st_noLimit G F3.st, ?_, fun href hhref => ⟨?_, ?_⟩, ?_⟩
  · intro q hq
    rcases List.mem_cons.mp hq with rfl | hq
    · exact Nat.lt_of_lt_of_le hlt2 hsz3
    · rw [List.mem_singleton.mp hq]; exact Nat.lt_of_lt_of_le (Nat.lt_trans hlalt hlt2) hsz3
  · intro hm
    have e := List.mem_singleton.mp hm
    obtain ⟨mc, ⟨o, es, ep, ho, _⟩, _⟩ := st_noLimit G F1.st
    have := Heap.lt_size ho
    rw [e] at this; exact Nat.lt_irrefl _ this
  · intro A' E' i val q m₂ _ _ _ _ _ _ _
    exact wpAny_pure ⟨rfl, q.heap, q.toks, rfl, fun _ _ e => e⟩
  · intro A' E' i val q m₂ hh' hdep huni hP _ hn hm hkp
    refine x1_2 (hitem i val hP) fun t hr1 hxi => ?_; subst hr1
    have hn2 := List.all_eq_true.mp hno _ (List.mem_of_getElem? hxi)
    rw [Bool.and_eq_true] at hn2
    refine rep_const rfl hl2 hn2.2 (rep_const rfl hl1 hn2.1 ?_)
    refine wpAny_Name (wpAny_loadName_local S.kind S.lv hn hm ?_) S.nd
    refine ⟨t, rfl, fun tk t' => ⟨t', rfl, fun tk2 t2 => ⟨⟨t2, rfl⟩, ?_⟩⟩⟩
    exact ⟨q.heap, tk2, rfl, fun _ _ e => e⟩
  · intro ga h₅ tk gs' hgb hag hsz₅ hk₅ W hat
    have W2 := W.in4_2
    refine PySem.Calls.spliced_nil ?_
    show wpAny _ A (call (.builtin "str.join") [.str sep s.toks, .ref ga]) _ _ _
    refine SC.joinGen W2 (fun i s' st => st.1.typeIs) hat ?_ List.mem_cons_self (fun j y hv => let ⟨i, _, t, e⟩ := hv; ⟨_, t, e⟩) (fun s6 lt hm hacc => ?_) ?_
    · intro q hq
      show q < h₅.objs.size
      rw [hsz₅]
      rcases List.mem_cons.mp hq with rfl | hq
      · exact Nat.lt_succ_self _
      · rcases List.mem_cons.mp hq with rfl | hq
        · exact Nat.lt_succ_of_lt hag
        · exact Nat.lt_succ_of_lt (Nat.lt_trans (List.mem_range.mp hq) hag)
    · have hlx : lt.map (·.1) = xs := by
        rw [passing_true_all] at hacc
        have hsz : lt.length = xs.length := by
          have := hacc.1
          simp [strValues] at this
          rw [this, hvsz]
        apply List.ext_getElem?
        intro j
        by_cases hj : j < xs.length
        · have hj' : j < lt.length := by rw [hsz]; exact hj
          obtain ⟨i, hi, t, e⟩ := hacc.2 j (.str lt[j].1 lt[j].2) (by simp [strValues, List.getElem?_eq_getElem hj'])
          rw [List.getElem?_range (by rw [hvsz]; exact hj)] at hi
          cases hi
          injection e with e1 _
          simp [List.getElem?_eq_getElem hj', List.getElem?_eq_getElem hj, e1]
        · rw [List.getElem?_eq_none (by simpa [hsz] using Nat.le_of_not_lt hj), List.getElem?_eq_none (Nat.le_of_not_lt hj)]
      rw [hlx]
      refine ⟨hj, fun t' kk => ?_⟩
      have hn57 : (57 : Nat) ∉ (s3.heap.objs.size :: [s1.heap.objs.size]) := fun hm => by
        rcases List.mem_cons.mp hm with e | hm
        · refine x1_1 (F3.st.live 57 (.inl (F3.tx 57 rfl))) fun o ho => ?_
          have := Heap.lt_size ho
          rw [← e] at this; exact Nat.lt_irrefl _ this
        · exact hI57 (List.mem_singleton.mp hm).symm
      have kfin : Kp (ZP w h0) s1 { s6 with toks := kk } := by
        refine ⟨?_, fun g => ?_, fun b o nb e => ?_, fun j => ?_⟩
        · exact hm.os.trans (k3.os.trans k2.os)
        · have g1 : AllBare s3.gens := by rw [hg3, hgen2]; exact g
          show AllBare s6.gens
          exact AllBare.movedS (show AllBare _ from g1.push hgb) hm
        · have e3 := k3.keep b o nb (k2.keep b o nb e)
          refine hm.heap b o (fun hmem => ?_) (hk₅ b o e3)
          rcases List.mem_cons.mp hmem with q | hmem
          · have := Heap.lt_size e3
            rw [q] at this; exact Nat.lt_irrefl _ this
          · have := Heap.lt_size e
            rw [List.mem_singleton.mp hmem] at this; exact Nat.lt_irrefl _ this
        · refine x1_2 (k3.J (k2.J j)) fun ps e1 e2 => ?_
          exact ⟨ps, hm.heap _ _ hn57 (hk₅ _ _ e1), e2⟩
      have F6 := F1.kp kfin
      exact set_name (w := .d (.str (Txt.join sep xs))) (chg_kp (kt.trans kfin) F.st.J) F6 hx (at_str (h := s6.heap) (X := XS X0 env sc ι) |>.mpr ⟨⟨t', rfl⟩, hlen⟩)
    · rw [passing_true_all, List.length_range, hvsz, strsV_len hxs]; exact lim_size h5
end
end Mine
namespace Mine
open PySem PySem.W PyProof.Rows PySem.SeqAt
noncomputable def driveN : Nat → Sre.M → Option Sre.M
  | 0, _ => none
  | k + 1, m => bif (m.runFor Builtin.Re.reTurnSteps).outcome.isSome then some (m.runFor Builtin.Re.reTurnSteps) else driveN k (m.runFor Builtin.Re.reTurnSteps)
noncomputable def failedOf (m : Sre.M) : Bool := match m.outcome with
  | some .failed => true
  | _ => false
noncomputable def constInt : Expr → Nat
  | .Constant (.int i) _ _ => i.toNat
  | _ => 0
noncomputable def reCode : Array Nat := match theBody.getD 2 (.Pass ⟨0, 0, 0, 0⟩) with
  | .Assign _ (.Call _ args _ _) _ => (match args.getD 2 (.Constant .none 0 ⟨0, 0, 0, 0⟩) with
    | .List es _ => (es.map constInt).toArray
    | _ => #[])
  | _ => #[]
noncomputable def reFails (x : Str') : Bool := match driveN 100 (Sre.forSearch reCode x.cps 1 0 x.cps.size false) with
  | some m => failedOf m
  | none => false
noncomputable def allStuff : List Str' := (List.range 6).flatMap fun l => (List.range 6).flatMap fun h => [⟨#[97 + l, 45, 97 + h]⟩, ⟨#[33, 97 + l, 45, 97 + h]⟩]
section
variable {M : Model} {A : Around} {E : Value → Shared → Prop} {s : Shared}
theorem drive_ok {Q : Sre.M → Shared → Prop} : ∀ (k turns : Nat) (m m' : Sre.M), k ≤ turns → driveN k m = some m' → Q m' s → wpAny M A (Builtin.Re.reDrive turns m) Q E s
  | 0, _, _, _, _, h, _ => by simp [driveN] at h
  | k + 1, turns, m, m', hle, h, hQ => by
    obtain ⟨t, rfl⟩ : ∃ t, turns = t + 1 := ⟨turns - 1, by lia⟩
    unfold driveN at h
    unfold Builtin.Re.reDrive
    cases ho : (m.runFor Builtin.Re.reTurnSteps).outcome.isSome with
    | true =>
      rw [ho] at h; cases h
      simp only [ho, if_true]
      exact wpAny_pure hQ
    | false =>
      rw [ho] at h
      simp only [ho, Bool.false_eq_true, if_false]
      exact wpAny_bind (wpAny_rule (drive_ok k t _ m' (by lia) h hQ))
theorem rules_ok {c : Nat → Bool} {Q : PUnit → Shared → Prop} (hQ : Q ⟨⟩ s) : ∀ (l : List Nat), wpAny M A (forIn l PUnit.unit fun i r => (do if c i = true then do rule (Sre.names.getD i ""); pure (.yield ⟨⟩) else pure (.yield ⟨⟩) : Sem (ForInStep PUnit))) Q E s
  | [] => wpAny_pure hQ
  | i :: l => by
    rw [List.forIn_cons]
    cases hc : c i with
    | true =>
      simp only [if_true]
      exact wpAny_bind (wpAny_bind (wpAny_rule (wpAny_pure (rules_ok hQ l))))
    | false =>
      simp only [Bool.false_eq_true, if_false]
      exact wpAny_bind (wpAny_pure (rules_ok hQ l))
theorem run_none {m m' : Sre.M} {Q : Option Sre.M → Shared → Prop} (h : driveN 100 m = some m') (hf : failedOf m' = true) (hQ : Q none s) : wpAny M A (Builtin.Re.reRunToEnd m) Q E s := by
  unfold Builtin.Re.reRunToEnd
  refine wpAny_bind (drive_ok 100 _ m m' (by decide) h ?_)
  refine wpAny_bind (rules_ok (c := fun i => m'.seen.has i) ?_ _)
  unfold failedOf at hf
  split at hf
  · rename_i ho
    rw [ho]
    exact wpAny_pure hQ
  · cases hf
end
theorem pa_re : PlainAttrs "re.Pattern" :=
  ⟨⟨"object.__getattribute__", by rw [typeLookup_type, builtinLookup_eq_fast]; kernel_rfl, by decide +kernel⟩, by rw [typeLookup_type, builtinLookup_eq_fast]; kernel_rfl⟩
theorem slot_re_sub : Slot "re.Pattern" "sub" "re.Pattern.sub" :=
  .of (owner := "re.Pattern") (n := "sub") (by rw [typeLookup_type, builtinLookup_eq_fast]; kernel_rfl) (by decide +kernel) (by decide +kernel) (by decide +kernel)
    (by first | exact .inl (by decide +kernel) | exact .inr (by decide +kernel)) (by rw [isSubtype_type]; kernel_rfl)
theorem type_re_sub : typeOf (.builtin "re.Pattern.sub") = pure (.type "method_descriptor") := by show builtinType _ = _; rw [builtinType_eq_fast]; kernel_rfl
theorem entry_re_sub : entryFor table "re.Pattern.sub" = some Builtin.«re.Pattern.sub» := entryFor_of_tree (by kernel_rfl)
theorem entry_re_loop : entryFor table "re.Pattern.sub.loop" = some Builtin.«re.Pattern.sub.loop» := entryFor_of_tree (by kernel_rfl)
theorem args_re_sub (a b c : Value) : argsOk "re.Pattern.sub" ⟨[a, b, c], []⟩ := by unfold argsOk; kernel_rfl
theorem quiet_re_loop {as : Args} : (Code.builtin "re.Pattern.sub.loop" as).quiet = true := Code.quiet_builtin _ (by decide +kernel)
theorem fn_call_lookup : typeLookup (.type "function") "__call__" = pure (some (.builtin "function.__call__")) := by rw [typeLookup_type, builtinLookup_eq_fast]; kernel_rfl
end Mine
namespace Mine
open PySem PySem.W PyProof.Rows PySem.SeqAt
structure PatAt (h : Heap) (a c : Addr) (code : Array Nat) : Prop where
  o : ∃ v0 v1 v3 v4, h.get? a = some { cls := .type "re.Pattern", data := .fields #[v0, v1, .int 1 0, v3, v4, .ref c, .int 0 0] }
  t : ∃ items n, h.get? c = some { cls := .type "tuple", data := .seq items n } ∧ items.map (fun v => (Builtin.Re.reRawOf v).toNat) = code
theorem ifF {α : Type} {M : Model} {A : Around} {E : Value → Shared → Prop} {s : Shared} {c : Bool} {a b : Sem α} {Q : α → Shared → Prop} (hc : c = false) (h : wpAny M A b Q E s) : wpAny M A (if c = true then a else b) Q E s := by
  subst hc; exact h
theorem ifT {α : Type} {M : Model} {A : Around} {E : Value → Shared → Prop} {s : Shared} {c : Bool} {a b : Sem α} {Q : α → Shared → Prop} (hc : c = true) (h : wpAny M A a Q E s) : wpAny M A (if c = true then a else b) Q E s := by
  subst hc; exact h
section
variable {prog : Program} {w : World} {A : Around} {E : Value → Shared → Prop} {s : Shared} {a c : Addr} {code : Array Nat}
theorem whole_target {x : Str'} {t : Tok} {Q : Builtin.Re.ReTarget → Shared → Prop} (hp : PatAt s.heap a c code) (hQ : Q { pattern := .ref a, string := .str x t, code := code, text := x.cps, kind := 0, groups := 1, pos := 0, lim := x.cps.size } s) :
    wpAny (model prog w) A (Builtin.Re.reWholeTarget (.ref a) (.str x t)) Q E s := by
  refine x4_1 (hp.o) fun v0 v1 v3 v4 ho => ?_
  refine x2_2 (hp.t) fun items n ht hi => ?_
  delta Builtin.Re.reWholeTarget
  refine wpAny_bind (wpAny_fieldsOf ho rfl ?_)
  refine wpAny_bind (wpAny_of_eq (a := (x.cps, 0)) rfl ?_)
  dsimp only
  refine ifF rfl (ifF rfl ?_)
  refine wpAny_bind (wpAny_of_eq (a := ()) rfl ?_)
  refine wpAny_bind ?_
  show wpAny _ _ (Builtin.Re.reRawItems (.ref c)) _ _ _
  delta Builtin.Re.reRawItems seqItems?
  refine wpAny_bind (wpAny_bind (wpAny_load ht ?_))
  refine wpAny_pure (wpAny_pure (wpAny_pure ?_))
  have e : Array.map (fun x => x.toNat) (Array.map Builtin.Re.reRawOf ((some items).getD #[])) = code := by
    rw [Array.map_map]; exact hi
  rw [e]
  exact hQ
theorem not_held {x : Str'} {t : Tok} {id : String} {Q : Unit → Shared → Prop} (hQ : Q () s) : wpAny (model prog w) A (Builtin.Re.reNotHeld id (.str x t)) Q E s := by
  have f1 : isSubtype (.type "str") (.type "bytearray") = pure false := by rw [isSubtype_type]; kernel_rfl
  have hT : s.TypeIs (.str x t) "str" := typeIs_str _ _ _
  repeat (any_goals (first | assumption | wp_step))
theorem sub_loop {x : Str'} {t : Tok} {f p : Addr} {m' : Sre.M} {R : Result → Shared → Prop} (hp : PatAt s.heap a c code) (hl : s.heap.PlainList p #[]) (hd : driveN 100 (Sre.forSearch code x.cps 1 0 x.cps.size false) = some m') (hf : failedOf m' = true)
    (hn : x.length ≤ LIM) (hR : ∀ t' h' tk, (∀ b o, b ≠ p → s.heap.get? b = some o → h'.get? b = some o) → R (.ok (.ret (.str x t'))) { s with heap := h', toks := tk }) :
    codeAny (model prog w) A (.builtin "re.Pattern.sub.loop" ⟨[.ref a, .str x t, .ref f, rawInt 1, rawInt 0, rawInt 0, rawInt 0, rawInt 0, .bool false, .ref p, .bool false], []⟩) R s := by
  refine codeAny_builtin entry_re_loop ?_
  delta Builtin.«re.Pattern.sub.loop»
  dsimp only [rawInt]
  refine wpAny_bind (whole_target hp ?_)
  dsimp only
  refine ifF rfl ?_
  refine wpAny_bind (ifF rfl (run_none hd hf ?_))
  dsimp only
  by_cases hx : x.cps.size = 0
  · have hx0 : x = ⟨#[]⟩ := by
      cases x with
      | mk cps => simp at hx; rw [hx]
    subst hx0
    rw [if_neg (by simp)]
    refine wpAny_bind ?_
    show wpAny _ _ (mkStr ⟨(#[] : Array Nat).extract 0 0⟩) _ _ _
    refine wpAny_mkStr ?_ (by decide)
    refine x1_1 hl fun n hl => ?_
    delta seqItems?
    refine wpAny_bind (wpAny_bind (wpAny_load hl (wpAny_pure ?_)))
    refine ifT rfl (wpAny_bind (wpAny_pure (ifF rfl (wpAny_pure ?_))))
    exact hR _ s.heap _ (fun _ _ _ e => e)
  · rw [if_pos (by simpa using Nat.pos_of_ne_zero hx)]
    have ex : (⟨x.cps.extract 0 x.cps.size⟩ : Str') = x := by cases x; simp
    have e0 : (⟨x.cps.extract 0 0⟩ : Str') = ⟨#[]⟩ := by simp
    refine wpAny_bind ?_
    show wpAny _ _ (mkStr ⟨x.cps.extract 0 x.cps.size⟩) _ _ _
    rw [ex]
    refine wpAny_mkStr ?_ (lim_size hn)
    refine x1_1 hl fun n hl => ?_
    refine wpAny_bind (wpAny_updateSeq hl rfl ?_ (Nat.zero_le _) (by show 1 ≤ sizeLine + 1; decide))
    refine wpAny_bind ?_
    show wpAny _ _ (mkStr ⟨x.cps.extract 0 0⟩) _ _ _
    rw [e0]
    refine wpAny_mkStr ?_ (by decide)
    have hl2 : (s.heap.update p (Obj.mapSeq fun y => y.push (.str x s.toks))).PlainList p #[.str x s.toks] := by
      refine ⟨n + 1, ?_⟩
      rw [Heap.get?_update_self _ hl (by rw [Obj.mapSeq_push_plain]; rfl), Obj.mapSeq_push_plain]
      rfl
    have hsame : Heap.SameBut p s.heap (s.heap.update p (Obj.mapSeq fun y => y.push (.str x s.toks))) := Heap.SameBut.update ..
    refine x1_1 hl2 fun n2 hl3 => ?_
    delta seqItems?
    refine wpAny_bind (wpAny_bind (wpAny_load hl3 (wpAny_pure ?_)))
    refine ifF rfl ?_
    refine wpAny_bind ?_
    show wpAny _ _ (call (.builtin "str.join") [.str ⟨#[]⟩ _, .ref p]) _ _ _
    refine join_list (ys := [x]) (Heap.PlainList.isList ⟨n2, hl3⟩) (.cons _ _ .nil) ?_ fun t' k => ifF rfl (wpAny_pure ?_)
    · have : x.length ≤ 1000000 := hn
      have e2 : (⟨#[]⟩ : Str').length = 0 := rfl
      simp only [List.map_cons, List.map_nil, List.sum_cons, List.sum_nil, List.length_cons, List.length_nil]
      rw [e2]
      lia
    · have ej : Txt.join ⟨#[]⟩ [x] = x := by cases x; rfl
      rw [ej]
      exact hR t' _ k fun b o nb e => (hsame.2 b nb).trans e
theorem re_sub {x : Str'} {t : Tok} {f : Addr} {of : Obj} {Q : Value → Shared → Prop} {m' : Sre.M} (hp : PatAt s.heap a c code) (hf : s.heap.get? f = some of) (hfc : of.cls = .type "function") (hd : driveN 100 (Sre.forSearch code x.cps 1 0 x.cps.size false) = some m') (hfa : failedOf m' = true)
    (hn : x.length ≤ LIM) (hQ : ∀ t' h' tk, (∀ b o, s.heap.get? b = some o → h'.get? b = some o) → Q (.str x t') { s with heap := h', toks := tk }) :
    wpAny (model prog w) A (call (.builtin "re.Pattern.sub") [.ref a, .ref f, .str x t]) Q E s := by
  have hTa : s.TypeIs (.ref a) "re.Pattern" := by obtain ⟨v0, v1, v3, v4, ho⟩ := hp.o; exact ⟨_, ho, rfl⟩
  have hTf : s.TypeIs (.ref f) "function" := ⟨_, hf, hfc⟩
  refine wpAny_call (codeAny_call_builtin slot_re_sub.plain entry_re_sub (slot_re_sub.check _ _ _ _ _ _ _ _ hTa (args_re_sub _ _ _) ?_))
  delta Builtin.«re.Pattern.sub» Builtin.Re.reSubstitute
  dsimp only
  refine wpAny_bind (wpAny_of_eq (a := [some (.ref f), some (.str x t), none]) (by first | rfl | kernel_rfl) ?_)
  dsimp only
  refine wpAny_bind (wpAny_pure ?_)
  refine wpAny_bind (wpAny_specialOf hTf fn_call_lookup ?_)
  refine ifT rfl (wpAny_bind (wpAny_pure (ifT rfl (wpAny_bind (wpAny_pure (wpAny_bind (wpAny_holding (whole_target hp ?_))))))))
  refine ifT rfl ?_
  refine wpAny_bind (not_held ?_)
  refine wpAny_bind (wpAny_newList ?_ (Nat.zero_le _))
  refine wpAny_pure ⟨quiet_re_loop, ?_⟩
  have keep : ∀ b o, s.heap.get? b = some o → (s.heap.push { cls := .type "list", data := .seq ([] : List Value).toArray }).get? b = some o := fun b o e => Heap.get?_push_of_some _ e
  have hp2 : PatAt (s.heap.push { cls := .type "list", data := .seq ([] : List Value).toArray }) a c code := by
    obtain ⟨⟨v0, v1, v3, v4, ho⟩, ⟨items, n, ht, hi⟩⟩ := hp
    exact ⟨⟨v0, v1, v3, v4, keep _ _ ho⟩, ⟨items, n, keep _ _ ht, hi⟩⟩
  refine sub_loop (s := { s with heap := s.heap.push { cls := .type "list", data := .seq ([] : List Value).toArray } }) hp2 ⟨_, Heap.get?_push_size _ rfl⟩ hd hfa hn fun t' h' tk hk => ?_
  exact hQ t' h' tk fun b o e => hk b o (Nat.ne_of_lt (Heap.lt_size e)) (keep b o e)
end
end Mine
namespace Mine
open PySem PySem.W PyProof.Rows PySem.SeqAt
section
variable {w : World} {h0 : Heap} {X X0 : Addr → Prop} {A : Around} {G : Glo (ZP w h0)} {ι : List Addr} {s : Shared} {env : Env} {sc : Scope} {as : AS} {L : Nat}
theorem builtinsAt {s : Shared} (M : Mk w h0 G) (S : St (ZP w h0) X s) : s.heap.BuiltinsAt G.mg 57 := by
  refine x2_7 (M.bm) fun bm ob h1 h2 h3 h4 h5 h6 h7 => ?_
  refine ⟨bm, ob, h1, h2, fun e => ?_, h3, S.base _ _ h3 h4, h5, h6, h7⟩
  refine x3_3 (G.nsg) fun o es ep ho hdd _ => ?_
  have h4' : (ZP w h0).h0.get? bm = some ob := h4
  rw [← e, h4'] at ho
  cases ho
  rw [h7] at hdd; cases hdd
theorem lam_eval {s : Shared} {params : Arguments} {body : Expr} {scope : Scope} {pos : Pos} {Q : Value → Shared → Prop} (M : Mk w h0 G) (S : St (ZP w h0) X s) (hcode : env.code = .ref 61) (hgl : env.globals = mainGlobals)
    (hdef : defaultsOf params env = ([], [])) (hfree : ∀ x ∈ scope.names, x.2 ≠ .free)
    (h : ∀ f s' o, Kp (ZP w h0) s s' → s'.heap.get? f = some o → o.cls = .type "function" → Q (.ref f) s') : wpAny (model (ZP w h0).prog w) A (eval (.Lambda params body scope pos) env) Q (fun _ _ => False) s := by
  refine kla_eval hdef ?_
  refine x1_2 (S.J) fun ps hP ht => ?_
  have C := codeHd_at M.code S
  have hg : s.heap.Ns mainGlobals G.mg := G.nsg.at' fun o => S.base _ o G.tg
  cases hf : codeAmong pos ps.toList with
  | some cv =>
    refine kla_makeFunctionHit (closureFor_none hfree) hgl hg hcode C hP ht hf (builtinsAt M S) fun ctv h' tk hk hsz => ?_
    have hk2 : ∀ b o, s.heap.get? b = some o → (h'.push { cls := .type "function", data := .func (kla_fn "<lambda>" (env.qual ++ "<lambda>") params body scope [] ((G.mg "__name__").getD .none) cv ctv) }).get? b = some o := fun b o e => Heap.get?_push_of_some _ (hk b o e)
    exact h _ _ _ (Kp.of_heap hk2) (Heap.get?_push_size _ rfl) rfl
  | none =>
    refine kla_makeFunction (closureFor_none hfree) hgl hg hcode C hP ht hf G.tg (builtinsAt M S) fun c' ctv h' tk hx hge hlt _ hP' => ?_
    refine h _ _ _ ⟨rfl, id, fun b o n e => Heap.get?_push_of_some _ (hx b o n e), fun _ => ?_⟩ (Heap.get?_push_size _ rfl) rfl
    refine ⟨_, Heap.get?_push_of_some _ hP', ?_⟩
    rw [show (ps ++ #[rawInt pos.line, rawInt pos.col, Value.ref c']).toList = ps.toList ++ [rawInt pos.line, rawInt pos.col, .ref c'] by simp]
    exact TriplesOk_snoc _ _ _ _ ht
theorem sub_stmt {x r y v : Str'} {xp rp ap lpos yp pos p : Pos} {largs : Arguments} {lbody : Expr} {lscope : Scope} {a c : Addr} (M : Mk w h0 G) (Rm : Room L A) (F : FOk (ZP w h0) X0 ι s env sc as) (hcode : env.code = .ref 61)
    (hx : stored sc x = true) (hy : stored sc y = true) (hl : (ap.endLine == pos.line) = true) (hr : AE.glob ⟨sc, []⟩ r = true) (hv : G.val r (.ref a)) (hpat : PatAt h0 a c reCode) (ha : a ≠ (57 : Nat)) (hc : c ≠ (57 : Nat))
    (hdef : ∀ env, defaultsOf largs env = ([], [])) (hfree : ∀ x ∈ lscope.names, x.2 ≠ .free) (hg : as.get y = some (.d (.str v))) (hre : reFails v = true) :
    wpAny (model (ZP w h0).prog w) A (exec (.Assign [.Name x xp] (.Call (.Attribute (.Name r rp) (Str.ofString "sub") ap) [.Lambda largs lbody lscope lpos, .Name y yp] [] pos) p) env) (fun fl s' => XPost (ZP w h0) X0 ι env sc s (.next, as.set x (.d (.str v))) fl s') (fun _ _ => False) s := by
  have patAt : ∀ {s' : Shared}, St (ZP w h0) X0 s' → PatAt s'.heap a c reCode := fun S => by
    obtain ⟨⟨v0, v1, v3, v4, ho⟩, ⟨items, n, ht, hi⟩⟩ := hpat
    exact ⟨⟨v0, v1, v3, v4, S.base _ _ ha ho⟩, ⟨items, n, S.base _ _ hc ht, hi⟩⟩
  refine wpAny_Assign_Name ?_
  refine wpAny_Call_method (T := "re.Pattern") (id := "re.Pattern.sub") rfl rfl hl pa_re slot_re_sub type_re_sub ?_
  have E0 : EnvOk (ZP w h0) X0 s.heap env ⟨sc, []⟩ := { F.fr.en with var := fun x d h => (look_nil h).elim }
  refine name_glob G F.st0 E0 hr hv ?_
  have hp0 := patAt F.st0
  refine ⟨by obtain ⟨⟨v0, v1, v3, v4, ho⟩, _⟩ := hp0; exact ⟨_, ho, rfl⟩, fun b e => by cases e; obtain ⟨⟨v0, v1, v3, v4, ho⟩, _⟩ := hp0; exact ⟨_, ho, rfl⟩, ?_⟩
  refine PySem.Calls.callWith_builtin rfl (PySem.Calls.evalArgs_plain (PySem.Calls.spliced_cons ?_))
  refine lam_eval M F.st0 hcode F.fr.en.gl (hdef env) hfree fun f s1 o k1 hf hfc => ?_
  have F1 := F.kp k1
  refine PySem.Calls.spliced_cons (F1.name hy hg (by intro q; cases q) fun yv hyv => PySem.Calls.spliced_nil ?_)
  obtain ⟨t, rfl, hlen⟩ := at_strI (show At s1.heap (XS X0 env sc ι) yv (.str v) from hyv)
  unfold reFails at hre
  cases hd : driveN 100 (Sre.forSearch reCode v.cps 1 0 v.cps.size false) with
  | none => rw [hd] at hre; cases hre
  | some m' =>
    rw [hd] at hre
    refine re_sub (patAt F1.st0) hf hfc hd hre hlen fun t' h' tk hk => ?_
    have k2 : Kp (ZP w h0) s1 { s1 with heap := h', toks := tk } := Kp.of_heap hk
    exact set_name (w := .d (.str v)) (chg_kp (k1.trans k2) F.st.J) (F1.kp k2) hx (at_str (h := h') (X := XS X0 env sc ι) |>.mpr ⟨⟨t', rfl⟩, hlen⟩)
end
end Mine
namespace Mine
open PySem PySem.W PyProof.Rows PySem.SeqAt
noncomputable def lacks (es : Array DictEntry) (c : Int) : Bool := es.all fun e => match e.key with
  | .int k _ => (e.hash == hashInt k) && !(k == c)
  | _ => false
theorem ifT' {α : Type} {M : Model} {A : Around} {E : Value → Shared → Prop} {s : Shared} {a b : Sem α} {Q : α → Shared → Prop} (h : wpAny M A a Q E s) : wpAny M A (if true = true then a else b) Q E s := h
section
variable {prog : Program} {w : World} {A : Around} {E : Value → Shared → Prop} {s : Shared}
theorem table_keep {d : Addr} {es : Array DictEntry} {ep : Nat} {c : Nat} {Q : Builtin.Str.Mapped → Shared → Prop} (hh : A.handled = none) (ho : s.heap.get? d = some { cls := .type "dict", data := .dict es ep }) (hd : (d == sysModules) = false) (hl : lacks es c = true)
    (hQ : ∀ h' tk, (∀ b o, s.heap.get? b = some o → h'.get? b = some o) → Q .keep { s with heap := h', toks := tk }) : wpAny (model prog w) A (Builtin.Str.tableLookup (.ref d) c) Q E s := by
  have hes := List.all_eq_true.mp (show es.toList.all _ = true by rw [Array.all_toList]; exact hl)
  have hm : ∀ tk, ({ s with toks := tk } : Shared).heap.MapOf (intKind prog w) d (fun k => findBy (intKind prog w).is es k) := fun tk => by
    refine ⟨_, es, ep, ho, ⟨rfl, rfl, rfl⟩, rfl, fun e he => ?_, fun k => rfl⟩
    have := hes e (Array.mem_toList_iff.mpr he)
    split at this
    · rename_i k t hk
      rw [Bool.and_eq_true] at this
      exact ⟨k, by rw [hk]; simp [intKind, Value.isInt], by simpa [intKind] using this.1⟩
    · cases this
  have hf : findBy (intKind prog w).is es (c : Int) = none := by
    unfold findBy
    rw [Option.map_eq_none_iff, Array.find?_eq_none]
    intro e he hk
    have := hes e (Array.mem_toList_iff.mpr he)
    split at this
    · rename_i k t hk2
      rw [Bool.and_eq_true] at this
      rw [hk2] at hk
      have e1 : k = (c : Int) := by
        have h1 : Value.isInt (c : Int) (.int k t) = true := by simpa [intKind] using hk
        have h2 : Value.isInt k (.int k t) = true := by simp [Value.isInt]
        exact (Value.isInt_inj _ _ _ h1 h2).symm
      have := this.2
      rw [e1] at this
      simp at this
    · cases this
  unfold Builtin.Str.tableLookup
  refine wpAny_bind (wpAny_attempt (wpAny_bind (wpAny_mkInt ?_)))
  refine wpAny_getItem_missing_of (knd := intKind prog w) (k := (c : Int)) (by simp [intKind, Value.isInt]) hd hh (hm (s.toks + 1)) hf fun h' e ne => ?_
  refine x2_3 (ne.there) fun ob t he hc _ => ?_
  have hT : ({ s with heap := h', toks := s.toks + 1 + 1 } : Shared).TypeIs (.ref e) "KeyError" := ⟨ob, he, hc⟩
  have f1 : isSubtype (.type "KeyError") (.type "LookupError") = pure true := by rw [isSubtype_type]; kernel_rfl
  dsimp only
  refine wpAny_bind (m := isInstance (.ref e) (.type "LookupError")) ?_
  unfold isInstance
  refine wpAny_bind (wpAny_typeOf hT (wpAny_of_eq f1 ?_))
  refine ifT' ?_
  exact wpAny_bind (wpAny_rule (wpAny_pure (hQ h' _ ne.keeps)))
theorem translate_one {d : Addr} {es : Array DictEntry} {ep : Nat} {c : Nat} {t : Tok} {Q : Value → Shared → Prop} (hh : A.handled = none) (ho : s.heap.get? d = some { cls := .type "dict", data := .dict es ep }) (hd : (d == sysModules) = false) (hl : lacks es c = true) (hc : c < 128)
    (hQ : ∀ h' tk t', (∀ b o, s.heap.get? b = some o → h'.get? b = some o) → Q (.str ⟨#[c]⟩ t') { s with heap := h', toks := tk }) : wpAny (model prog w) A (call (.builtin "str.translate") [.str ⟨#[c]⟩ t, .ref d]) Q E s := by
  refine wpAny_call (codeAny_call_builtin PySem.F.slot_str_translate.plain PySem.F.entry_str_translate (PySem.F.slot_str_translate.check _ _ _ _ _ _ _ _ (typeIs_str _ _ _) (PySem.F.args_str_translate_2 _ _) ?_))
  unfold Builtin.«str.translate»
  refine wpAny_bind (wpAny_of_eq (a := (.str ⟨#[c]⟩ t, ⟨#[c]⟩, .ref d)) (by first | rfl | kernel_rfl) ?_)
  dsimp only
  refine ifF rfl ?_
  refine wpAny_bind ?_
  rw [← Array.forIn_toList]
  show wpAny _ _ (forIn [c] _ _) _ _ _
  rw [List.forIn_cons]
  refine wpAny_bind ?_
  dsimp only
  refine ifF (by decide) ?_
  have hfast : (#[c].all fun x => decide (x < 128)) = true := by simp [hc]
  rw [hfast]
  refine ifT' ?_
  dsimp only [List.lookup]
  refine wpAny_bind (table_keep hh ho hd hl fun h' tk hk => ?_)
  dsimp only
  refine wpAny_pure ?_
  dsimp only
  rw [List.forIn_nil]
  refine wpAny_pure ?_
  dsimp only
  refine ifF (by decide) ?_
  show wpAny _ _ (do ret (← mkStr ⟨#[c]⟩)) _ _ _
  refine wpAny_bind (wpAny_mkStr ?_ (by show 1 ≤ sizeLine; decide))
  exact wpAny_pure (hQ h' _ _ hk)
end
end Mine
namespace Mine
open PySem PySem.W PyProof.Rows PySem.SeqAt
theorem mro_obj : mroOf (.type "object") = pure [.type "object"] := by rw [mroOf_type]; kernel_rfl
theorem lookup_obj_new : typeLookup (.type "object") "__new__" = pure (some (.builtin "object.__new__")) := by rw [typeLookup_type, builtinLookup_eq_fast]; kernel_rfl
theorem slot_obj_init : Slot "object" "__init__" "object.__init__" :=
  .of (owner := "object") (n := "__init__") (by rw [typeLookup_type, builtinLookup_eq_fast]; kernel_rfl) (by decide +kernel) (by decide +kernel) (by decide +kernel)
    (by first | exact .inl (by decide +kernel) | exact .inr (by decide +kernel)) (by rw [isSubtype_type]; kernel_rfl)
theorem called_obj : TypeCalled "object" "object.__new__" "object.__init__" :=
  ⟨by decide +kernel, by decide +kernel, ⟨_, _, mro_obj⟩, madeBy_type mro_obj lookup_obj_new (by decide +kernel), by decide +kernel, by rw [isSubtype_type]; kernel_rfl, slot_obj_init⟩
theorem typeCall_obj : checkTypeCall "object" ⟨[], []⟩ = pure () := by kernel_rfl
theorem newCall_obj : checkBuiltinCall "object.__new__" ⟨[.type "object"], []⟩ = pure () := by kernel_rfl
theorem initArgs_obj (obj : Value) : argsOk "object.__init__" ⟨[obj], []⟩ := by unfold argsOk; kernel_rfl
theorem new_meets : Meets (Builtin.«object.__new__» ⟨[.type "object"], []⟩) (fun A R s => R (.ok (.ret (.ref s.heap.objs.size))) { s with heap := s.heap.push { cls := .type "object", data := .plain } }) :=
  Meets.of_wp fun prog w A R s hs => by
    have f1 := called_obj.sub
    have f2 := called_obj.made
    have f3 : isSubtype (.type "type") (.type "type") = pure true := by rw [isSubtype_type]; kernel_rfl
    repeat (any_goals (first | assumption | wp_step))
    all_goals exact ⟨_, rfl, hs⟩
theorem init_meets (obj : Value) : Meets (Builtin.«object.__init__» ⟨[obj], []⟩) (fun _ R s => R (.ok (.ret .none)) s) := Meets.of_wp fun prog w A R s hs => wpAny_pure ⟨_, rfl, hs⟩
theorem call_object {prog : Program} {w : World} {A : Around} {E : Value → Shared → Prop} {s : Shared} {Q : Value → Shared → Prop} (hQ : Q (.ref s.heap.objs.size) { s with heap := s.heap.push { cls := .type "object", data := .plain } }) :
    wpAny (model prog w) A (call (.type "object") []) Q E s :=
  callType_meets called_obj typeCall_obj newCall_obj PySem.F.entry_object_new PySem.F.entry_object_init new_meets
    (Q₁ := fun v s' => v = .ref s.heap.objs.size ∧ s' = { s with heap := s.heap.push { cls := .type "object", data := .plain } }) ⟨rfl, rfl⟩
    fun obj s1 h => by
      obtain ⟨rfl, rfl⟩ := h
      exact ⟨⟨_, Heap.get?_push_size _ rfl, rfl⟩, initArgs_obj _, _, init_meets _, rfl, hQ⟩
section
variable {w : World} {h0 : Heap} {X0 : Addr → Prop} {A : Around} {G : Glo (ZP w h0)} {ι : List Addr} {s : Shared} {env : Env} {sc : Scope} {as : AS} {L : Nat}
theorem object_stmt {x f : Str'} {xp fp pos p : Pos} (F : FOk (ZP w h0) X0 ι s env sc as) (hx : stored sc x = true) (hf : AE.glob ⟨sc, []⟩ f = true) (hv : G.val f (.type "object")) :
    wpAny (model (ZP w h0).prog w) A (exec (.Assign [.Name x xp] (.Call (.Name f fp) [] [] pos) p) env) (fun fl s' => ∃ a, XPost (ZP w h0) X0 ι env sc s (.next, as.set x (.d (.obj a))) fl s') (fun _ _ => False) s := by
  refine wpAny_Assign_Name ?_
  have E0 : EnvOk (ZP w h0) X0 s.heap env ⟨sc, []⟩ := { F.fr.en with var := fun x d h => (look_nil h).elim }
  refine wpAny_Call_NameR (name_glob G F.st0 E0 hf hv ?_)
  refine PyProof.Rows.callWith_type rfl (PySem.evalArgs_none ?_)
  refine call_object ?_
  have k1 : Kp (ZP w h0) s { s with heap := s.heap.push { cls := .type "object", data := .plain } } := Kp.push _
  refine wpAny_mono (set_name (w := .d (.obj s.heap.objs.size)) (chg_kp k1 F.st.J) (F.kp k1) hx (at_obj.mpr ⟨rfl, F.st.fresh, _, Heap.get?_push_size _ rfl, rfl⟩)) (fun _ s' h => ⟨_, h⟩) fun _ _ f => f
end
end Mine
namespace Mine
open PySem PySem.W PyProof.Rows PySem.SeqAt
noncomputable def plainArgs (a : Arguments) : Bool := a.kwonlyargs.isEmpty && (a.kw_defaults.isEmpty && a.defaults.isEmpty)
noncomputable def guardB {α : Type} (b : Bool) (x : Option α) : Option α := bif b then x else none
noncomputable def constR (e : Expr) : Option {q : Const × Nat × Pos // e = .Constant q.1 q.2.1 q.2.2} := match e with
  | .Constant c k p => some ⟨(c, k, p), rfl⟩
  | _ => none
noncomputable def strR (c : Const) : Option {a : Str' // c = .str a} := match c with
  | .str a => some ⟨a, rfl⟩
  | _ => none
noncomputable def strC (e : Expr) : Option Str' := (constR e).bind fun q => (strR q.1.1).map fun a => a.1
noncomputable def genR (e : Expr) : Option {q : (Expr × List Comprehension × Scope) × Pos // e = .GeneratorExp q.1.1 q.1.2.1 q.1.2.2 q.2} := match e with
  | .GeneratorExp e cs gs p => some ⟨((e, cs, gs), p), rfl⟩
  | _ => none
noncomputable def genOf (e : Expr) : Option (Expr × List Comprehension × Scope) := (genR e).map fun q => q.1.1
noncomputable def lamR (e : Expr) : Option {q : Arguments × Expr × Scope × Pos // e = .Lambda q.1 q.2.1 q.2.2.1 q.2.2.2} := match e with
  | .Lambda a b ls p => some ⟨(a, b, ls, p), rfl⟩
  | _ => none
noncomputable def lamOf (e : Expr) : Option (Arguments × Scope) := (lamR e).map fun q => (q.1.1, q.1.2.2.1)
noncomputable def cmpOf (c : Comprehension) : Option (Str' × Str') := bif c.ifs.isEmpty && c.is_async == 0 then (nameOf c.target).bind fun v => (nameOf c.iter).map fun y => (v, y) else none
noncomputable def asgR (st : Stmt) : Option {q : (List Expr × Expr) × Pos // st = .Assign q.1.1 q.1.2 q.2} := match st with
  | .Assign ts e p => some ⟨((ts, e), p), rfl⟩
  | _ => none
noncomputable def asgOf (st : Stmt) : Option (List Expr × Expr) := (asgR st).map fun q => q.1.1
noncomputable def methC (e : Expr) : Option (Expr × Str' × Str' × Bool) := (callOf e).bind fun q => bif q.2.2.1 then (attrOf q.1).bind fun om => (two q.2.1).bind fun ab => (strC ab.1).bind fun a => (strC ab.2).map fun _ => (om.1, om.2.1, a, om.2.2.endLine == q.2.2.2.line) else none
noncomputable def joinSpec (sc : Scope) (x y v sep : Str') (m : Str') (ap pos : Pos) (gs : Scope) (elt : Expr) (as : AS) : Option AS :=
  (methC elt).bind fun m2 => (methC m2.1).bind fun m1 => (nameOf m1.1).bind fun v2 =>
    guardB (stored sc x && (stored sc y && ((m == Str.ofString "join") && ((ap.endLine == pos.line) && (m1.2.2.2 && (m2.2.2.2 && (okGen gs v && (decide (sep.length ≤ LIM) && ((v2 == v) && ((m1.2.1 == Str.ofString "replace") && (m2.2.1 == Str.ofString "replace"))))))))))) ((pGet (as.get y)).bind fun k =>
      (as.hp[k]?).bind fun l => (strsV l).bind fun xs => guardB (xs.all (fun x => noOcc x m1.2.2.1 && noOcc x m2.2.2.1) && (JoinOk sep xs && decide ((Txt.join sep xs).length ≤ LIM))) (some (as.set x (.d (.str (Txt.join sep xs))))))
noncomputable def subSpec (sc : Scope) (x y r : Str') (m : Str') (ap pos : Pos) (largs : Arguments) (ls : Scope) (as : AS) : Option AS :=
  guardB (stored sc x && (stored sc y && ((m == Str.ofString "sub") && ((ap.endLine == pos.line) && (AE.glob ⟨sc, []⟩ r && ((r == Str.ofString "_twin_re_1") && (plainArgs largs && (ls.names.all fun p => !(p.2 == .free))))))))) ((dGet (as.get y)).bind fun d => (sGet d).bind fun v => guardB (reFails v) (some (as.set x (.d (.str v)))))
noncomputable def specT (sc : Scope) : Spec := fun st as => (asgOf st).bind fun te => (one te.1).bind fun t => (nameOf t).bind fun x => (callOf te.2).bind fun q => bif q.2.2.1 then (attrOf q.1).bind fun om => (match strC om.1 with
  | some sep => (one q.2.1).bind fun g => (genOf g).bind fun ge => (one ge.2.1).bind fun c => (cmpOf c).bind fun vy => joinSpec sc x vy.2 vy.1 sep om.2.1 om.2.2 q.2.2.2 ge.2.2 ge.1 as
  | none => (nameOf om.1).bind fun r => (two q.2.1).bind fun ab => (lamOf ab.1).bind fun ll => (nameOf ab.2).bind fun y => subSpec sc x y r om.2.1 om.2.2 q.2.2.2 ll.1 ll.2 as) else none
theorem strC_inv {e : Expr} {a : Str'} (h : strC e = some a) : ∃ k p, e = .Constant (.str a) k p := bnd h fun q _ h => mpd h fun r _ h => ⟨q.1.2.1, q.1.2.2, by rw [← h, ← r.2]; exact q.2⟩
theorem genOf_inv {g e : Expr} {cs : List Comprehension} {gs : Scope} (h : genOf g = some (e, cs, gs)) : ∃ p, g = .GeneratorExp e cs gs p := mpd h fun q _ h2 => by
  obtain ⟨⟨q, p⟩, e⟩ := q
  cases h2; exact ⟨p, e⟩
theorem lamOf_inv {g : Expr} {a : Arguments} {ls : Scope} (h : lamOf g = some (a, ls)) : ∃ b p, g = .Lambda a b ls p := mpd h fun q _ h2 => by
  obtain ⟨⟨a, b, ls, p⟩, e⟩ := q
  cases h2; exact ⟨b, p, e⟩
theorem asgOf_inv {st : Stmt} {ts : List Expr} {e : Expr} (h : asgOf st = some (ts, e)) : ∃ p, st = .Assign ts e p := mpd h fun q _ h2 => by
  obtain ⟨⟨q, p⟩, e⟩ := q
  cases h2; exact ⟨p, e⟩
theorem cmpOf_inv {c : Comprehension} {q : Str' × Str'} (h : cmpOf c = some q) : ∃ vp yp, c = ⟨.Name q.1 vp, .Name q.2 yp, [], 0⟩ :=
  bfd h fun hc h => bnd h fun v hv h => mpd h fun y hy hF => by
    obtain ⟨t, i, fs, a⟩ := c
    refine x1_1 (nameOf_inv hv) fun vp hv => ?_
    refine x1_1 (nameOf_inv hy) fun yp hy => ?_
    have hc := Bool.and_eq_true_iff.mp hc
    have c1 : fs = [] := List.isEmpty_iff.mp hc.1
    have c2 : a = 0 := eq_of_beq hc.2
    exact ⟨vp, yp, by rw [c1, c2, ← hF, show t = _ from hv, show i = _ from hy]⟩
theorem methC_inv {e : Expr} {r : Expr × Str' × Str' × Bool} (h : methC e = some r) : ∃ ap k1 c1 b' k2 c2 p, e = .Call (.Attribute r.1 r.2.1 ap) [.Constant (.str r.2.2.1) k1 c1, .Constant (.str b') k2 c2] [] p ∧ (ap.endLine == p.line) = r.2.2.2 :=
  bnd h fun q hq h => bfd h fun hk h => bnd h fun om ho h => bnd h fun ab ht h => bnd h fun a hx h => mpd h fun b hy h => by
    refine x2_1 (strC_inv hx) fun k1 c1 hx => ?_
    refine x2_1 (strC_inv hy) fun k2 c2 hy => ?_
    refine ⟨om.2.2, k1, c1, b, k2, c2, q.2.2.2, ?_, by rw [← h]⟩
    rw [← h, callOf_inv (hq.trans (by rw [← hk])), attrOf_inv ho, two_inv ht, hx, hy]
theorem plain_args {a : Arguments} (h : plainArgs a = true) (env : Env) : defaultsOf a env = ([], []) := by
  have h1 := Bool.and_eq_true_iff.mp h
  have h2 := Bool.and_eq_true_iff.mp h1.2
  obtain ⟨p, q, r, k, kd, kw, d⟩ := a
  obtain rfl : k = [] := List.isEmpty_iff.mp h1.1
  obtain rfl : kd = [] := List.isEmpty_iff.mp h2.1
  obtain rfl : d = [] := List.isEmpty_iff.mp h2.2
  rfl
section
variable {w : World} {h0 : Heap} {G : Glo (ZP w h0)} {L : Nat}
theorem ba3 {c1 c2 c3 : Bool} {G : Prop} (h : (c1 && (c2 && c3)) = true) (k : c1 = true → c2 = true → c3 = true → G) : G := k (Bool.and_eq_true_iff.mp h).1 (Bool.and_eq_true_iff.mp (Bool.and_eq_true_iff.mp h).2).1 (Bool.and_eq_true_iff.mp (Bool.and_eq_true_iff.mp h).2).2
theorem ba8 {c1 c2 c3 c4 c5 c6 c7 c8 : Bool} {G : Prop} (h : (c1 && (c2 && (c3 && (c4 && (c5 && (c6 && (c7 && c8))))))) = true) (k : c1 = true → c2 = true → c3 = true → c4 = true → c5 = true → c6 = true → c7 = true → c8 = true → G) : G := k (Bool.and_eq_true_iff.mp h).1 (Bool.and_eq_true_iff.mp (Bool.and_eq_true_iff.mp h).2).1 (Bool.and_eq_true_iff.mp (Bool.and_eq_true_iff.mp (Bool.and_eq_true_iff.mp h).2).2).1 (Bool.and_eq_true_iff.mp (Bool.and_eq_true_iff.mp (Bool.and_eq_true_iff.mp (Bool.and_eq_true_iff.mp h).2).2).2).1 (Bool.and_eq_true_iff.mp (Bool.and_eq_true_iff.mp (Bool.and_eq_true_iff.mp (Bool.and_eq_true_iff.mp (Bool.and_eq_true_iff.mp h).2).2).2).2).1 (Bool.and_eq_true_iff.mp (Bool.and_eq_true_iff.mp (Bool.and_eq_true_iff.mp (Bool.and_eq_true_iff.mp (Bool.and_eq_true_iff.mp (Bool.and_eq_true_iff.mp h).2).2).2).2).2).1 (Bool.and_eq_true_iff.mp (Bool.and_eq_true_iff.mp (Bool.and_eq_true_iff.mp (Bool.and_eq_true_iff.mp (Bool.and_eq_true_iff.mp (Bool.and_eq_true_iff.mp (Bool.and_eq_true_iff.mp h).2).2).2).2).2).2).1 (Bool.and_eq_true_iff.mp (Bool.and_eq_true_iff.mp (Bool.and_eq_true_iff.mp (Bool.and_eq_true_iff.mp (Bool.and_eq_true_iff.mp (Bool.and_eq_true_iff.mp (Bool.and_eq_true_iff.mp h).2).2).2).2).2).2).2
theorem ba11 {c1 c2 c3 c4 c5 c6 c7 c8 c9 c10 c11 : Bool} {G : Prop} (h : (c1 && (c2 && (c3 && (c4 && (c5 && (c6 && (c7 && (c8 && (c9 && (c10 && c11)))))))))) = true) (k : c1 = true → c2 = true → c3 = true → c4 = true → c5 = true → c6 = true → c7 = true → c8 = true → c9 = true → c10 = true → c11 = true → G) : G := k (Bool.and_eq_true_iff.mp h).1 (Bool.and_eq_true_iff.mp (Bool.and_eq_true_iff.mp h).2).1 (Bool.and_eq_true_iff.mp (Bool.and_eq_true_iff.mp (Bool.and_eq_true_iff.mp h).2).2).1 (Bool.and_eq_true_iff.mp (Bool.and_eq_true_iff.mp (Bool.and_eq_true_iff.mp (Bool.and_eq_true_iff.mp h).2).2).2).1 (Bool.and_eq_true_iff.mp (Bool.and_eq_true_iff.mp (Bool.and_eq_true_iff.mp (Bool.and_eq_true_iff.mp (Bool.and_eq_true_iff.mp h).2).2).2).2).1 (Bool.and_eq_true_iff.mp (Bool.and_eq_true_iff.mp (Bool.and_eq_true_iff.mp (Bool.and_eq_true_iff.mp (Bool.and_eq_true_iff.mp (Bool.and_eq_true_iff.mp h).2).2).2).2).2).1 (Bool.and_eq_true_iff.mp (Bool.and_eq_true_iff.mp (Bool.and_eq_true_iff.mp (Bool.and_eq_true_iff.mp (Bool.and_eq_true_iff.mp (Bool.and_eq_true_iff.mp (Bool.and_eq_true_iff.mp h).2).2).2).2).2).2).1 (Bool.and_eq_true_iff.mp (Bool.and_eq_true_iff.mp (Bool.and_eq_true_iff.mp (Bool.and_eq_true_iff.mp (Bool.and_eq_true_iff.mp (Bool.and_eq_true_iff.mp (Bool.and_eq_true_iff.mp (Bool.and_eq_true_iff.mp h).2).2).2).2).2).2).2).1 (Bool.and_eq_true_iff.mp (Bool.and_eq_true_iff.mp (Bool.and_eq_true_iff.mp (Bool.and_eq_true_iff.mp (Bool.and_eq_true_iff.mp (Bool.and_eq_true_iff.mp (Bool.and_eq_true_iff.mp (Bool.and_eq_true_iff.mp (Bool.and_eq_true_iff.mp h).2).2).2).2).2).2).2).2).1 (Bool.and_eq_true_iff.mp (Bool.and_eq_true_iff.mp (Bool.and_eq_true_iff.mp (Bool.and_eq_true_iff.mp (Bool.and_eq_true_iff.mp (Bool.and_eq_true_iff.mp (Bool.and_eq_true_iff.mp (Bool.and_eq_true_iff.mp (Bool.and_eq_true_iff.mp (Bool.and_eq_true_iff.mp h).2).2).2).2).2).2).2).2).2).1 (Bool.and_eq_true_iff.mp (Bool.and_eq_true_iff.mp (Bool.and_eq_true_iff.mp (Bool.and_eq_true_iff.mp (Bool.and_eq_true_iff.mp (Bool.and_eq_true_iff.mp (Bool.and_eq_true_iff.mp (Bool.and_eq_true_iff.mp (Bool.and_eq_true_iff.mp (Bool.and_eq_true_iff.mp h).2).2).2).2).2).2).2).2).2).2
theorem joinSpec_ok {sc : Scope} (M : Mk w h0 G) {st : Stmt} {as as' : AS} {x v y sep m : Str'} {xp p0 ap vp yp gp pos p : Pos} {k0 : Nat} {gs : Scope} {elt : Expr} (hst : st = .Assign [.Name x xp] (.Call (.Attribute (.Constant (.str sep) k0 p0) m ap) [.GeneratorExp elt [⟨.Name v vp, .Name y yp, [], 0⟩] gs gp] [] pos) p)
    (h : joinSpec sc x y v sep m ap pos gs elt as = some as') {A : Around} {X0 : Addr → Prop} {ι : List Addr} {s : Shared} {env : Env} (hcv : env.code = .ref 61) (Rm : Room L A) (F : FOk (ZP w h0) X0 ι s env sc as) :
    wpAny (model (ZP w h0).prog w) A (exec st env) (fun fl s' => XPost (ZP w h0) X0 ι env sc s (.next, as') fl s') (fun _ _ => False) s := by
  refine bnd h fun q2 e2 h => bnd h fun q1 e1 h => bnd h fun v2 hv h => bfd h fun hc h => bnd h fun k hk h => bnd h fun l hl h => bnd h fun xs hx h => bfd h fun hd h => ba11 hc fun c1 c2 c3 c4 c5 c6 c7 c8 c9 c10 c11 => ba3 hd fun g1 g2 g3 => ?_
  refine x7_2 (methC_inv e2) fun ap2 k3 cc3 d k4 cc4 p2 r2 f2 => ?_
  refine x7_2 (methC_inv e1) fun ap1 k1 cc1 b k2 cc2 p1 r1 f1 => ?_
  refine x1_1 (nameOf_inv hv) fun vp2 hv => ?_
  rw [hst, r2, r1, hv, eq_of_beq c3, eq_of_beq c9, eq_of_beq c10, eq_of_beq c11, ← Option.some.inj h]
  exact join_stmt M Rm F hcv c1 c2 c4 (f1.trans c5) (f2.trans c6) c7 (of_decide_eq_true c8) (pGet_inv hk) hl hx g1 g2 (of_decide_eq_true g3)
theorem subSpec_ok {sc : Scope} {a c : Addr} (M : Mk w h0 G) (hv : G.val (Str.ofString "_twin_re_1") (.ref a)) (hpat : PatAt h0 a c reCode) (ha : a ≠ (57 : Nat)) (hc : c ≠ (57 : Nat)) {st : Stmt} {as as' : AS} {x y r m : Str'} {xp rp ap lpos yp pos p : Pos} {largs : Arguments} {lb : Expr} {ls : Scope}
    (hst : st = .Assign [.Name x xp] (.Call (.Attribute (.Name r rp) m ap) [.Lambda largs lb ls lpos, .Name y yp] [] pos) p) (h : subSpec sc x y r m ap pos largs ls as = some as') {A : Around} {X0 : Addr → Prop} {ι : List Addr} {s : Shared} {env : Env} (hcv : env.code = .ref 61) (Rm : Room L A) (F : FOk (ZP w h0) X0 ι s env sc as) :
    wpAny (model (ZP w h0).prog w) A (exec st env) (fun fl s' => XPost (ZP w h0) X0 ι env sc s (.next, as') fl s') (fun _ _ => False) s := by
  refine bfd h fun hc' h => bnd h fun d hd h => bnd h fun v hvv h => bfd h fun hre h => ba8 hc' fun c1 c2 c3 c4 c5 c6 c7 c8 => ?_
  rw [hst, eq_of_beq c3, eq_of_beq c6, ← Option.some.inj h]
  refine sub_stmt M Rm F hcv c1 c2 c4 (eq_of_beq c6 ▸ c5) hv hpat ha hc (plain_args c7) (fun q hq e => ?_) ((dGet_inv hd).trans (by rw [sGet_inv hvv])) hre
  have := List.all_eq_true.mp c8 q hq
  rw [e] at this; cases this
theorem specT_ok {sc : Scope} {a c : Addr} (M : Mk w h0 G) (hv : G.val (Str.ofString "_twin_re_1") (.ref a)) (hpat : PatAt h0 a c reCode) (ha : a ≠ (57 : Nat)) (hc : c ≠ (57 : Nat)) : SpecOk G L sc (specT sc) (.ref 61) := by
  intro st as as' h A X0 ι s env hcv Rm F
  refine bnd h fun te h1 h => bnd h fun t h2 h => bnd h fun x h3 h => bnd h fun q h4 h => bfd h fun h5 h => bnd h fun om h6 h => ?_
  refine x1_1 (asgOf_inv h1) fun p h1 => ?_
  refine x1_1 (nameOf_inv h3) fun xp h3 => ?_
  rw [one_inv h2, h3, callOf_inv (h4.trans (by rw [← h5])), attrOf_inv h6] at h1
  cases hs : strC om.1 with
  | some sep =>
    rw [hs] at h
    refine bnd h fun g h7 h => bnd h fun ge h8 h => bnd h fun c h9 h => bnd h fun vy h10 h => ?_
    refine x2_1 (strC_inv hs) fun k0 p0 ho => ?_
    refine x1_1 (genOf_inv h8) fun gp h8 => ?_
    refine x2_1 (cmpOf_inv h10) fun vp yp h10 => ?_
    rw [ho, one_inv h7, h8, one_inv h9, h10] at h1
    exact joinSpec_ok M h1 h hcv Rm F
  | none =>
    rw [hs] at h
    refine bnd h fun r h7 h => bnd h fun ab h8 h => bnd h fun ll h9 h => bnd h fun y h10 h => ?_
    refine x1_1 (nameOf_inv h7) fun rp h7 => ?_
    refine x2_1 (lamOf_inv h9) fun lb lp h9 => ?_
    refine x1_1 (nameOf_inv h10) fun yp h10 => ?_
    rw [h7, two_inv h8, h9, h10] at h1
    exact subSpec_ok M hv hpat ha hc h1 h hcv Rm F
noncomputable def noSpec : Spec := fun _ _ => none
theorem noSpec_ok {Z : Par} {G : Glo Z} {L : Nat} {sc : Scope} {cv : Value} : SpecOk G L sc noSpec cv := fun _ _ _ h => by cases h
end
noncomputable def ow : Str' → Bool := fun x => (x == Str.ofString "things") || (x == Str.ofString "items") || (x == Str.ofString "runs") || (x == Str.ofString "told") || (x == Str.ofString "res") || (x == Str.ofString "chunks") || (x == Str.ofString "fixed")
noncomputable def runF (Φ : Fns) (spec : Spec) (k : Nat) (ds : List D) : Option D := acall Φ (fnP k).sc ow spec 300 (fnP k).ps (fnP k).body ds
noncomputable def fEsc : List D → Option D
  | [.str ⟨⟨[c]⟩⟩] => bif decide (97 ≤ c) && decide (c ≤ 102) then some (.str ⟨#[c]⟩) else none
  | _ => none
end Mine
namespace Mine
open PySem PySem.W PyProof.Rows PySem.SeqAt
theorem Contract.mono {Z : Par} {L L' : Nat} {a : Addr} {φ : List D → Option D} (h : Contract Z L a φ) (hL : L ≤ L') : Contract Z L' a φ := by
  intro A X s vs ds d Rm
  exact h A X s vs ds d ⟨Rm.hd, by have := Rm.dp; lia, by have := Rm.un; lia⟩
theorem Contract.sub {Z : Par} {L : Nat} {a : Addr} {φ ψ : List D → Option D} (h : Contract Z L a φ) (hs : ∀ ds d, ψ ds = some d → φ ds = some d) : Contract Z L a ψ :=
  fun A X s vs ds d Rm S ha hd => h A X s vs ds d Rm S ha (hs ds d hd)
noncomputable def dictAt (P : Params) (a : Addr) : Option Obj := (cap.heap_1 P).lookup a
theorem map_lacks (P : Params) : ∃ es ep, dictAt P 45 = some { cls := .type "dict", data := .dict es ep } ∧ (List.range 6).all (fun (i : Nat) => lacks es ((97 + i : Nat) : Int)) = true := ⟨_, _, rfl, by decide +kernel⟩
theorem esc_shape : ∃ (t : Expr) (vp ap mp pos rp ip : Pos) (o : List Stmt), (fnP 6).body = [.If t [.Return (some (.Call (.Attribute (.Name (Str.ofString "pattern") vp) (Str.ofString "translate") ap) [.Name (Str.ofString "_special_chars_map") mp] [] pos)) rp] o ip] ∧
    (ap.endLine == pos.line) = true ∧ ∀ x : Str', trF (fun _ => none) (fnP 6).sc 5 t ⟨[(Str.ofString "pattern", .d (.str x))], []⟩ = some true :=
  ⟨_, _, _, _, _, _, _, _, rfl, rfl, fun x => by kernel_rfl⟩
theorem none_fns {Z : Par} {G : Glo Z} {L : Nat} : FnsOk G L (fun _ => none) := fun _ _ h => by cases h
section
variable {w : World} {h0 : Heap} {p : Program} {loose : List Str'} {mean : ExcName → Option Value} {mg mb : Str' → Option Value}
theorem esc_contract (KX : (cap.heap_1 w.params).In h0) (T : Top p loose mean mg mb h0) (L : Nat) : Contract (ZP w h0) (L + 1) 55 fEsc := by
  intro A X s vs ds d Rm S ha hd
  refine x4_1 (chk_escape w.params) fun fd c cvs t K => ?_
  have H := fnIs_of KX K
  unfold fEsc at hd
  split at hd
  · rename_i c0
    refine bfd hd ?_; clear hd; intro hb hd
    rw [← Option.some.inj hd]
    rw [Bool.and_eq_true, decide_eq_true_iff, decide_eq_true_iff] at hb
    obtain ⟨te, vp, ap, mp, pos, rp, ip, o, hbody, hline, htest⟩ := esc_shape
    refine x2_2 (map_lacks w.params) fun es ep he hlk => ?_
    have hlack : lacks es (c0 : Int) = true := by
      have := List.all_eq_true.mp hlk (c0 - 97) (by simp; lia)
      rw [show (97 + (c0 - 97) : Nat) = c0 by lia] at this
      exact this
    refine wpAny_call (codeAny_mono (fn_code_gen (G := gloOf T) (d := .str ⟨#[c0]⟩) H Rm S ha (as0 := ⟨[(Str.ofString "pattern", .d (.str ⟨#[c0]⟩))], []⟩) (by kernel_rfl) fun A' s1 env hcv Rm' F => ?_) fun r s' h => ?_)
    · rw [hbody]
      refine wpAny_execs_cons (wpAny_If (wpAny_mono (trF_sound (bi_ok KX T) none_fns Rm' F (htest _)) (fun b s2 h2 => ?_) fun _ _ f => f))
      refine x0_2 h2 fun hr0 k2 => ?_; subst hr0
      have F2 := F.kp k2
      rw [if_pos rfl]
      refine wpAny_execs_cons (wpAny_Return_some ?_)
      refine wpAny_Call_method (T := "str") (id := "str.translate") rfl rfl hline PySem.F.plainAttrs_str PySem.F.slot_str_translate PySem.F.type_str_translate ?_
      refine F2.name (by kernel_rfl) rfl (by intro q; cases q) fun v hv => ?_
      obtain ⟨t1, rfl, hlen⟩ := at_strI (show At s2.heap (XS X env (fnP 6).sc []) v (.str ⟨#[c0]⟩) from hv)
      refine ⟨typeIs_str _ _ _, (fun a e => by cases e), ?_⟩
      refine PySem.Calls.callWith_builtin rfl (PySem.Calls.evalArgs_plain (PySem.Calls.spliced_cons ?_))
      have E0 : EnvOk (ZP w h0) X s2.heap env ⟨(fnP 6).sc, []⟩ := { F2.fr.en with var := fun x d h => (look_nil h).elim }
      refine name_glob (gloOf T) F2.st0 E0 (by kernel_rfl) (val_fn KX T (v := .ref 45) (by kernel_rfl)) (PySem.Calls.spliced_nil ?_)
      refine translate_one Rm'.hd (F2.st0.base 45 _ (show ¬ ((45 : Nat) = 57) by decide) (KX 45 _ he)) (by decide) hlack (by lia) fun h' tk t' hk => ?_
      have k3 : Kp (ZP w h0) s2 { s2 with heap := h', toks := tk } := Kp.of_heap hk
      refine ⟨.ret (.str ⟨#[c0]⟩), ⟨[(Str.ofString "pattern", .d (.str ⟨#[c0]⟩))], []⟩, ⟨[], fun _ h => (nomatch h), chg_kp (k2.trans k3) F.st.J, ?_, ?_⟩, .inl rfl⟩
      · rw [List.append_nil]; exact F2.kp k3
      · exact at_str (h := h') (X := X) |>.mpr ⟨⟨t', rfl⟩, hlen⟩
    · obtain ⟨v, rfl, h⟩ := h
      exact h
  · exact ofNone hd
end
end Mine
namespace Mine
open PySem PySem.W PyProof.Rows PySem.SeqAt
theorem evF_strong {Φ : Fns} {sc : Scope} {n : Nat} {e : Expr} {s : AS} {d : D} (h : aeval Φ n e ⟨sc, frz s⟩ = some d) : evF Φ sc n e s = some d := by
  unfold evF; rw [h]
theorem evF_weak {Φ : Fns} {sc : Scope} {n : Nat} {e : Expr} {s : AS} {d : D} (h0 : aeval Φ n e ⟨sc, frz s⟩ = none) (h : aeval Φ n e ⟨sc, wk s⟩ = some d) (hp : plain d = true) : evF Φ sc n e s = some d := by
  unfold evF; rw [h0, h]; dsimp only; rw [hp]; rfl
noncomputable def stAt (l : List Stmt) (k : Nat) : Stmt := l.getD k (.Pass ⟨0, 0, 0, 0⟩)
noncomputable def rhsOf : Stmt → Expr
  | .Assign _ e _ => e
  | .AugAssign _ _ e _ => e
  | .Return (some e) _ => e
  | .Expr e _ => e
  | .If t _ _ _ => t
  | .While t _ _ _ => t
  | .For _ it _ _ _ => it
  | .Assert t _ _ => t
  | _ => .Constant .none 0 ⟨0, 0, 0, 0⟩
noncomputable def bodyOf : Stmt → List Stmt
  | .If _ b _ _ => b
  | .While _ b _ _ => b
  | .For _ _ b _ _ => b
  | _ => []
noncomputable def elseOf : Stmt → List Stmt
  | .If _ _ o _ => o
  | _ => []
noncomputable def T0 : Fns := fun _ => none
noncomputable def T1 : Fns := fun x => bif x == Str.ofString "escape" then some fEsc else bif x == Str.ofString "_law_piece" then some (runF T0 noSpec 15) else bif x == Str.ofString "_law_fits" then some (runF T0 noSpec 17) else
  bif x == Str.ofString "rgb_to_yiq" then some (runF T0 noSpec 11) else none
noncomputable def Ttr (f8 f9 : List D → Option D) : Fns := fun x => bif x == Str.ofString "_translate" then some f8 else bif x == Str.ofString "_join_translated_parts" then some f9 else none
theorem tr_eval {f8 f9 : List D → Option D} {P0 T0' : Str'} {a : Addr} {parts : D} (h8 : f8 [.str P0, .obj a, .str (Str.ofString ".")] = some parts) (h9 : f9 [parts, .obj a] = some (.str T0')) :
    ∃ as', aexecs (Ttr f8 f9) (fnP 3).sc ow noSpec 50 [stAt (fnP 3).body 1, stAt (fnP 3).body 2] ⟨[(Str.ofString "pat", .d (.str P0)), (Str.ofString "STAR", .d (.obj a)), (Str.ofString "parts", .un)], []⟩ = some (.ret (.str T0'), as') := by
  have e1 : aeval (Ttr f8 f9) 48 (rhsOf (stAt (fnP 3).body 1)) ⟨(fnP 3).sc, frz ⟨[(Str.ofString "pat", .d (.str P0)), (Str.ofString "STAR", .d (.obj a)), (Str.ofString "parts", .un)], []⟩⟩ = f8 [.str P0, .obj a, .str (Str.ofString ".")] := by kernel_rfl
  have e2 : aexec (Ttr f8 f9) (fnP 3).sc ow noSpec 49 (stAt (fnP 3).body 1) ⟨[(Str.ofString "pat", .d (.str P0)), (Str.ofString "STAR", .d (.obj a)), (Str.ofString "parts", .un)], []⟩ =
      (evF (Ttr f8 f9) (fnP 3).sc 48 (rhsOf (stAt (fnP 3).body 1)) ⟨[(Str.ofString "pat", .d (.str P0)), (Str.ofString "STAR", .d (.obj a)), (Str.ofString "parts", .un)], []⟩).map fun d => (.next, ⟨[(Str.ofString "pat", .d (.str P0)), (Str.ofString "STAR", .d (.obj a)), (Str.ofString "parts", .d d)], []⟩) := by kernel_rfl
  have e3 : aeval (Ttr f8 f9) 47 (rhsOf (stAt (fnP 3).body 2)) ⟨(fnP 3).sc, wk ⟨[(Str.ofString "pat", .d (.str P0)), (Str.ofString "STAR", .d (.obj a)), (Str.ofString "parts", .d parts)], []⟩⟩ = f9 [parts, .obj a] := by kernel_rfl
  have e4 : aexec (Ttr f8 f9) (fnP 3).sc ow noSpec 48 (stAt (fnP 3).body 2) ⟨[(Str.ofString "pat", .d (.str P0)), (Str.ofString "STAR", .d (.obj a)), (Str.ofString "parts", .d parts)], []⟩ =
      (aeval (Ttr f8 f9) 47 (rhsOf (stAt (fnP 3).body 2)) ⟨(fnP 3).sc, wk ⟨[(Str.ofString "pat", .d (.str P0)), (Str.ofString "STAR", .d (.obj a)), (Str.ofString "parts", .d parts)], []⟩⟩).map fun d => (.ret d, ⟨[(Str.ofString "pat", .d (.str P0)), (Str.ofString "STAR", .d (.obj a)), (Str.ofString "parts", .d parts)], []⟩) := by kernel_rfl
  rw [e3, h9] at e4
  rw [evF_strong (e1.trans h8)] at e2
  refine ⟨⟨[(Str.ofString "pat", .d (.str P0)), (Str.ofString "STAR", .d (.obj a)), (Str.ofString "parts", .d parts)], []⟩, ?_⟩
  dsimp only [aexecs]
  rw [e2]
  dsimp only [Option.map_some, Option.bind_some]
  rw [e4]
  rfl
theorem tr_shape : ∃ (xp fp pos p : Pos), (fnP 3).body = [.Assign [.Name (Str.ofString "STAR") xp] (.Call (.Name (Str.ofString "object") fp) [] [] pos) p, stAt (fnP 3).body 1, stAt (fnP 3).body 2] := ⟨_, _, _, _, rfl⟩
noncomputable def fT (P0 T0' : Str') : List D → Option D
  | [.str p] => if p = P0 then some (.str T0') else none
  | _ => none
section
variable {w : World} {h0 : Heap} {p : Program} {loose : List Str'} {mean : ExcName → Option Value} {mg mb : Str' → Option Value}
theorem fns_cons {Z : Par} {G : Glo Z} {L : Nat} {Φ : Fns} {f : Str'} {φ : List D → Option D} {a : Addr} {o : Obj} {fd : FuncData} (hv : G.val f (.ref a)) (ho : Z.h0.get? a = some o) (hT : ¬ Z.T a) (hd : o.data = .func fd) (hc : Contract Z L a φ) (h : FnsOk G L Φ) :
    FnsOk G L (fun x => bif x == f then some φ else Φ x) := by
  intro g ψ hg
  dsimp only at hg
  cases e : (g == f) with
  | true =>
    rw [e] at hg
    have : g = f := eq_of_beq e
    rw [this]
    rw [← Option.some.inj hg]
    exact ⟨a, o, fd, hv, ho, hT, hd, hc⟩
  | false =>
    rw [e] at hg
    exact h g ψ hg
theorem fn_facts {a : Addr} {sc : Scope} {ps : List Str'} {body : List Stmt} {fd : FuncData} {c : Addr} {vs : Array Value} {t : Tok} (KX : (cap.heap_1 w.params).In h0) (K : Chk w.params a sc ps body fd c vs t) :
    ∃ o, (ZP w h0).h0.get? a = some o ∧ ¬ (ZP w h0).T a ∧ o.data = .func fd := by
  refine x1_2 (fnAt_in KX K.fn) fun o ho hf => ?_
  exact ⟨o, ho, (fnIs_of KX K).nt, hf⟩
theorem run_contract (KX : (cap.heap_1 w.params).In h0) (T : Top p loose mean mg mb h0) {Φ : Fns} {L : Nat} (hΦ : FnsOk (gloOf (w := w) T) L Φ) {a : Addr} {k : Nat} (K : ∃ fd c vs t, Chk w.params a (fnP k).sc (fnP k).ps (fnP k).body fd c vs t) :
    Contract (ZP w h0) (L + 1) a (runF Φ noSpec k) := by
  refine x4_1 K fun fd c vs t K => ?_
  exact fn_contract (bi_ok KX T) hΦ noSpec_ok (fnIs_of KX K) 300 (fun ds d h => h)
theorem t1_ok (KX : (cap.heap_1 w.params).In h0) (T : Top p loose mean mg mb h0) : FnsOk (gloOf (w := w) T) 1 T1 := by
  have e1 := chk_escape w.params
  have e2 := chk_piece w.params
  have e3 := chk_fits w.params
  have e4 := chk_rgb w.params
  have c2 := run_contract KX T (none_fns (L := 0)) e2
  have c3 := run_contract KX T (none_fns (L := 0)) e3
  have c4 := run_contract KX T (none_fns (L := 0)) e4
  refine x4_1 e1 fun _ _ _ _ K1 => ?_
  refine x4_1 e2 fun _ _ _ _ K2 => ?_
  refine x4_1 e3 fun _ _ _ _ K3 => ?_
  refine x4_1 e4 fun _ _ _ _ K4 => ?_
  refine x1_3 (fn_facts KX K1) fun o1 a1 b1 d1 => ?_
  refine x1_3 (fn_facts KX K2) fun o2 a2 b2 d2 => ?_
  refine x1_3 (fn_facts KX K3) fun o3 a3 b3 d3 => ?_
  refine x1_3 (fn_facts KX K4) fun o4 a4 b4 d4 => ?_
  exact fns_cons (val_fn KX T (by kernel_rfl)) a1 b1 d1 (esc_contract KX T 0) (fns_cons (val_fn KX T (by kernel_rfl)) a2 b2 d2 c2 (fns_cons (val_fn KX T (by kernel_rfl)) a3 b3 d3 c3 (fns_cons (val_fn KX T (by kernel_rfl)) a4 b4 d4 c4 none_fns)))
theorem pat_at (KX : (cap.heap_1 w.params).In h0) : PatAt h0 36 35 reCode := by
  have e : ∃ v0 v1 v3 v4 items n, (cap.heap_1 w.params).lookup 36 = some { cls := .type "re.Pattern", data := .fields #[v0, v1, .int 1 0, v3, v4, .ref 35, .int 0 0] } ∧
      (cap.heap_1 w.params).lookup 35 = some { cls := .type "tuple", data := .seq items n } ∧ items.map (fun v => (Builtin.Re.reRawOf v).toNat) = reCode := ⟨_, _, _, _, _, _, rfl, rfl, by kernel_rfl⟩
  refine x6_3 e fun v0 v1 v3 v4 items n h1 h2 h3 => ?_
  exact ⟨⟨v0, v1, v3, v4, KX _ _ h1⟩, ⟨items, n, KX _ _ h2, h3⟩⟩
theorem mk_of (T : Top p loose mean mg mb h0) (hC : CodeHd h0 61 57) (h57 : h0.get? 57 = some (tabObj #[])) : Mk w h0 (gloOf T) := by
  refine x2_6 (T.bmain) fun bm ob h1 h2 h3 h4 h5 h6 => ?_
  refine ⟨hC, bm, ob, h1, h2, fun e => ?_, h3, h4, h5, h6⟩
  rw [show bm = (57 : Nat) from e, h57] at h3
  cases h3
  cases h4
theorem c8 (KX : (cap.heap_1 w.params).In h0) (T : Top p loose mean mg mb h0) (hC : CodeHd h0 61 57) (h57 : h0.get? 57 = some (tabObj #[])) : Contract (ZP w h0) 2 62 (runF T1 (specT (fnP 8).sc) 8) := by
  have e : ∃ fd vs t, Chk w.params 62 (fnP 8).sc (fnP 8).ps (fnP 8).body fd 61 vs t := by
    refine x4_1 (chk_utranslate w.params) fun fd c vs t K => ?_
    have hc : c = 61 := by
      have h1 : (fnAt w.params 62).map (fun fd => fd.code) = some (.ref 61) := by kernel_rfl
      rw [K.fn] at h1
      have h2 := K.cod
      simp only [Option.map_some, Option.some.injEq] at h1
      rw [h1] at h2
      injection h2 with h2
      exact h2.symm
    subst hc
    exact ⟨fd, vs, t, K⟩
  refine x3_1 e fun fd vs t K => ?_
  exact fn_contract (bi_ok KX T) (t1_ok KX T) (specT_ok (mk_of T hC h57) (val_fn KX T (by kernel_rfl)) (pat_at KX) (by decide) (by decide)) (fnIs_of KX K) 300 (fun ds d h => h)
theorem c3 (KX : (cap.heap_1 w.params).In h0) (T : Top p loose mean mg mb h0) (hC : CodeHd h0 61 57) (h57 : h0.get? 57 = some (tabObj #[])) {P0 T0' : Str'} 
    (hrun : ∀ a, ∃ parts, runF T1 (specT (fnP 8).sc) 8 [.str P0, .obj a, .str (Str.ofString ".")] = some parts ∧ runF T0 noSpec 9 [parts, .obj a] = some (.str T0')) : Contract (ZP w h0) 3 43 (fT P0 T0') := by
  intro A X s vs ds d Rm S ha hd
  refine x4_1 (chk_translate w.params) fun fd c cvs t K => ?_
  have H := fnIs_of KX K
  have hf8 := c8 KX T hC h57
  have hf9 : Contract (ZP w h0) 2 69 (runF T0 noSpec 9) := (run_contract KX T (none_fns (L := 0)) (chk_join w.params)).mono (by lia)
  have hΦ : FnsOk (gloOf (w := w) T) 2 (Ttr (runF T1 (specT (fnP 8).sc) 8) (runF T0 noSpec 9)) := by
    refine x4_1 (chk_utranslate w.params) fun _ _ _ _ K1 => ?_
    refine x4_1 (chk_join w.params) fun _ _ _ _ K2 => ?_
    refine x1_3 (fn_facts KX K1) fun o1 a1 b1 d1 => ?_
    refine x1_3 (fn_facts KX K2) fun o2 a2 b2 d2 => ?_
    exact fns_cons (val_fn KX T (by kernel_rfl)) a1 b1 d1 hf8 (fns_cons (val_fn KX T (by kernel_rfl)) a2 b2 d2 hf9 none_fns)
  unfold fT at hd
  split at hd
  · rename_i q
    split at hd
    · rename_i hq
      subst hq
      rw [← Option.some.inj hd]
      refine wpAny_call (codeAny_mono (fn_code_gen (G := gloOf T) (d := .str T0') H Rm S ha (as0 := ⟨[(Str.ofString "pat", .d (.str q)), (Str.ofString "STAR", .un), (Str.ofString "parts", .un)], []⟩) (by kernel_rfl) fun A' s1 env hcv Rm' F => ?_) fun r s' h => ?_)
      · refine x4_1 tr_shape fun xp fp pos pp hbody => ?_
        rw [hbody]
        refine wpAny_execs_cons (wpAny_mono (object_stmt F (by kernel_rfl) (by kernel_rfl) (val_bi KX T (by kernel_rfl) (by decide) (by kernel_rfl))) (fun fl s2 h2 => ?_) fun _ _ f => f)
        obtain ⟨a, κ, hκ, c2, F2, hf⟩ := h2
        have := flat_next hf; subst this
        refine x1_2 (hrun a) fun parts r8 r9 => ?_
        refine x1_1 (tr_eval r8 r9) fun as' hrest => ?_
        refine wpAny_mono ((body_sound (bi_ok KX T) hΦ noSpec_ok 50).2 _ _ _ hrest A' X ([] ++ κ) s2 env hcv Rm' F2) (fun fl s3 h3 => ?_) fun _ _ f => f
        exact ⟨_, as', xpost_trans F.st.J hκ c2 h3, .inl rfl⟩
      · obtain ⟨v, rfl, h⟩ := h
        exact h
    · exact ofNone hd
  · exact ofNone hd
end
end Mine
namespace Mine
open PySem PySem.W PyProof.Rows PySem.SeqAt
noncomputable def T2 : Fns := fun x => bif x == Str.ofString "_law_takes" then some (runF T1 noSpec 18) else none
noncomputable def T3 (P0 T0' : Str') : Fns := fun x => bif x == Str.ofString "_law_things" then some (runF T0 noSpec 13) else bif x == Str.ofString "_law_items" then some (runF T0 noSpec 14) else bif x == Str.ofString "_law_read" then some (runF T1 noSpec 16) else
  bif x == Str.ofString "translate" then some (fT P0 T0') else bif x == Str.ofString "_law_told" then some (runF T1 noSpec 19) else bif x == Str.ofString "_law_scales" then some (runF T0 noSpec 20) else
  bif x == Str.ofString "_law_order_holds" then some (runF T2 noSpec 21) else none
noncomputable def T4 (P0 T0' : Str') : Fns := fun x => bif x == Str.ofString "_law_rows_hold" then some (runF (T3 P0 T0') noSpec 22) else none
noncomputable def Plain (ns : List Int) : Prop := ∃ P0 T0' : Str', (∀ a, ∃ parts, runF T1 (specT (fnP 8).sc) 8 [.str P0, .obj a, .str (Str.ofString ".")] = some parts ∧ runF T0 noSpec 9 [parts, .obj a] = some (.str T0')) ∧
  runF (T4 P0 T0') noSpec 23 [.list (ns.map .int)] = some (.bool true)
section
variable {w : World} {h0 : Heap} {p : Program} {loose : List Str'} {mean : ExcName → Option Value} {mg mb : Str' → Option Value}
theorem t2_ok (KX : (cap.heap_1 w.params).In h0) (T : Top p loose mean mg mb h0) : FnsOk (gloOf (w := w) T) 2 T2 := by
  have c := run_contract KX T (t1_ok KX T) (chk_takes w.params)
  refine x4_1 (chk_takes w.params) fun _ _ _ _ K1 => ?_
  refine x1_3 (fn_facts KX K1) fun o1 a1 b1 d1 => ?_
  exact fns_cons (val_fn KX T (by kernel_rfl)) a1 b1 d1 c none_fns
theorem t3_ok (KX : (cap.heap_1 w.params).In h0) (T : Top p loose mean mg mb h0) {P0 T0' : Str'} (hc : Contract (ZP w h0) 3 43 (fT P0 T0')) : FnsOk (gloOf (w := w) T) 3 (T3 P0 T0') := by
  have c1 := (run_contract KX T (none_fns (L := 0)) (chk_things w.params)).mono (show 1 ≤ 3 by lia)
  have c2 := (run_contract KX T (none_fns (L := 0)) (chk_items w.params)).mono (show 1 ≤ 3 by lia)
  have c3 := (run_contract KX T (t1_ok KX T) (chk_read w.params)).mono (show 2 ≤ 3 by lia)
  have c5 := (run_contract KX T (t1_ok KX T) (chk_told w.params)).mono (show 2 ≤ 3 by lia)
  have c6 := (run_contract KX T (none_fns (L := 0)) (chk_scales w.params)).mono (show 1 ≤ 3 by lia)
  have c7 := run_contract KX T (t2_ok KX T) (chk_order w.params)
  refine x4_1 (chk_things w.params) fun _ _ _ _ K1 => ?_
  refine x4_1 (chk_items w.params) fun _ _ _ _ K2 => ?_
  refine x4_1 (chk_read w.params) fun _ _ _ _ K3 => ?_
  refine x4_1 (chk_translate w.params) fun _ _ _ _ K4 => ?_
  refine x4_1 (chk_told w.params) fun _ _ _ _ K5 => ?_
  refine x4_1 (chk_scales w.params) fun _ _ _ _ K6 => ?_
  refine x4_1 (chk_order w.params) fun _ _ _ _ K7 => ?_
  refine x1_3 (fn_facts KX K1) fun o1 a1 b1 d1 => ?_
  refine x1_3 (fn_facts KX K2) fun o2 a2 b2 d2 => ?_
  refine x1_3 (fn_facts KX K3) fun o3 a3 b3 d3 => ?_
  refine x1_3 (fn_facts KX K4) fun o4 a4 b4 d4 => ?_
  refine x1_3 (fn_facts KX K5) fun o5 a5 b5 d5 => ?_
  refine x1_3 (fn_facts KX K6) fun o6 a6 b6 d6 => ?_
  refine x1_3 (fn_facts KX K7) fun o7 a7 b7 d7 => ?_
  exact fns_cons (val_fn KX T (by kernel_rfl)) a1 b1 d1 c1 (fns_cons (val_fn KX T (by kernel_rfl)) a2 b2 d2 c2 (fns_cons (val_fn KX T (by kernel_rfl)) a3 b3 d3 c3 (fns_cons (val_fn KX T (by kernel_rfl)) a4 b4 d4 hc
    (fns_cons (val_fn KX T (by kernel_rfl)) a5 b5 d5 c5 (fns_cons (val_fn KX T (by kernel_rfl)) a6 b6 d6 c6 (fns_cons (val_fn KX T (by kernel_rfl)) a7 b7 d7 c7 none_fns))))))
theorem t4_ok (KX : (cap.heap_1 w.params).In h0) (T : Top p loose mean mg mb h0) {P0 T0' : Str'} (hc : Contract (ZP w h0) 3 43 (fT P0 T0')) : FnsOk (gloOf (w := w) T) 4 (T4 P0 T0') := by
  have c := run_contract KX T (t3_ok KX T hc) (chk_rows w.params)
  refine x4_1 (chk_rows w.params) fun _ _ _ _ K1 => ?_
  refine x1_3 (fn_facts KX K1) fun o1 a1 b1 d1 => ?_
  exact fns_cons (val_fn KX T (by kernel_rfl)) a1 b1 d1 c none_fns
end
theorem room_caller : Room 5 callerA := ⟨rfl, by decide, by decide⟩
theorem law_end {w : World} {s₀ s₁ : Shared} {p : Program} {loose : List Str'} {mean : ExcName → Option Value} {mg mb : Str' → Option Value} (KX : (cap.heap_1 w.params).In s₁.heap) (T : Top p loose mean mg mb s₁.heap) (hT9 : TabsAt [(61, 57)] s₁.heap) (hg : s₁.gens = #[])
    {fa la : Addr} {ns : List Int} {vs : List Value} (hmg : mg (Str.ofString "law") = some (.ref fa)) (hL : s₁.heap.IsList la vs.toArray) (hI : IntsAre vs ns) (hlen : ns.length ≤ 63) (hP : Plain ns) :
    codeAny (model PySem.Challenge.rw_ij0022_01.row.prog w) callerA (.call (.ref fa) ⟨[.ref la], []⟩)
      (GoodWG PySem.Challenge.rw_ij0022_01.row.claim (classAt s₀.heap) (ExcName.means s₀.heap) [ofPy (PyData.list (ns.map PyData.int))] s₁) s₁ := by
  refine x2_2 hP fun P0 T0' hrun hlaw => ?_
  refine x0_2 (hT9 (61, 57) (by simp)) fun C h57 => ?_
  have hfa : fa = 145 := by
    have h1 := gval_eq KX T.g (Str.ofString "law")
    rw [hmg] at h1
    have h2 : gval w.params (Str.ofString "law") = some (.ref 145) := by kernel_rfl
    rw [h2] at h1
    injection h1 with h1
    injection h1 with h1
  subst hfa
  have hc := c3 KX T C h57 hrun
  refine x4_1 (chk_law w.params) fun fd c cvs t K => ?_
  have S : St (ZP w s₁.heap) (fun a => a = (57 : Nat)) s₁ := ⟨fun _ _ _ e => e, ⟨#[], h57, trivial⟩, fun a e => by have e' : a = 57 := e; subst e'; exact ⟨_, h57⟩, fun _ h => h, fun _ h => .inl h⟩
  have ha : Ats s₁.heap (fun a => a = (57 : Nat)) [.ref la] [.list (ns.map .int)] := by
    refine Ats.one (at_listM ⟨la, vs.toArray, rfl, fun e => ?_, hL, by rw [List.length_map]; unfold LIM; lia, by simpa using ints_at hI⟩)
    refine x1_3 hL fun o ho hcl _ => ?_
    rw [show la = (57 : Nat) from e, h57] at ho
    cases ho
    cases hcl
  refine codeAny_mono (fn_code (bi_ok KX T) (t4_ok KX T hc) noSpec_ok (fnIs_of KX K) 300 room_caller S ha hlaw) fun r s' h => ?_
  obtain ⟨v, rfl, k, av⟩ := h
  have := at_bool.mp av
  subst this
  exact good_of k hT9 hg
end Mine
namespace Mine.Glob
theorem asc_ext : ∀ {l m : List Nat}, l.Pairwise (· < ·) → m.Pairwise (· < ·) → (∀ x, x ∈ l ↔ x ∈ m) → l = m
  | [], [], _, _, _ => rfl
  | [], y :: m, _, _, h => by have := (h y).mpr List.mem_cons_self; cases this
  | x :: l, [], _, _, h => by have := (h x).mp List.mem_cons_self; cases this
  | x :: l, y :: m, hl, hm, h => by
    obtain ⟨h1, h2⟩ := List.pairwise_cons.mp hl
    obtain ⟨g1, g2⟩ := List.pairwise_cons.mp hm
    have e : x = y := by
      rcases List.mem_cons.mp ((h x).mp List.mem_cons_self) with e | e
      · exact e
      · rcases List.mem_cons.mp ((h y).mpr List.mem_cons_self) with e' | e'
        · exact e'.symm
        · have a := g1 x e; have b := h1 y e'; lia
    rw [e]
    rw [asc_ext h2 g2 fun z => ?_]
    constructor
    · intro hz
      rcases List.mem_cons.mp ((h z).mp (List.mem_cons_of_mem _ hz)) with e | e
      · have := h1 z hz; lia
      · exact e
    · intro hz
      rcases List.mem_cons.mp ((h z).mpr (List.mem_cons_of_mem _ hz)) with e | e
      · have := g1 z hz; lia
      · exact e
theorem asc_range (n : Nat) (p : Nat → Bool) : ((List.range n).filter p).Pairwise (· < ·) := (List.pairwise_lt_range).filter p
theorem asc_map_add (l : List Nat) (k : Nat) (h : l.Pairwise (· < ·)) : (l.map (· + k)).Pairwise (· < ·) := by
  rw [List.pairwise_map]
  exact h.imp fun h => by lia
noncomputable abbrev Pc := Nat → Bool
noncomputable def fits (c : Nat) : List Pc → Nat → Bool
  | [], s => decide (s ≤ c)
  | p :: r, s => decide (s < c) && p s && fits c r (s + 1)
noncomputable def cntStar (N : Nat) (A : List Nat) : List Nat := (List.range (N + 1)).filter fun c => !A.isEmpty && decide (A.headD 0 ≤ c)
noncomputable def cntOne (N : Nat) (p : Pc) (A : List Nat) : List Nat := (A.filter fun c => decide (c < N) && p c).map (· + 1)
noncomputable def cnt (N : Nat) : List (Option Pc) → List Nat → List Nat
  | [], A => A
  | none :: r, A => cnt N r (cntStar N A)
  | some p :: r, A => cnt N r (cntOne N p A)
theorem fits_le {c : Nat} : ∀ {r : List Pc} {s : Nat}, fits c r s = true → s + r.length ≤ c
  | [], s, h => by simpa [fits] using h
  | p :: r, s, h => by
    simp only [fits, Bool.and_eq_true, decide_eq_true_eq] at h
    have := fits_le h.2
    simp only [List.length_cons]; lia
theorem fits_mono {c d : Nat} (hcd : c ≤ d) : ∀ {r : List Pc} {s : Nat}, fits c r s = (fits d r s && decide (s + r.length ≤ c))
  | [], s => by
    simp only [fits, List.length_nil, Nat.add_zero]
    by_cases h : s ≤ c
    · simp [h]; lia
    · simp [h]
  | p :: r, s => by
    simp only [fits, List.length_cons]
    rw [fits_mono hcd (r := r) (s := s + 1)]
    rw [show s + 1 + r.length = s + (r.length + 1) by lia]
    by_cases h : s + (r.length + 1) ≤ c
    · have h1 : s < c := by lia
      have h2 : s < d := by lia
      simp [h, h1, h2]
    · simp [h]
theorem cnt_run (N : Nat) : ∀ (r : List Pc) (rest : List (Option Pc)) (A : List Nat), (∀ x ∈ A, x ≤ N) → cnt N (r.map some ++ rest) A = cnt N rest ((A.filter fun s => fits N r s).map (· + r.length))
  | [], rest, A, hA => by
    have e : A.filter (fun s => fits N [] s) = A := List.filter_eq_self.mpr fun x hx => by simp [fits, hA x hx]
    simp [e]
  | p :: r, rest, A, hA => by
    simp only [List.map_cons, List.cons_append, cnt]
    rw [cnt_run N r rest (cntOne N p A)]
    · congr 1
      unfold cntOne
      rw [List.filter_map, List.map_map, List.filter_filter]
      have e1 : (fun s => fits N (p :: r) s) = fun c => (Function.comp (fun s => fits N r s) fun x => x + 1) c && (decide (c < N) && p c) := by
        funext c; simp only [fits, Function.comp]; rw [Bool.and_comm]
      rw [e1]
      congr 1
      funext x; simp only [Function.comp, List.length_cons]; lia
    · intro x hx
      unfold cntOne at hx
      obtain ⟨y, hy, rfl⟩ := List.mem_map.mp hx
      have := (List.mem_filter.mp hy).2
      simp only [Bool.and_eq_true, decide_eq_true_eq] at this
      lia
noncomputable def first (c : Nat) (r : List Pc) : Nat → Nat → Option Nat
  | 0, _ => none
  | k + 1, s => if fits c r s then some s else first c r k (s + 1)
theorem first_some {c : Nat} {r : List Pc} : ∀ {k s t : Nat}, first c r k s = some t → fits c r t = true ∧ s ≤ t ∧ (∀ u, s ≤ u → u < t → fits c r u = false) ∧ t < s + k
  | 0, s, t, h => by simp [first] at h
  | k + 1, s, t, h => by
    unfold first at h
    split at h
    · rename_i hf
      rw [← Option.some.inj h]
      exact ⟨hf, Nat.le_refl _, fun u h1 h2 => by lia, by lia⟩
    · rename_i hf
      obtain ⟨h1, h2, h3, h4⟩ := first_some h
      refine ⟨h1, by lia, fun u hu hut => ?_, by lia⟩
      by_cases e : u = s
      · subst e; simpa using hf
      · exact h3 u (by lia) hut
theorem first_none {c : Nat} {r : List Pc} : ∀ {k s : Nat}, first c r k s = none → ∀ u, s ≤ u → u < s + k → fits c r u = false
  | 0, s, _, u, h1, h2 => by lia
  | k + 1, s, h, u, h1, h2 => by
    unfold first at h
    split at h
    · cases h
    · rename_i hf
      by_cases e : u = s
      · subst e; simpa using hf
      · exact first_none h u (by lia) (by lia)
noncomputable def place (c : Nat) : List (List Pc) → Nat → Option Nat
  | [], s => some s
  | r :: ms, s => (first c r (c + 1 - s) s).bind fun t => place c ms (t + r.length)
theorem first_cut {c N : Nat} (hc : c ≤ N) {r : List Pc} {s : Nat} : first c r (c + 1 - s) s = (first N r (N + 1 - s) s).bind fun t => if t + r.length ≤ c then some t else none := by
  cases h : first N r (N + 1 - s) s with
  | none =>
    have hn := first_none h
    cases h2 : first c r (c + 1 - s) s with
    | none => rfl
    | some t =>
      obtain ⟨h1, h3, _, h4⟩ := first_some h2
      rw [fits_mono hc, Bool.and_eq_true] at h1
      rw [hn t h3 (by lia)] at h1
      cases h1.1
  | some t =>
    obtain ⟨h1, h3, h5, h4⟩ := first_some h
    simp only [Option.bind_some]
    by_cases hl : t + r.length ≤ c
    · rw [if_pos hl]
      have hft : fits c r t = true := by rw [fits_mono hc, h1]; simp [hl]
      cases h2 : first c r (c + 1 - s) s with
      | none => have := first_none h2 t h3 (by lia); rw [hft] at this; cases this
      | some u =>
        obtain ⟨g1, g3, g5, g4⟩ := first_some h2
        have e : u = t := by
          rcases Nat.lt_trichotomy u t with q | q | q
          · have := h5 u g3 q
            rw [fits_mono hc, this] at g1; cases g1
          · exact q
          · have := g5 t h3 q; rw [hft] at this; cases this
        rw [e]
    · rw [if_neg hl]
      cases h2 : first c r (c + 1 - s) s with
      | none => rfl
      | some u =>
        obtain ⟨g1, g3, g5, g4⟩ := first_some h2
        have gl := fits_le g1
        rw [fits_mono hc, Bool.and_eq_true] at g1
        rcases Nat.lt_or_ge u t with q | q
        · rw [h5 u g3 q] at g1; cases g1.1
        · lia
theorem place_ge {c : Nat} : ∀ {ms : List (List Pc)} {s p : Nat}, place c ms s = some p → s ≤ p ∧ (p ≤ c ∨ p = s)
  | [], s, p, h => by simp only [place] at h; rw [← Option.some.inj h]; exact ⟨Nat.le_refl _, .inr rfl⟩
  | r :: ms, s, p, h => by
    simp only [place] at h
    cases hf : first c r (c + 1 - s) s with
    | none => rw [hf] at h; cases h
    | some t =>
      rw [hf] at h
      simp only [Option.bind_some] at h
      obtain ⟨h1, h2, _, _⟩ := first_some hf
      have h3 := fits_le h1
      obtain ⟨h4, h5⟩ := place_ge h
      refine ⟨by lia, .inl ?_⟩
      rcases h5 with h5 | h5 <;> lia
theorem place_cut {c N : Nat} (hc : c ≤ N) : ∀ (ms : List (List Pc)) (s : Nat), s ≤ c → place c ms s = (place N ms s).bind fun p => if p ≤ c then some p else none
  | [], s, hs => by simp [place, hs]
  | r :: ms, s, hs => by
    simp only [place]
    rw [first_cut hc]
    cases h : first N r (N + 1 - s) s with
    | none => rfl
    | some t =>
      simp only [Option.bind_some]
      by_cases hl : t + r.length ≤ c
      · rw [if_pos hl]
        simp only [Option.bind_some]
        exact place_cut hc ms _ hl
      · rw [if_neg hl]
        simp only [Option.bind_none]
        cases hp : place N ms (t + r.length) with
        | none => rfl
        | some p =>
          have := (place_ge hp).1
          simp only [Option.bind_some]
          rw [if_neg (by lia)]
noncomputable def takes (c : Nat) : List (List Pc) → Bool
  | [] => false
  | [r] => decide (c = r.length) && fits c r 0
  | r :: m :: ms => fits c r 0 && match place c ((m :: ms).dropLast) r.length with
    | none => false
    | some p => decide (p + ((m :: ms).getLastD []).length ≤ c) && fits c ((m :: ms).getLastD []) (c - ((m :: ms).getLastD []).length)
end Mine.Glob
namespace Mine.Glob
noncomputable def joinS {α : Type} : List (List α) → List (Option α)
  | [] => []
  | [s] => s.map some
  | s :: t :: r => s.map some ++ none :: joinS (t :: r)
noncomputable def segs {α : Type} : List (Option α) → List (List α)
  | [] => [[]]
  | none :: r => [] :: segs r
  | some p :: r => match segs r with
    | [] => [[p]]
    | s :: ss => (p :: s) :: ss
theorem segs_ne {α : Type} : ∀ (l : List (Option α)), ∃ s ss, segs l = s :: ss
  | [] => ⟨_, _, rfl⟩
  | none :: r => ⟨_, _, rfl⟩
  | some p :: r => by
    obtain ⟨s, ss, h⟩ := segs_ne r
    exact ⟨p :: s, ss, by simp [segs, h]⟩
theorem join_segs {α : Type} : ∀ (l : List (Option α)), joinS (segs l) = l
  | [] => rfl
  | none :: r => by
    obtain ⟨s, ss, h⟩ := segs_ne r
    have := join_segs r
    dsimp only [segs]
    rw [h] at this ⊢
    simp [joinS, this]
  | some p :: r => by
    obtain ⟨s, ss, h⟩ := segs_ne r
    have := join_segs r
    dsimp only [segs]
    rw [h] at this ⊢
    cases ss with
    | nil => simpa [joinS] using this
    | cons t ss => simpa [joinS] using this
noncomputable def runsOf {α : Type} (l : List (Option α)) : List (List α) := match segs l with
  | [] => []
  | [r] => [r]
  | r :: t :: ss => r :: (((t :: ss).dropLast.filter fun s => !s.isEmpty) ++ [(t :: ss).getLastD []])
theorem cnt_nil (N : Nat) : ∀ (l : List (Option Pc)), cnt N l [] = []
  | [] => rfl
  | none :: r => by
    have : cntStar N [] = [] := by simp [cntStar]
    simp [cnt, this, cnt_nil N r]
  | some p :: r => by simp [cnt, cntOne, cnt_nil N r]
theorem star_mem {N : Nat} {A : List Nat} (hA : A.Pairwise (· < ·)) {c : Nat} : c ∈ cntStar N A ↔ c ≤ N ∧ ∃ a ∈ A, a ≤ c := by
  unfold cntStar
  rw [List.mem_filter, List.mem_range]
  cases A with
  | nil => simp
  | cons x l =>
    obtain ⟨h1, _⟩ := List.pairwise_cons.mp hA
    dsimp only [List.isEmpty_cons, Bool.not_false, Bool.true_and, List.headD_cons, decide_eq_true_eq]
    constructor
    · rintro ⟨a, b⟩
      exact ⟨by lia, x, List.mem_cons_self, of_decide_eq_true b⟩
    · rintro ⟨a, y, hy, hc⟩
      refine ⟨by lia, ?_⟩
      rcases List.mem_cons.mp hy with rfl | hy
      · exact decide_eq_true hc
      · have := h1 y hy; exact decide_eq_true (by lia)
theorem star_asc (N : Nat) (A : List Nat) : (cntStar N A).Pairwise (· < ·) := asc_range _ _
noncomputable def from_ (N p : Nat) : List Nat := (List.range (N + 1)).filter fun c => decide (p ≤ c)
theorem from_mem {N p c : Nat} : c ∈ from_ N p ↔ c ≤ N ∧ p ≤ c := by
  unfold from_
  rw [List.mem_filter, List.mem_range, decide_eq_true_eq]
  lia
theorem star_from {N : Nat} {A : List Nat} {p : Nat} (hA : A.Pairwise (· < ·)) (hp : p ∈ A) (hm : ∀ a ∈ A, p ≤ a) : cntStar N A = from_ N p := by
  refine asc_ext (star_asc N A) (asc_range _ _) fun c => ?_
  rw [star_mem hA, from_mem]
  constructor
  · rintro ⟨h1, a, ha, h2⟩; have := hm a ha; lia
  · rintro ⟨h1, h2⟩; exact ⟨h1, p, hp, h2⟩
noncomputable def endsOf (N : Nat) (ss : List (List Pc)) (p c : Nat) : Bool := match place N (ss.dropLast.filter fun s => !s.isEmpty) p with
  | none => false
  | some q => decide (q + (ss.getLastD []).length ≤ c) && fits N (ss.getLastD []) (c - (ss.getLastD []).length)
theorem cnt_from (N : Nat) : ∀ (ss : List (List Pc)) (s : List Pc) (p : Nat), cnt N (joinS (s :: ss)) (from_ N p) = (List.range (N + 1)).filter fun c => endsOf N (s :: ss) p c
  | [], s, p => by
    have := cnt_run N s [] (from_ N p) (fun x hx => (from_mem.mp hx).1)
    rw [List.append_nil] at this
    dsimp only [joinS]
    rw [this]
    dsimp only [cnt]
    refine asc_ext (asc_map_add _ _ ((asc_range _ _).filter _)) (asc_range _ _) fun c => ?_
    rw [List.mem_map, List.mem_filter, List.mem_range]
    unfold endsOf
    simp only [List.dropLast_singleton, List.filter_nil, place, List.getLastD_cons, List.getLastD_nil, Bool.and_eq_true, decide_eq_true_eq]
    constructor
    · rintro ⟨y, hy, rfl⟩
      obtain ⟨h1, h2⟩ := List.mem_filter.mp hy
      obtain ⟨h3, h4⟩ := from_mem.mp h1
      have := fits_le h2
      refine ⟨by lia, by lia, ?_⟩
      rw [Nat.add_sub_cancel]; exact h2
    · rintro ⟨h1, h2, h3⟩
      exact ⟨c - s.length, List.mem_filter.mpr ⟨from_mem.mpr ⟨by lia, by lia⟩, h3⟩, by lia⟩
  | t :: ss, s, p => by
    have hrun := cnt_run N s (none :: joinS (t :: ss)) (from_ N p) (fun x hx => (from_mem.mp hx).1)
    dsimp only [joinS]
    rw [hrun]
    have hasc : (((from_ N p).filter fun x => fits N s x).map (· + s.length)).Pairwise (· < ·) := asc_map_add _ _ ((asc_range _ _).filter _)
    have hmem : ∀ a, a ∈ ((from_ N p).filter fun x => fits N s x).map (· + s.length) ↔ ∃ y, p ≤ y ∧ fits N s y = true ∧ a = y + s.length := by
      intro a
      rw [List.mem_map]
      constructor
      · rintro ⟨y, hy, rfl⟩
        obtain ⟨h1, h2⟩ := List.mem_filter.mp hy
        exact ⟨y, (from_mem.mp h1).2, h2, rfl⟩
      · rintro ⟨y, h1, h2, rfl⟩
        have := fits_le h2
        exact ⟨y, List.mem_filter.mpr ⟨from_mem.mpr ⟨by lia, h1⟩, h2⟩, rfl⟩
    dsimp only [cnt]
    have hlast : (s :: t :: ss).getLastD [] = (t :: ss).getLastD [] := by simp [List.getLastD_cons]
    have hdrop : (s :: t :: ss).dropLast = s :: (t :: ss).dropLast := rfl
    cases hf : first N s (N + 1 - p) p with
    | none =>
      have hn := first_none hf
      have hA : ((from_ N p).filter fun x => fits N s x).map (· + s.length) = [] := by
        cases hA : ((from_ N p).filter fun x => fits N s x).map (· + s.length) with
        | nil => rfl
        | cons a l =>
          have ha : a ∈ ((from_ N p).filter fun x => fits N s x).map (· + s.length) := by rw [hA]; exact List.mem_cons_self
          obtain ⟨y, h1, h2, _⟩ := (hmem a).mp ha
          have := fits_le h2
          rw [hn y h1 (by lia)] at h2; cases h2
      rw [hA]
      have hst : cntStar N [] = [] := by simp [cntStar]
      rw [hst, cnt_nil]
      symm
      rw [List.filter_eq_nil_iff]
      intro c hc
      unfold endsOf
      rw [hdrop, hlast]
      cases s with
      | nil =>
        have hp : N < p := by
          rcases Nat.lt_or_ge N p with q | q
          · exact q
          · have := hn p (Nat.le_refl _) (by lia)
            simp [fits] at this; lia
        simp only [List.isEmpty_nil, Bool.not_true, List.filter_cons_of_neg, not_false_eq_true, Bool.false_eq_true]
        cases hpl : place N ((t :: ss).dropLast.filter fun s => !s.isEmpty) p with
        | none => simp
        | some q =>
          have := (place_ge hpl).1
          have := List.mem_range.mp hc
          dsimp only [Bool.and_eq_true, decide_eq_true_eq]
          lia
      | cons x s =>
        simp only [List.isEmpty_cons, Bool.not_false, List.filter_cons_of_pos, place]
        rw [hf]
        simp
    | some t0 =>
      obtain ⟨h1, h2, h3, h4⟩ := first_some hf
      have hst : cntStar N (((from_ N p).filter fun x => fits N s x).map (· + s.length)) = from_ N (t0 + s.length) := by
        refine star_from hasc ((hmem _).mpr ⟨t0, h2, h1, rfl⟩) fun a ha => ?_
        obtain ⟨y, g1, g2, rfl⟩ := (hmem a).mp ha
        rcases Nat.lt_or_ge y t0 with q | q
        · rw [h3 y g1 q] at g2; cases g2
        · lia
      rw [hst, cnt_from N ss t (t0 + s.length)]
      congr 1
      funext c
      unfold endsOf
      rw [hdrop, hlast]
      cases s with
      | nil =>
        have e : t0 = p := by
          by_cases q : t0 = p
          · exact q
          · have := h3 p (Nat.le_refl _) (by lia)
            have h5 := fits_le h1
            simp [fits] at this
            simp at h5
            lia
        rw [e]
        simp
      | cons x s =>
        simp only [List.isEmpty_cons, Bool.not_false, List.filter_cons_of_pos, place]
        rw [hf]
        simp
theorem glob_main (N : Nat) (l : List (Option Pc)) : cnt N l [0] = (List.range (N + 1)).filter fun c => takes c (runsOf l) := by
  have hj := join_segs l
  unfold runsOf
  obtain ⟨s, ss, h⟩ := segs_ne l
  rw [h] at hj ⊢
  cases ss with
  | nil =>
    have := cnt_run N s [] [0] (by simp)
    rw [List.append_nil] at this
    rw [← hj]
    dsimp only [joinS]
    rw [this]
    dsimp only [cnt]
    refine asc_ext (asc_map_add _ _ (List.Pairwise.filter _ (by simp))) (asc_range _ _) fun c => ?_
    rw [List.mem_map, List.mem_filter, List.mem_range]
    simp only [takes, Bool.and_eq_true, decide_eq_true_eq]
    constructor
    · rintro ⟨y, hy, rfl⟩
      obtain ⟨h1, h2⟩ := List.mem_filter.mp hy
      simp at h1; subst h1
      have := fits_le h2
      refine ⟨by lia, by lia, ?_⟩
      rw [fits_mono (d := N) (by lia), h2]; simp
    · rintro ⟨h1, h2, h3⟩
      rw [h2]
      rw [fits_mono (d := N) (by lia), Bool.and_eq_true] at h3
      exact ⟨0, List.mem_filter.mpr ⟨by simp, h3.1⟩, by lia⟩
  | cons t ss =>
    have hrun := cnt_run N s (none :: joinS (t :: ss)) [0] (by simp)
    rw [← hj]
    dsimp only [joinS]
    rw [hrun]
    dsimp only [cnt]
    have htk : ∀ c, c ≤ N → takes c (s :: (((t :: ss).dropLast.filter fun s => !s.isEmpty) ++ [(t :: ss).getLastD []])) = (fits N s 0 && (decide (s.length ≤ c) && endsOf N (t :: ss) s.length c)) := by
      intro c hc
      generalize hm : ((t :: ss).dropLast.filter fun s => !s.isEmpty) = mids
      generalize hl : (t :: ss).getLastD [] = last
      have e : takes c (s :: (mids ++ [last])) = (fits c s 0 && match place c mids s.length with
          | none => false
          | some p => decide (p + last.length ≤ c) && fits c last (c - last.length)) := by
        cases mids with
        | nil => rfl
        | cons m ms =>
          dsimp only [List.cons_append, takes]
          have e1 : (m :: (ms ++ [last])).dropLast = m :: ms := by rw [← List.cons_append, List.dropLast_concat]
          have e2 : (m :: (ms ++ [last])).getLastD [] = last := by rw [← List.cons_append, List.getLastD_concat]
          rw [e1, e2]
          first | done | rfl
      rw [e, fits_mono hc, Nat.zero_add]
      unfold endsOf
      rw [hm, hl]
      by_cases hsc : s.length ≤ c
      · rw [place_cut hc mids _ hsc]
        cases place N mids s.length with
        | none => simp [hsc]
        | some p =>
          dsimp only [Option.bind_some]
          by_cases hpc : p ≤ c
          · rw [if_pos hpc]
            simp only [hsc, decide_true, Bool.and_true, Bool.true_and]
            congr 1
            by_cases hpl : p + last.length ≤ c
            · rw [fits_mono hc]
              have : c - last.length + last.length ≤ c := by lia
              simp [this]
            · simp [hpl]
          · rw [if_neg hpc]
            have : ¬ p + last.length ≤ c := by lia
            simp [this]
      · simp [hsc]
    cases hf : fits N s 0 with
    | false =>
      have hA : (([0].filter fun x => fits N s x).map (· + s.length)) = [] := by simp [hf]
      rw [hA]
      have hst : cntStar N [] = [] := by simp [cntStar]
      rw [hst, cnt_nil]
      symm
      rw [List.filter_eq_nil_iff]
      intro c hc
      rw [htk c (by have := List.mem_range.mp hc; lia), hf]
      simp
    | true =>
      have hA : (([0].filter fun x => fits N s x).map (· + s.length)) = [s.length] := by simp [hf]
      rw [hA, star_from (p := s.length) (by simp) (by simp) (by simp), cnt_from]
      refine List.filter_congr fun c hc => ?_
      rw [htk c (by have := List.mem_range.mp hc; lia), hf]
      have hge : endsOf N (t :: ss) s.length c = true → s.length ≤ c := by
        intro h
        unfold endsOf at h
        split at h
        · cases h
        · rename_i q hq
          have := (place_ge hq).1
          rw [Bool.and_eq_true, decide_eq_true_eq] at h
          lia
      cases he : endsOf N (t :: ss) s.length c with
      | false => simp
      | true => simp [hge he]
end Mine.Glob
namespace Mine
open PySem PySem.W PyProof.Rows PySem.SeqAt
section
variable {Φ : Fns} {sc : Scope} {ow : Str' → Bool} {spec : Spec}
theorem ex_next {n : Nat} {st : Stmt} {r : List Stmt} {s s' : AS} (h : aexec Φ sc ow spec n st s = some (.next, s')) : aexecs Φ sc ow spec (n + 1) (st :: r) s = aexecs Φ sc ow spec n r s' := by
  dsimp only [aexecs]; rw [h]; rfl
theorem ex_ret {n : Nat} {st : Stmt} {r : List Stmt} {s s' : AS} {d : D} (h : aexec Φ sc ow spec n st s = some (.ret d, s')) : aexecs Φ sc ow spec (n + 1) (st :: r) s = some (.ret d, s') := by
  dsimp only [aexecs]; rw [h]; rfl
theorem ex_brk {n : Nat} {st : Stmt} {r : List Stmt} {s s' : AS} (h : aexec Φ sc ow spec n st s = some (.brk, s')) : aexecs Φ sc ow spec (n + 1) (st :: r) s = some (.brk, s') := by
  dsimp only [aexecs]; rw [h]; rfl
theorem ex_nil {n : Nat} {s : AS} : aexecs Φ sc ow spec (n + 1) [] s = some (.next, s) := by dsimp only [aexecs]
theorem trF_strong {n : Nat} {e : Expr} {s : AS} {b : Bool} (h : atrue Φ n e ⟨sc, frz s⟩ = some b) : trF Φ sc n e s = some b := by
  delta trF; rw [h]
theorem itF_strong {n : Nat} {tt : Bool} {e : Expr} {s : AS} {l : List D} (h : aiter Φ n tt e ⟨sc, frz s⟩ = some l) : itF Φ sc n tt e s = some l := by
  delta itF; rw [h]
noncomputable def targetOf : Stmt → Expr
  | .For t _ _ _ _ => t
  | .Assign [t] _ _ => t
  | _ => .Constant .none 0 ⟨0, 0, 0, 0⟩
end
theorem run_of {Φ : Fns} {spec : Spec} {k : Nat} {ds : List D} {s0 s1 : AS} {x : D} (hg : giveArgs (fnP k).ps ds ⟨startVars (fnP k).sc, []⟩ = some s0) (hr : aexecs Φ (fnP k).sc ow spec 300 (fnP k).body s0 = some (.ret x, s1)) : runF Φ spec k ds = some x := by
  delta runF acall; rw [hg]; dsimp only [Option.bind_some]; rw [hr]; rfl
theorem cEI (a b : Int) : acmp .Eq (.int a) (.int b) = some (a == b) := rfl
theorem cEB (a b : Bool) : acmp .Eq (.bool a) (.bool b) = some (a == b) := rfl
theorem cES (a b : Str') : acmp .Eq (.str a) (.str b) = some (a == b) := rfl
theorem cNI (a b : Int) : acmp .NotEq (.int a) (.int b) = some (a != b) := rfl
theorem cLI (a b : Int) : acmp .Lt (.int a) (.int b) = some (decide (a < b)) := rfl
theorem cLT (a b c d : Int) : acmp .Lt (.tup [.int a, .int b]) (.tup [.int c, .int d]) = some (decide (a < c) || (a == c && decide (b < d))) := rfl
theorem cLeI (a b : Int) : acmp .LtE (.int a) (.int b) = some (decide (a ≤ b)) := rfl
theorem cLeS (a b : Str') : acmp .LtE (.str a) (.str b) = some (!(decide (b.cps.toList < a.cps.toList))) := rfl
theorem cGI (a b : Int) : acmp .Gt (.int a) (.int b) = some (decide (a > b)) := rfl
theorem cGS (a b : Str') : acmp .Gt (.str a) (.str b) = some (decide (b.cps.toList < a.cps.toList)) := rfl
theorem cGeI (a b : Int) : acmp .GtE (.int a) (.int b) = some (decide (a ≥ b)) := rfl
theorem cIL (a : D) (l : List D) : acmp .In a (.list l) = ain a l := rfl
theorem cIT (a : D) (l : List D) : acmp .In a (.tup l) = ain a l := rfl
theorem aAI (a b : Int) : abin .Add (.int a) (.int b) = some (.int (a + b)) := rfl
theorem aSI (a b : Int) : abin .Sub (.int a) (.int b) = some (.int (a - b)) := rfl
theorem tB (b : Bool) : atr (.bool b) = some b := rfl
noncomputable abbrev SS (l : List Nat) : Str' := ⟨l.toArray⟩
theorem ss_len (l : List Nat) : (SS l).length = l.length := by simp [Str.length]
theorem idx_nat {i n : Nat} (h : i < n) : idx (i : Int) n = some i := by
  delta idx
  rw [decide_eq_true (by lia : (0 : Int) ≤ i), decide_eq_true (by lia : (i : Int) < n)]
  simp
theorem asub_str {l : List Nat} {i c : Nat} (h : l[i]? = some c) : asub (.str (SS l)) (.int i) = some (.str (SS [c])) := by
  have hlt : i < l.length := (List.getElem?_eq_some_iff.mp h).1
  dsimp only [asub]
  rw [ss_len, idx_nat hlt]
  simp [h]
theorem asub_list {l : List D} {i : Nat} {d : D} (h : l[i]? = some d) : asub (.list l) (.int i) = some d := by
  have hlt : i < l.length := (List.getElem?_eq_some_iff.mp h).1
  dsimp only [asub]
  rw [idx_nat hlt]
  simpa using h
noncomputable def stF (run : List D) (name : Str') (start : Int) (k b l h : V) : AS :=
  ⟨[(Str.ofString "run", .d (.list run)), (Str.ofString "name", .d (.str name)), (Str.ofString "start", .d (.int start)), (Str.ofString "k", k), (Str.ofString "barred", b), (Str.ofString "low", l), (Str.ofString "high", h)], []⟩
theorem fits_body : (fnP 17).body = [stAt (fnP 17).body 0, stAt (fnP 17).body 1, stAt (fnP 17).body 2] := by kernel_rfl
theorem fits_0 (run : List D) (name : Str') (start : Int) (k b l h : V) : trF T0 (fnP 17).sc 298 (rhsOf (stAt (fnP 17).body 0)) (stF run name start k b l h) = some (decide (start + (run.length : Int) > (name.length : Int))) := by kernel_rfl
theorem fits_1 (run : List D) (name : Str') (start : Int) (k b l h : V) : aexec T0 (fnP 17).sc ow noSpec 298 (stAt (fnP 17).body 1) (stF run name start k b l h) =
    (itF T0 (fnP 17).sc 297 false (rhsOf (stAt (fnP 17).body 1)) (stF run name start k b l h)).bind fun items => afor (forStep T0 (fnP 17).sc ow noSpec 297 (targetOf (stAt (fnP 17).body 1)) (bodyOf (stAt (fnP 17).body 1))) items (stF run name start k b l h) := by kernel_rfl
theorem fits_it (run : List D) (name : Str') (start : Int) (k b l h : V) : aiter T0 297 false (rhsOf (stAt (fnP 17).body 1)) ⟨(fnP 17).sc, frz (stF run name start k b l h)⟩ =
    bif decide ((0 : Int) ≤ (run.length : Int)) && decide ((run.length : Int) ≤ 1000) then some (rangeC 0 1 ((run.length : Int)).toNat) else none := by kernel_rfl
end Mine
namespace Mine
open PySem PySem.W PyProof.Rows PySem.SeqAt
noncomputable abbrev Pcc := Bool × Nat × Nat
noncomputable def pcD (p : Pcc) : D := .tup [.bool p.1, .str (SS [p.2.1]), .str (SS [p.2.2])]
noncomputable def pcOk (p : Pcc) (c : Nat) : Bool := (decide (p.2.1 ≤ c) && decide (c ≤ p.2.2)) != p.1
theorem lt1 (a b : Nat) : decide ((SS [a]).cps.toList < (SS [b]).cps.toList) = decide (a < b) := by
  have : ((SS [a]).cps.toList < (SS [b]).cps.toList) ↔ a < b := by
    show ([a] < [b]) ↔ a < b
    simp [List.cons_lt_cons_iff]
  exact decide_eq_decide.mpr this
theorem le_str (a b : Nat) : acmp .LtE (.str (SS [a])) (.str (SS [b])) = some (decide (a ≤ b)) := by
  rw [cLeS]
  rw [lt1]
  congr 1
  by_cases h : a ≤ b
  · simp [h]
  · simp [h]; lia
noncomputable def fitsB (k : Nat) : Stmt := stAt (bodyOf (stAt (fnP 17).body 1)) k
theorem fits_bb : bodyOf (stAt (fnP 17).body 1) = [fitsB 0, fitsB 1] := by kernel_rfl
theorem fits_b0 (run : List D) (name : Str') (start i : Int) (x y z : D) (b l h : V) (hr : asub (.list run) (.int i) = some (.tup [x, y, z])) : aexec T0 (fnP 17).sc ow noSpec 296 (fitsB 0) (stF run name start (.d (.int i)) b l h) =
    some (.next, stF run name start (.d (.int i)) (.d x) (.d y) (.d z)) := by
  have e : aexec T0 (fnP 17).sc ow noSpec 296 (fitsB 0) (stF run name start (.d (.int i)) b l h) = (evF T0 (fnP 17).sc 295 (rhsOf (fitsB 0)) (stF run name start (.d (.int i)) b l h)).bind fun d => (unpack [.Name (Str.ofString "barred") ⟨0, 0, 0, 0⟩, .Name (Str.ofString "low") ⟨0, 0, 0, 0⟩, .Name (Str.ofString "high") ⟨0, 0, 0, 0⟩] d).bind fun bs => bif allStored (fnP 17).sc bs then some (.next, (stF run name start (.d (.int i)) b l h).setMany bs) else none := by kernel_rfl
  have e2 : aeval T0 295 (rhsOf (fitsB 0)) ⟨(fnP 17).sc, frz (stF run name start (.d (.int i)) b l h)⟩ = asub (.list run) (.int i) := by kernel_rfl
  rw [e, evF_strong (e2.trans hr)]
  kernel_rfl
theorem fits_b1 (run : List D) (name : List Nat) (start i c : Nat) (p : Pcc) (hc : name[start + i]? = some c) : trF T0 (fnP 17).sc 294 (rhsOf (fitsB 1)) (stF run (SS name) start (.d (.int i)) (.d (.bool p.1)) (.d (.str (SS [p.2.1]))) (.d (.str (SS [p.2.2])))) = some (!(pcOk p c)) := by
  have e : ∀ (x y z : D), atrue T0 294 (rhsOf (fitsB 1)) ⟨(fnP 17).sc, frz (stF run (SS name) start (.d (.int i)) (.d x) (.d y) (.d z))⟩ = 
    ((((asub (.str (SS name)) (.int ((start : Int) + (i : Int)))).bind fun c => (acmp .LtE y c).bind fun q => bif q then (some z).bind fun d => (acmp .LtE c d).map .bool else some (.bool false)).bind fun a => (acmp .Eq a x).map .bool)).bind atr := by intro x y z; kernel_rfl
  have h := e (.bool p.1) (.str (SS [p.2.1])) (.str (SS [p.2.2]))
  have hs : ((start : Int) + (i : Int)) = ((start + i : Nat) : Int) := by lia
  rw [hs, asub_str hc] at h
  simp only [Option.bind_some, le_str] at h
  refine trF_strong (h.trans ?_)
  unfold pcOk
  by_cases h1 : p.2.1 ≤ c <;> by_cases h2 : c ≤ p.2.2 <;> cases hp : p.1 <;> simp [h1, h2, cEI, cEB, cES, cNI, cLI, cLT, cLeI, cLeS, cGI, cGS, cGeI, cIL, cIT, tB]
theorem fits_b1' (run : List D) (name : List Nat) (start i c : Nat) (p : Pcc) (hc : name[start + i]? = some c) : aexec T0 (fnP 17).sc ow noSpec 295 (fitsB 1) (stF run (SS name) start (.d (.int i)) (.d (.bool p.1)) (.d (.str (SS [p.2.1]))) (.d (.str (SS [p.2.2])))) =
    bif pcOk p c then some (.next, stF run (SS name) start (.d (.int i)) (.d (.bool p.1)) (.d (.str (SS [p.2.1]))) (.d (.str (SS [p.2.2])))) else some (.ret (.bool false), stF run (SS name) start (.d (.int i)) (.d (.bool p.1)) (.d (.str (SS [p.2.1]))) (.d (.str (SS [p.2.2])))) := by
  have e : ∀ (x y z : V), aexec T0 (fnP 17).sc ow noSpec 295 (fitsB 1) (stF run (SS name) start (.d (.int i)) x y z) = (trF T0 (fnP 17).sc 294 (rhsOf (fitsB 1)) (stF run (SS name) start (.d (.int i)) x y z)).bind fun c => bif c then some (.ret (.bool false), stF run (SS name) start (.d (.int i)) x y z) else some (.next, stF run (SS name) start (.d (.int i)) x y z) := by intro x y z; kernel_rfl
  rw [e, fits_b1 run name start i c p hc]
  cases pcOk p c <;> rfl
end Mine
namespace Mine
open PySem PySem.W PyProof.Rows PySem.SeqAt
theorem afor_all' {α : Type} (f : α → D) {step : D → AS → Option (Fl × AS)} {P : α → Bool} {Inv : AS → Prop} {x : D} :
    ∀ (items : List α) (s : AS), (∀ d ∈ items, ∀ s, Inv s → (P d = true → ∃ s', step (f d) s = some (.next, s') ∧ Inv s') ∧ (P d = false → ∃ s', step (f d) s = some (.ret x, s'))) → Inv s →
      (items.all P = true → ∃ s', afor step (items.map f) s = some (.next, s') ∧ Inv s') ∧ (items.all P = false → ∃ s', afor step (items.map f) s = some (.ret x, s'))
  | [], s, _, hi => ⟨fun _ => ⟨s, rfl, hi⟩, fun h => by simp at h⟩
  | d :: r, s, hstep, hi => by
    refine x0_2 (hstep d List.mem_cons_self s hi) fun h1 h2 => ?_
    cases hp : P d with
    | true =>
      refine x1_2 (h1 hp) fun s' e hi' => ?_
      refine x0_2 (afor_all' f r s' (fun d hd => hstep d (List.mem_cons_of_mem _ hd)) hi') fun g1 g2 => ?_
      refine ⟨fun h => ?_, fun h => ?_⟩
      · refine x1_2 (g1 (by simpa [hp] using h)) fun s2 e2 hi2 => ?_
        exact ⟨s2, by simp only [List.map_cons, afor]; rw [e]; exact e2, hi2⟩
      · refine x1_1 (g2 (by simpa [hp] using h)) fun s2 e2 => ?_
        exact ⟨s2, by simp only [List.map_cons, afor]; rw [e]; exact e2⟩
    | false =>
      refine x1_1 (h2 hp) fun s' e => ?_
      refine ⟨fun h => by simp [hp] at h, fun _ => ⟨s', by simp only [List.map_cons, afor]; rw [e]; rfl⟩⟩
noncomputable def pc0 : Pcc := (false, 0, 0)
noncomputable def fitR (run : List Pcc) (name : List Nat) (start : Nat) : Bool := decide (start + run.length ≤ name.length) && (List.range run.length).all fun k => pcOk (run.getD k pc0) (name.getD (start + k) 0)
theorem fits_step (run : List Pcc) (name : List Nat) (start i : Nat) (k b l h : V) (hi : i < run.length) (hn : start + i < name.length) :
    ∃ s', forStep T0 (fnP 17).sc ow noSpec 297 (targetOf (stAt (fnP 17).body 1)) (bodyOf (stAt (fnP 17).body 1)) (.int i) (stF (run.map pcD) (SS name) start k b l h) = (bif pcOk (run.getD i pc0) (name.getD (start + i) 0) then some (.next, s') else some (.ret (.bool false), s')) ∧
      ∃ k b l h, s' = stF (run.map pcD) (SS name) start k b l h := by
  have e : forStep T0 (fnP 17).sc ow noSpec 297 (targetOf (stAt (fnP 17).body 1)) (bodyOf (stAt (fnP 17).body 1)) (.int i) (stF (run.map pcD) (SS name) start k b l h) =
    (aexecs T0 (fnP 17).sc ow noSpec 297 (bodyOf (stAt (fnP 17).body 1)) (stF (run.map pcD) (SS name) start (.d (.int i)) b l h)).bind (fun q => bif q.2.hp.length == (stF (run.map pcD) (SS name) start k b l h).hp.length then some q else none) := by kernel_rfl
  have hr : asub (.list (run.map pcD)) (.int (i : Int)) = some (pcD (run.getD i pc0)) := asub_list (by simp [hi, List.getD_eq_getElem?_getD])
  have hc : name[start + i]? = some (name.getD (start + i) 0) := by simp [hn, List.getD_eq_getElem?_getD]
  refine ⟨stF (run.map pcD) (SS name) start (.d (.int i)) (.d (.bool (run.getD i pc0).1)) (.d (.str (SS [(run.getD i pc0).2.1]))) (.d (.str (SS [(run.getD i pc0).2.2]))), ?_, _, _, _, _, rfl⟩
  rw [e, fits_bb, ex_next (fits_b0 _ _ _ _ _ _ _ _ _ _ hr)]
  have h1 := fits_b1' (run.map pcD) name start i _ (run.getD i pc0) hc
  cases hp : pcOk (run.getD i pc0) (name.getD (start + i) 0) with
  | true =>
    rw [hp] at h1
    rw [ex_next h1, ex_nil]
    rfl
  | false =>
    rw [hp] at h1
    rw [ex_ret h1]
    rfl
theorem fits_run (run : List Pcc) (name : List Nat) (start : Nat) (hl : run.length ≤ 1000) : runF T0 noSpec 17 [.list (run.map pcD), .str (SS name), .int start] = some (.bool (fitR run name start)) := by
  have hg : giveArgs (fnP 17).ps [.list (run.map pcD), .str (SS name), .int start] ⟨startVars (fnP 17).sc, []⟩ = some (stF (run.map pcD) (SS name) start .un .un .un .un) := by kernel_rfl
  have e0 : ∀ k b l h, aexec T0 (fnP 17).sc ow noSpec 299 (stAt (fnP 17).body 0) (stF (run.map pcD) (SS name) start k b l h) = (trF T0 (fnP 17).sc 298 (rhsOf (stAt (fnP 17).body 0)) (stF (run.map pcD) (SS name) start k b l h)).bind fun c => bif c then some (.ret (.bool false), stF (run.map pcD) (SS name) start k b l h) else some (.next, stF (run.map pcD) (SS name) start k b l h) := by intro k b l h; kernel_rfl
  have e2 : ∀ k b l h, aexec T0 (fnP 17).sc ow noSpec 297 (stAt (fnP 17).body 2) (stF (run.map pcD) (SS name) start k b l h) = some (.ret (.bool true), stF (run.map pcD) (SS name) start k b l h) := by intro k b l h; kernel_rfl
  have hrun : ((run.map pcD).length : Int) = (run.length : Int) := by simp
  have hnm : ((SS name).length : Int) = (name.length : Int) := by rw [ss_len]
  by_cases hlen : start + run.length ≤ name.length
  · have h0 := e0 .un .un .un .un
    rw [fits_0, hrun, hnm, decide_eq_false (by lia)] at h0
    have h1 := fits_1 (run.map pcD) (SS name) start .un .un .un .un
    have hit := fits_it (run.map pcD) (SS name) start .un .un .un .un
    rw [hrun, decide_eq_true (by lia), decide_eq_true (by lia)] at hit
    rw [itF_strong hit] at h1
    have hit2 : rangeC 0 1 ((run.length : Int)).toNat = (List.range run.length).map (fun (i : Nat) => D.int (i : Int)) := by
      unfold rangeC
      simp
    rw [hit2] at h1
    simp only [Option.bind_some] at h1
    obtain ⟨g1, g2⟩ := afor_all' (fun i : Nat => D.int (i : Int)) (step := forStep T0 (fnP 17).sc ow noSpec 297 (targetOf (stAt (fnP 17).body 1)) (bodyOf (stAt (fnP 17).body 1))) (P := fun k => pcOk (run.getD k pc0) (name.getD (start + k) 0))
      (Inv := fun s => ∃ k b l h, s = stF (run.map pcD) (SS name) start k b l h) (x := .bool false) (List.range run.length) (stF (run.map pcD) (SS name) start .un .un .un .un)
      (fun i hi s hs => by
        refine x4_1 hs fun k b l h hr4 => ?_; subst hr4
        have hi' : i < run.length := by simpa using hi
        refine x1_2 (fits_step run name start i k b l h hi' (by lia)) fun s' e hs' => ?_
        refine ⟨fun hp => ⟨s', by rw [e]; rw [hp]; rfl, hs'⟩, fun hp => ⟨s', by rw [e]; rw [hp]; rfl⟩⟩) ⟨_, _, _, _, rfl⟩
    have hfit : fitR run name start = (List.range run.length).all fun k => pcOk (run.getD k pc0) (name.getD (start + k) 0) := by
      unfold fitR; rw [decide_eq_true hlen]; rfl
    cases hp : ((List.range run.length).all fun k => pcOk (run.getD k pc0) (name.getD (start + k) 0)) with
    | true =>
      obtain ⟨s', e, k, b, l, h, rfl⟩ := g1 hp
      rw [e] at h1
      refine run_of hg (s1 := stF (run.map pcD) (SS name) start k b l h) ?_
      rw [fits_body, ex_next h0, ex_next (n := 298) h1, ex_ret (e2 k b l h), hfit, hp]
    | false =>
      refine x1_1 (g2 hp) fun s' e => ?_
      rw [e] at h1
      refine run_of hg (s1 := s') ?_
      rw [fits_body, ex_next h0, ex_ret (n := 298) h1, hfit, hp]
  · have h0 := e0 .un .un .un .un
    rw [fits_0, hrun, hnm, decide_eq_true (by lia)] at h0
    refine run_of hg (s1 := stF (run.map pcD) (SS name) start .un .un .un .un) ?_
    rw [fits_body, ex_ret h0]
    unfold fitR
    rw [decide_eq_false hlen]; rfl
end Mine
namespace Mine
open PySem PySem.W PyProof.Rows PySem.SeqAt
noncomputable def T1x (e p f r : List D → Option D) : Fns := fun x => bif x == Str.ofString "escape" then some e else bif x == Str.ofString "_law_piece" then some p else bif x == Str.ofString "_law_fits" then some f else
  bif x == Str.ofString "rgb_to_yiq" then some r else none
theorem t1_x : T1 = T1x fEsc (runF T0 noSpec 15) (runF T0 noSpec 17) (runF T0 noSpec 11) := rfl
noncomputable def stT (runs : List D) (name : Str') (pl run : V) : AS :=
  ⟨[(Str.ofString "runs", .d (.list runs)), (Str.ofString "name", .d (.str name)), (Str.ofString "place", pl), (Str.ofString "run", run)], []⟩
section
variable (e p f r : List D → Option D) (runs : List D) (name : Str') (pl run : V)
theorem takes_body : (fnP 18).body = [stAt (fnP 18).body 0, stAt (fnP 18).body 1, stAt (fnP 18).body 2, stAt (fnP 18).body 3, stAt (fnP 18).body 4] := by kernel_rfl
theorem takes_0 : aexec (T1x e p f r) (fnP 18).sc ow noSpec 299 (stAt (fnP 18).body 0) (stT runs name pl run) =
    bif ((runs.length : Int) == 1) then aexecs (T1x e p f r) (fnP 18).sc ow noSpec 298 (bodyOf (stAt (fnP 18).body 0)) (stT runs name pl run) else some (.next, stT runs name pl run) := by kernel_rfl
theorem takes_0b : bodyOf (stAt (fnP 18).body 0) = [stAt (bodyOf (stAt (fnP 18).body 0)) 0] := by kernel_rfl
theorem takes_0c : aexec (T1x e p f r) (fnP 18).sc ow noSpec 297 (stAt (bodyOf (stAt (fnP 18).body 0)) 0) (stT runs name pl run) =
    (((((asub (.list runs) (.int 0)).bind fun d => some [d]).bind fun ds => acall1 (Str.ofString "len") ds).bind fun b => (acmp .Eq (.int name.length) b).map .bool).bind fun a => (atr a).bind fun b => bif b then ((asub (.list runs) (.int 0)).bind fun d => some [d, .str name, .int 0]).bind fun ds => f ds else some a).map fun d => (.ret d, stT runs name pl run) := by kernel_rfl
theorem takes_1 : aexec (T1x e p f r) (fnP 18).sc ow noSpec 298 (stAt (fnP 18).body 1) (stT runs name pl run) = (trF (T1x e p f r) (fnP 18).sc 297 (rhsOf (stAt (fnP 18).body 1)) (stT runs name pl run)).bind fun c => bif c then some (.ret (.bool false), stT runs name pl run) else some (.next, stT runs name pl run) := by kernel_rfl
theorem takes_1t : atrue (T1x e p f r) 297 (rhsOf (stAt (fnP 18).body 1)) ⟨(fnP 18).sc, frz (stT runs name pl run)⟩ = ((((asub (.list runs) (.int 0)).bind fun d => some [d, .str name, .int 0]).bind fun ds => f ds).bind atr).map fun b => !b := by kernel_rfl
theorem takes_2 : aexec (T1x e p f r) (fnP 18).sc ow noSpec 297 (stAt (fnP 18).body 2) (stT runs name pl run) = (evF (T1x e p f r) (fnP 18).sc 296 (rhsOf (stAt (fnP 18).body 2)) (stT runs name pl run)).map fun d => (.next, stT runs name (.d d) run) := by kernel_rfl
theorem takes_2e : aeval (T1x e p f r) 296 (rhsOf (stAt (fnP 18).body 2)) ⟨(fnP 18).sc, frz (stT runs name pl run)⟩ = ((asub (.list runs) (.int 0)).bind fun d => some [d]).bind fun ds => acall1 (Str.ofString "len") ds := by kernel_rfl
theorem takes_3 : aexec (T1x e p f r) (fnP 18).sc ow noSpec 296 (stAt (fnP 18).body 3) (stT runs name pl run) =
    (itF (T1x e p f r) (fnP 18).sc 295 false (rhsOf (stAt (fnP 18).body 3)) (stT runs name pl run)).bind fun items => afor (forStep (T1x e p f r) (fnP 18).sc ow noSpec 295 (targetOf (stAt (fnP 18).body 3)) (bodyOf (stAt (fnP 18).body 3))) items (stT runs name pl run) := by kernel_rfl
theorem takes_3i : aiter (T1x e p f r) 295 false (rhsOf (stAt (fnP 18).body 3)) ⟨(fnP 18).sc, frz (stT runs name pl run)⟩ = some (cut runs (some 1) (some (-1))) := by kernel_rfl
noncomputable def takesB (k : Nat) : Stmt := stAt (bodyOf (stAt (fnP 18).body 3)) k
theorem takes_bb : bodyOf (stAt (fnP 18).body 3) = [takesB 0, takesB 1] := by kernel_rfl
theorem takes_fs (d : D) : forStep (T1x e p f r) (fnP 18).sc ow noSpec 295 (targetOf (stAt (fnP 18).body 3)) (bodyOf (stAt (fnP 18).body 3)) d (stT runs name pl run) =
    (aexecs (T1x e p f r) (fnP 18).sc ow noSpec 295 (bodyOf (stAt (fnP 18).body 3)) (stT runs name pl (.d d))).bind (fun q => bif q.2.hp.length == (stT runs name pl run).hp.length then some q else none) := by kernel_rfl
theorem takes_w : aexec (T1x e p f r) (fnP 18).sc ow noSpec 294 (takesB 0) (stT runs name pl run) = awhile (trF (T1x e p f r) (fnP 18).sc 293 (rhsOf (takesB 0))) (aexecs (T1x e p f r) (fnP 18).sc ow noSpec 293 (bodyOf (takesB 0))) 293 (stT runs name pl run) := by kernel_rfl
theorem takes_wt (d : D) (i : Int) : atrue (T1x e p f r) 293 (rhsOf (takesB 0)) ⟨(fnP 18).sc, frz (stT runs name (.d (.int i)) (.d d))⟩ = ((f [d, .str name, .int i]).bind atr).map fun b => !b := by kernel_rfl
theorem takes_wb : bodyOf (takesB 0) = [stAt (bodyOf (takesB 0)) 0, stAt (bodyOf (takesB 0)) 1] := by kernel_rfl
theorem takes_wb0 (i : Int) : aexec (T1x e p f r) (fnP 18).sc ow noSpec 292 (stAt (bodyOf (takesB 0)) 0) (stT runs name (.d (.int i)) run) = some (.next, stT runs name (.d (.int (i + 1))) run) := by kernel_rfl
theorem takes_wb1 (i : Int) : aexec (T1x e p f r) (fnP 18).sc ow noSpec 291 (stAt (bodyOf (takesB 0)) 1) (stT runs name (.d (.int i)) run) = bif decide (i > name.length) then some (.ret (.bool false), stT runs name (.d (.int i)) run) else some (.next, stT runs name (.d (.int i)) run) := by kernel_rfl
theorem takes_b1 (l : List D) (i : Int) : aexec (T1x e p f r) (fnP 18).sc ow noSpec 293 (takesB 1) (stT runs name (.d (.int i)) (.d (.list l))) = some (.next, stT runs name (.d (.int (i + l.length))) (.d (.list l))) := by kernel_rfl
theorem takes_4 (i : Int) : aexec (T1x e p f r) (fnP 18).sc ow noSpec 295 (stAt (fnP 18).body 4) (stT runs name (.d (.int i)) run) =
   ((((((((asub (.list runs) (.int (-1))).bind fun d => some [d]).bind fun ds => acall1 (Str.ofString "len") ds).bind fun b => abin .Sub (.int name.length) b).bind fun a => (acmp .GtE a (.int i)).map .bool).bind fun a => (atr a).bind fun b => bif b then
      ((asub (.list runs) (.int (-1))).bind fun d => ((((((((asub (.list runs) (.int (-1))).bind fun d => some [d]).bind fun ds => acall1 (Str.ofString "len") ds).bind fun b => abin .Sub (.int name.length) b).bind fun x => some [x]).map fun l => .str name :: l)).map fun l => d :: l)).bind fun ds => f ds else some a)).map fun d => (.ret d, stT runs name (.d (.int i)) run)) := by kernel_rfl
end
end Mine
namespace Mine
open PySem PySem.W PyProof.Rows PySem.SeqAt
noncomputable def PP (name : List Nat) (p : Pcc) : Glob.Pc := fun k => pcOk p (name.getD k 0)
theorem fitR_fits (name : List Nat) : ∀ (run : List Pcc) (s : Nat), fitR run name s = Glob.fits name.length (run.map (PP name)) s
  | [], s => by simp [fitR, Glob.fits]
  | p :: r, s => by
    have h := fitR_fits name r (s + 1)
    simp only [List.map_cons, Glob.fits]
    rw [← h]
    delta fitR PP
    simp only [List.length_cons, List.range_succ_eq_map, List.all_cons, List.all_map, List.getD_cons_zero, Nat.add_zero]
    have e : (fun k => pcOk ((p :: r).getD k pc0) (name.getD (s + k) 0)) ∘ Nat.succ = fun k => pcOk (r.getD k pc0) (name.getD (s + 1 + k) 0) := by
      funext k
      simp only [Function.comp, List.getD_cons_succ]
      rw [show s + k.succ = s + 1 + k by lia]
    rw [e]
    by_cases h1 : s < name.length
    · by_cases h2 : s + 1 + r.length ≤ name.length
      · simp [h1, h2, show s + (r.length + 1) ≤ name.length by lia]
      · simp [h1, h2, show ¬ s + (r.length + 1) ≤ name.length by lia]
    · simp [h1, show ¬ s + (r.length + 1) ≤ name.length by lia]
section
variable {e p f r : List D → Option D} {runs : List D} {name : List Nat}
theorem takes_while (hf : ∀ (run : List Pcc) (s : Nat), run.length ≤ 1000 → f [.list (run.map pcD), .str (SS name), .int s] = some (.bool (fitR run name s))) (run : List Pcc) (hl : run.length ≤ 1000) :
    ∀ (m s k : Nat), k = name.length + 1 - s → k < m → 
      (∀ t, Glob.first name.length (run.map (PP name)) k s = some t → awhile (trF (T1x e p f r) (fnP 18).sc 293 (rhsOf (takesB 0))) (aexecs (T1x e p f r) (fnP 18).sc ow noSpec 293 (bodyOf (takesB 0))) m (stT runs (SS name) (.d (.int s)) (.d (.list (run.map pcD)))) = some (.next, stT runs (SS name) (.d (.int t)) (.d (.list (run.map pcD))))) ∧
      (Glob.first name.length (run.map (PP name)) k s = none → ∃ v : Int, awhile (trF (T1x e p f r) (fnP 18).sc 293 (rhsOf (takesB 0))) (aexecs (T1x e p f r) (fnP 18).sc ow noSpec 293 (bodyOf (takesB 0))) m (stT runs (SS name) (.d (.int s)) (.d (.list (run.map pcD)))) = some (.ret (.bool false), stT runs (SS name) (.d (.int v)) (.d (.list (run.map pcD)))))
  | 0, s, k, hk, hm => absurd hm (by lia)
  | m + 1, s, k, hk, hm => by
    have ht := takes_wt e p f r runs (SS name) (.list (run.map pcD)) (s : Int)
    rw [hf run s hl] at ht
    simp only [Option.bind_some, atr, Option.map_some] at ht
    have ht := trF_strong ht
    have hw0 := takes_wb0 e p f r runs (SS name) (.d (.list (run.map pcD))) (s : Int)
    have hw1 := takes_wb1 e p f r runs (SS name) (.d (.list (run.map pcD))) ((s : Int) + 1)
    rw [show (Str.length (SS name)) = name.length from ss_len name] at hw1
    simp only [awhile]
    rw [ht]
    rw [fitR_fits]
    simp only [Option.bind_some]
    cases hfit : Glob.fits name.length (run.map (PP name)) s with
    | true =>
      have hs : s ≤ name.length := by have := Glob.fits_le hfit; lia
      obtain ⟨k', rfl⟩ : ∃ k', k = k' + 1 := ⟨k - 1, by lia⟩
      simp only [Glob.first, hfit, if_true]
      refine ⟨fun t ht => ?_, fun h => (nomatch h)⟩
      rw [← Option.some.inj ht]
      rfl
    | false =>
      by_cases hgt : name.length < s + 1
      · have hn : Glob.first name.length (run.map (PP name)) k s = none := by
          by_cases hk0 : k = 0
          · subst hk0; rfl
          · have : k = 1 := by lia
            rw [this]
            simp [Glob.first, hfit]
        rw [hn]
        refine ⟨fun t h => (nomatch h), fun _ => ?_⟩
        rw [decide_eq_true (by lia)] at hw1
        rw [takes_wb, ex_next hw0, ex_ret hw1]
        exact ⟨_, rfl⟩
      · obtain ⟨k', rfl⟩ : ∃ k', k = k' + 1 := ⟨k - 1, by lia⟩
        rw [decide_eq_false (by lia)] at hw1
        rw [takes_wb, ex_next hw0, ex_next hw1, ex_nil, ← takes_wb]
        simp only [Glob.first, hfit]
        have ih := takes_while hf run hl m (s + 1) k' (by lia) (by lia)
        exact ih
end
end Mine
namespace Mine
open PySem PySem.W PyProof.Rows PySem.SeqAt
theorem idx_neg1 {n : Nat} (h : 0 < n) : idx (-1) n = some (n - 1) := by
  delta idx
  rw [decide_eq_false (by lia : ¬ (0 : Int) ≤ -1), decide_eq_true (by lia : -(n : Int) ≤ -1)]
  simp only [cond_false, cond_true]
  congr 1
  lia
theorem asub_last {l : List D} {d : D} : asub (.list (l ++ [d])) (.int (-1)) = some d := by
  simp only [asub]
  rw [idx_neg1 (by simp)]
  simp
theorem asub_first {l : List D} {d : D} : asub (.list (d :: l)) (.int 0) = some d := by
  have := asub_list (l := d :: l) (i := 0) (d := d) rfl
  exact this
theorem cut_mid {d x : D} {l : List D} : cut (d :: (l ++ [x])) (some 1) (some (-1)) = l := by
  delta cut clipL clipH clipN
  have h1 : (max 0 (min (if (1 : Int) < 0 then 1 + ((d :: (l ++ [x])).length : Int) else 1) ((d :: (l ++ [x])).length : Int))).toNat = 1 := by
    simp; lia
  have h2 : (max 0 (min (if (-1 : Int) < 0 then -1 + ((d :: (l ++ [x])).length : Int) else -1) ((d :: (l ++ [x])).length : Int))).toNat = l.length + 1 := by
    simp; lia
  dsimp only
  rw [h1, h2]
  simp
noncomputable def runD (r : List Pcc) : D := .list (r.map pcD)
section
variable {e p f r : List D → Option D} {runs : List D} {name : List Nat}
theorem takes_mid (hn : name.length ≤ 200) (hf : ∀ (run : List Pcc) (s : Nat), run.length ≤ 1000 → f [.list (run.map pcD), .str (SS name), .int s] = some (.bool (fitR run name s))) :
    ∀ (ms : List (List Pcc)) (s : Nat) (rv : V), (∀ x ∈ ms, x.length ≤ 1000) →
      (∀ t, Glob.place name.length (ms.map fun r => r.map (PP name)) s = some t → ∃ rv', afor (forStep (T1x e p f r) (fnP 18).sc ow noSpec 295 (targetOf (stAt (fnP 18).body 3)) (bodyOf (stAt (fnP 18).body 3))) (ms.map runD) (stT runs (SS name) (.d (.int s)) rv) = some (.next, stT runs (SS name) (.d (.int t)) rv')) ∧
      (Glob.place name.length (ms.map fun r => r.map (PP name)) s = none → ∃ s', afor (forStep (T1x e p f r) (fnP 18).sc ow noSpec 295 (targetOf (stAt (fnP 18).body 3)) (bodyOf (stAt (fnP 18).body 3))) (ms.map runD) (stT runs (SS name) (.d (.int s)) rv) = some (.ret (.bool false), s'))
  | [], s, rv, _ => ⟨fun t h => by cases h; exact ⟨rv, rfl⟩, fun h => (nomatch h)⟩
  | x :: ms, s, rv, hl => by
    have hx := hl x List.mem_cons_self
    obtain ⟨w1, w2⟩ := takes_while (e := e) (p := p) (r := r) (runs := runs) hf x hx 293 s (name.length + 1 - s) rfl (by lia)
    have ew := takes_w e p f r runs (SS name) (.d (.int s)) (.d (runD x))
    have es := takes_fs e p f r runs (SS name) (.d (.int s)) rv (runD x)
    simp only [List.map_cons, Glob.place, afor]
    rw [es]
    cases hfi : Glob.first name.length (x.map (PP name)) (name.length + 1 - s) s with
    | none =>
      obtain ⟨s', e'⟩ := w2 hfi
      refine ⟨fun t h => (nomatch h), fun _ => ?_⟩
      have h1 := ew.trans e'
      rw [takes_bb, ex_ret h1]
      exact ⟨_, rfl⟩
    | some u =>
      have h1 := ew.trans (w1 u hfi)
      have h2 := takes_b1 e p f r runs (SS name) (x.map pcD) (u : Int)
      rw [takes_bb, ex_next h1, ex_next h2, ex_nil]
      simp only [Option.bind_some, List.length_map]
      exact takes_mid hn hf ms (u + x.length) _ (fun y hy => hl y (List.mem_cons_of_mem _ hy))
end
end Mine
namespace Mine
open PySem PySem.W PyProof.Rows PySem.SeqAt
theorem len_run (r : List Pcc) : acall1 (Str.ofString "len") [runD r] = some (.int r.length) := by
  have : acall1 (Str.ofString "len") [runD r] = some (.int ((r.map pcD).length : Int)) := by kernel_rfl
  rw [this, List.length_map]
theorem run_of' {Φ : Fns} {sc : Scope} {ps : List Str'} {body : List Stmt} {spec : Spec} {n : Nat} {ds : List D} {s0 : AS} {x : D} (hg : giveArgs ps ds ⟨startVars sc, []⟩ = some s0) (hr : ∃ s1, aexecs Φ sc ow spec n body s0 = some (.ret x, s1)) : acall Φ sc ow spec n ps body ds = some x := by
  obtain ⟨s1, hr⟩ := hr
  unfold acall; rw [hg]; dsimp only [Option.bind_some]; rw [hr]; rfl
theorem takes_run (runs : List (List Pcc)) (name : List Nat) (hne : runs ≠ []) (hn : name.length ≤ 200) (hl : ∀ x ∈ runs, x.length ≤ 1000) :
    runF T1 noSpec 18 [.list (runs.map runD), .str (SS name)] = some (.bool (Glob.takes name.length (runs.map fun r => r.map (PP name)))) := by
  have hf : ∀ (run : List Pcc) (s : Nat), run.length ≤ 1000 → runF T0 noSpec 17 [.list (run.map pcD), .str (SS name), .int s] = some (.bool (fitR run name s)) := fun run s h => fits_run run name s h
  rw [t1_x]
  generalize runF T0 noSpec 17 = f at hf
  generalize runF T0 noSpec 15 = p
  generalize runF T0 noSpec 11 = r
  generalize fEsc = e
  have hg : ∀ l : List D, giveArgs (fnP 18).ps [.list l, .str (SS name)] ⟨startVars (fnP 18).sc, []⟩ = some (stT l (SS name) .un .un) := by intro l; kernel_rfl
  cases runs with
  | nil => exact absurd rfl hne
  | cons r0 rest =>
    have h0 := hl r0 List.mem_cons_self
    have f0 := hf r0 0 h0
    have f0' : f [runD r0, .str (SS name), .int 0] = some (.bool (fitR r0 name 0)) := f0
    simp only [List.map_cons]
    cases hrest : rest with
    | nil =>
      have t0 := takes_0 e p f r ([runD r0]) (SS name) .un .un
      have tc := takes_0c e p f r ([runD r0]) (SS name) .un .un
      simp only [asub_first, Option.bind_some, len_run, cEI, cEB, cES, cNI, cLI, cLT, cLeI, cLeS, cGI, cGS, cGeI, cIL, cIT, Option.map_some, tB, ss_len, f0'] at tc
      simp only [List.length_cons, List.length_nil] at t0
      refine run_of (hg _) (s1 := stT ([runD r0]) (SS name) .un .un) ?_
      have t0' : aexec (T1x e p f r) (fnP 18).sc ow noSpec 299 (stAt (fnP 18).body 0) (stT [runD r0] (SS name) .un .un) = some (.ret (.bool (Glob.takes name.length [r0.map (PP name)])), stT ([runD r0]) (SS name) .un .un) := by
        refine t0.trans ?_
        rw [takes_0b]
        refine (ex_ret (n := 297) (tc.trans ?_)).trans rfl
        simp only [Glob.takes, List.length_map, fitR_fits]
        by_cases hc : name.length = r0.length
        · simp [hc]
        · have : ((name.length : Int) == (r0.length : Int)) = false := by simp; lia
          simp [hc, this]
      rw [takes_body]
      exact ex_ret t0'
    | cons r1 rs =>
      have hms : ∃ ms x, r1 :: rs = ms ++ [x] := ⟨(r1 :: rs).dropLast, (r1 :: rs).getLast (by simp), (List.dropLast_concat_getLast (by simp)).symm⟩
      obtain ⟨ms, x, hmx⟩ := hms
      have hT : Glob.takes name.length ((r0 :: r1 :: rs).map fun r => r.map (PP name)) = (fitR r0 name 0 && match Glob.place name.length (ms.map fun r => r.map (PP name)) r0.length with
          | none => false
          | some q => decide (q + x.length ≤ name.length) && fitR x name (name.length - x.length)) := by
        have e1 : (r1 :: rs).map (fun r : List Pcc => r.map (PP name)) = ms.map (fun r : List Pcc => r.map (PP name)) ++ [x.map (PP name)] := by rw [hmx]; simp
        simp only [List.map_cons] at e1 ⊢
        simp only [Glob.takes, List.length_map, fitR_fits]
        rw [e1]
        simp [List.getLastD_eq_getLast?]
        all_goals (cases Glob.place name.length (List.map (fun r => List.map (PP name) r) ms) r0.length <;> rfl)
      have hT' : Glob.takes name.length (r0.map (PP name) :: (r1 :: rs).map fun r => r.map (PP name)) = _ := hT
      rw [hT']
      have hL : runD r0 :: (r1 :: rs).map runD = runD r0 :: (ms.map runD ++ [runD x]) := by rw [hmx]; simp
      rw [hL]
      have hlx : x.length ≤ 1000 := hl x (by rw [hrest, hmx]; simp)
      have hlm : ∀ y ∈ ms, y.length ≤ 1000 := fun y hy => hl y (by rw [hrest, hmx]; simp [hy])
      have t0 := takes_0 e p f r (runD r0 :: (ms.map runD ++ [runD x])) (SS name) .un .un
      have hne1 : (((runD r0 :: (ms.map runD ++ [runD x])).length : Int) == 1) = false := by simp; lia
      rw [hne1] at t0
      have t1 := takes_1 e p f r (runD r0 :: (ms.map runD ++ [runD x])) (SS name) .un .un
      have t1t := takes_1t e p f r (runD r0 :: (ms.map runD ++ [runD x])) (SS name) .un .un
      simp only [asub_first, Option.bind_some, f0', atr, Option.map_some] at t1t
      rw [trF_strong t1t] at t1
      refine run_of' (hg _) ?_
      rw [takes_body]
      cases hf0 : fitR r0 name 0 with
      | false =>
        rw [hf0] at t1
        exact ⟨_, (ex_next t0).trans (ex_ret t1)⟩
      | true =>
        rw [hf0] at t1
        have t2 := takes_2 e p f r (runD r0 :: (ms.map runD ++ [runD x])) (SS name) .un .un
        have t2e := takes_2e e p f r (runD r0 :: (ms.map runD ++ [runD x])) (SS name) .un .un
        simp only [asub_first, Option.bind_some, len_run] at t2e
        rw [evF_strong t2e] at t2
        have t3 := takes_3 e p f r (runD r0 :: (ms.map runD ++ [runD x])) (SS name) (.d (.int r0.length)) .un
        have t3i := takes_3i e p f r (runD r0 :: (ms.map runD ++ [runD x])) (SS name) (.d (.int r0.length)) .un
        rw [cut_mid] at t3i
        rw [itF_strong t3i] at t3
        obtain ⟨m1, m2⟩ := takes_mid (e := e) (p := p) (r := r) (runs := runD r0 :: (ms.map runD ++ [runD x])) hn hf ms r0.length .un hlm
        cases hpl : Glob.place name.length (ms.map fun r => r.map (PP name)) r0.length with
        | none =>
          obtain ⟨s', e'⟩ := m2 hpl
          exact ⟨_, (ex_next t0).trans ((ex_next t1).trans ((ex_next t2).trans (ex_ret (t3.trans e'))))⟩
        | some q =>
          obtain ⟨rv', e'⟩ := m1 q hpl
          refine ⟨stT (runD r0 :: (ms.map runD ++ [runD x])) (SS name) (.d (.int q)) rv', (ex_next t0).trans ((ex_next t1).trans ((ex_next t2).trans ((ex_next (t3.trans e')).trans (ex_ret ((takes_4 e p f r _ _ _ _).trans ?_)))))⟩
          have hl0 : runD r0 :: (ms.map runD ++ [runD x]) = (runD r0 :: ms.map runD) ++ [runD x] := rfl
          rw [hl0]
          simp only [asub_last, Option.bind_some, len_run, Option.map_some, aAI, aSI, cEI, cEB, cES, cNI, cLI, cLT, cLeI, cLeS, cGI, cGS, cGeI, cIL, cIT, tB, ss_len]
          by_cases hq : q + x.length ≤ name.length
          · have e1 : ((name.length : Int) - (x.length : Int)) = ((name.length - x.length : Nat) : Int) := by lia
            rw [e1, decide_eq_true (by lia)]
            have hfx := hf x (name.length - x.length) hlx
            dsimp only [cond_true]
            rw [show f [runD x, .str (SS name), .int ((name.length - x.length : Nat) : Int)] = _ from hfx]
            simp [hq]
          · rw [decide_eq_false (by lia)]
            simp [hq]
end Mine
namespace Mine
open PySem PySem.W PyProof.Rows PySem.SeqAt
theorem append_to {vars : List (Str' × V)} {hp : List (List V)} {k : Nat} {l : List V} {v : V} (h : hp[k]? = some l) (hl : l.length < LIM) : appendTo ⟨vars, hp⟩ k v = some ⟨vars, hp.set k (l ++ [v])⟩ := by
  delta appendTo putAt; rw [h]; simp [hl]
theorem thawL_d {f : V → Option D} (hf : ∀ d, f (.d d) = some d) : ∀ (l : List D), thawL f (l.map .d) = some l
  | [] => rfl
  | d :: r => by simp only [List.map_cons, thawL, hf, Option.bind_some, thawL_d hf r, Option.map_some]
theorem thaw_p {hp : List (List V)} {k : Nat} {l : List D} (h : hp[k]? = some (l.map .d)) (hl : l.length ≤ LIM) : thaw hp 3 (.p k) = some (.list l) := by
  show ((hp[k]?).bind fun l => bif decide (l.length ≤ LIM) then (thawL (thaw hp 2) l).map D.list else none) = _
  rw [h]
  simp only [Option.bind_some, List.length_map, decide_eq_true hl, cond_true]
  rw [thawL_d (fun d => rfl)]; rfl
theorem wk_d {x : Str'} {d : D} {vs : List (Str' × V)} {hp : List (List V)} : wk ⟨(x, .d d) :: vs, hp⟩ = (x, d) :: wk ⟨vs, hp⟩ := rfl
theorem wk_app {x : Str'} {k : Nat} {vs : List (Str' × V)} {hp : List (List V)} : wk ⟨(x, .app k) :: vs, hp⟩ = wk ⟨vs, hp⟩ := rfl
theorem wk_p {x : Str'} {k : Nat} {vs : List (Str' × V)} {hp : List (List V)} {l : List D} (h : hp[k]? = some (l.map .d)) (hl : l.length ≤ LIM) : wk ⟨(x, .p k) :: vs, hp⟩ = (x, .list l) :: wk ⟨vs, hp⟩ := by
  delta wk; simp [thaw_p h hl]
theorem lim1000 {n : Nat} (h : n ≤ 1000) : n < LIM := by delta LIM; lia
theorem lim1000' {n : Nat} (h : n ≤ 1000) : n ≤ LIM := by delta LIM; lia
noncomputable def stG (cells : List D) (L : List V) (cell colour side : V) : AS :=
  ⟨[(Str.ofString "cells", .d (.list cells)), (Str.ofString "things", .p 0), (Str.ofString "cell", cell), (Str.ofString "colour", colour), (Str.ofString "side", side)], [L]⟩
noncomputable def colD (r g b : Int) : D := .list [.int r, .int g, .int b]
noncomputable def thD (t : (Int × Int × Int) × Int) : D := .tup [colD t.1.1 t.1.2.1 t.1.2.2, .int t.2]
noncomputable def colOf (c : Int) : Int × Int × Int := (c.fmod 5, (c.fdiv 10).fmod 5, (c.fdiv 100).fmod 5)
noncomputable def sideOf (c : Int) : Int := bif ((c.fdiv 1000).fmod 10).fmod 3 == 0 then 0 else bif ((c.fdiv 1000).fmod 10).fmod 3 == 1 then 1 else -1
noncomputable def thOf (c : Int) : List ((Int × Int × Int) × Int) := (colOf c, 0) :: (bif sideOf c != 0 then [(colOf c, sideOf c)] else [])
noncomputable def thB (k : Nat) : Stmt := stAt (bodyOf (stAt (fnP 13).body 1)) k
section
variable (cells : List D) (L : List V) (cell colour side : V)
theorem things_body : (fnP 13).body = [stAt (fnP 13).body 0, stAt (fnP 13).body 1, stAt (fnP 13).body 2] := by kernel_rfl
theorem things_0 : aexec T0 (fnP 13).sc ow noSpec 299 (stAt (fnP 13).body 0) ⟨[(Str.ofString "cells", .d (.list cells)), (Str.ofString "things", .un), (Str.ofString "cell", .un), (Str.ofString "colour", .un), (Str.ofString "side", .un)], []⟩ = some (.next, stG cells [] .un .un .un) := by kernel_rfl
theorem things_1 : aexec T0 (fnP 13).sc ow noSpec 298 (stAt (fnP 13).body 1) (stG cells L cell colour side) = afor (forStep T0 (fnP 13).sc ow noSpec 297 (targetOf (stAt (fnP 13).body 1)) (bodyOf (stAt (fnP 13).body 1))) cells (stG cells L cell colour side) := by kernel_rfl
theorem things_bb : bodyOf (stAt (fnP 13).body 1) = [thB 0, thB 1, thB 2, thB 3] := by kernel_rfl
theorem things_fs (d : D) : forStep T0 (fnP 13).sc ow noSpec 297 (targetOf (stAt (fnP 13).body 1)) (bodyOf (stAt (fnP 13).body 1)) d (stG cells L cell colour side) =
    (aexecs T0 (fnP 13).sc ow noSpec 297 (bodyOf (stAt (fnP 13).body 1)) (stG cells L (.d d) colour side)).bind (fun q => bif q.2.hp.length == (stG cells L cell colour side).hp.length then some q else none) := by kernel_rfl
theorem things_b0 (c : Int) : aexec T0 (fnP 13).sc ow noSpec 296 (thB 0) (stG cells L (.d (.int c)) colour side) = some (.next, stG cells L (.d (.int c)) (.d (colD (colOf c).1 (colOf c).2.1 (colOf c).2.2)) side) := by kernel_rfl
theorem things_b1 (x : D) : aexec T0 (fnP 13).sc ow noSpec 295 (thB 1) (stG cells L cell (.d x) side) = (evF T0 (fnP 13).sc 294 (rhsOf (thB 1)) (stG cells L cell (.d x) side)).map fun d => (.next, stG cells L cell (.d x) (.d d)) := by kernel_rfl
theorem things_b1e (c : Int) (x : D) : aeval T0 294 (rhsOf (thB 1)) ⟨(fnP 13).sc, frz (stG cells L (.d (.int c)) (.d x) side)⟩ = asub (.list [.int 0, .int 1, .int (-1)]) (.int (((c.fdiv 1000).fmod 10).fmod 3)) := by kernel_rfl
theorem things_b2 (c x : D) : aexec T0 (fnP 13).sc ow noSpec 294 (thB 2) (stG cells L (.d c) (.d x) side) = (appendTo (stG cells L (.d c) (.d x) side) 0 (.d (.tup [x, .int 0]))).map fun s' => (.next, s') := by kernel_rfl
theorem things_b3 (c x : D) (k : Int) : aexec T0 (fnP 13).sc ow noSpec 293 (thB 3) (stG cells L (.d c) (.d x) (.d (.int k))) = bif k != 0 then aexecs T0 (fnP 13).sc ow noSpec 292 (bodyOf (thB 3)) (stG cells L (.d c) (.d x) (.d (.int k))) else some (.next, stG cells L (.d c) (.d x) (.d (.int k))) := by kernel_rfl
theorem things_b3b : bodyOf (thB 3) = [stAt (bodyOf (thB 3)) 0] := by kernel_rfl
theorem things_b30 (c x y : D) : aexec T0 (fnP 13).sc ow noSpec 291 (stAt (bodyOf (thB 3)) 0) (stG cells L (.d c) (.d x) (.d y)) = (appendTo (stG cells L (.d c) (.d x) (.d y)) 0 (.d (.tup [x, y]))).map fun s' => (.next, s') := by kernel_rfl
theorem things_2 : aexec T0 (fnP 13).sc ow noSpec 297 (stAt (fnP 13).body 2) (stG cells L cell colour side) = (aeval T0 296 (rhsOf (stAt (fnP 13).body 2)) ⟨(fnP 13).sc, wk (stG cells L cell colour side)⟩).map fun d => (.ret d, stG cells L cell colour side) := by kernel_rfl
theorem things_2e (x y : D) (r : Vars) : aeval T0 296 (rhsOf (stAt (fnP 13).body 2)) ⟨(fnP 13).sc, (Str.ofString "cells", x) :: (Str.ofString "things", y) :: r⟩ = some y := by kernel_rfl
end
theorem side_eq (c : Int) : asub (.list [.int 0, .int 1, .int (-1)]) (.int (((c.fdiv 1000).fmod 10).fmod 3)) = some (.int (sideOf c)) := by
  delta sideOf
  generalize (c.fdiv 1000).fmod 10 = e
  have h : e.fmod 3 = 0 ∨ e.fmod 3 = 1 ∨ e.fmod 3 = 2 := by
    have h1 := Int.fmod_nonneg_of_pos e (show (0 : Int) < 3 by decide)
    have h2 := Int.fmod_lt_of_pos e (show (0 : Int) < 3 by decide)
    lia
  rcases h with h | h | h <;> rw [h] <;> rfl
theorem app_G {cells : List D} {L : List V} {a b c v : V} (h : L.length ≤ 1000) : appendTo (stG cells L a b c) 0 v = some (stG cells (L ++ [v]) a b c) := by
  delta stG; rw [append_to (k := 0) rfl (lim1000 h)]; rfl
theorem things_turn (cells : List D) (L : List V) (a b d : V) (c : Int) (hL : L.length ≤ 900) :
    ∃ b' d', forStep T0 (fnP 13).sc ow noSpec 297 (targetOf (stAt (fnP 13).body 1)) (bodyOf (stAt (fnP 13).body 1)) (.int c) (stG cells L a b d) = some (.next, stG cells (L ++ (thOf c).map (V.d ∘ thD)) (.d (.int c)) b' d') := by
  refine ⟨.d (colD (colOf c).1 (colOf c).2.1 (colOf c).2.2), .d (.int (sideOf c)), ?_⟩
  rw [things_fs, things_bb, ex_next (things_b0 _ _ _ _ _)]
  have h1 := things_b1 cells L (.d (.int c)) d (colD (colOf c).1 (colOf c).2.1 (colOf c).2.2)
  rw [evF_strong ((things_b1e _ _ _ _ _).trans (side_eq c))] at h1
  rw [ex_next h1]
  have h2 := things_b2 cells L (.d (.int (sideOf c))) (.int c) (colD (colOf c).1 (colOf c).2.1 (colOf c).2.2)
  rw [app_G (by lia)] at h2
  rw [ex_next h2]
  have h3 := things_b3 cells (L ++ [.d (.tup [colD (colOf c).1 (colOf c).2.1 (colOf c).2.2, .int 0])]) (.int c) (colD (colOf c).1 (colOf c).2.1 (colOf c).2.2) (sideOf c)
  have h4 := things_b30 cells (L ++ [.d (.tup [colD (colOf c).1 (colOf c).2.1 (colOf c).2.2, .int 0])]) (.int c) (colD (colOf c).1 (colOf c).2.1 (colOf c).2.2) (.int (sideOf c))
  rw [app_G (by simp; lia)] at h4
  rw [things_b3b, ex_next h4, ex_nil] at h3
  delta thOf
  cases hs : (sideOf c != 0) with
  | false =>
    rw [hs] at h3
    rw [ex_next h3, ex_nil]
    rfl
  | true =>
    rw [hs] at h3
    rw [ex_next h3, ex_nil]
    simp only [cond_true, List.map_cons, List.map_nil, List.append_assoc, List.cons_append, List.nil_append]
    rfl
theorem things_loop (cells : List D) : ∀ (cs : List Int) (L : List V) (a b d : V), L.length + 2 * cs.length ≤ 900 →
    ∃ a' b' d', afor (forStep T0 (fnP 13).sc ow noSpec 297 (targetOf (stAt (fnP 13).body 1)) (bodyOf (stAt (fnP 13).body 1))) (cs.map .int) (stG cells L a b d) = some (.next, stG cells (L ++ (cs.flatMap thOf).map (V.d ∘ thD)) a' b' d')
  | [], L, a, b, d, _ => ⟨a, b, d, by simp [afor]⟩
  | c :: cs, L, a, b, d, h => by
    simp only [List.length_cons] at h
    refine x2_1 (things_turn cells L a b d c (by lia)) fun b' d' e => ?_
    have hl : (thOf c).length ≤ 2 := by delta thOf; cases (sideOf c != 0) <;> simp
    refine x3_1 (things_loop cells cs (L ++ (thOf c).map (V.d ∘ thD)) (.d (.int c)) b' d' (by simp; lia)) fun a2 b2 d2 e2 => ?_
    refine ⟨a2, b2, d2, ?_⟩
    simp only [List.map_cons, afor]
    rw [e]
    simp only [Option.bind_some]
    rw [e2]
    simp
theorem th_len (cs : List Int) : (cs.flatMap thOf).length ≤ 2 * cs.length := by
  induction cs with
  | nil => simp
  | cons c cs ih =>
    have hl : (thOf c).length ≤ 2 := by delta thOf; cases (sideOf c != 0) <;> simp
    simp only [List.flatMap_cons, List.length_append, List.length_cons]
    lia
theorem things_run (cs : List Int) (h : cs.length ≤ 100) : runF T0 noSpec 13 [.list (cs.map .int)] = some (.list ((cs.flatMap thOf).map thD)) := by
  refine x3_1 (things_loop (cs.map .int) cs [] .un .un .un (by simp; lia)) fun a b d e => ?_
  rw [List.nil_append] at e
  refine run_of (s0 := ⟨[(Str.ofString "cells", .d (.list (cs.map .int))), (Str.ofString "things", .un), (Str.ofString "cell", .un), (Str.ofString "colour", .un), (Str.ofString "side", .un)], []⟩) (by kernel_rfl) (s1 := stG (cs.map .int) ((cs.flatMap thOf).map (V.d ∘ thD)) a b d) ?_
  rw [things_body, ex_next (things_0 _), ex_next ((things_1 _ _ _ _ _).trans e)]
  refine ex_ret ((things_2 _ _ _ _ _).trans ?_)
  have hw : wk (stG (cs.map .int) ((cs.flatMap thOf).map (V.d ∘ thD)) a b d) = _ := wk_d.trans (congrArg _ (wk_p (l := (cs.flatMap thOf).map thD) (by simp) (lim1000' (by have := th_len cs; rw [List.length_map]; lia))))
  rw [hw, things_2e]
  rfl
end Mine
namespace Mine
open PySem PySem.W PyProof.Rows PySem.SeqAt
noncomputable def sc0 (c : Int × Int × Int) : Int := 3000 * c.1 + 5900 * c.2.1 + 1100 * c.2.2
noncomputable def sc1 (c : Int × Int × Int) : Int := 5990 * c.1 - 2773 * c.2.1 - 3217 * c.2.2
noncomputable def sc2 (c : Int × Int × Int) : Int := 2130 * c.1 - 5251 * c.2.1 + 3121 * c.2.2
theorem scales_run (c : Int × Int × Int) : runF T0 noSpec 20 [colD c.1 c.2.1 c.2.2] = some (.list [.int (sc0 c), .int (sc1 c), .int (sc2 c)]) := by kernel_rfl
noncomputable def argOf : Stmt → Expr
  | .Expr (.Call _ [e] _ _) _ => e
  | _ => .Constant .none 0 ⟨0, 0, 0, 0⟩
noncomputable def tdB (k : Nat) : Stmt := stAt (bodyOf (stAt (fnP 19).body 2)) k
noncomputable def partF (x : UInt64) : Option D := ((((((((abin .Mult (.flt x) (.int 80000)).bind fun a => abin .Mult a (.int 1048576)).bind fun a => abin .Add a (.int 209715200000)).bind fun a => abin .Add a (.int 1)).bind fun d => some [d])).bind fun ds => acall1 (Str.ofString "int") ds).bind fun a => abin .FloorDiv a (.int 2)).bind fun a => abin .Sub a (.int 104857600000)
noncomputable def quart (c : Int × Int × Int) : Option (List D) := (abin .Div (.int c.1) (.int 4)).bind fun a => ((abin .Div (.int c.2.1) (.int 4)).bind fun b => ((abin .Div (.int c.2.2) (.int 4)).bind fun d => some [d]).map fun l => b :: l).map fun l => a :: l
noncomputable def fGet : D → Option UInt64
  | .flt x => some x
  | _ => none
noncomputable def partCk (d : D) (s : Int) : Bool := match (fGet d).bind fun u => (partF u).bind iGet with
  | some x => x == 1048576 * s
  | none => false
noncomputable def toldR (c : Int × Int × Int) (l : List D) : Bool := match l with
  | [] => false
  | u :: l => match l with
    | [] => false
    | v :: l => match l with
      | [] => false
      | w :: l => match l with
        | [] => partCk u (sc0 c) && (partCk v (sc1 c) && partCk w (sc2 c))
        | _ :: _ => false
noncomputable def toldCk (c : Int × Int × Int) : Bool := match ((quart c).bind fun ds => runF T0 noSpec 11 ds).bind tupL with
  | some l => toldR c l
  | none => false
theorem fGet_inv {d : D} {x : UInt64} (h : fGet d = some x) : d = .flt x := by
  cases d with
  | flt j => cases h; rfl
  | _ => exact ofNone h
theorem part_inv {d : D} {s : Int} (h : partCk d s = true) : ∃ u, d = .flt u ∧ partF u = some (.int (1048576 * s)) := by
  unfold partCk at h
  cases q : (fGet d).bind fun u => (partF u).bind iGet with
  | none => rw [q] at h; cases h
  | some x =>
    rw [q] at h
    have e : x = 1048576 * s := eq_of_beq h
    exact bnd q fun u hu q => bnd q fun y hy q => ⟨u, fGet_inv hu, by rw [hy, iGet_inv q, e]⟩
theorem told_inv {c : Int × Int × Int} (h : toldCk c = true) : ∃ u v w, ((quart c).bind fun ds => runF T0 noSpec 11 ds) = some (.tup [.flt u, .flt v, .flt w]) ∧ partF u = some (.int (1048576 * sc0 c)) ∧ partF v = some (.int (1048576 * sc1 c)) ∧ partF w = some (.int (1048576 * sc2 c)) := by
  unfold toldCk at h
  cases q : ((quart c).bind fun ds => runF T0 noSpec 11 ds).bind tupL with
  | none => rw [q] at h; cases h
  | some l =>
    rw [q] at h
    refine bnd q fun d hd hl => ?_
    rw [hd, tupL_inv hl]
    cases l with
    | nil => cases h
    | cons u l => cases l with
      | nil => cases h
      | cons v l => cases l with
        | nil => cases h
        | cons w l => cases l with
          | cons _ _ => cases h
          | nil =>
            have h1 := Bool.and_eq_true_iff.mp h
            have h2 := Bool.and_eq_true_iff.mp h1.2
            refine x1_2 (part_inv h1.1) fun a hr1 e1 => ?_; subst hr1
            refine x1_2 (part_inv h2.1) fun b hr1 e2 => ?_; subst hr1
            refine x1_2 (part_inv h2.2) fun d hr1 e3 => ?_; subst hr1
            exact ⟨a, b, d, rfl, e1, e2, e3⟩
theorem told_ck : (List.range 5).all (fun r => (List.range 5).all fun g => (List.range 5).all fun b => toldCk ((r : Int), (g : Int), (b : Int))) = true := by decide +kernel
noncomputable def Col (c : Int × Int × Int) : Prop := (0 ≤ c.1 ∧ c.1 < 5) ∧ (0 ≤ c.2.1 ∧ c.2.1 < 5) ∧ (0 ≤ c.2.2 ∧ c.2.2 < 5)
theorem told_ck' {c : Int × Int × Int} (h : Col c) : toldCk c = true := by
  obtain ⟨r, g, b⟩ := c
  obtain ⟨⟨h1, h2⟩, ⟨h3, h4⟩, ⟨h5, h6⟩⟩ := h
  dsimp only at h1 h2 h3 h4 h5 h6
  have k := List.all_eq_true.mp told_ck r.toNat (by simp; omega)
  have k := List.all_eq_true.mp k g.toNat (by simp; omega)
  have k := List.all_eq_true.mp k b.toNat (by simp; omega)
  rw [Int.toNat_of_nonneg h1, Int.toNat_of_nonneg h3, Int.toNat_of_nonneg h5] at k
  exact k
theorem col_of (c : Int) : Col (colOf c) := by
  have h5 : (0 : Int) < 5 := by decide
  exact ⟨⟨Int.fmod_nonneg_of_pos _ h5, Int.fmod_lt_of_pos _ h5⟩, ⟨Int.fmod_nonneg_of_pos _ h5, Int.fmod_lt_of_pos _ h5⟩, ⟨Int.fmod_nonneg_of_pos _ h5, Int.fmod_lt_of_pos _ h5⟩⟩
end Mine
namespace Mine
open PySem PySem.W PyProof.Rows PySem.SeqAt
noncomputable def stD (things : List D) (L : List V) (colour side answer : V) : AS :=
  ⟨[(Str.ofString "things", .d (.list things)), (Str.ofString "fine", .d (.int 1048576)), (Str.ofString "told", .p 0), (Str.ofString "colour", colour), (Str.ofString "side", side), (Str.ofString "answer", answer)], [L]⟩
section
variable (e p f r : List D → Option D) (things : List D) (L : List V) (colour side answer : V)
theorem told_01 : aexecs (T1x e p f r) (fnP 19).sc ow noSpec 300 (fnP 19).body ⟨[(Str.ofString "things", .d (.list things)), (Str.ofString "fine", .un), (Str.ofString "told", .un), (Str.ofString "colour", .un), (Str.ofString "side", .un), (Str.ofString "answer", .un)], []⟩ = aexecs (T1x e p f r) (fnP 19).sc ow noSpec 298 [stAt (fnP 19).body 2, stAt (fnP 19).body 3] (stD things [] .un .un .un) := by kernel_rfl
theorem told_2 : aexec (T1x e p f r) (fnP 19).sc ow noSpec 297 (stAt (fnP 19).body 2) (stD things L colour side answer) = afor (forStep (T1x e p f r) (fnP 19).sc ow noSpec 296 (targetOf (stAt (fnP 19).body 2)) (bodyOf (stAt (fnP 19).body 2))) things (stD things L colour side answer) := by kernel_rfl
theorem told_bb : bodyOf (stAt (fnP 19).body 2) = [tdB 0, tdB 1, tdB 2] := by kernel_rfl
theorem told_fs (x y : D) : forStep (T1x e p f r) (fnP 19).sc ow noSpec 296 (targetOf (stAt (fnP 19).body 2)) (bodyOf (stAt (fnP 19).body 2)) (.tup [x, y]) (stD things L colour side answer) =
    (aexecs (T1x e p f r) (fnP 19).sc ow noSpec 296 (bodyOf (stAt (fnP 19).body 2)) (stD things L (.d x) (.d y) answer)).bind (fun q => bif q.2.hp.length == (stD things L colour side answer).hp.length then some q else none) := by kernel_rfl
theorem told_b0 (x y : D) : aexec (T1x e p f r) (fnP 19).sc ow noSpec 295 (tdB 0) (stD things L (.d x) (.d y) answer) = (evF (T1x e p f r) (fnP 19).sc 294 (rhsOf (tdB 0)) (stD things L (.d x) (.d y) answer)).map fun d => (.next, stD things L (.d x) (.d y) (.d d)) := by kernel_rfl
theorem told_b0e (c : Int × Int × Int) (y : D) : aeval (T1x e p f r) 294 (rhsOf (tdB 0)) ⟨(fnP 19).sc, frz (stD things L (.d (colD c.1 c.2.1 c.2.2)) (.d y) answer)⟩ = (quart c).bind fun ds => r ds := by kernel_rfl
theorem told_b1 (x y a : D) : aexec (T1x e p f r) (fnP 19).sc ow noSpec 294 (tdB 1) (stD things L (.d x) (.d y) (.d a)) = (trF (T1x e p f r) (fnP 19).sc 293 (rhsOf (tdB 1)) (stD things L (.d x) (.d y) (.d a))).bind fun c => bif c then some (.ret .non, stD things L (.d x) (.d y) (.d a)) else some (.next, stD things L (.d x) (.d y) (.d a)) := by kernel_rfl
theorem told_b1e (x y : D) (u v w : UInt64) : atrue (T1x e p f r) 293 (rhsOf (tdB 1)) ⟨(fnP 19).sc, frz (stD things L (.d x) (.d y) (.d (.tup [.flt u, .flt v, .flt w])))⟩ = some false := by kernel_rfl
theorem told_b2 (x y a : D) : aexec (T1x e p f r) (fnP 19).sc ow noSpec 293 (tdB 2) (stD things L (.d x) (.d y) (.d a)) = (evF (T1x e p f r) (fnP 19).sc 292 (argOf (tdB 2)) (stD things L (.d x) (.d y) (.d a))).bind fun d => (appendTo (stD things L (.d x) (.d y) (.d a)) 0 (.d d)).map fun s' => (.next, s') := by kernel_rfl
theorem told_b2e (x y : D) (u v w : UInt64) : aeval (T1x e p f r) 292 (argOf (tdB 2)) ⟨(fnP 19).sc, frz (stD things L (.d x) (.d y) (.d (.tup [.flt u, .flt v, .flt w])))⟩ =
    (((partF u).map some).bind fun o => ((((partF v).map some).bind fun o => ((((partF w).map some).bind fun o => (some []).map fun l => match o with
      | some x => x :: l
      | none => l)).map fun l => match o with
      | some x => x :: l
      | none => l)).map fun l => match o with
      | some x => x :: l
      | none => l).map .list := by kernel_rfl
theorem told_3 : aexec (T1x e p f r) (fnP 19).sc ow noSpec 296 (stAt (fnP 19).body 3) (stD things L colour side answer) = (aeval (T1x e p f r) 295 (rhsOf (stAt (fnP 19).body 3)) ⟨(fnP 19).sc, wk (stD things L colour side answer)⟩).map fun d => (.ret d, stD things L colour side answer) := by kernel_rfl
theorem told_3e (x y z : D) (q : Vars) : aeval (T1x e p f r) 295 (rhsOf (stAt (fnP 19).body 3)) ⟨(fnP 19).sc, (Str.ofString "things", x) :: (Str.ofString "fine", y) :: (Str.ofString "told", z) :: q⟩ = some z := by kernel_rfl
end
noncomputable def tdD (c : Int × Int × Int) : D := .list [.int (1048576 * sc0 c), .int (1048576 * sc1 c), .int (1048576 * sc2 c)]
theorem told_turn (things : List D) (L : List V) (a b d : V) (t : (Int × Int × Int) × Int) (hc : Col t.1) (hL : L.length ≤ 900) :
    ∃ a' b' d', forStep T1 (fnP 19).sc ow noSpec 296 (targetOf (stAt (fnP 19).body 2)) (bodyOf (stAt (fnP 19).body 2)) (thD t) (stD things L a b d) = some (.next, stD things (L ++ [.d (tdD t.1)]) a' b' d') := by
  refine x3_4 (told_inv (told_ck' hc)) fun u v w hA hx hy hz => ?_
  refine ⟨.d (colD t.1.1 t.1.2.1 t.1.2.2), .d (.int t.2), .d (.tup [.flt u, .flt v, .flt w]), ?_⟩
  rw [t1_x]
  unfold thD
  rw [told_fs, told_bb]
  have h0 := told_b0 fEsc (runF T0 noSpec 15) (runF T0 noSpec 17) (runF T0 noSpec 11) things L d (colD t.1.1 t.1.2.1 t.1.2.2) (.int t.2)
  rw [evF_strong ((told_b0e _ _ _ _ _ _ _ _ _).trans hA)] at h0
  rw [ex_next h0]
  have h1 := told_b1 fEsc (runF T0 noSpec 15) (runF T0 noSpec 17) (runF T0 noSpec 11) things L (colD t.1.1 t.1.2.1 t.1.2.2) (.int t.2) (.tup [.flt u, .flt v, .flt w])
  rw [trF_strong (told_b1e _ _ _ _ _ _ _ _ _ _ _)] at h1
  rw [ex_next h1]
  have h2 := told_b2 fEsc (runF T0 noSpec 15) (runF T0 noSpec 17) (runF T0 noSpec 11) things L (colD t.1.1 t.1.2.1 t.1.2.2) (.int t.2) (.tup [.flt u, .flt v, .flt w])
  have h2e := told_b2e fEsc (runF T0 noSpec 15) (runF T0 noSpec 17) (runF T0 noSpec 11) things L (colD t.1.1 t.1.2.1 t.1.2.2) (.int t.2) u v w
  rw [hx, hy, hz] at h2e
  have h2e' := h2e.trans (show _ = some (tdD t.1) from rfl)
  rw [evF_strong h2e'] at h2
  have h3 : appendTo (stD things L (.d (colD t.1.1 t.1.2.1 t.1.2.2)) (.d (.int t.2)) (.d (.tup [.flt u, .flt v, .flt w]))) 0 (.d (tdD t.1)) = some (stD things (L ++ [.d (tdD t.1)]) (.d (colD t.1.1 t.1.2.1 t.1.2.2)) (.d (.int t.2)) (.d (.tup [.flt u, .flt v, .flt w]))) := by
    unfold stD; rw [append_to (k := 0) rfl (lim1000 (by lia))]; rfl
  simp only [Option.bind_some] at h2
  have h4 := h2.trans (congrArg (Option.map fun s' => (Fl.next, s')) h3)
  rw [ex_next h4, ex_nil]
  rfl
theorem told_loop (things : List D) : ∀ (ts : List ((Int × Int × Int) × Int)) (L : List V) (a b d : V), (∀ t ∈ ts, Col t.1) → L.length + ts.length ≤ 900 →
    ∃ a' b' d', afor (forStep T1 (fnP 19).sc ow noSpec 296 (targetOf (stAt (fnP 19).body 2)) (bodyOf (stAt (fnP 19).body 2))) (ts.map thD) (stD things L a b d) = some (.next, stD things (L ++ ts.map fun t => .d (tdD t.1)) a' b' d')
  | [], L, a, b, d, _, _ => ⟨a, b, d, by simp [afor]⟩
  | t :: ts, L, a, b, d, hc, h => by
    simp only [List.length_cons] at h
    refine x3_1 (told_turn things L a b d t (hc t List.mem_cons_self) (by lia)) fun a1 b1 d1 e => ?_
    refine x3_1 (told_loop things ts (L ++ [.d (tdD t.1)]) a1 b1 d1 (fun t ht => hc t (List.mem_cons_of_mem _ ht)) (by simp; lia)) fun a2 b2 d2 e2 => ?_
    refine ⟨a2, b2, d2, ?_⟩
    simp only [List.map_cons, afor]
    rw [e]
    simp only [Option.bind_some]
    rw [e2]
    simp
theorem told_run (ts : List ((Int × Int × Int) × Int)) (hc : ∀ t ∈ ts, Col t.1) (h : ts.length ≤ 100) : runF T1 noSpec 19 [.list (ts.map thD)] = some (.list (ts.map fun t => tdD t.1)) := by
  refine x3_1 (told_loop (ts.map thD) ts [] .un .un .un hc (by simp; lia)) fun a b d e => ?_
  rw [List.nil_append] at e
  refine run_of (s0 := ⟨[(Str.ofString "things", .d (.list (ts.map thD))), (Str.ofString "fine", .un), (Str.ofString "told", .un), (Str.ofString "colour", .un), (Str.ofString "side", .un), (Str.ofString "answer", .un)], []⟩) (by kernel_rfl) (s1 := stD (ts.map thD) (ts.map fun t => .d (tdD t.1)) a b d) ?_
  rw [t1_x] at e ⊢
  rw [told_01, ex_next ((told_2 _ _ _ _ _ _ _ _ _).trans e)]
  refine ex_ret ((told_3 _ _ _ _ _ _ _ _ _).trans ?_)
  have hw : wk (stD (ts.map thD) (ts.map fun t => .d (tdD t.1)) a b d) = _ := wk_d.trans (congrArg _ (wk_d.trans (congrArg _ (wk_p (l := ts.map fun t => tdD t.1) (by simp) (lim1000' (by simp; lia))))))
  rw [hw, told_3e]
  rfl
end Mine
namespace Mine
open PySem PySem.W PyProof.Rows PySem.SeqAt
noncomputable def compE (Φ : Fns) (n : Nat) (ae : AE) : Expr → D → Option (Option D)
  | .ListComp elt [⟨t, it, ifs, 0⟩] scope _ => fun d => (abind t d).bind fun bs =>
          bif bs.all (fun p => isStored (scope.names.lookup p.1)) then
            (atests (fun c => atrue Φ n c ⟨scope, setAll (innerVars ae scope) bs⟩) ifs).bind fun ok =>
              bif ok then (aeval Φ n elt ⟨scope, setAll (innerVars ae scope) bs⟩).map some else some none
          else none
  | _ => fun _ => none
theorem acomp_eq {α : Type} {f : α → D} {F : D → Option (Option D)} {g : α → Option D} : ∀ (l : List α), (∀ x ∈ l, F (f x) = some (g x)) → acomp F (l.map f) = some (l.filterMap g)
  | [], _ => rfl
  | x :: l, h => by
    simp only [List.map_cons, acomp, h x List.mem_cons_self, Option.bind_some, acomp_eq l fun y hy => h y (List.mem_cons_of_mem _ hy), Option.map_some, List.filterMap_cons]
    cases g x <;> rfl
theorem acomp_map {α : Type} {f : α → D} {F : D → Option (Option D)} {g : α → D} (l : List α) (h : ∀ x ∈ l, F (f x) = some (some (g x))) : acomp F (l.map f) = some (l.map g) := by
  rw [acomp_eq (g := some ∘ g) l h, List.filterMap_eq_map]
theorem acomp_filter {α : Type} {f : α → D} {F : D → Option (Option D)} {p : α → Bool} {g : α → D} (l : List α) (h : ∀ x ∈ l, F (f x) = some (bif p x then some (g x) else none)) : acomp F (l.map f) = some ((l.filter p).map g) := by
  rw [acomp_eq (g := fun x => bif p x then some (g x) else none) l h]
  congr 1
  induction l with
  | nil => rfl
  | cons x l ih =>
    rw [List.filterMap_cons, List.filter_cons]
    rw [ih fun y hy => h y (List.mem_cons_of_mem _ hy)]
    cases p x <;> rfl
theorem range_nat (n : Nat) : rangeC 0 1 ((n : Int)).toNat = (List.range n).map fun (i : Nat) => D.int (i : Int) := by
  unfold rangeC; simp
noncomputable def T3x (th it rd tr td sc oh : List D → Option D) : Fns := fun x => bif x == Str.ofString "_law_things" then some th else bif x == Str.ofString "_law_items" then some it else bif x == Str.ofString "_law_read" then some rd else
  bif x == Str.ofString "translate" then some tr else bif x == Str.ofString "_law_told" then some td else bif x == Str.ofString "_law_scales" then some sc else
  bif x == Str.ofString "_law_order_holds" then some oh else none
theorem t3_x (P0 T0' : Str') : T3 P0 T0' = T3x (runF T0 noSpec 13) (runF T0 noSpec 14) (runF T1 noSpec 16) (fT P0 T0') (runF T1 noSpec 19) (runF T0 noSpec 20) (runF T2 noSpec 21) := rfl
noncomputable def stR (cells things homes pattern items runs told way own seen : V) : AS :=
  ⟨[(Str.ofString "cells", cells), (Str.ofString "things", things), (Str.ofString "homes", homes), (Str.ofString "pattern", pattern), (Str.ofString "items", items), (Str.ofString "runs", runs), (Str.ofString "told", told), (Str.ofString "way", way), (Str.ofString "own", own), (Str.ofString "seen", seen)], []⟩
noncomputable def roB (k : Nat) : Stmt := stAt (bodyOf (stAt (fnP 22).body 6)) k
section
variable (th it rd tr td sc oh : List D → Option D)
theorem rows_body : (fnP 22).body = [stAt (fnP 22).body 0, stAt (fnP 22).body 1, stAt (fnP 22).body 2, stAt (fnP 22).body 3, stAt (fnP 22).body 4, stAt (fnP 22).body 5, stAt (fnP 22).body 6, stAt (fnP 22).body 7] := by kernel_rfl
theorem rows_0 (c : D) : aexec (T3x th it rd tr td sc oh) (fnP 22).sc ow noSpec 299 (stAt (fnP 22).body 0) (stR (.d c) .un .un .un .un .un .un .un .un .un) =
    (evF (T3x th it rd tr td sc oh) (fnP 22).sc 298 (rhsOf (stAt (fnP 22).body 0)) (stR (.d c) .un .un .un .un .un .un .un .un .un)).map fun d => (.next, stR (.d c) (.d d) .un .un .un .un .un .un .un .un) := by kernel_rfl
theorem rows_0e (c : D) : aeval (T3x th it rd tr td sc oh) 298 (rhsOf (stAt (fnP 22).body 0)) ⟨(fnP 22).sc, frz (stR (.d c) .un .un .un .un .un .un .un .un .un)⟩ = th [c] := by kernel_rfl
theorem rows_1 (c t : D) : aexec (T3x th it rd tr td sc oh) (fnP 22).sc ow noSpec 298 (stAt (fnP 22).body 1) (stR (.d c) (.d t) .un .un .un .un .un .un .un .un) =
    (evF (T3x th it rd tr td sc oh) (fnP 22).sc 297 (rhsOf (stAt (fnP 22).body 1)) (stR (.d c) (.d t) .un .un .un .un .un .un .un .un)).map fun d => (.next, stR (.d c) (.d t) (.d d) .un .un .un .un .un .un .un) := by kernel_rfl
theorem rows_1e (c : D) (t : List D) : aeval (T3x th it rd tr td sc oh) 297 (rhsOf (stAt (fnP 22).body 1)) ⟨(fnP 22).sc, frz (stR (.d c) (.d (.list t)) .un .un .un .un .un .un .un .un)⟩ =
    (bif decide ((0 : Int) ≤ (t.length : Int)) && decide ((t.length : Int) ≤ 1000) then some (rangeC 0 1 ((t.length : Int)).toNat) else none).bind fun items => (acomp (compE (T3x th it rd tr td sc oh) 296 ⟨(fnP 22).sc, frz (stR (.d c) (.d (.list t)) .un .un .un .un .un .un .un .un)⟩ (rhsOf (stAt (fnP 22).body 1))) items).map .list := by kernel_rfl
theorem rows_1f (c : D) (t : List D) (i : Int) : compE (T3x th it rd tr td sc oh) 296 ⟨(fnP 22).sc, frz (stR (.d c) (.d (.list t)) .un .un .un .un .un .un .un .un)⟩ (rhsOf (stAt (fnP 22).body 1)) (.int i) =
    (((((asub (.list t) (.int i)).bind fun a => asub a (.int 1)).bind fun a => (acmp .Eq a (.int 0)).map D.bool).bind atr).bind fun b => bif b then some true else some false).bind fun ok => bif ok then some (some (.int i)) else some none := by kernel_rfl
theorem rows_2 (c t h : D) (P I : D) (he : it [c, h, .int 0] = it [c, h, .int 0]) : aexec (T3x th it rd tr td sc oh) (fnP 22).sc ow noSpec 297 (stAt (fnP 22).body 2) (stR (.d c) (.d t) (.d h) .un .un .un .un .un .un .un) =
    (evF (T3x th it rd tr td sc oh) (fnP 22).sc 296 (rhsOf (stAt (fnP 22).body 2)) (stR (.d c) (.d t) (.d h) .un .un .un .un .un .un .un)).bind fun d => (unpack [.Name (Str.ofString "pattern") ⟨0, 0, 0, 0⟩, .Name (Str.ofString "items") ⟨0, 0, 0, 0⟩] d).bind fun bs => bif allStored (fnP 22).sc bs then some (.next, (stR (.d c) (.d t) (.d h) .un .un .un .un .un .un .un).setMany bs) else none := by kernel_rfl
theorem rows_2e (c h : D) (t : List D) : aeval (T3x th it rd tr td sc oh) 296 (rhsOf (stAt (fnP 22).body 2)) ⟨(fnP 22).sc, frz (stR (.d c) (.d (.list t)) (.d h) .un .un .un .un .un .un .un)⟩ = it [c, h, .int t.length] := by kernel_rfl
theorem rows_2s (c t h P I : D) : (unpack [.Name (Str.ofString "pattern") ⟨0, 0, 0, 0⟩, .Name (Str.ofString "items") ⟨0, 0, 0, 0⟩] (.tup [P, I])).bind (fun bs => bif allStored (fnP 22).sc bs then some (Fl.next, (stR (.d c) (.d t) (.d h) .un .un .un .un .un .un .un).setMany bs) else none) =
    some (.next, stR (.d c) (.d t) (.d h) (.d P) (.d I) .un .un .un .un .un) := by kernel_rfl
theorem rows_3 (c t h P I : D) : aexec (T3x th it rd tr td sc oh) (fnP 22).sc ow noSpec 296 (stAt (fnP 22).body 3) (stR (.d c) (.d t) (.d h) (.d P) (.d I) .un .un .un .un .un) =
    (evF (T3x th it rd tr td sc oh) (fnP 22).sc 295 (rhsOf (stAt (fnP 22).body 3)) (stR (.d c) (.d t) (.d h) (.d P) (.d I) .un .un .un .un .un)).map fun d => (.next, stR (.d c) (.d t) (.d h) (.d P) (.d I) (.d d) .un .un .un .un) := by kernel_rfl
theorem rows_3e (c t h P I : D) : aeval (T3x th it rd tr td sc oh) 295 (rhsOf (stAt (fnP 22).body 3)) ⟨(fnP 22).sc, frz (stR (.d c) (.d t) (.d h) (.d P) (.d I) .un .un .un .un .un)⟩ = ((tr [P]).bind fun d => some [d]).bind fun ds => rd ds := by kernel_rfl
theorem rows_4 (c t h P I R : D) : aexec (T3x th it rd tr td sc oh) (fnP 22).sc ow noSpec 295 (stAt (fnP 22).body 4) (stR (.d c) (.d t) (.d h) (.d P) (.d I) (.d R) .un .un .un .un) =
    (evF (T3x th it rd tr td sc oh) (fnP 22).sc 294 (rhsOf (stAt (fnP 22).body 4)) (stR (.d c) (.d t) (.d h) (.d P) (.d I) (.d R) .un .un .un .un)).map fun d => (.next, stR (.d c) (.d t) (.d h) (.d P) (.d I) (.d R) (.d d) .un .un .un) := by kernel_rfl
theorem rows_4e (c t h P I R : D) : aeval (T3x th it rd tr td sc oh) 294 (rhsOf (stAt (fnP 22).body 4)) ⟨(fnP 22).sc, frz (stR (.d c) (.d t) (.d h) (.d P) (.d I) (.d R) .un .un .un .un)⟩ = td [t] := by kernel_rfl
theorem rows_5 (c t h P I : D) (R O : List D) : aexec (T3x th it rd tr td sc oh) (fnP 22).sc ow noSpec 294 (stAt (fnP 22).body 5) (stR (.d c) (.d t) (.d h) (.d P) (.d I) (.d (.list R)) (.d (.list O)) .un .un .un) =
    some (.next, stR (.d c) (.d t) (.d h) (.d P) (.d I) (.d (.list R)) (.d (.list O)) .un .un .un) := by kernel_rfl
theorem rows_6 (c t h P I R O : D) (w o s : V) : aexec (T3x th it rd tr td sc oh) (fnP 22).sc ow noSpec 293 (stAt (fnP 22).body 6) (stR (.d c) (.d t) (.d h) (.d P) (.d I) (.d R) (.d O) w o s) =
    afor (forStep (T3x th it rd tr td sc oh) (fnP 22).sc ow noSpec 292 (targetOf (stAt (fnP 22).body 6)) (bodyOf (stAt (fnP 22).body 6))) [.int 0, .int 1, .int 2] (stR (.d c) (.d t) (.d h) (.d P) (.d I) (.d R) (.d O) w o s) := by kernel_rfl
theorem rows_7 (c t h P I R O w o s : V) : aexec (T3x th it rd tr td sc oh) (fnP 22).sc ow noSpec 292 (stAt (fnP 22).body 7) (stR c t h P I R O w o s) = some (.ret (.bool true), stR c t h P I R O w o s) := by kernel_rfl
theorem rows_bb : bodyOf (stAt (fnP 22).body 6) = [roB 0, roB 1, roB 2] := by kernel_rfl
theorem rows_fs (c t h P I R O : D) (w o s : V) (k : Int) : forStep (T3x th it rd tr td sc oh) (fnP 22).sc ow noSpec 292 (targetOf (stAt (fnP 22).body 6)) (bodyOf (stAt (fnP 22).body 6)) (.int k) (stR (.d c) (.d t) (.d h) (.d P) (.d I) (.d R) (.d O) w o s) =
    (aexecs (T3x th it rd tr td sc oh) (fnP 22).sc ow noSpec 292 (bodyOf (stAt (fnP 22).body 6)) (stR (.d c) (.d t) (.d h) (.d P) (.d I) (.d R) (.d O) (.d (.int k)) o s)).bind (fun q => bif q.2.hp.length == 0 then some q else none) := by kernel_rfl
theorem rows_b0 (c t h P I R O w : D) (o s : V) : aexec (T3x th it rd tr td sc oh) (fnP 22).sc ow noSpec 291 (roB 0) (stR (.d c) (.d t) (.d h) (.d P) (.d I) (.d R) (.d O) (.d w) o s) =
    (evF (T3x th it rd tr td sc oh) (fnP 22).sc 290 (rhsOf (roB 0)) (stR (.d c) (.d t) (.d h) (.d P) (.d I) (.d R) (.d O) (.d w) o s)).map fun d => (.next, stR (.d c) (.d t) (.d h) (.d P) (.d I) (.d R) (.d O) (.d w) (.d d) s) := by kernel_rfl
theorem rows_b0e (c h P I R O w : D) (t : List D) (o s : V) : aeval (T3x th it rd tr td sc oh) 290 (rhsOf (roB 0)) ⟨(fnP 22).sc, frz (stR (.d c) (.d (.list t)) (.d h) (.d P) (.d I) (.d R) (.d O) (.d w) o s)⟩ =
    (acomp (compE (T3x th it rd tr td sc oh) 289 ⟨(fnP 22).sc, frz (stR (.d c) (.d (.list t)) (.d h) (.d P) (.d I) (.d R) (.d O) (.d w) o s)⟩ (rhsOf (roB 0))) t).map .list := by kernel_rfl
theorem rows_b0f (c t h P I R O w : D) (o s : V) (x : D) (k : Int) : compE (T3x th it rd tr td sc oh) 289 ⟨(fnP 22).sc, frz (stR (.d c) (.d t) (.d h) (.d P) (.d I) (.d R) (.d O) (.d w) o s)⟩ (rhsOf (roB 0)) (.tup [x, .int k]) =
    ((((sc [x]).bind fun a => asub a w).bind fun a => abin .Mult (.int 2097152) a).bind fun a => abin .Add a (.int k)).map some := by kernel_rfl
theorem rows_b1 (c t h P I R O w o : D) (s : V) : aexec (T3x th it rd tr td sc oh) (fnP 22).sc ow noSpec 290 (roB 1) (stR (.d c) (.d t) (.d h) (.d P) (.d I) (.d R) (.d O) (.d w) (.d o) s) =
    (evF (T3x th it rd tr td sc oh) (fnP 22).sc 289 (rhsOf (roB 1)) (stR (.d c) (.d t) (.d h) (.d P) (.d I) (.d R) (.d O) (.d w) (.d o) s)).map fun d => (.next, stR (.d c) (.d t) (.d h) (.d P) (.d I) (.d R) (.d O) (.d w) (.d o) (.d d)) := by kernel_rfl
theorem rows_b1e (c h P I R O w o : D) (t : List D) (s : V) : aeval (T3x th it rd tr td sc oh) 289 (rhsOf (roB 1)) ⟨(fnP 22).sc, frz (stR (.d c) (.d (.list t)) (.d h) (.d P) (.d I) (.d R) (.d O) (.d w) (.d o) s)⟩ =
    (bif decide ((0 : Int) ≤ (t.length : Int)) && decide ((t.length : Int) ≤ 1000) then some (rangeC 0 1 ((t.length : Int)).toNat) else none).bind fun items => (acomp (compE (T3x th it rd tr td sc oh) 288 ⟨(fnP 22).sc, frz (stR (.d c) (.d (.list t)) (.d h) (.d P) (.d I) (.d R) (.d O) (.d w) (.d o) s)⟩ (rhsOf (roB 1))) items).map .list := by kernel_rfl
theorem rows_b1f (c t h P I R O w o : D) (s : V) (i : Int) : compE (T3x th it rd tr td sc oh) 288 ⟨(fnP 22).sc, frz (stR (.d c) (.d t) (.d h) (.d P) (.d I) (.d R) (.d O) (.d w) (.d o) s)⟩ (rhsOf (roB 1)) (.int i) =
    (((((asub t (.int i)).bind fun a => asub a (.int 1)).bind fun a => (acmp .NotEq a (.int 0)).map D.bool).bind atr).bind fun b => bif b then asub o (.int i) else ((asub O (.int i)).bind fun a => asub a w).bind fun a => abin .Mult (.int 2) a).map some := by kernel_rfl
theorem rows_b2 (c t h P I R O w o s : D) : aexec (T3x th it rd tr td sc oh) (fnP 22).sc ow noSpec 289 (roB 2) (stR (.d c) (.d t) (.d h) (.d P) (.d I) (.d R) (.d O) (.d w) (.d o) (.d s)) =
    (trF (T3x th it rd tr td sc oh) (fnP 22).sc 288 (rhsOf (roB 2)) (stR (.d c) (.d t) (.d h) (.d P) (.d I) (.d R) (.d O) (.d w) (.d o) (.d s))).bind fun k => bif k then some (.ret (.bool false), (stR (.d c) (.d t) (.d h) (.d P) (.d I) (.d R) (.d O) (.d w) (.d o) (.d s))) else some (.next, stR (.d c) (.d t) (.d h) (.d P) (.d I) (.d R) (.d O) (.d w) (.d o) (.d s)) := by kernel_rfl
theorem rows_b2e (c t h P I R O w o s : D) : atrue (T3x th it rd tr td sc oh) 288 (rhsOf (roB 2)) ⟨(fnP 22).sc, frz (stR (.d c) (.d t) (.d h) (.d P) (.d I) (.d R) (.d O) (.d w) (.d o) (.d s))⟩ = ((oh [R, I, s, o]).bind atr).map fun b => !b := by kernel_rfl
end
end Mine
namespace Mine
open PySem PySem.W PyProof.Rows PySem.SeqAt
noncomputable def scw (w : Nat) (c : Int × Int × Int) : Int := match w with
  | 0 => sc0 c
  | 1 => sc1 c
  | _ => sc2 c
noncomputable def ownOf (w : Nat) (t : (Int × Int × Int) × Int) : Int := 2097152 * scw w t.1 + t.2
noncomputable def th0 : (Int × Int × Int) × Int := ((0, 0, 0), 0)
noncomputable def homesOf (ts : List ((Int × Int × Int) × Int)) : List Nat := (List.range ts.length).filter fun i => (ts.getD i th0).2 == 0
theorem getD_some {α : Type} {l : List α} {i : Nat} {d : α} (h : i < l.length) : l[i]? = some (l.getD i d) := by simp [h]
theorem sub_th {ts : List ((Int × Int × Int) × Int)} {i : Nat} (h : i < ts.length) : asub (.list (ts.map thD)) (.int i) = some (thD (ts.getD i th0)) := asub_list (by simp [h])
theorem sub_map {α : Type} {f : α → D} {ts : List α} {i : Nat} {d : α} (h : i < ts.length) : asub (.list (ts.map f)) (.int i) = some (f (ts.getD i d)) := asub_list (by simp [h])
theorem dec_len {n : Nat} (h : n ≤ 1000) : (bif decide ((0 : Int) ≤ (n : Int)) && decide ((n : Int) ≤ 1000) then some (rangeC 0 1 ((n : Int)).toNat) else none) = some ((List.range n).map fun (i : Nat) => D.int (i : Int)) := by
  rw [decide_eq_true (by lia), decide_eq_true (by lia), range_nat]; rfl
section
variable {th it rd tr td sc oh : List D → Option D}
theorem sub3 (a b c : D) : ∀ w : Nat, w < 3 → asub (.list [a, b, c]) (.int (w : Int)) = some (match w with
  | 0 => a
  | 1 => b
  | _ => c)
  | 0, _ => rfl
  | 1, _ => rfl
  | 2, _ => rfl
theorem td_sub (c : Int × Int × Int) (w : Nat) (h : w < 3) : asub (tdD c) (.int (w : Int)) = some (.int (1048576 * scw w c)) := by
  unfold tdD
  rw [sub3 _ _ _ w h]
  match w, h with
  | 0, _ => rfl
  | 1, _ => rfl
  | 2, _ => rfl
theorem sc_sub (c : Int × Int × Int) (w : Nat) (h : w < 3) : asub (.list [.int (sc0 c), .int (sc1 c), .int (sc2 c)]) (.int (w : Int)) = some (.int (scw w c)) := by
  rw [sub3 _ _ _ w h]
  match w, h with
  | 0, _ => rfl
  | 1, _ => rfl
  | 2, _ => rfl
theorem mul_l {k x : Int} (h : sm k = true) : abin .Mult (.int k) (.int x) = some (.int (k * x)) := by
  show (bif sm k || sm x then some (D.int (k * x)) else none) = _
  rw [h]; rfl
theorem rows_turn (hsc : ∀ c : Int × Int × Int, sc [colD c.1 c.2.1 c.2.2] = some (.list [.int (sc0 c), .int (sc1 c), .int (sc2 c)])) (ts : List ((Int × Int × Int) × Int)) (hts : ts.length ≤ 900)
    (c h P I R : D) (w0 o s : V) (w : Nat) (hw : w < 3) (hoh : oh [R, I, .list (ts.map fun t => .int (ownOf w t)), .list (ts.map fun t => .int (ownOf w t))] = some (.bool true)) :
    ∃ o' s', forStep (T3x th it rd tr td sc oh) (fnP 22).sc ow noSpec 292 (targetOf (stAt (fnP 22).body 6)) (bodyOf (stAt (fnP 22).body 6)) (.int w) (stR (.d c) (.d (.list (ts.map thD))) (.d h) (.d P) (.d I) (.d R) (.d (.list (ts.map fun t => tdD t.1))) w0 o s) =
      some (.next, stR (.d c) (.d (.list (ts.map thD))) (.d h) (.d P) (.d I) (.d R) (.d (.list (ts.map fun t => tdD t.1))) (.d (.int w)) o' s') := by
  refine ⟨.d (.list (ts.map fun t => .int (ownOf w t))), .d (.list (ts.map fun t => .int (ownOf w t))), ?_⟩
  rw [rows_fs, rows_bb]
  have e0 := rows_b0e th it rd tr td sc oh c h P I R (.list (ts.map fun t => tdD t.1)) (.int w) (ts.map thD) o s
  rw [acomp_map (g := fun t => .int (ownOf w t)) ts (fun t _ => by
    unfold thD
    rw [rows_b0f, hsc]
    dsimp only [Option.bind_some]
    rw [sc_sub _ _ hw]
    dsimp only [Option.bind_some]
    rw [mul_l (by decide)]
    rfl)] at e0
  have h0 := rows_b0 th it rd tr td sc oh c (.list (ts.map thD)) h P I R (.list (ts.map fun t => tdD t.1)) (.int w) o s
  rw [evF_strong e0] at h0
  rw [ex_next h0]
  have e1 := rows_b1e th it rd tr td sc oh c h P I R (.list (ts.map fun t => tdD t.1)) (.int w) (.list (ts.map fun t => .int (ownOf w t))) (ts.map thD) s
  rw [List.length_map, dec_len (by lia)] at e1
  dsimp only [Option.bind_some] at e1
  rw [acomp_map (g := fun i : Nat => .int (ownOf w (ts.getD i th0))) (List.range ts.length) (fun i hi => by
    have hi' : i < ts.length := by simpa using hi
    rw [rows_b1f, sub_th hi', sub_map (d := th0) hi', sub_map (d := th0) hi']
    dsimp only [Option.bind_some]
    rw [td_sub _ _ hw]
    dsimp only [Option.bind_some]
    rw [mul_l (by decide)]
    generalize hq : ts.getD i th0 = q
    have a1 : asub (thD q) (.int 1) = some (.int q.2) := rfl
    rw [a1]
    dsimp only [Option.bind_some, cEI, cEB, cES, cNI, cLI, cLT, cLeI, cLeS, cGI, cGS, cGeI, cIL, cIT, Option.map_some, tB]
    cases hs : (q.2 != 0) with
    | true => rfl
    | false =>
      have : q.2 = 0 := by simpa using hs
      simp only [cond_false, Option.map_some, Option.some.injEq, D.int.injEq]
      unfold ownOf
      rw [this]
      lia)] at e1
  have hl : (List.range ts.length).map (fun i : Nat => D.int (ownOf w (ts.getD i th0))) = ts.map fun t => .int (ownOf w t) := by
    refine List.ext_getElem (by simp) fun i h1 h2 => ?_
    have : i < ts.length := by simpa using h1
    simp [this]
  rw [hl] at e1
  have h1 := rows_b1 th it rd tr td sc oh c (.list (ts.map thD)) h P I R (.list (ts.map fun t => tdD t.1)) (.int w) (.list (ts.map fun t => .int (ownOf w t))) s
  rw [evF_strong e1] at h1
  rw [ex_next h1]
  have h2 := rows_b2 th it rd tr td sc oh c (.list (ts.map thD)) h P I R (.list (ts.map fun t => tdD t.1)) (.int w) (.list (ts.map fun t => .int (ownOf w t))) (.list (ts.map fun t => .int (ownOf w t)))
  have e2 := rows_b2e th it rd tr td sc oh c (.list (ts.map thD)) h P I R (.list (ts.map fun t => tdD t.1)) (.int w) (.list (ts.map fun t => .int (ownOf w t))) (.list (ts.map fun t => .int (ownOf w t)))
  rw [hoh] at e2
  rw [trF_strong e2] at h2
  rw [ex_next h2, ex_nil]
  rfl
theorem homes_eq (ts : List ((Int × Int × Int) × Int)) (hts : ts.length ≤ 900) (c : D) : aeval (T3x th it rd tr td sc oh) 297 (rhsOf (stAt (fnP 22).body 1)) ⟨(fnP 22).sc, frz (stR (.d c) (.d (.list (ts.map thD))) .un .un .un .un .un .un .un .un)⟩ =
    some (.list ((homesOf ts).map fun i : Nat => .int (i : Int))) := by
  rw [rows_1e, List.length_map, dec_len (by lia)]
  dsimp only [Option.bind_some]
  rw [acomp_filter (p := fun i => (ts.getD i th0).2 == 0) (g := fun i : Nat => .int (i : Int)) (List.range ts.length) (fun i hi => by
    have hi' : i < ts.length := by simpa using hi
    rw [rows_1f, sub_th hi']
    generalize ts.getD i th0 = q
    have a1 : asub (thD q) (.int 1) = some (.int q.2) := rfl
    dsimp only [Option.bind_some]
    rw [a1]
    dsimp only [Option.bind_some, cEI, cEB, cES, cNI, cLI, cLT, cLeI, cLeS, cGI, cGS, cGeI, cIL, cIT, Option.map_some, tB]
    cases (q.2 == 0) <;> rfl)]
  rfl
theorem rows_run (cells : List D) (ts : List ((Int × Int × Int) × Int)) (hts : ts.length ≤ 900) (P T : D) (I R : List D)
    (hth : th [.list cells] = some (.list (ts.map thD)))
    (hit : it [.list cells, .list ((homesOf ts).map fun i : Nat => .int (i : Int)), .int ts.length] = some (.tup [P, .list I]))
    (htr : tr [P] = some T) (hrd : rd [T] = some (.list R)) (htd : td [.list (ts.map thD)] = some (.list (ts.map fun t => tdD t.1)))
    (hsc : ∀ c : Int × Int × Int, sc [colD c.1 c.2.1 c.2.2] = some (.list [.int (sc0 c), .int (sc1 c), .int (sc2 c)]))
    (hoh : ∀ w : Nat, w < 3 → oh [.list R, .list I, .list (ts.map fun t => .int (ownOf w t)), .list (ts.map fun t => .int (ownOf w t))] = some (.bool true)) :
    acall (T3x th it rd tr td sc oh) (fnP 22).sc ow noSpec 300 (fnP 22).ps (fnP 22).body [.list cells] = some (.bool true) := by
  have hg : giveArgs (fnP 22).ps [.list cells] ⟨startVars (fnP 22).sc, []⟩ = some (stR (.d (.list cells)) .un .un .un .un .un .un .un .un .un) := by kernel_rfl
  refine run_of' hg ?_
  have h0 := rows_0 th it rd tr td sc oh (.list cells)
  rw [evF_strong ((rows_0e th it rd tr td sc oh _).trans hth)] at h0
  have h1 := rows_1 th it rd tr td sc oh (.list cells) (.list (ts.map thD))
  rw [evF_strong (homes_eq ts hts (.list cells))] at h1
  have h2 := rows_2 th it rd tr td sc oh (.list cells) (.list (ts.map thD)) (.list ((homesOf ts).map fun i : Nat => .int (i : Int))) P (.list I) rfl
  have e2 := rows_2e th it rd tr td sc oh (.list cells) (.list ((homesOf ts).map fun i : Nat => .int (i : Int))) (ts.map thD)
  rw [List.length_map, hit] at e2
  rw [evF_strong e2] at h2
  have h2' := h2.trans (rows_2s _ _ _ P (.list I))
  have h3 := rows_3 th it rd tr td sc oh (.list cells) (.list (ts.map thD)) (.list ((homesOf ts).map fun i : Nat => .int (i : Int))) P (.list I)
  have e3 := rows_3e th it rd tr td sc oh (.list cells) (.list (ts.map thD)) (.list ((homesOf ts).map fun i : Nat => .int (i : Int))) P (.list I)
  rw [htr] at e3
  dsimp only [Option.bind_some] at e3
  rw [evF_strong (e3.trans hrd)] at h3
  have h4 := rows_4 th it rd tr td sc oh (.list cells) (.list (ts.map thD)) (.list ((homesOf ts).map fun i : Nat => .int (i : Int))) P (.list I) (.list R)
  rw [evF_strong ((rows_4e th it rd tr td sc oh _ _ _ _ _ _).trans htd)] at h4
  have h5 := rows_5 th it rd tr td sc oh (.list cells) (.list (ts.map thD)) (.list ((homesOf ts).map fun i : Nat => .int (i : Int))) P (.list I) R (ts.map fun t => tdD t.1)
  have h6 := rows_6 th it rd tr td sc oh (.list cells) (.list (ts.map thD)) (.list ((homesOf ts).map fun i : Nat => .int (i : Int))) P (.list I) (.list R) (.list (ts.map fun t => tdD t.1)) .un .un .un
  have turn := fun (w : Nat) (hw : w < 3) (w0 o s : V) => rows_turn (th := th) (it := it) (rd := rd) (tr := tr) (td := td) (sc := sc) (oh := oh) hsc ts hts (.list cells) (.list ((homesOf ts).map fun i : Nat => .int (i : Int))) P (.list I) (.list R) w0 o s w hw (hoh w hw)
  refine x2_1 (turn 0 (by lia) .un .un .un) fun o0 s0 t0 => ?_
  refine x2_1 (turn 1 (by lia) (.d (.int (0 : Nat))) o0 s0) fun o1 s1 t1 => ?_
  refine x2_1 (turn 2 (by lia) (.d (.int (1 : Nat))) o1 s1) fun o2 s2 t2 => ?_
  have t0' := h6
  dsimp only [afor] at t0'
  rw [show (D.int 0) = D.int ((0 : Nat) : Int) from rfl, show (D.int 1) = D.int ((1 : Nat) : Int) from rfl, show (D.int 2) = D.int ((2 : Nat) : Int) from rfl, t0] at t0'
  dsimp only [Option.bind_some] at t0'
  rw [t1] at t0'
  dsimp only [Option.bind_some] at t0'
  rw [t2] at t0'
  dsimp only [Option.bind_some] at t0'
  rw [rows_body]
  exact ⟨_, (ex_next h0).trans ((ex_next h1).trans ((ex_next h2').trans ((ex_next h3).trans ((ex_next h4).trans ((ex_next h5).trans ((ex_next t0').trans (ex_ret (rows_7 _ _ _ _ _ _ _ _ _ _ _ _ _ _ _ _ _))))))))⟩
end
end Mine
namespace Mine
open PySem PySem.W PyProof.Rows PySem.SeqAt
noncomputable def T4x (rh : List D → Option D) : Fns := fun x => bif x == Str.ofString "_law_rows_hold" then some rh else none
theorem t4_x (P0 T0' : Str') : T4 P0 T0' = T4x (runF (T3 P0 T0') noSpec 22) := rfl
noncomputable def defs : List Int := [301104, 4342023, 80222]
noncomputable def cellsOf (ns : List Int) : List Int := ((ns ++ defs).take 3).map fun n => n.fmod 10000000
noncomputable def lawE : Expr := match rhsOf (stAt (fnP 23).body 0) with
  | .Call _ [e] _ _ => e
  | e => e
theorem law_body : (fnP 23).body = [stAt (fnP 23).body 0] := by kernel_rfl
noncomputable def lawS (l : List D) : AS := ⟨[(Str.ofString "script", .d (.list l))], []⟩
theorem law_0 (rh : List D → Option D) (l : List D) : aexec (T4x rh) (fnP 23).sc ow noSpec 299 (stAt (fnP 23).body 0) (lawS l) = ((((((abin .Add (.list l) (.list (defs.map .int))).bind fun a => asli a none (some 3)).bind itemsOf).bind fun items => (acomp (compE (T4x rh) 296 ⟨(fnP 23).sc, wk (lawS l)⟩ lawE) items).map .list).bind fun d => some [d]).bind fun ds => rh ds).map fun d => (.ret d, lawS l) := by kernel_rfl
theorem law_f (rh : List D → Option D) (l : List D) (n : Int) : compE (T4x rh) 296 ⟨(fnP 23).sc, wk (lawS l)⟩ lawE (.int n) = (abin .Mod (.int n) (.int 10000000)).map some := by kernel_rfl
theorem clipN_nat (k n : Nat) : clipN (k : Int) n = min k n := by delta clipN; rw [if_neg (by omega)]; omega
theorem cut_take {α : Type} (l : List α) (k : Nat) : cut l none (some (k : Int)) = l.take k := by
  delta cut clipL clipH
  simp only [clipN_nat, Nat.sub_zero, List.drop_zero]
  by_cases h : k ≤ l.length
  · rw [Nat.min_eq_left h]
  · rw [Nat.min_eq_right (by omega), List.take_of_length_le (by omega), List.take_of_length_le (by omega)]
theorem law_run {rh : List D → Option D} (ns : List Int) (h : ns.length ≤ 63) (hrh : rh [.list ((cellsOf ns).map .int)] = some (.bool true)) : acall (T4x rh) (fnP 23).sc ow noSpec 300 (fnP 23).ps (fnP 23).body [.list (ns.map .int)] = some (.bool true) := by
  have hg : giveArgs (fnP 23).ps [.list (ns.map .int)] ⟨startVars (fnP 23).sc, []⟩ = some (lawS (ns.map .int)) := by kernel_rfl
  refine run_of' hg ?_
  rw [law_body]
  have ha : abin .Add (.list (ns.map .int)) (.list (defs.map .int)) = some (.list ((ns ++ defs).map .int)) := by
    show (bif decide ((ns.map D.int).length + (defs.map D.int).length ≤ LIM) then some (D.list (ns.map .int ++ defs.map .int)) else none) = _
    rw [decide_eq_true (by delta LIM defs; simp; omega), List.map_append]; rfl
  have h0 := law_0 rh (ns.map .int)
  rw [ha] at h0
  dsimp only [Option.bind_some, asli] at h0
  rw [show ((3 : Int)) = ((3 : Nat) : Int) from rfl, cut_take] at h0
  dsimp only [itemsOf, Option.bind_some] at h0
  rw [← List.map_take, acomp_map (g := fun n => .int (n.fmod 10000000)) _ (fun n _ => (law_f rh _ n).trans rfl)] at h0
  have hc : (cellsOf ns).map D.int = ((ns ++ defs).take 3).map fun n => .int (n.fmod 10000000) := by delta cellsOf; rw [List.map_map]; rfl
  rw [hc] at hrh
  dsimp only [Option.bind_some, Option.map_some] at h0
  rw [hrh] at h0
  exact ⟨_, ex_ret h0⟩
end Mine
namespace Mine
open PySem PySem.W PyProof.Rows PySem.SeqAt
inductive Tk where
  | q
  | lt (l : Nat)
  | br (n : Bool) (l h : Nat)
  deriving DecidableEq
noncomputable abbrev Tok := Option Tk
noncomputable def txt1 : Tk → List Nat
  | .q => [63]
  | .lt l => [97 + l]
  | .br n l h => 91 :: ((bif n then [33] else []) ++ [97 + l, 45, 97 + h, 93])
noncomputable def txt : Tok → List Nat
  | none => [42]
  | some t => txt1 t
noncomputable def itm : Tok → D
  | none => .non
  | some .q => .tup [.bool true, .int 1, .int 0]
  | some (.lt l) => .tup [.bool false, .int l, .int l]
  | some (.br n l h) => .tup [.bool n, .int l, .int h]
noncomputable def stI (cs hs : D) (ct : Int) (p : V) (L : List V) (cell home kind low high : V) : AS :=
  ⟨[(Str.ofString "cells", .d cs), (Str.ofString "homes", .d hs), (Str.ofString "count", .d (.int ct)), (Str.ofString "pattern", p), (Str.ofString "items", .p 0), (Str.ofString "cell", cell), (Str.ofString "home", home), (Str.ofString "kind", kind), (Str.ofString "low", low), (Str.ofString "high", high)], [L]⟩
noncomputable def itB (k : Nat) : Stmt := stAt (bodyOf (stAt (fnP 14).body 2)) k
noncomputable def itC (k j : Nat) : Stmt := stAt (bodyOf (itB k)) j
section
variable (cs hs : D) (ct : Int) (p : V) (L : List V) (cell home kind low high : V)
theorem items_01 : aexecs T0 (fnP 14).sc ow noSpec 300 (fnP 14).body ⟨[(Str.ofString "cells", .d cs), (Str.ofString "homes", .d hs), (Str.ofString "count", .d (.int ct)), (Str.ofString "pattern", .un), (Str.ofString "items", .un), (Str.ofString "cell", .un), (Str.ofString "home", .un), (Str.ofString "kind", .un), (Str.ofString "low", .un), (Str.ofString "high", .un)], []⟩ =
    aexecs T0 (fnP 14).sc ow noSpec 298 [stAt (fnP 14).body 2, stAt (fnP 14).body 3] (stI cs hs ct (.d (.str (SS []))) [] .un .un .un .un .un) := by kernel_rfl
theorem items_2 (c h : List D) : aexec T0 (fnP 14).sc ow noSpec 297 (stAt (fnP 14).body 2) (stI (.list c) (.list h) ct p L cell home kind low high) =
    afor (forStep T0 (fnP 14).sc ow noSpec 296 (targetOf (stAt (fnP 14).body 2)) (bodyOf (stAt (fnP 14).body 2))) (pairsL c h) (stI (.list c) (.list h) ct p L cell home kind low high) := by kernel_rfl
theorem items_bb : bodyOf (stAt (fnP 14).body 2) = [itB 0, itB 1, itB 2, itB 3, itB 4, itB 5, itB 6, itB 7] := by kernel_rfl
theorem items_fs (x y : D) : forStep T0 (fnP 14).sc ow noSpec 296 (targetOf (stAt (fnP 14).body 2)) (bodyOf (stAt (fnP 14).body 2)) (.tup [x, y]) (stI cs hs ct p L cell home kind low high) =
    (aexecs T0 (fnP 14).sc ow noSpec 296 (bodyOf (stAt (fnP 14).body 2)) (stI cs hs ct p L (.d x) (.d y) kind low high)).bind (fun q => bif q.2.hp.length == (stI cs hs ct p L cell home kind low high).hp.length then some q else none) := by kernel_rfl
theorem items_b0 (x y q : D) : aexec T0 (fnP 14).sc ow noSpec 295 (itB 0) (stI cs hs ct (.d q) L (.d x) (.d y) kind low high) = (evF T0 (fnP 14).sc 294 (rhsOf (itB 0)) (stI cs hs ct (.d q) L (.d x) (.d y) kind low high)).map fun d => (.next, stI cs hs ct (.d q) L (.d x) (.d y) (.d d) low high) := by kernel_rfl
theorem items_b0e (c : Int) (y q : D) : aeval T0 294 (rhsOf (itB 0)) ⟨(fnP 14).sc, frz (stI cs hs ct (.d q) L (.d (.int c)) (.d y) kind low high)⟩ = (abin .FloorDiv (.int c) (.int 10000)).bind fun a => abin .Mod a (.int 10) := by kernel_rfl
theorem items_b1 (x y q z : D) : aexec T0 (fnP 14).sc ow noSpec 294 (itB 1) (stI cs hs ct (.d q) L (.d x) (.d y) (.d z) low high) = (evF T0 (fnP 14).sc 293 (rhsOf (itB 1)) (stI cs hs ct (.d q) L (.d x) (.d y) (.d z) low high)).map fun d => (.next, stI cs hs ct (.d q) L (.d x) (.d y) (.d z) (.d d) high) := by kernel_rfl
theorem items_b1e (c h : Int) (q z : D) : aeval T0 293 (rhsOf (itB 1)) ⟨(fnP 14).sc, frz (stI cs hs ct (.d q) L (.d (.int c)) (.d (.int h)) (.d z) low high)⟩ = ((((abin .FloorDiv (.int c) (.int 100000)).bind fun a => abin .Mod a (.int 10)).bind fun b => abin .Add (.int h) b).bind fun a => abin .Mod a (.int ct)) := by kernel_rfl
theorem items_b2 (x y q z u : D) : aexec T0 (fnP 14).sc ow noSpec 293 (itB 2) (stI cs hs ct (.d q) L (.d x) (.d y) (.d z) (.d u) high) = (evF T0 (fnP 14).sc 292 (rhsOf (itB 2)) (stI cs hs ct (.d q) L (.d x) (.d y) (.d z) (.d u) high)).map fun d => (.next, stI cs hs ct (.d q) L (.d x) (.d y) (.d z) (.d u) (.d d)) := by kernel_rfl
theorem items_b2e (c h : Int) (q z u : D) : aeval T0 292 (rhsOf (itB 2)) ⟨(fnP 14).sc, frz (stI cs hs ct (.d q) L (.d (.int c)) (.d (.int h)) (.d z) (.d u) high)⟩ = ((((abin .FloorDiv (.int c) (.int 1000000)).bind fun a => abin .Mod a (.int 10)).bind fun b => abin .Add (.int h) b).bind fun a => abin .Mod a (.int ct)) := by kernel_rfl
end
noncomputable abbrev stJ (cs hs : D) (ct : Int) (p : List Nat) (L : List V) (c h k l m : Int) : AS := stI cs hs ct (.d (.str (SS p))) L (.d (.int c)) (.d (.int h)) (.d (.int k)) (.d (.int l)) (.d (.int m))
section
variable (cs hs : D) (ct : Int) (p : List Nat) (L : List V) (c h k l m : Int)
theorem items_b3 : aexec T0 (fnP 14).sc ow noSpec 292 (itB 3) (stJ cs hs ct p L c h k l m) = bif (0 == k || (2 == k || (3 == k || (4 == k || (9 == k || false))))) then aexecs T0 (fnP 14).sc ow noSpec 291 (bodyOf (itB 3)) (stJ cs hs ct p L c h k l m) else some (.next, stJ cs hs ct p L c h k l m) := by kernel_rfl
theorem items_c3 : bodyOf (itB 3) = [itC 3 0, itC 3 1] := by kernel_rfl
theorem items_30 : aexec T0 (fnP 14).sc ow noSpec 290 (itC 3 0) (stJ cs hs ct p L c h k l m) = (aug (.str (SS p)) (.str (SS [42]))).map fun d => (.next, stI cs hs ct (.d d) L (.d (.int c)) (.d (.int h)) (.d (.int k)) (.d (.int l)) (.d (.int m))) := by kernel_rfl
theorem items_31 : aexec T0 (fnP 14).sc ow noSpec 289 (itC 3 1) (stJ cs hs ct p L c h k l m) = (appendTo (stJ cs hs ct p L c h k l m) 0 (.d .non)).map fun s => (.next, s) := by kernel_rfl
theorem items_b4 : aexec T0 (fnP 14).sc ow noSpec 291 (itB 4) (stJ cs hs ct p L c h k l m) = bif (1 == k || (8 == k || (9 == k || false))) then aexecs T0 (fnP 14).sc ow noSpec 290 (bodyOf (itB 4)) (stJ cs hs ct p L c h k l m) else some (.next, stJ cs hs ct p L c h k l m) := by kernel_rfl
theorem items_c4 : bodyOf (itB 4) = [itC 4 0, itC 4 1] := by kernel_rfl
theorem items_40 : aexec T0 (fnP 14).sc ow noSpec 289 (itC 4 0) (stJ cs hs ct p L c h k l m) = (aug (.str (SS p)) (.str (SS [63]))).map fun d => (.next, stI cs hs ct (.d d) L (.d (.int c)) (.d (.int h)) (.d (.int k)) (.d (.int l)) (.d (.int m))) := by kernel_rfl
theorem items_41 : aexec T0 (fnP 14).sc ow noSpec 288 (itC 4 1) (stJ cs hs ct p L c h k l m) = (appendTo (stJ cs hs ct p L c h k l m) 0 (.d (.tup [.bool true, .int 1, .int 0]))).map fun s => (.next, s) := by kernel_rfl
theorem items_b5 : aexec T0 (fnP 14).sc ow noSpec 290 (itB 5) (stJ cs hs ct p L c h k l m) = bif (0 == k || (5 == k || false)) then aexecs T0 (fnP 14).sc ow noSpec 289 (bodyOf (itB 5)) (stJ cs hs ct p L c h k l m) else some (.next, stJ cs hs ct p L c h k l m) := by kernel_rfl
theorem items_c5 : bodyOf (itB 5) = [itC 5 0, itC 5 1] := by kernel_rfl
theorem items_50 : aexec T0 (fnP 14).sc ow noSpec 288 (itC 5 0) (stJ cs hs ct p L c h k l m) = (evF T0 (fnP 14).sc 287 (rhsOf (itC 5 0)) (stJ cs hs ct p L c h k l m)).bind fun b => (aug (.str (SS p)) b).map fun d => (.next, stI cs hs ct (.d d) L (.d (.int c)) (.d (.int h)) (.d (.int k)) (.d (.int l)) (.d (.int m))) := by kernel_rfl
theorem items_50e : aeval T0 287 (rhsOf (itC 5 0)) ⟨(fnP 14).sc, frz (stJ cs hs ct p L c h k l m)⟩ = achr (.int (97 + l)) := by kernel_rfl
theorem items_51 : aexec T0 (fnP 14).sc ow noSpec 287 (itC 5 1) (stJ cs hs ct p L c h k l m) = (appendTo (stJ cs hs ct p L c h k l m) 0 (.d (.tup [.bool false, .int l, .int l]))).map fun s => (.next, s) := by kernel_rfl
theorem items_b6 : aexec T0 (fnP 14).sc ow noSpec 289 (itB 6) (stJ cs hs ct p L c h k l m) = bif (3 == k || (4 == k || (6 == k || (7 == k || false)))) then aexecs T0 (fnP 14).sc ow noSpec 288 (bodyOf (itB 6)) (stJ cs hs ct p L c h k l m) else some (.next, stJ cs hs ct p L c h k l m) := by kernel_rfl
theorem items_c6 : bodyOf (itB 6) = [itC 6 0, itC 6 1] := by kernel_rfl
theorem items_60 : aexec T0 (fnP 14).sc ow noSpec 287 (itC 6 0) (stJ cs hs ct p L c h k l m) = (evF T0 (fnP 14).sc 286 (rhsOf (itC 6 0)) (stJ cs hs ct p L c h k l m)).bind fun b => (aug (.str (SS p)) b).map fun d => (.next, stI cs hs ct (.d d) L (.d (.int c)) (.d (.int h)) (.d (.int k)) (.d (.int l)) (.d (.int m))) := by kernel_rfl
theorem items_60e : aeval T0 286 (rhsOf (itC 6 0)) ⟨(fnP 14).sc, frz (stJ cs hs ct p L c h k l m)⟩ =
    (((((bif (4 == k || (7 == k || false)) then some (.str (SS [91, 33])) else some (.str (SS [91]))).bind fun a => (achr (.int (97 + l))).bind fun b => abin .Add a b).bind fun a => abin .Add a (.str (SS [45]))).bind fun a => (achr (.int (97 + m))).bind fun b => abin .Add a b).bind fun a => abin .Add a (.str (SS [93]))) := by kernel_rfl
theorem items_61 : aexec T0 (fnP 14).sc ow noSpec 286 (itC 6 1) (stJ cs hs ct p L c h k l m) = (appendTo (stJ cs hs ct p L c h k l m) 0 (.d (.tup [.bool (4 == k || (7 == k || false)), .int l, .int m]))).map fun s => (.next, s) := by kernel_rfl
theorem items_b7 : aexec T0 (fnP 14).sc ow noSpec 288 (itB 7) (stJ cs hs ct p L c h k l m) = bif (k == 8) then aexecs T0 (fnP 14).sc ow noSpec 287 (bodyOf (itB 7)) (stJ cs hs ct p L c h k l m) else some (.next, stJ cs hs ct p L c h k l m) := by kernel_rfl
theorem items_c7 : bodyOf (itB 7) = [itC 7 0, itC 7 1] := by kernel_rfl
theorem items_70 : aexec T0 (fnP 14).sc ow noSpec 286 (itC 7 0) (stJ cs hs ct p L c h k l m) = (aug (.str (SS p)) (.str (SS [42]))).map fun d => (.next, stI cs hs ct (.d d) L (.d (.int c)) (.d (.int h)) (.d (.int k)) (.d (.int l)) (.d (.int m))) := by kernel_rfl
theorem items_71 : aexec T0 (fnP 14).sc ow noSpec 285 (itC 7 1) (stJ cs hs ct p L c h k l m) = (appendTo (stJ cs hs ct p L c h k l m) 0 (.d .non)).map fun s => (.next, s) := by kernel_rfl
end
section
variable (cs hs : D) (ct : Int) (p : V) (L : List V) (cell home kind low high : V)
theorem items_3 (q : D) : aexec T0 (fnP 14).sc ow noSpec 296 (stAt (fnP 14).body 3) (stI cs hs ct (.d q) L cell home kind low high) = (aeval T0 295 (rhsOf (stAt (fnP 14).body 3)) ⟨(fnP 14).sc, wk (stI cs hs ct (.d q) L cell home kind low high)⟩).map fun d => (.ret d, stI cs hs ct (.d q) L cell home kind low high) := by kernel_rfl
theorem items_3e (x y z u v : D) (r : Vars) : aeval T0 295 (rhsOf (stAt (fnP 14).body 3)) ⟨(fnP 14).sc, (Str.ofString "cells", x) :: (Str.ofString "homes", y) :: (Str.ofString "count", z) :: (Str.ofString "pattern", u) :: (Str.ofString "items", v) :: r⟩ = some (.tup [u, v]) := by kernel_rfl
end
end Mine
namespace Mine
open PySem PySem.W PyProof.Rows PySem.SeqAt
theorem ss_append (a b : List Nat) : SS a ++ SS b = SS (a ++ b) := by
  show (⟨a.toArray ++ b.toArray⟩ : Str') = ⟨(a ++ b).toArray⟩
  simp
theorem aug_ss {a b : List Nat} (h : a.length + b.length ≤ 1000) : aug (.str (SS a)) (.str (SS b)) = some (.str (SS (a ++ b))) := by
  show (bif decide ((SS a).length + (SS b).length ≤ LIM) then some (D.str (SS a ++ SS b)) else none) = _
  rw [ss_len, ss_len, decide_eq_true (lim1000' h), ss_append]; rfl
theorem add_ss {a b : List Nat} (h : a.length + b.length ≤ 1000) : abin .Add (.str (SS a)) (.str (SS b)) = some (.str (SS (a ++ b))) := by
  show (bif decide ((SS a).length + (SS b).length ≤ LIM) then some (D.str (SS a ++ SS b)) else none) = _
  rw [ss_len, ss_len, decide_eq_true (lim1000' h), ss_append]; rfl
theorem achr_nat {l : Nat} (h : l < 100) : achr (.int (97 + (l : Int))) = some (.str (SS [97 + l])) := by
  show (bif decide ((0 : Int) ≤ 97 + (l : Int)) && decide (97 + (l : Int) < 1114112) then some (D.str ⟨#[(97 + (l : Int)).toNat]⟩) else none) = _
  rw [decide_eq_true (by lia), decide_eq_true (by lia), show (97 + (l : Int)).toNat = 97 + l by lia]; rfl
theorem app_J {cs hs : D} {ct : Int} {p : List Nat} {L : List V} {c h k l m : Int} {v : V} (hL : L.length ≤ 1000) : appendTo (stJ cs hs ct p L c h k l m) 0 v = some (stJ cs hs ct p (L ++ [v]) c h k l m) := by
  delta stJ stI; rw [append_to (k := 0) rfl (lim1000 hL)]; rfl
noncomputable def tk3 (k : Int) : List Tok := bif (0 == k || (2 == k || (3 == k || (4 == k || (9 == k || false))))) then [none] else []
noncomputable def tk4 (k : Int) : List Tok := bif (1 == k || (8 == k || (9 == k || false))) then [some .q] else []
noncomputable def tk5 (k : Int) (l : Nat) : List Tok := bif (0 == k || (5 == k || false)) then [some (.lt l)] else []
noncomputable def tk6 (k : Int) (l m : Nat) : List Tok := bif (3 == k || (4 == k || (6 == k || (7 == k || false)))) then [some (.br (4 == k || (7 == k || false)) l m)] else []
noncomputable def tk7 (k : Int) : List Tok := bif (k == 8) then [none] else []
noncomputable abbrev texts (ts : List Tok) : List Nat := ts.flatMap txt
noncomputable abbrev itms (ts : List Tok) : List V := ts.map (V.d ∘ itm)
section
variable {cs hs : D} {ct : Int} {p : List Nat} {L : List V} {c h k : Int} {l m : Nat}
theorem items_t3 (hp : p.length ≤ 900) (hL : L.length ≤ 900) : aexec T0 (fnP 14).sc ow noSpec 292 (itB 3) (stJ cs hs ct p L c h k l m) = some (.next, stJ cs hs ct (p ++ texts (tk3 k)) (L ++ itms (tk3 k)) c h k l m) := by
  rw [items_b3]
  delta tk3
  cases (0 == k || (2 == k || (3 == k || (4 == k || (9 == k || false))))) with
  | false => simp [texts, itms]
  | true =>
    have h0 := items_30 cs hs ct p L c h k l m
    rw [aug_ss (by simp; lia)] at h0
    have h1 := items_31 cs hs ct (p ++ [42]) L c h k l m
    rw [app_J (by lia)] at h1
    rw [items_c3]
    exact (ex_next h0).trans ((ex_next h1).trans ex_nil)
theorem items_t4 (hp : p.length ≤ 900) (hL : L.length ≤ 900) : aexec T0 (fnP 14).sc ow noSpec 291 (itB 4) (stJ cs hs ct p L c h k l m) = some (.next, stJ cs hs ct (p ++ texts (tk4 k)) (L ++ itms (tk4 k)) c h k l m) := by
  rw [items_b4]
  delta tk4
  cases (1 == k || (8 == k || (9 == k || false))) with
  | false => simp [texts, itms]
  | true =>
    have h0 := items_40 cs hs ct p L c h k l m
    rw [aug_ss (by simp; lia)] at h0
    have h1 := items_41 cs hs ct (p ++ [63]) L c h k l m
    rw [app_J (by lia)] at h1
    rw [items_c4]
    exact (ex_next h0).trans ((ex_next h1).trans ex_nil)
theorem items_t50 (hp : p.length ≤ 900) (hl : l < 100) : aexec T0 (fnP 14).sc ow noSpec 288 (itC 5 0) (stJ cs hs ct p L c h k l m) = some (.next, stJ cs hs ct (p ++ txt1 (.lt l)) L c h k l m) := by
    have e1 : aeval T0 287 (rhsOf (itC 5 0)) ⟨(fnP 14).sc, frz (stJ cs hs ct p L c h k l m)⟩ = some (.str (SS (txt1 (.lt l)))) := by
      rw [items_50e, achr_nat hl]; rfl
    rw [items_50, evF_strong e1, Option.bind_some, aug_ss (by delta txt1; simp; lia)]
    rfl
theorem items_t51 (hp : p.length ≤ 900) (hL : L.length ≤ 900) (hl : l < 100) : aexecs T0 (fnP 14).sc ow noSpec 289 [itC 5 0, itC 5 1] (stJ cs hs ct p L c h k l m) = some (.next, stJ cs hs ct (p ++ txt1 (.lt l)) (L ++ [.d (itm (some (.lt l)))]) c h k l m) := by
    have h1 := items_51 cs hs ct (p ++ txt1 (.lt l)) L c h k l m
    rw [app_J (by lia)] at h1
    rw [ex_next (items_t50 hp hl), ex_next h1, ex_nil]
    rfl
theorem items_t5 (hp : p.length ≤ 900) (hL : L.length ≤ 900) (hl : l < 100) : aexec T0 (fnP 14).sc ow noSpec 290 (itB 5) (stJ cs hs ct p L c h k l m) = some (.next, stJ cs hs ct (p ++ texts (tk5 k l)) (L ++ itms (tk5 k l)) c h k l m) := by
  rw [items_b5, items_c5, items_t51 hp hL hl]
  delta tk5
  cases (0 == k || (5 == k || false)) with
  | false => simp [texts, itms]
  | true => simp [texts, itms, txt]
theorem items_t6 (hp : p.length ≤ 900) (hL : L.length ≤ 900) (hl : l < 100) (hm : m < 100) : aexec T0 (fnP 14).sc ow noSpec 289 (itB 6) (stJ cs hs ct p L c h k l m) = some (.next, stJ cs hs ct (p ++ texts (tk6 k l m)) (L ++ itms (tk6 k l m)) c h k l m) := by
  rw [items_b6]
  delta tk6
  cases (3 == k || (4 == k || (6 == k || (7 == k || false)))) with
  | false => simp [texts, itms]
  | true =>
    have h0 := items_60 cs hs ct p L c h k l m
    have e0 := items_60e cs hs ct p L c h k l m
    rw [achr_nat hl, achr_nat hm] at e0
    have h1 := fun p' => items_61 cs hs ct p' L c h k l m
    generalize (4 == k || (7 == k || false)) = nb at *
    have e1 : aeval T0 286 (rhsOf (itC 6 0)) ⟨(fnP 14).sc, frz (stJ cs hs ct p L c h k l m)⟩ = some (.str (SS (txt1 (.br nb l m)))) := by
      rw [e0]
      cases nb with
      | false =>
        simp only [cond_false, Option.bind_some]
        rw [add_ss (by simp)]; simp only [Option.bind_some]; rw [add_ss (by simp)]; simp only [Option.bind_some]; rw [add_ss (by simp)]; simp only [Option.bind_some]; rw [add_ss (by simp)]; rfl
      | true =>
        simp only [cond_true, Option.bind_some]
        rw [add_ss (by simp)]; simp only [Option.bind_some]; rw [add_ss (by simp)]; simp only [Option.bind_some]; rw [add_ss (by simp)]; simp only [Option.bind_some]; rw [add_ss (by simp)]; rfl
    rw [evF_strong e1] at h0
    simp only [Option.bind_some] at h0
    rw [aug_ss (by delta txt1; cases nb <;> simp <;> lia)] at h0
    have h1 := h1 (p ++ txt1 (.br nb l m))
    rw [app_J (by lia)] at h1
    rw [items_c6]
    refine (ex_next h0).trans ((ex_next h1).trans (ex_nil.trans ?_))
    simp [texts, txt, itms]
    rfl
theorem items_t7 (hp : p.length ≤ 900) (hL : L.length ≤ 900) : aexec T0 (fnP 14).sc ow noSpec 288 (itB 7) (stJ cs hs ct p L c h k l m) = some (.next, stJ cs hs ct (p ++ texts (tk7 k)) (L ++ itms (tk7 k)) c h k l m) := by
  rw [items_b7]
  delta tk7
  cases (k == 8) with
  | false => simp [texts, itms]
  | true =>
    have h0 := items_70 cs hs ct p L c h k l m
    rw [aug_ss (by simp; lia)] at h0
    have h1 := items_71 cs hs ct (p ++ [42]) L c h k l m
    rw [app_J (by lia)] at h1
    rw [items_c7]
    exact (ex_next h0).trans ((ex_next h1).trans ex_nil)
end
noncomputable def tkOf (k : Int) (l m : Nat) : List Tok := tk3 k ++ (tk4 k ++ (tk5 k l ++ (tk6 k l m ++ tk7 k)))
noncomputable def kindOf (c : Int) : Int := (c.fdiv 10000).fmod 10
noncomputable def lowOf (c h ct : Int) : Nat := ((h + (c.fdiv 100000).fmod 10).fmod ct).toNat
noncomputable def highOf (c h ct : Int) : Nat := ((h + (c.fdiv 1000000).fmod 10).fmod ct).toNat
noncomputable def cellT (ct : Int) (q : Int × Int) : List Tok := tkOf (kindOf q.1) (lowOf q.1 q.2 ct) (highOf q.1 q.2 ct)
theorem txt_len (t : Tok) : (txt t).length ≤ 6 := by
  cases t with
  | none => exact (by decide : (1 : Nat) ≤ 6)
  | some k =>
    cases k with
    | q => exact (by decide : (1 : Nat) ≤ 6)
    | lt l => exact (by decide : (1 : Nat) ≤ 6)
    | br n l h => cases n with
      | true => exact (by decide : (6 : Nat) ≤ 6)
      | false => exact (by decide : (5 : Nat) ≤ 6)
theorem bif_len (c : Bool) (t : Tok) : (texts (bif c then [t] else [])).length ≤ 6 ∧ (itms (bif c then [t] else [])).length ≤ 1 := by
  cases c with
  | true => exact ⟨by show (txt t ++ []).length ≤ 6; rw [List.append_nil]; exact txt_len t, Nat.le_refl 1⟩
  | false => exact ⟨Nat.zero_le _, Nat.zero_le _⟩
theorem tk_len (k : Int) (l m : Nat) : (texts (tkOf k l m)).length ≤ 30 ∧ (itms (tkOf k l m)).length ≤ 5 := by
  have h3 : (texts (tk3 k)).length ≤ 6 ∧ (itms (tk3 k)).length ≤ 1 := bif_len _ _
  have h4 : (texts (tk4 k)).length ≤ 6 ∧ (itms (tk4 k)).length ≤ 1 := bif_len _ _
  have h5 : (texts (tk5 k l)).length ≤ 6 ∧ (itms (tk5 k l)).length ≤ 1 := bif_len _ _
  have h6 : (texts (tk6 k l m)).length ≤ 6 ∧ (itms (tk6 k l m)).length ≤ 1 := bif_len _ _
  have h7 : (texts (tk7 k)).length ≤ 6 ∧ (itms (tk7 k)).length ≤ 1 := bif_len _ _
  delta tkOf texts itms at *
  simp only [List.flatMap_append, List.map_append, List.length_append]
  lia
theorem mod_ct (x ct : Int) (h1 : 0 < ct) (h2 : ct < 100) : abin .Mod (.int x) (.int ct) = some (.int ((x.fmod ct).toNat : Int)) ∧ (x.fmod ct).toNat < ct.toNat := by
  have h3 := Int.fmod_nonneg_of_pos x h1
  have h4 := Int.fmod_lt_of_pos x h1
  refine ⟨?_, by lia⟩
  show (bif sm ct && !(ct == 0) then some (D.int (x.fmod ct)) else none) = _
  have : sm ct = true := by delta sm; rw [decide_eq_true (by lia), decide_eq_true (by lia)]; rfl
  have h5 : (ct == 0) = false := by simp; lia
  rw [this, h5]
  simp
  lia
theorem items_turn (cs hs : D) (ct : Int) (h1 : 0 < ct) (h2 : ct < 100) (p : List Nat) (L : List V) (q : Int × Int) (a b k l m : V) (hp : p.length ≤ 700) (hL : L.length ≤ 700) :
    ∃ k' l' m', forStep T0 (fnP 14).sc ow noSpec 296 (targetOf (stAt (fnP 14).body 2)) (bodyOf (stAt (fnP 14).body 2)) (.tup [.int q.1, .int q.2]) (stI cs hs ct (.d (.str (SS p))) L a b k l m) =
      some (.next, stI cs hs ct (.d (.str (SS (p ++ texts (cellT ct q))))) (L ++ itms (cellT ct q)) (.d (.int q.1)) (.d (.int q.2)) k' l' m') := by
  refine ⟨.d (.int (kindOf q.1)), .d (.int (lowOf q.1 q.2 ct)), .d (.int (highOf q.1 q.2 ct)), ?_⟩
  rw [items_fs, items_bb]
  have e0 := items_b0 cs hs ct L k l m (.int q.1) (.int q.2) (.str (SS p))
  rw [evF_strong ((items_b0e cs hs ct L k l m q.1 (.int q.2) (.str (SS p))).trans (show _ = some (D.int (kindOf q.1)) from rfl))] at e0
  have e1 := items_b1 cs hs ct L l m (.int q.1) (.int q.2) (.str (SS p)) (.int (kindOf q.1))
  have f1 := items_b1e cs hs ct L l m q.1 q.2 (.str (SS p)) (.int (kindOf q.1))
  have f1' := f1.trans (show _ = abin .Mod (.int (q.2 + (q.1.fdiv 100000).fmod 10)) (.int ct) from rfl)
  refine x0_2 (mod_ct (q.2 + (q.1.fdiv 100000).fmod 10) ct h1 h2) fun g1 g2 => ?_
  rw [evF_strong (f1'.trans g1)] at e1
  have e2 := items_b2 cs hs ct L m (.int q.1) (.int q.2) (.str (SS p)) (.int (kindOf q.1)) (.int (lowOf q.1 q.2 ct))
  have f2 := items_b2e cs hs ct L m q.1 q.2 (.str (SS p)) (.int (kindOf q.1)) (.int (lowOf q.1 q.2 ct))
  have f2' := f2.trans (show _ = abin .Mod (.int (q.2 + (q.1.fdiv 1000000).fmod 10)) (.int ct) from rfl)
  refine x0_2 (mod_ct (q.2 + (q.1.fdiv 1000000).fmod 10) ct h1 h2) fun g3 g4 => ?_
  rw [evF_strong (f2'.trans g3)] at e2
  have hl : lowOf q.1 q.2 ct < 100 := by delta lowOf; lia
  have hm : highOf q.1 q.2 ct < 100 := by delta highOf; lia
  delta cellT
  generalize hL' : lowOf q.1 q.2 ct = lo at *
  generalize hH' : highOf q.1 q.2 ct = hi at *
  have e1' : aexec T0 (fnP 14).sc ow noSpec 294 (itB 1) (stI cs hs ct (.d (.str (SS p))) L (.d (.int q.1)) (.d (.int q.2)) (.d (.int (kindOf q.1))) l m) = some (.next, stI cs hs ct (.d (.str (SS p))) L (.d (.int q.1)) (.d (.int q.2)) (.d (.int (kindOf q.1))) (.d (.int lo)) m) := by rw [← hL']; exact e1
  have e2' : aexec T0 (fnP 14).sc ow noSpec 293 (itB 2) (stI cs hs ct (.d (.str (SS p))) L (.d (.int q.1)) (.d (.int q.2)) (.d (.int (kindOf q.1))) (.d (.int lo)) m) = some (.next, stJ cs hs ct p L q.1 q.2 (kindOf q.1) lo hi) := by rw [← hH']; exact e2
  generalize kindOf q.1 = K at *
  have b3 : (texts (tk3 K)).length ≤ 6 ∧ (itms (tk3 K)).length ≤ 1 := bif_len _ _
  have b4 : (texts (tk4 K)).length ≤ 6 ∧ (itms (tk4 K)).length ≤ 1 := bif_len _ _
  have b5 : (texts (tk5 K lo)).length ≤ 6 ∧ (itms (tk5 K lo)).length ≤ 1 := bif_len _ _
  have b6 : (texts (tk6 K lo hi)).length ≤ 6 ∧ (itms (tk6 K lo hi)).length ≤ 1 := bif_len _ _
  rw [ex_next e0, ex_next e1', ex_next e2', ex_next (items_t3 (by lia) (by lia)), ex_next (items_t4 (by rw [List.length_append]; lia) (by rw [List.length_append]; lia)),
    ex_next (items_t5 (by rw [List.length_append, List.length_append]; lia) (by rw [List.length_append, List.length_append]; lia) hl),
    ex_next (items_t6 (by rw [List.length_append, List.length_append, List.length_append]; lia) (by rw [List.length_append, List.length_append, List.length_append]; lia) hl hm),
    ex_next (items_t7 (by rw [List.length_append, List.length_append, List.length_append, List.length_append]; lia) (by rw [List.length_append, List.length_append, List.length_append, List.length_append]; lia)), ex_nil]
  have r1 : p ++ texts (tkOf K lo hi) = p ++ texts (tk3 K) ++ texts (tk4 K) ++ texts (tk5 K lo) ++ texts (tk6 K lo hi) ++ texts (tk7 K) := by delta tkOf; simp [texts]
  have r2 : L ++ itms (tkOf K lo hi) = L ++ itms (tk3 K) ++ itms (tk4 K) ++ itms (tk5 K lo) ++ itms (tk6 K lo hi) ++ itms (tk7 K) := by delta tkOf; simp [itms]
  rw [r1, r2]
  rfl
noncomputable def qD (q : Int × Int) : D := .tup [.int q.1, .int q.2]
theorem items_loop (cs hs : D) (ct : Int) (h1 : 0 < ct) (h2 : ct < 100) : ∀ (qs : List (Int × Int)) (p : List Nat) (L : List V) (a b k l m : V), p.length + 30 * qs.length ≤ 700 → L.length + 5 * qs.length ≤ 700 →
    ∃ a' b' k' l' m', afor (forStep T0 (fnP 14).sc ow noSpec 296 (targetOf (stAt (fnP 14).body 2)) (bodyOf (stAt (fnP 14).body 2))) (qs.map qD) (stI cs hs ct (.d (.str (SS p))) L a b k l m) =
      some (.next, stI cs hs ct (.d (.str (SS (p ++ texts (qs.flatMap (cellT ct)))))) (L ++ itms (qs.flatMap (cellT ct))) a' b' k' l' m')
  | [], p, L, a, b, k, l, m, _, _ => ⟨a, b, k, l, m, by simp [afor, texts, itms]⟩
  | q :: qs, p, L, a, b, k, l, m, hp, hL => by
    simp only [List.length_cons] at hp hL
    refine x3_1 (items_turn cs hs ct h1 h2 p L q a b k l m (by lia) (by lia)) fun k1 l1 m1 e1 => ?_
    refine x0_2 (tk_len (kindOf q.1) (lowOf q.1 q.2 ct) (highOf q.1 q.2 ct)) fun g1 g2 => ?_
    refine x5_1 (items_loop cs hs ct h1 h2 qs (p ++ texts (cellT ct q)) (L ++ itms (cellT ct q)) (.d (.int q.1)) (.d (.int q.2)) k1 l1 m1 (by rw [List.length_append]; delta cellT; lia) (by rw [List.length_append]; delta cellT; lia)) fun a2 b2 k2 l2 m2 e2 => ?_
    refine ⟨a2, b2, k2, l2, m2, ?_⟩
    simp only [List.map_cons, afor]
    rw [show qD q = .tup [.int q.1, .int q.2] from rfl, e1]
    simp only [Option.bind_some]
    rw [e2]
    simp [texts, itms]
theorem pairs_zip : ∀ (a b : List Int), pairsL (a.map .int) (b.map .int) = (a.zip b).map qD
  | [], b => by cases b <;> rfl
  | x :: a, [] => rfl
  | x :: a, y :: b => by simp only [List.map_cons, pairsL, List.zip_cons_cons, pairs_zip a b]; rfl
theorem items_run (cs hs : List Int) (ct : Int) (h1 : 0 < ct) (h2 : ct < 100) (hl : cs.length ≤ 10) : runF T0 noSpec 14 [.list (cs.map .int), .list (hs.map .int), .int ct] =
    some (.tup [.str (SS (texts ((cs.zip hs).flatMap (cellT ct)))), .list (((cs.zip hs).flatMap (cellT ct)).map itm)]) := by
  have hz : (cs.zip hs).length ≤ 10 := by simp; lia
  refine x5_1 (items_loop (.list (cs.map .int)) (.list (hs.map .int)) ct h1 h2 (cs.zip hs) [] [] .un .un .un .un .un (by simp; lia) (by simp; lia)) fun a b k l m e => ?_
  rw [List.nil_append, List.nil_append] at e
  refine run_of (s0 := ⟨[(Str.ofString "cells", .d (.list (cs.map .int))), (Str.ofString "homes", .d (.list (hs.map .int))), (Str.ofString "count", .d (.int ct)), (Str.ofString "pattern", .un), (Str.ofString "items", .un), (Str.ofString "cell", .un), (Str.ofString "home", .un), (Str.ofString "kind", .un), (Str.ofString "low", .un), (Str.ofString "high", .un)], []⟩) (by kernel_rfl)
    (s1 := stI (.list (cs.map .int)) (.list (hs.map .int)) ct (.d (.str (SS (texts ((cs.zip hs).flatMap (cellT ct)))))) (itms ((cs.zip hs).flatMap (cellT ct))) a b k l m) ?_
  rw [← pairs_zip] at e
  rw [items_01, ex_next ((items_2 _ _ _ _ _ _ _ _ _ _).trans e)]
  refine ex_ret ((items_3 _ _ _ _ _ _ _ _ _ _).trans ?_)
  have hlen : ((cs.zip hs).flatMap (cellT ct)).length ≤ 50 := by
    have : ∀ qs : List (Int × Int), (qs.flatMap (cellT ct)).length ≤ 5 * qs.length := by
      intro qs
      induction qs with
      | nil => simp
      | cons q qs ih =>
        have g2 := (tk_len (kindOf q.1) (lowOf q.1 q.2 ct) (highOf q.1 q.2 ct)).2
        rw [List.length_map] at g2
        simp only [List.flatMap_cons, List.length_append, List.length_cons]
        unfold cellT at *
        lia
    have := this (cs.zip hs)
    lia
  have hw : wk (stI (.list (cs.map .int)) (.list (hs.map .int)) ct (.d (.str (SS (texts ((cs.zip hs).flatMap (cellT ct)))))) (itms ((cs.zip hs).flatMap (cellT ct))) a b k l m) = _ :=
    wk_d.trans (congrArg _ (wk_d.trans (congrArg _ (wk_d.trans (congrArg _ (wk_d.trans (congrArg _ (wk_p (l := ((cs.zip hs).flatMap (cellT ct)).map itm) (by simp [itms]) (lim1000' (by rw [List.length_map]; lia))))))))))
  rw [hw, items_3e]
  rfl
end Mine
namespace Mine
open PySem PySem.W PyProof.Rows PySem.SeqAt
noncomputable def argE : Expr → Expr
  | .Call _ [e] _ _ => e
  | e => e
noncomputable def itE : Expr → Expr
  | .ListComp _ [⟨_, it, _, _⟩] _ _ => it
  | e => e
noncomputable def eltE : Expr → Expr
  | .ListComp e _ _ _ => e
  | e => e
noncomputable def leftE : Expr → Expr
  | .Compare l _ _ _ => l
  | e => e
noncomputable def scopeE : Expr → Scope
  | .ListComp _ _ scope _ => scope
  | _ => ⟨.module, [], false, false, []⟩
noncomputable def compEnv (ae : AE) (bs : Vars) : Expr → AE
  | .ListComp _ _ scope _ => ⟨scope, setAll (innerVars ae scope) bs⟩
  | _ => ae
noncomputable def T2x (tk : List D → Option D) : Fns := fun x => bif x == Str.ofString "_law_takes" then some tk else none
theorem t2_x : T2 = T2x (runF T1 noSpec 18) := rfl
noncomputable def rng (N : Int) : Option (List D) := bif decide ((0 : Int) ≤ N) && decide (N ≤ 1000) then some (rangeC 0 1 N.toNat) else none
noncomputable def stO (runs items seen own : D) (size row places counts item barred low high meant : V) : AS :=
  ⟨[(Str.ofString "runs", .d runs), (Str.ofString "items", .d items), (Str.ofString "seen", .d seen), (Str.ofString "own", .d own), (Str.ofString "size", size), (Str.ofString "row", row), (Str.ofString "places", places), (Str.ofString "counts", counts), (Str.ofString "item", item), (Str.ofString "barred", barred), (Str.ofString "low", low), (Str.ofString "high", high), (Str.ofString "meant", meant)], []⟩
noncomputable def rowX : Expr := argE (rhsOf (stAt (fnP 21).body 1))
noncomputable def rowY : Expr := argE (itE rowX)
noncomputable def plX : Expr := rhsOf (stAt (fnP 21).body 2)
noncomputable def plY : Expr := argE (eltE plX)
noncomputable def lastX : Expr := leftE (rhsOf (stAt (fnP 21).body 5))
noncomputable def orI : Stmt := stAt (bodyOf (stAt (fnP 21).body 4)) 0
noncomputable def orT : Stmt := stAt (bodyOf orI) 0
noncomputable def orE (k : Nat) : Stmt := stAt (elseOf orI) k
section
variable (tk : List D → Option D) (R I S O : D) (row places counts item barred low high meant : V) (N : Int)
theorem order_body : (fnP 21).body = [stAt (fnP 21).body 0, stAt (fnP 21).body 1, stAt (fnP 21).body 2, stAt (fnP 21).body 3, stAt (fnP 21).body 4, stAt (fnP 21).body 5] := by kernel_rfl
theorem order_0 (o : List D) : aexec (T2x tk) (fnP 21).sc ow noSpec 299 (stAt (fnP 21).body 0) (stO R I S (.list o) .un .un .un .un .un .un .un .un .un) = some (.next, stO R I S (.list o) (.d (.int o.length)) .un .un .un .un .un .un .un .un) := by kernel_rfl
theorem order_1 : aexec (T2x tk) (fnP 21).sc ow noSpec 298 (stAt (fnP 21).body 1) (stO R I S O (.d (.int N)) row places counts item barred low high meant) =
    (evF (T2x tk) (fnP 21).sc 297 (rhsOf (stAt (fnP 21).body 1)) (stO R I S O (.d (.int N)) row places counts item barred low high meant)).map fun d => (.next, stO R I S O (.d (.int N)) (.d d) places counts item barred low high meant) := by kernel_rfl
theorem order_1e : aeval (T2x tk) 297 (rhsOf (stAt (fnP 21).body 1)) ⟨(fnP 21).sc, frz (stO R I S O (.d (.int N)) row places counts item barred low high meant)⟩ =
    ((((((((rng N).bind fun items => (acomp (compE (T2x tk) 292 ⟨(fnP 21).sc, frz (stO R I S O (.d (.int N)) row places counts item barred low high meant)⟩ rowY) items).map D.list).bind fun d => some [d]).bind fun ds => acall1 (Str.ofString "sorted") ds).bind itemsOf).bind fun items => (acomp (compE (T2x tk) 295 ⟨(fnP 21).sc, frz (stO R I S O (.d (.int N)) row places counts item barred low high meant)⟩ rowX) items).map D.list).bind fun d => some [d]).bind fun ds => ameth (Str.ofString "join") (.str (SS [])) ds) := by kernel_rfl
theorem order_1y (i : Int) : compE (T2x tk) 292 ⟨(fnP 21).sc, frz (stO R I S O (.d (.int N)) row places counts item barred low high meant)⟩ rowY (.int i) =
    (((asub S (.int i)).bind fun d => some [d, .int i]).bind fun l => bif decide (l.length ≤ LIM) then some (.tup l) else none).map some := by kernel_rfl
theorem order_1x (x : D) (i : Int) : compE (T2x tk) 295 ⟨(fnP 21).sc, frz (stO R I S O (.d (.int N)) row places counts item barred low high meant)⟩ rowX (.tup [x, .int i]) = (achr (.int (97 + i))).map some := by kernel_rfl
theorem order_2 (r : D) : aexec (T2x tk) (fnP 21).sc ow noSpec 297 (stAt (fnP 21).body 2) (stO R I S O (.d (.int N)) (.d r) places counts item barred low high meant) =
    (evF (T2x tk) (fnP 21).sc 296 plX (stO R I S O (.d (.int N)) (.d r) places counts item barred low high meant)).map fun d => (.next, stO R I S O (.d (.int N)) (.d r) (.d d) counts item barred low high meant) := by kernel_rfl
theorem order_2e (r : D) : aeval (T2x tk) 296 plX ⟨(fnP 21).sc, frz (stO R I S O (.d (.int N)) (.d r) places counts item barred low high meant)⟩ =
    (rng N).bind fun items => (acomp (compE (T2x tk) 295 ⟨(fnP 21).sc, frz (stO R I S O (.d (.int N)) (.d r) places counts item barred low high meant)⟩ plX) items).map D.list := by kernel_rfl
theorem order_2v (r : D) (i : Int) : setAll (innerVars ⟨(fnP 21).sc, frz (stO R I S O (.d (.int N)) (.d r) .un .un .un .un .un .un .un)⟩ (scopeE plX)) [(Str.ofString "t", .int i)] = [(Str.ofString "t", .int i), (Str.ofString "own", O), (Str.ofString "size", .int N)] := by kernel_rfl
theorem order_2w (r : D) (i : Int) : compE (T2x tk) 295 ⟨(fnP 21).sc, frz (stO R I S O (.d (.int N)) (.d r) .un .un .un .un .un .un .un)⟩ plX (.int i) =
    (aeval (T2x tk) 295 (eltE plX) ⟨scopeE plX, setAll (innerVars ⟨(fnP 21).sc, frz (stO R I S O (.d (.int N)) (.d r) .un .un .un .un .un .un .un)⟩ (scopeE plX)) [(Str.ofString "t", .int i)]⟩).map some := by kernel_rfl
theorem order_2x (r : D) (i : Int) : aeval (T2x tk) 295 (eltE plX) ⟨scopeE plX, [(Str.ofString "t", .int i), (Str.ofString "own", O), (Str.ofString "size", .int N)]⟩ =
    ((((rng N).bind fun items => (acomp (compE (T2x tk) 293 ⟨scopeE plX, [(Str.ofString "t", .int i), (Str.ofString "own", O), (Str.ofString "size", .int N)]⟩ plY) items).map D.list).bind fun d => some [d]).bind fun ds => acall1 (Str.ofString "len") ds) := by kernel_rfl
theorem order_2y (i u : Int) : compE (T2x tk) 293 ⟨scopeE plX, [(Str.ofString "t", .int i), (Str.ofString "own", O), (Str.ofString "size", .int N)]⟩ plY (.int u) =
    (((((((asub O (.int u)).bind fun d => some [d, .int u]).bind fun l => bif decide (l.length ≤ LIM) then some (D.tup l) else none).bind fun a => ((((asub O (.int i)).bind fun d => some [d, .int i]).bind fun l => bif decide (l.length ≤ LIM) then some (D.tup l) else none).bind fun b => (acmp .Lt a b).map D.bool)).bind atr).bind fun b => bif b then some true else some false).bind fun ok => bif ok then some (some (.int u)) else some none) := by kernel_rfl
theorem order_3 (r p : D) : aexec (T2x tk) (fnP 21).sc ow noSpec 296 (stAt (fnP 21).body 3) (stO R I S O (.d (.int N)) (.d r) (.d p) counts item barred low high meant) = some (.next, stO R I S O (.d (.int N)) (.d r) (.d p) (.d (.list [.int 0])) item barred low high meant) := by kernel_rfl
theorem order_4 (l : List D) : aexec (T2x tk) (fnP 21).sc ow noSpec 295 (stAt (fnP 21).body 4) (stO R (.list l) S O (.d (.int N)) row places counts item barred low high meant) =
    afor (forStep (T2x tk) (fnP 21).sc ow noSpec 294 (targetOf (stAt (fnP 21).body 4)) (bodyOf (stAt (fnP 21).body 4))) l (stO R (.list l) S O (.d (.int N)) row places counts item barred low high meant) := by kernel_rfl
theorem order_bb : bodyOf (stAt (fnP 21).body 4) = [orI] := by kernel_rfl
theorem order_fs (d : D) : forStep (T2x tk) (fnP 21).sc ow noSpec 294 (targetOf (stAt (fnP 21).body 4)) (bodyOf (stAt (fnP 21).body 4)) d (stO R I S O (.d (.int N)) row places counts item barred low high meant) =
    (aexecs (T2x tk) (fnP 21).sc ow noSpec 294 (bodyOf (stAt (fnP 21).body 4)) (stO R I S O (.d (.int N)) row places counts (.d d) barred low high meant)).bind (fun q => bif q.2.hp.length == 0 then some q else none) := by kernel_rfl
theorem order_in (r p c : D) : aexec (T2x tk) (fnP 21).sc ow noSpec 293 orI (stO R I S O (.d (.int N)) (.d r) (.d p) (.d c) (.d .non) barred low high meant) = aexecs (T2x tk) (fnP 21).sc ow noSpec 292 (bodyOf orI) (stO R I S O (.d (.int N)) (.d r) (.d p) (.d c) (.d .non) barred low high meant) := by kernel_rfl
theorem order_it (r p c : D) (l : List D) : aexec (T2x tk) (fnP 21).sc ow noSpec 293 orI (stO R I S O (.d (.int N)) (.d r) (.d p) (.d c) (.d (.tup l)) barred low high meant) = aexecs (T2x tk) (fnP 21).sc ow noSpec 292 (elseOf orI) (stO R I S O (.d (.int N)) (.d r) (.d p) (.d c) (.d (.tup l)) barred low high meant) := by kernel_rfl
theorem order_tb : bodyOf orI = [orT] := by kernel_rfl
theorem order_eb : elseOf orI = [orE 0, orE 1, orE 2] := by kernel_rfl
theorem order_t (r p c : D) : aexec (T2x tk) (fnP 21).sc ow noSpec 291 orT (stO R I S O (.d (.int N)) (.d r) (.d p) (.d c) item barred low high meant) =
    (evF (T2x tk) (fnP 21).sc 290 (rhsOf orT) (stO R I S O (.d (.int N)) (.d r) (.d p) (.d c) item barred low high meant)).map fun d => (.next, stO R I S O (.d (.int N)) (.d r) (.d p) (.d d) item barred low high meant) := by kernel_rfl
theorem order_te (r p c : D) : aeval (T2x tk) 290 (rhsOf orT) ⟨(fnP 21).sc, frz (stO R I S O (.d (.int N)) (.d r) (.d p) (.d c) item barred low high meant)⟩ =
    (rng (N + 1)).bind fun items => (acomp (compE (T2x tk) 289 ⟨(fnP 21).sc, frz (stO R I S O (.d (.int N)) (.d r) (.d p) (.d c) item barred low high meant)⟩ (rhsOf orT)) items).map D.list := by kernel_rfl
theorem order_tx (r p : D) (c : List D) (i : Int) : compE (T2x tk) 289 ⟨(fnP 21).sc, frz (stO R I S O (.d (.int N)) (.d r) (.d p) (.d (.list c)) item barred low high meant)⟩ (rhsOf orT) (.int i) =
    ((((((acmp .NotEq (.list c) (.list [])).map D.bool).bind atr).bind fun b => bif b then (((((asub (.list c) (.int 0)).bind fun b => (acmp .GtE (.int i) b).map D.bool).bind atr).bind fun b => bif b then some true else some false)) else some false)).bind fun b => bif b then some true else some false).bind fun ok => bif ok then some (some (.int i)) else some none := by kernel_rfl
theorem order_e0 (r p c x y z : D) : aexec (T2x tk) (fnP 21).sc ow noSpec 291 (orE 0) (stO R I S O (.d (.int N)) (.d r) (.d p) (.d c) (.d (.tup [x, y, z])) barred low high meant) =
    some (.next, stO R I S O (.d (.int N)) (.d r) (.d p) (.d c) (.d (.tup [x, y, z])) (.d x) (.d y) (.d z) meant) := by kernel_rfl
theorem order_e1 (r p c t x y z : D) : aexec (T2x tk) (fnP 21).sc ow noSpec 290 (orE 1) (stO R I S O (.d (.int N)) (.d r) (.d p) (.d c) (.d t) (.d x) (.d y) (.d z) meant) =
    (evF (T2x tk) (fnP 21).sc 289 (rhsOf (orE 1)) (stO R I S O (.d (.int N)) (.d r) (.d p) (.d c) (.d t) (.d x) (.d y) (.d z) meant)).map fun d => (.next, stO R I S O (.d (.int N)) (.d r) (.d p) (.d c) (.d t) (.d x) (.d y) (.d z) (.d d)) := by kernel_rfl
theorem order_e1e (r p c t x y z : D) : aeval (T2x tk) 289 (rhsOf (orE 1)) ⟨(fnP 21).sc, frz (stO R I S O (.d (.int N)) (.d r) (.d p) (.d c) (.d t) (.d x) (.d y) (.d z) meant)⟩ =
    (rng N).bind fun items => (acomp (compE (T2x tk) 288 ⟨(fnP 21).sc, frz (stO R I S O (.d (.int N)) (.d r) (.d p) (.d c) (.d t) (.d x) (.d y) (.d z) meant)⟩ (rhsOf (orE 1))) items).map D.list := by kernel_rfl
theorem order_e1x (r p c t x y z : D) (i : Int) : compE (T2x tk) 288 ⟨(fnP 21).sc, frz (stO R I S O (.d (.int N)) (.d r) (.d p) (.d c) (.d t) (.d x) (.d y) (.d z) meant)⟩ (rhsOf (orE 1)) (.int i) =
    ((((((acmp .LtE y (.int i)).bind fun c => bif c then (acmp .LtE (.int i) z).map D.bool else some (.bool false)).bind fun a => (acmp .NotEq a x).map D.bool).bind atr).bind fun b => bif b then some true else some false).bind fun ok => bif ok then (asub p (.int i)).map some else some none) := by kernel_rfl
theorem order_e2 (r p c t x y z m : D) : aexec (T2x tk) (fnP 21).sc ow noSpec 289 (orE 2) (stO R I S O (.d (.int N)) (.d r) (.d p) (.d c) (.d t) (.d x) (.d y) (.d z) (.d m)) =
    (evF (T2x tk) (fnP 21).sc 288 (rhsOf (orE 2)) (stO R I S O (.d (.int N)) (.d r) (.d p) (.d c) (.d t) (.d x) (.d y) (.d z) (.d m))).map fun d => (.next, stO R I S O (.d (.int N)) (.d r) (.d p) (.d d) (.d t) (.d x) (.d y) (.d z) (.d m)) := by kernel_rfl
theorem order_e2e (r p t x y z m : D) (c : List D) : aeval (T2x tk) 288 (rhsOf (orE 2)) ⟨(fnP 21).sc, frz (stO R I S O (.d (.int N)) (.d r) (.d p) (.d (.list c)) (.d t) (.d x) (.d y) (.d z) (.d m))⟩ =
    (acomp (compE (T2x tk) 287 ⟨(fnP 21).sc, frz (stO R I S O (.d (.int N)) (.d r) (.d p) (.d (.list c)) (.d t) (.d x) (.d y) (.d z) (.d m))⟩ (rhsOf (orE 2))) c).map D.list := by kernel_rfl
theorem order_e2x (r p c t x y z : D) (m : List D) (i : Int) : compE (T2x tk) 287 ⟨(fnP 21).sc, frz (stO R I S O (.d (.int N)) (.d r) (.d p) (.d c) (.d t) (.d x) (.d y) (.d z) (.d (.list m)))⟩ (rhsOf (orE 2)) (.int i) =
    (((((ain (.int i) m).map D.bool).bind atr).bind fun b => bif b then some true else some false).bind fun ok => bif ok then some (some (.int (i + 1))) else some none) := by kernel_rfl
theorem order_5 (r p : D) (c : List D) : aexec (T2x tk) (fnP 21).sc ow noSpec 294 (stAt (fnP 21).body 5) (stO R I S O (.d (.int N)) (.d r) (.d p) (.d (.list c)) item barred low high meant) =
    ((((rng (N + 1)).bind fun items => (acomp (compE (T2x tk) 291 ⟨(fnP 21).sc, wk (stO R I S O (.d (.int N)) (.d r) (.d p) (.d (.list c)) item barred low high meant)⟩ lastX) items).map D.list).bind fun a => (acmp .Eq a (.list c)).map D.bool).map fun d => (.ret d, stO R I S O (.d (.int N)) (.d r) (.d p) (.d (.list c)) item barred low high meant)) := by kernel_rfl
theorem order_5x (r : Str') (p c : D) (i : Int) : compE (T2x tk) 291 ⟨(fnP 21).sc, wk (stO R I S O (.d (.int N)) (.d (.str r)) (.d p) (.d c) item barred low high meant)⟩ lastX (.int i) =
    ((((tk [R, .str ⟨(cut r.cps.toList none (some i)).toArray⟩]).bind atr).bind fun b => bif b then some true else some false).bind fun ok => bif ok then some (some (.int i)) else some none) := by kernel_rfl
end
end Mine
namespace Mine
open PySem PySem.W PyProof.Rows PySem.SeqAt
noncomputable def kasB {α : Type} (N : Nat) (c : Nat → Nat → Bool) : PySem.W.KasT α → Option α
  | .ret a => some a
  | .ask i j k => bif decide (i < N) && decide (j < N) then kasB N c (k (c i j)) else none
theorem kasB_run {α : Type} {N : Nat} {c c' : Nat → Nat → Bool} (h : ∀ i j, i < N → j < N → c i j = c' i j) : ∀ (t : PySem.W.KasT α) {a : α}, kasB N c t = some a → kasRun c' t = a
  | .ret x, a, e => by cases e; rfl
  | .ask i j k, a, e => by
    dsimp only [kasB] at e
    refine bfd e ?_; clear e; intro hb e
    rw [Bool.and_eq_true, decide_eq_true_iff, decide_eq_true_iff] at hb
    dsimp only [kasRun]
    rw [← h i j hb.1 hb.2]
    exact kasB_run h _ e
noncomputable def permOk (N : Nat) (P : List Nat) : Bool := match kasB N (fun i j => decide (P.getD i 0 < P.getD j 0)) (PySem.W.kas_sort N) with
  | some arr => (arr.size == N) && (arr.toList.all (fun t => decide (t < N)) && ((List.range N).all (fun t => arr.toList.getD (P.getD t 0) 0 == t) && (List.range N).all (fun c => (List.range N).any fun t => P.getD t 0 == c)))
  | none => false
noncomputable def allPerms (N : Nat) : Nat → List Nat → Bool
  | 0, pre => permOk N pre
  | k + 1, pre => (List.range N).all fun a => pre.contains a || allPerms N k (pre ++ [a])
theorem perms_ok : ([3, 4, 5, 6] : List Nat).all (fun N => allPerms N N []) = true := by decide +kernel
theorem allPerms_use {N : Nat} : ∀ (k : Nat) (pre ext : List Nat), ext.length = k → (pre ++ ext).Nodup → (∀ a ∈ ext, a < N) → allPerms N k pre = true → permOk N (pre ++ ext) = true
  | 0, pre, ext, hl, _, _, h => by
    have : ext = [] := List.length_eq_zero_iff.mp hl
    subst this; simpa [allPerms] using h
  | k + 1, pre, [], hl, _, _, h => by simp at hl
  | k + 1, pre, a :: ext, hl, hn, ha, h => by
    have h1 := List.all_eq_true.mp h a (List.mem_range.mpr (ha a List.mem_cons_self))
    have hna : a ∉ pre := by
      intro hm
      have := List.nodup_append.mp hn
      exact this.2.2 a hm a List.mem_cons_self rfl
    have hc : pre.contains a = false := by simpa using hna
    rw [hc, Bool.false_or] at h1
    have := allPerms_use k (pre ++ [a]) ext (by simpa using hl) (by simpa using hn) (fun b hb => ha b (List.mem_cons_of_mem _ hb)) h1
    simpa using this
end Mine
namespace Mine
open PySem PySem.W PyProof.Rows PySem.SeqAt
noncomputable def ltp (o : List Int) (u t : Nat) : Bool := ltPair (o.getD u 0, (u : Int)) (o.getD t 0, (t : Int))
noncomputable def pl (o : List Int) (t : Nat) : Nat := ((List.range o.length).filter fun u => ltp o u t).length
theorem ltp_iff {o : List Int} {u t : Nat} : ltp o u t = true ↔ (o.getD u 0 < o.getD t 0 ∨ (o.getD u 0 = o.getD t 0 ∧ u < t)) := by
  delta ltp ltPair
  simp only [Bool.or_eq_true, Bool.and_eq_true, decide_eq_true_eq, beq_iff_eq]
  lia
theorem filter_lt {p q : Nat → Bool} : ∀ (l : List Nat), (∀ x ∈ l, p x = true → q x = true) → (∃ x ∈ l, q x = true ∧ p x = false) → (l.filter p).length < (l.filter q).length
  | [], _, h => by obtain ⟨x, hx, _⟩ := h; cases hx
  | y :: l, h1, h2 => by
    have hle : ∀ (l : List Nat), (∀ x ∈ l, p x = true → q x = true) → (l.filter p).length ≤ (l.filter q).length := by
      intro l
      induction l with
      | nil => intro _; simp
      | cons z l ih =>
        intro h
        have ih' := ih fun x hx => h x (List.mem_cons_of_mem _ hx)
        simp only [List.filter_cons]
        cases hp : p z with
        | false => cases hq : q z <;> simp [ih'] ; lia
        | true => have := h z List.mem_cons_self hp; simp [this, ih']
    simp only [List.filter_cons]
    refine x1_3 h2 fun x hx hq hp => ?_
    rcases List.mem_cons.mp hx with e | hx'
    · subst e
      have := hle l fun z hz => h1 z (List.mem_cons_of_mem _ hz)
      simp [hp, hq]; lia
    · have ih := filter_lt (p := p) (q := q) l (fun z hz => h1 z (List.mem_cons_of_mem _ hz)) ⟨x, hx', hq, hp⟩
      cases hpy : p y with
      | false => cases hqy : q y <;> simp [ih]; lia
      | true => have := h1 y List.mem_cons_self hpy; simp [this, ih]
theorem pl_mono {o : List Int} {u t : Nat} (hu : u < o.length) (h : ltp o u t = true) : pl o u < pl o t := by
  delta pl
  refine filter_lt _ (fun x _ hx => ?_) ⟨u, by simpa using hu, h, ?_⟩
  · rw [ltp_iff] at *; lia
  · cases hh : ltp o u u with
    | false => rfl
    | true => rw [ltp_iff] at hh; lia
theorem ltp_total {o : List Int} {u t : Nat} (h : u ≠ t) : ltp o u t = true ∨ ltp o t u = true := by
  rw [ltp_iff, ltp_iff]; lia
theorem pl_dec {o : List Int} {i j : Nat} (hi : i < o.length) (hj : j < o.length) : decide (pl o i < pl o j) = ltp o i j := by
  cases h : ltp o i j with
  | true => exact decide_eq_true (pl_mono hi h)
  | false =>
    refine decide_eq_false fun hlt => ?_
    by_cases e : i = j
    · subst e; lia
    · rcases ltp_total e with h' | h'
      · rw [h] at h'; cases h'
      · have := pl_mono hj h'; lia
theorem pl_N {o : List Int} {t : Nat} (ht : t < o.length) : pl o t < o.length := by
  delta pl
  have := filter_lt (p := fun u => ltp o u t) (q := fun _ => true) (List.range o.length) (fun _ _ _ => rfl) ⟨t, by simpa using ht, rfl, by
    cases hh : ltp o t t with
    | false => rfl
    | true => rw [ltp_iff] at hh; lia⟩
  rw [List.filter_eq_self.mpr (fun _ _ => rfl), List.length_range] at this
  exact this
theorem pl_nodup (o : List Int) : ((List.range o.length).map (pl o)).Nodup := by
  rw [List.nodup_iff_pairwise_ne, List.pairwise_map]
  refine (List.nodup_range (n := o.length)).imp_of_mem fun {a b} ha hb hab => ?_
  have ha' : a < o.length := by simpa using ha
  have hb' : b < o.length := by simpa using hb
  rcases ltp_total (o := o) hab with h | h
  · have := pl_mono ha' h; lia
  · have := pl_mono hb' h; lia
noncomputable def pairs (o : List Int) : List (Int × Int) := (List.range o.length).map fun t => (o.getD t 0, (t : Int))
theorem sort_ok (o : List Int) (h3 : 3 ≤ o.length) (h6 : o.length ≤ 6) : ∃ arr : Array Nat, kasRun (fun i j => ltPair ((pairs o).getD i (0, 0)) ((pairs o).getD j (0, 0))) (PySem.W.kas_sort o.length) = arr ∧ arr.toList.length = o.length ∧ (∀ t ∈ arr.toList, t < o.length) ∧
    (∀ t, t < o.length → arr.toList.getD (pl o t) 0 = t) ∧ (∀ c, c < o.length → ∃ t, t < o.length ∧ pl o t = c) := by
  have hp := List.all_eq_true.mp perms_ok o.length (by simp; lia)
  have hP := allPerms_use o.length [] ((List.range o.length).map (pl o)) (by simp) (by simpa using pl_nodup o) (fun a ha => by
    refine x1_2 (List.mem_map.mp ha) fun t ht hr2 => ?_; subst hr2
    exact pl_N (by simpa using ht)) hp
  rw [List.nil_append] at hP
  have hg : ∀ t, t < o.length → ((List.range o.length).map (pl o)).getD t 0 = pl o t := fun t ht => by simp [ht]
  delta permOk at hP
  split at hP
  · rename_i arr he
    simp only [Bool.and_eq_true, beq_iff_eq] at hP
    refine x0_4 hP fun p1 p2 p3 p4 => ?_
    refine ⟨arr, ?_, by simpa using p1, fun t ht => by simpa using List.all_eq_true.mp p2 t ht, fun t ht => ?_, fun c hc => ?_⟩
    · refine kasB_run (fun i j hi hj => ?_) _ he
      rw [hg i hi, hg j hj, pl_dec hi hj]
      delta ltp pairs
      simp [hi, hj]
    · have := List.all_eq_true.mp p3 t (by simpa using ht)
      rw [hg t ht] at this
      simpa using this
    · have := List.all_eq_true.mp p4 c (by simpa using hc)
      refine x1_2 (List.any_eq_true.mp this) fun t ht e => ?_
      have ht' : t < o.length := by simpa using ht
      rw [hg t ht'] at e
      exact ⟨t, ht', by simpa using e⟩
  · cases hP
theorem glue_ss : ∀ (ls : List (List Nat)), Txt.join (SS []) (ls.map SS) = SS ls.flatten := by
  intro ls
  show Builtin.Str.glued (SS []) (ls.map SS) = _
  rw [StrLaws.glued_eq_join]
  induction ls with
  | nil => rfl
  | cons x l ih =>
    cases l with
    | nil => simp [Str.join]
    | cons y l =>
      simp only [List.map_cons, Str.join] at ih ⊢
      rw [ih, ss_append, ss_append]
      simp
theorem strs_of : ∀ (ls : List (List Nat)), strsOf (ls.map fun l => .str (SS l)) = some (ls.map SS)
  | [] => rfl
  | x :: l => by simp only [List.map_cons, strsOf, strs_of l, Option.map_some]
theorem sum_len : ∀ (ls : List (List Nat)), ((ls.map SS).map (·.length)).sum = ls.flatten.length
  | [] => rfl
  | x :: l => by simp only [List.map_cons, List.sum_cons, List.flatten_cons, List.length_append, sum_len l, ss_len]
theorem ajoin_ss (ls : List (List Nat)) (h : ls.flatten.length ≤ 1000) : ajoin (SS []) (.list (ls.map fun l => .str (SS l))) = some (.str (SS ls.flatten)) := by
  dsimp only [ajoin]
  rw [strs_of]
  dsimp only [Option.bind_some]
  rw [glue_ss, sum_len, ss_len, ss_len, decide_eq_true (by rw [List.length_nil, Nat.mul_zero, Nat.add_zero]; exact lim1000' h), decide_eq_true (lim1000' h)]
  rfl
end Mine
namespace Mine.Glob
variable {α : Type}
theorem fits_congr {f g : α → Pc} {c : Nat} (h : ∀ x k, k < c → f x k = g x k) : ∀ (r : List α) (s : Nat), fits c (r.map f) s = fits c (r.map g) s
  | [], s => rfl
  | p :: r, s => by
    simp only [List.map_cons, fits]
    rw [fits_congr h r (s + 1)]
    by_cases hs : s < c
    · rw [h p s hs]
    · simp [hs]
theorem first_congr {f g : α → Pc} {c : Nat} (h : ∀ x k, k < c → f x k = g x k) (r : List α) : ∀ (k s : Nat), first c (r.map f) k s = first c (r.map g) k s
  | 0, s => rfl
  | k + 1, s => by simp only [first]; rw [fits_congr h r s, first_congr h r k (s + 1)]
theorem place_congr {f g : α → Pc} {c : Nat} (h : ∀ x k, k < c → f x k = g x k) : ∀ (ms : List (List α)) (s : Nat), place c (ms.map fun r => r.map f) s = place c (ms.map fun r => r.map g) s
  | [], s => rfl
  | r :: ms, s => by
    simp only [List.map_cons, place, List.length_map]
    rw [first_congr h r]
    congr 1
    funext t
    exact place_congr h ms _
theorem takes_congr {f g : α → Pc} {c : Nat} (h : ∀ x k, k < c → f x k = g x k) : ∀ (rs : List (List α)), takes c (rs.map fun r => r.map f) = takes c (rs.map fun r => r.map g)
  | [] => rfl
  | [r] => by simp only [List.map_cons, List.map_nil, takes, List.length_map]; rw [fits_congr h]
  | r :: m :: ms => by
    have hms : ∃ ys x, m :: ms = ys ++ [x] := ⟨(m :: ms).dropLast, (m :: ms).getLast (by simp), (List.dropLast_concat_getLast (by simp)).symm⟩
    refine x2_1 hms fun ys x hyx => ?_
    have key : ∀ f : α → Pc, takes c ((r :: m :: ms).map fun r => r.map f) = (fits c (r.map f) 0 && match place c (ys.map fun r => r.map f) r.length with
        | none => false
        | some p => decide (p + x.length ≤ c) && fits c (x.map f) (c - x.length)) := by
      intro f
      have e1 : (m :: ms).map (fun r : List α => r.map f) = ys.map (fun r : List α => r.map f) ++ [x.map f] := by rw [hyx]; simp
      simp only [List.map_cons] at e1 ⊢
      simp only [takes]
      rw [e1]
      simp only [List.dropLast_concat, List.getLastD_concat, List.length_map]
      first | done | (cases place c (List.map (fun r => List.map f r) ys) r.length <;> rfl)
    rw [key f, key g, fits_congr h, place_congr h, fits_congr h x]
theorem segs_map {β : Type} (f : α → β) : ∀ (l : List (Option α)), segs (l.map (Option.map f)) = (segs l).map (List.map f)
  | [] => rfl
  | none :: r => by simp only [List.map_cons, Option.map_none, segs, segs_map f r, List.map_nil]
  | some p :: r => by
    refine x2_1 (segs_ne r) fun s ss h => ?_
    simp only [List.map_cons, Option.map_some, segs, segs_map f r]
    rw [h]
    rfl
theorem filt_map {β : Type} (f : α → β) (l : List (List α)) : (l.map (List.map f)).filter (fun s => !s.isEmpty) = (l.filter fun s => !s.isEmpty).map (List.map f) := by
  rw [List.filter_map]
  congr 1
  refine List.filter_congr fun x _ => ?_
  cases x <;> rfl
theorem runs_map {β : Type} (f : α → β) (l : List (Option α)) : runsOf (l.map (Option.map f)) = (runsOf l).map (List.map f) := by
  delta runsOf
  rw [segs_map]
  refine x2_1 (segs_ne l) fun s ss h => ?_
  rw [h]
  cases ss with
  | nil => rfl
  | cons t ss =>
    have hms : ∃ ys x, t :: ss = ys ++ [x] := ⟨(t :: ss).dropLast, (t :: ss).getLast (by simp), (List.dropLast_concat_getLast (by simp)).symm⟩
    refine x2_1 hms fun ys x hyx => ?_
    have e1 : (t :: ss).map (List.map f) = ys.map (List.map f) ++ [x.map f] := by rw [hyx]; simp
    simp only [List.map_cons] at e1 ⊢
    rw [e1, hyx]
    simp only [List.dropLast_concat, List.getLastD_concat, List.map_append, List.map_cons, List.map_nil, filt_map]
theorem runs_ne (l : List (Option α)) : runsOf l ≠ [] := by
  delta runsOf
  refine x2_1 (segs_ne l) fun s ss h => ?_
  rw [h]
  cases ss <;> simp
theorem segs_len : ∀ (l : List (Option α)), ∀ x ∈ segs l, x.length ≤ l.length
  | [], x, hx => by simp [segs] at hx; subst hx; simp
  | none :: r, x, hx => by
    simp only [segs, List.mem_cons] at hx
    rcases hx with rfl | hx
    · simp
    · have := segs_len r x hx; simp; lia
  | some p :: r, x, hx => by
    refine x2_1 (segs_ne r) fun s ss h => ?_
    have ih := segs_len r
    simp only [segs] at hx
    rw [h] at hx ih
    simp only [List.mem_cons] at hx
    rcases hx with rfl | hx
    · have := ih s List.mem_cons_self; simp; lia
    · have := ih x (List.mem_cons_of_mem _ hx); simp; lia
theorem runs_sub (l : List (Option α)) : ∀ x ∈ runsOf l, x ∈ segs l := by
  intro x hx
  delta runsOf at hx
  refine x2_1 (segs_ne l) fun s ss h => ?_
  rw [h] at hx ⊢
  cases ss with
  | nil => exact hx
  | cons t ss =>
    have hms : ∃ ys z, t :: ss = ys ++ [z] := ⟨(t :: ss).dropLast, (t :: ss).getLast (by simp), (List.dropLast_concat_getLast (by simp)).symm⟩
    refine x2_1 hms fun ys z hyz => ?_
    have hx : x ∈ s :: ((t :: ss).dropLast.filter (fun s => !s.isEmpty) ++ [(t :: ss).getLastD []]) := hx
    rw [hyz] at hx ⊢
    simp only [List.dropLast_concat, List.getLastD_concat, List.mem_cons, List.mem_append, List.mem_filter, List.not_mem_nil, or_false] at hx ⊢
    rcases hx with h | h | h
    · exact .inl h
    · exact .inr (.inl h.1)
    · exact .inr (.inr h)
theorem runs_len (l : List (Option α)) : ∀ x ∈ runsOf l, x.length ≤ l.length := fun x hx => segs_len l x (runs_sub l x hx)
end Mine.Glob
namespace Mine
noncomputable def pcc : Tk → Pcc
  | .q => (true, 98, 97)
  | .lt l => (false, 97 + l, 97 + l)
  | .br n l h => bif decide (h < l) then (n, 98, 97) else (n, 97 + l, 97 + h)
noncomputable def mOk : Tk → Nat → Bool
  | .q, _ => true
  | .lt l, t => decide (l ≤ t) && decide (t ≤ l)
  | .br n l h, t => (decide (l ≤ t) && decide (t ≤ h)) != n
theorem pcc_ok (k : Tk) (t : Nat) : pcOk (pcc k) (97 + t) = mOk k t := by
  cases k with
  | q =>
    delta pcOk pcc mOk
    have h1 : (decide (98 ≤ 97 + t) && decide (97 + t ≤ 97)) = false := by simp; lia
    dsimp only
    rw [h1]; rfl
  | lt l => simp [pcOk, pcc, mOk]
  | br n l h =>
    delta pcOk pcc mOk
    by_cases hl : h < l
    · simp only [hl, decide_true, cond_true]
      have h1 : (decide (98 ≤ 97 + t) && decide (97 + t ≤ 97)) = false := by simp; lia
      have h2 : (decide (l ≤ t) && decide (t ≤ h)) = false := by simp; lia
      rw [h1, h2]
    · simp [hl]
end Mine
namespace Mine
open PySem PySem.W PyProof.Rows PySem.SeqAt
theorem rng_nat {n : Nat} (h : n ≤ 1000) : rng (n : Int) = some ((List.range n).map fun (i : Nat) => D.int (i : Int)) := dec_len h
noncomputable abbrev nD (A : List Nat) : D := .list (A.map fun (a : Nat) => .int (a : Int))
noncomputable def tkB : Tk → Bool × Int × Int
  | .q => (true, 1, 0)
  | .lt l => (false, (l : Int), (l : Int))
  | .br n l h => (n, (l : Int), (h : Int))
theorem itm_tk (t : Tk) : itm (some t) = .tup [.bool (tkB t).1, .int (tkB t).2.1, .int (tkB t).2.2] := by cases t <;> rfl
theorem mOk_tk (t : Tk) (x : Nat) : mOk t x = ((decide ((tkB t).2.1 ≤ (x : Int)) && decide ((x : Int) ≤ (tkB t).2.2)) != (tkB t).1) := by
  cases t with
  | q =>
    have h : (decide ((1 : Int) ≤ (x : Int)) && decide ((x : Int) ≤ 0)) = false := by simp; lia
    show true = (_ != true)
    rw [show (decide ((tkB .q).2.1 ≤ (x : Int)) && decide ((x : Int) ≤ (tkB .q).2.2)) = false from h]; rfl
  | lt l => simp [mOk, tkB]
  | br n l h => simp [mOk, tkB]
theorem ain_int (c : Nat) : ∀ (ms : List Nat), ain (.int (c : Int)) (ms.map fun (a : Nat) => D.int (a : Int)) = some (ms.any fun m => m == c)
  | [] => rfl
  | m :: ms => by
    have e : ain (.int (c : Int)) ((m :: ms).map fun (a : Nat) => D.int (a : Int)) = (some ((m : Int) == (c : Int))).bind fun p => (ain (.int (c : Int)) (ms.map fun (a : Nat) => D.int (a : Int))).map fun q => p || q := rfl
    rw [e, ain_int c ms, List.any_cons, Option.bind_some, Option.map_some]
    have : ((m : Int) == (c : Int)) = (m == c) := by
      by_cases h : m = c
      · simp [h]
      · have : (m : Int) ≠ (c : Int) := by lia
        rw [beq_eq_false_iff_ne.mpr this, beq_eq_false_iff_ne.mpr h]
    rw [this]
theorem seqL_refl : ∀ (A : List Nat), seqL (A.map fun (a : Nat) => D.int (a : Int)) (A.map fun (a : Nat) => D.int (a : Int)) = some true
  | [] => rfl
  | a :: A => by
    have e : seqL ((a :: A).map fun (a : Nat) => D.int (a : Int)) ((a :: A).map fun (a : Nat) => D.int (a : Int)) = (some ((a : Int) == (a : Int))).bind fun x => (seqL (A.map fun (a : Nat) => D.int (a : Int)) (A.map fun (a : Nat) => D.int (a : Int))).map fun y => x && y := rfl
    rw [e, seqL_refl A]; simp
theorem eq_refl (A : List Nat) : acmp .Eq (nD A) (nD A) = some true := by
  have h : acmp .Eq (nD A) (nD A) = bif ((A.map fun (a : Nat) => D.int (a : Int)).length == (A.map fun (a : Nat) => D.int (a : Int)).length) then seqL (A.map fun (a : Nat) => D.int (a : Int)) (A.map fun (a : Nat) => D.int (a : Int)) else some false := rfl
  rw [h, beq_self_eq_true]
  exact seqL_refl A
theorem ne_nil (A : List Nat) : acmp .NotEq (nD A) (.list []) = some (!A.isEmpty) := by
  cases A with
  | nil => rfl
  | cons a A => rfl
theorem sub0 (A : List Nat) (h : A ≠ []) : asub (nD A) (.int 0) = some (.int (A.headD 0 : Nat)) := by
  cases A with
  | nil => exact absurd rfl h
  | cons a A => exact asub_first
theorem lim2 (n : Nat) (h : n ≤ 1000) : decide (n ≤ LIM) = true := decide_eq_true (lim1000' h)
section
variable {tk : List D → Option D} (R I S : D) (o : List Int) (srt : List Nat)
theorem places_eval (h6 : o.length ≤ 6) (r : D) : aeval (T2x tk) 296 plX ⟨(fnP 21).sc, frz (stO R I S (.list (o.map .int)) (.d (.int o.length)) (.d r) .un .un .un .un .un .un .un)⟩ = some (nD ((List.range o.length).map (pl o))) := by
  rw [order_2e, rng_nat (by lia)]
  dsimp only [Option.bind_some]
  rw [acomp_map (g := fun t => .int (pl o t : Nat)) (List.range o.length) (fun t ht => by
    have ht' : t < o.length := by simpa using ht
    rw [order_2w, order_2v, order_2x (r := .non), rng_nat (by lia)]
    dsimp only [Option.bind_some]
    rw [acomp_filter (p := fun u => ltp o u t) (g := fun u : Nat => .int (u : Int)) (List.range o.length) (fun u hu => by
      have hu' : u < o.length := by simpa using hu
      rw [order_2y, sub_map (d := 0) hu', sub_map (d := 0) ht']
      dsimp only [Option.bind_some, List.length_cons, List.length_nil]
      rw [lim2 _ (by lia)]
      dsimp only [cond_true, Option.bind_some, cEI, cEB, cES, cNI, cLI, cLT, cLeI, cLeS, cGI, cGS, cGeI, cIL, cIT, Option.map_some, tB]
      have e : (decide (o.getD u 0 < o.getD t 0) || (o.getD u 0 == o.getD t 0 && decide ((u : Int) < (t : Int)))) = ltp o u t := rfl
      rw [e]
      cases ltp o u t <;> rfl)]
    dsimp only [Option.map_some, Option.bind_some]
    show some (some (D.int _)) = _
    rw [List.length_map]
    rfl)]
  simp only [Option.map_some, nD, List.map_map]
  rfl
theorem row_eval (h3 : 3 ≤ o.length) (h6 : o.length ≤ 6) (arr : Array Nat) (ha : kasRun (fun i j => ltPair ((pairs o).getD i (0, 0)) ((pairs o).getD j (0, 0))) (PySem.W.kas_sort o.length) = arr) (hlen : arr.toList.length = o.length) (hlt : ∀ t ∈ arr.toList, t < o.length) :
    aeval (T2x tk) 297 (rhsOf (stAt (fnP 21).body 1)) ⟨(fnP 21).sc, frz (stO R I (.list (o.map .int)) (.list (o.map .int)) (.d (.int o.length)) .un .un .un .un .un .un .un .un)⟩ = some (.str (SS (arr.toList.map fun i => 97 + i))) := by
  rw [order_1e, rng_nat (by lia)]
  dsimp only [Option.bind_some]
  rw [acomp_map (g := fun t : Nat => .tup [.int (o.getD t 0), .int (t : Int)]) (List.range o.length) (fun t ht => by
    have ht' : t < o.length := by simpa using ht
    rw [order_1y, sub_map (d := 0) ht']
    dsimp only [Option.bind_some, List.length_cons, List.length_nil]
    rw [lim2 _ (by lia)]
    rfl)]
  dsimp only [Option.map_some, Option.bind_some]
  have hall : ∀ (l : List Nat), allPairs (l.map fun t : Nat => D.tup [.int (o.getD t 0), .int (t : Int)]) = some (l.map fun t => (o.getD t 0, (t : Int))) := by
    intro l
    induction l with
    | nil => rfl
    | cons x l ih => exact congrArg (Option.map fun l => (o.getD x 0, (x : Int)) :: l) ih
  have hs : acall1 (Str.ofString "sorted") [.list ((List.range o.length).map fun t : Nat => .tup [.int (o.getD t 0), .int (t : Int)])] = some (.list (arr.toList.map fun t => .tup [.int (o.getD t 0), .int (t : Int)])) := by
    have e1 : ∀ d, acall1 (Str.ofString "sorted") [d] = asorted d := by intro d; kernel_rfl
    rw [e1]
    dsimp only [asorted]
    rw [hall]
    simp only [Option.bind_some, List.length_map, List.length_range]
    rw [decide_eq_true h3, decide_eq_true h6]
    simp only [Bool.and_self, cond_true]
    have e2 : kasRun (fun i j => ltPair (((List.range o.length).map fun t : Nat => (o.getD t 0, (t : Int))).getD i (0, 0)) (((List.range o.length).map fun t : Nat => (o.getD t 0, (t : Int))).getD j (0, 0))) (PySem.W.kas_sort o.length) = arr := ha
    rw [e2]
    congr 2
    refine List.map_congr_left fun t ht => ?_
    simp [hlt t ht]
  rw [hs]
  dsimp only [Option.bind_some, itemsOf]
  rw [acomp_map (g := fun t : Nat => .str (SS [97 + t])) arr.toList (fun t ht => by
    have := hlt t ht
    rw [order_1x, achr_nat (by lia)]
    rfl)]
  dsimp only [Option.map_some, Option.bind_some]
  have e3 : ∀ d, ameth (Str.ofString "join") (.str (SS [])) [d] = ajoin (SS []) d := by intro d; kernel_rfl
  rw [e3]
  have e4 : arr.toList.map (fun t => D.str (SS [97 + t])) = (arr.toList.map fun t => [97 + t]).map fun l => D.str (SS l) := by rw [List.map_map]; rfl
  have e5 : (arr.toList.map fun t => [97 + t]).flatten = arr.toList.map fun t => 97 + t := by
    generalize arr.toList = l
    induction l with
    | nil => rfl
    | cons x l ih => simp [ih]
  rw [e4, ajoin_ss _ (by rw [e5, List.length_map]; lia), e5]
structure RowOk (o : List Int) (row : List Nat) : Prop where
  len : row.length = o.length
  at_ : ∀ t, t < o.length → row.getD (pl o t) 0 = 97 + t
  sur : ∀ c, c < o.length → ∃ t, t < o.length ∧ pl o t = c
noncomputable def stepA (N : Nat) (row : List Nat) (A : List Nat) : Tok → List Nat
  | none => Glob.cntStar N A
  | some t => Glob.cntOne N (PP row (pcc t)) A
theorem meant_ok {o : List Int} {row : List Nat} (H : RowOk o row) (t : Tk) (c : Nat) (hc : c ≤ o.length) : (((List.range o.length).filter (mOk t)).map (pl o)).any (fun m => m == c) = (decide (c < o.length) && PP row (pcc t) c) := by
  by_cases h : c < o.length
  · refine x1_2 (H.sur c h) fun u hu hr2 => ?_; subst hr2
    delta PP
    rw [H.at_ u hu, pcc_ok, decide_eq_true h, Bool.true_and]
    rw [Bool.eq_iff_iff, List.any_eq_true]
    constructor
    · rintro ⟨m, hm, e⟩
      refine x1_2 (List.mem_map.mp hm) fun v hv hr2 => ?_; subst hr2
      refine x0_2 (List.mem_filter.mp hv) fun hv1 hv2 => ?_
      have hv1' : v < o.length := by simpa using hv1
      have : pl o v = pl o u := by simpa using e
      have : v = u := by
        have h1 := H.at_ v hv1'
        have h2 := H.at_ u hu
        rw [this] at h1
        lia
      subst this
      exact hv2
    · intro hm
      exact ⟨pl o u, List.mem_map.mpr ⟨u, List.mem_filter.mpr ⟨by simpa using hu, hm⟩, rfl⟩, by simp⟩
  · rw [decide_eq_false h, Bool.false_and]
    rw [List.any_eq_false]
    intro m hm
    refine x1_2 (List.mem_map.mp hm) fun v hv hr2 => ?_; subst hr2
    refine x0_2 (List.mem_filter.mp hv) fun hv1 hv2 => ?_
    have := pl_N (o := o) (t := v) (by simpa using hv1)
    simp; lia
theorem order_turn {row : List Nat} (H : RowOk o row) (h6 : o.length ≤ 6) (O r : D) (A : List Nat) (hA : ∀ a ∈ A, a ≤ o.length) (tok : Tok) (it b l h m : V) :
    ∃ it' b' l' h' m', forStep (T2x tk) (fnP 21).sc ow noSpec 294 (targetOf (stAt (fnP 21).body 4)) (bodyOf (stAt (fnP 21).body 4)) (itm tok) (stO R I S O (.d (.int o.length)) (.d r) (.d (nD ((List.range o.length).map (pl o)))) (.d (nD A)) it b l h m) =
      some (.next, stO R I S O (.d (.int o.length)) (.d r) (.d (nD ((List.range o.length).map (pl o)))) (.d (nD (stepA o.length row A tok))) it' b' l' h' m') := by
  cases tok with
  | none =>
    refine ⟨.d .non, b, l, h, m, ?_⟩
    rw [order_fs, order_bb, show itm none = .non from rfl]
    have e := order_te tk R I S O (.d .non) b l h m o.length r (nD ((List.range o.length).map (pl o))) (nD A)
    rw [show ((o.length : Int) + 1) = ((o.length + 1 : Nat) : Int) by lia, rng_nat (by lia)] at e
    dsimp only [Option.bind_some] at e
    rw [acomp_filter (p := fun c => !A.isEmpty && decide (A.headD 0 ≤ c)) (g := fun c : Nat => .int (c : Int)) (List.range (o.length + 1)) (fun c hc => by
      rw [order_tx, ne_nil]
      dsimp only [Option.map_some, Option.bind_some, atr]
      cases hAe : A.isEmpty with
      | true => rfl
      | false =>
        have hne : A ≠ [] := by intro e; rw [e] at hAe; cases hAe
        simp only [Bool.not_false, cond_true, Bool.true_and]
        rw [sub0 A hne]
        dsimp only [Option.bind_some, cEI, cEB, cES, cNI, cLI, cLT, cLeI, cLeS, cGI, cGS, cGeI, cIL, cIT, Option.map_some, tB]
        have : decide ((c : Int) ≥ ((A.headD 0 : Nat) : Int)) = decide (A.headD 0 ≤ c) := by
          apply decide_eq_decide.mpr; lia
        rw [this]
        cases decide (A.headD 0 ≤ c) <;> rfl)] at e
    have h1 := order_t tk R I S O (.d .non) b l h m o.length r (nD ((List.range o.length).map (pl o))) (nD A)
    rw [evF_strong e] at h1
    have h2 := order_in tk R I S O b l h m o.length r (nD ((List.range o.length).map (pl o))) (nD A)
    rw [order_tb, ex_next h1, ex_nil] at h2
    rw [ex_next h2, ex_nil]
    rfl
  | some t =>
    refine ⟨.d (itm (some t)), .d (.bool (tkB t).1), .d (.int (tkB t).2.1), .d (.int (tkB t).2.2), .d (nD (((List.range o.length).filter (mOk t)).map (pl o))), ?_⟩
    rw [order_fs, order_bb, itm_tk]
    have h0 := order_e0 tk R I S O b l h m o.length r (nD ((List.range o.length).map (pl o))) (nD A) (.bool (tkB t).1) (.int (tkB t).2.1) (.int (tkB t).2.2)
    have e1 := order_e1e tk R I S O m o.length r (nD ((List.range o.length).map (pl o))) (nD A) (.tup [.bool (tkB t).1, .int (tkB t).2.1, .int (tkB t).2.2]) (.bool (tkB t).1) (.int (tkB t).2.1) (.int (tkB t).2.2)
    rw [rng_nat (by lia)] at e1
    dsimp only [Option.bind_some] at e1
    rw [acomp_filter (p := mOk t) (g := fun c : Nat => .int (pl o c : Nat)) (List.range o.length) (fun c hc => by
      have hc' : c < o.length := by simpa using hc
      have hsub : asub (nD ((List.range o.length).map (pl o))) (.int (c : Int)) = some (.int (pl o c : Nat)) := by
        have := sub_map (f := fun a : Nat => D.int (a : Int)) (ts := (List.range o.length).map (pl o)) (i := c) (d := 0) (by simpa using hc')
        rw [this]
        simp [hc']
      rw [order_e1x, hsub, mOk_tk]
      dsimp only [cEI, cEB, cES, cNI, cLI, cLT, cLeI, cLeS, cGI, cGS, cGeI, cIL, cIT, Option.bind_some]
      cases decide ((tkB t).2.1 ≤ (c : Int)) <;> cases decide ((c : Int) ≤ (tkB t).2.2) <;> cases (tkB t).1 <;> rfl)] at e1
    have h1 := order_e1 tk R I S O m o.length r (nD ((List.range o.length).map (pl o))) (nD A) (.tup [.bool (tkB t).1, .int (tkB t).2.1, .int (tkB t).2.2]) (.bool (tkB t).1) (.int (tkB t).2.1) (.int (tkB t).2.2)
    rw [evF_strong e1] at h1
    have hmt : D.list (((List.range o.length).filter (mOk t)).map fun c : Nat => .int (pl o c : Nat)) = nD (((List.range o.length).filter (mOk t)).map (pl o)) := by
      delta nD; rw [List.map_map]; rfl
    rw [hmt] at h1
    have e2 := order_e2e tk R I S O o.length r (nD ((List.range o.length).map (pl o))) (.tup [.bool (tkB t).1, .int (tkB t).2.1, .int (tkB t).2.2]) (.bool (tkB t).1) (.int (tkB t).2.1) (.int (tkB t).2.2) (nD (((List.range o.length).filter (mOk t)).map (pl o))) (A.map fun (a : Nat) => .int (a : Int))
    rw [acomp_filter (p := fun c => decide (c < o.length) && PP row (pcc t) c) (g := fun c : Nat => .int ((c + 1 : Nat) : Int)) A (fun c hc => by
      have := hA c hc
      rw [order_e2x, ain_int, meant_ok H t c this]
      dsimp only [Option.map_some, Option.bind_some, atr]
      cases (decide (c < o.length) && PP row (pcc t) c) <;> rfl)] at e2
    have h2 := order_e2 tk R I S O o.length r (nD ((List.range o.length).map (pl o))) (nD A) (.tup [.bool (tkB t).1, .int (tkB t).2.1, .int (tkB t).2.2]) (.bool (tkB t).1) (.int (tkB t).2.1) (.int (tkB t).2.2) (nD (((List.range o.length).filter (mOk t)).map (pl o)))
    rw [evF_strong e2] at h2
    have h3 := order_it tk R I S O b l h m o.length r (nD ((List.range o.length).map (pl o))) (nD A) [.bool (tkB t).1, .int (tkB t).2.1, .int (tkB t).2.2]
    rw [order_eb, ex_next h0, ex_next h1, ex_next h2, ex_nil] at h3
    rw [ex_next h3, ex_nil]
    have hst : nD (stepA o.length row A (some t)) = D.list ((A.filter fun c => decide (c < o.length) && PP row (pcc t) c).map fun c : Nat => .int ((c + 1 : Nat) : Int)) := by
      delta stepA Glob.cntOne nD; rw [List.map_map]; rfl
    rw [hst]
    rfl
end
end Mine
namespace Mine
open PySem PySem.W PyProof.Rows PySem.SeqAt
theorem step_le {N : Nat} {row : List Nat} {A : List Nat} (hA : ∀ a ∈ A, a ≤ N) (t : Tok) : ∀ a ∈ stepA N row A t, a ≤ N := by
  intro a ha
  cases t with
  | none =>
    unfold stepA Glob.cntStar at ha
    have := (List.mem_filter.mp ha).1
    have := List.mem_range.mp this
    lia
  | some t =>
    unfold stepA Glob.cntOne at ha
    refine x1_2 (List.mem_map.mp ha) fun c hc hr2 => ?_; subst hr2
    have := (List.mem_filter.mp hc).2
    rw [Bool.and_eq_true, decide_eq_true_iff] at this
    lia
theorem cnt_fold (N : Nat) (row : List Nat) : ∀ (toks : List Tok) (A : List Nat), Glob.cnt N (toks.map (Option.map fun t => PP row (pcc t))) A = toks.foldl (stepA N row) A
  | [], A => rfl
  | none :: r, A => by dsimp only [List.map_cons, Option.map_none, Glob.cnt, List.foldl_cons, stepA]; exact cnt_fold N row r _
  | some t :: r, A => by dsimp only [List.map_cons, Option.map_some, Glob.cnt, List.foldl_cons, stepA]; exact cnt_fold N row r _
section
variable {tk : List D → Option D} (R I S : D) (o : List Int)
theorem order_loop {row : List Nat} (H : RowOk o row) (h6 : o.length ≤ 6) (O r : D) : ∀ (toks : List Tok) (A : List Nat) (hA : ∀ a ∈ A, a ≤ o.length) (it b l h m : V),
    ∃ it' b' l' h' m', afor (forStep (T2x tk) (fnP 21).sc ow noSpec 294 (targetOf (stAt (fnP 21).body 4)) (bodyOf (stAt (fnP 21).body 4))) (toks.map itm) (stO R I S O (.d (.int o.length)) (.d r) (.d (nD ((List.range o.length).map (pl o)))) (.d (nD A)) it b l h m) =
      some (.next, stO R I S O (.d (.int o.length)) (.d r) (.d (nD ((List.range o.length).map (pl o)))) (.d (nD (toks.foldl (stepA o.length row) A))) it' b' l' h' m')
  | [], A, hA, it, b, l, h, m => ⟨it, b, l, h, m, rfl⟩
  | t :: toks, A, hA, it, b, l, h, m => by
    refine x5_1 (order_turn (tk := tk) R I S o H h6 O r A hA t it b l h m) fun i1 b1 l1 h1 m1 e => ?_
    refine x5_1 (order_loop H h6 O r toks (stepA o.length row A t) (step_le hA t) i1 b1 l1 h1 m1) fun i2 b2 l2 h2 m2 e2 => ?_
    refine ⟨i2, b2, l2, h2, m2, ?_⟩
    simp only [List.map_cons, afor]
    rw [e]
    dsimp only [Option.bind_some]
    rw [e2]
    rfl
theorem order_run' (h3 : 3 ≤ o.length) (h6 : o.length ≤ 6) (toks : List Tok)
    (htk : ∀ name : List Nat, name.length ≤ 200 → tk [R, .str (SS name)] = some (.bool (Glob.takes name.length (((Glob.runsOf toks).map (List.map pcc)).map fun r => r.map (PP name))))) :
    acall (T2x tk) (fnP 21).sc ow noSpec 300 (fnP 21).ps (fnP 21).body [R, .list (toks.map itm), .list (o.map .int), .list (o.map .int)] = some (.bool true) := by
  have hg : giveArgs (fnP 21).ps [R, .list (toks.map itm), .list (o.map .int), .list (o.map .int)] ⟨startVars (fnP 21).sc, []⟩ = some (stO R (.list (toks.map itm)) (.list (o.map .int)) (.list (o.map .int)) .un .un .un .un .un .un .un .un .un) := by kernel_rfl
  refine run_of' hg ?_
  refine x1_5 (sort_ok o h3 h6) fun arr ha hlen hlt hat hsur => ?_
  have h0 := order_0 tk R (.list (toks.map itm)) (.list (o.map .int)) (o.map .int)
  rw [List.length_map] at h0
  have h1 := order_1 tk R (.list (toks.map itm)) (.list (o.map .int)) (.list (o.map .int)) .un .un .un .un .un .un .un .un o.length
  rw [evF_strong (row_eval R (.list (toks.map itm)) o h3 h6 arr ha hlen hlt)] at h1
  generalize hrow : arr.toList.map (fun i => 97 + i) = row at h1
  have H : RowOk o row := ⟨by rw [← hrow, List.length_map, hlen], fun t ht => by
    have hp := pl_N (o := o) ht
    have := hat t ht
    rw [← hrow]
    rw [List.getD_eq_getElem?_getD, List.getElem?_map]
    rw [List.getD_eq_getElem?_getD] at this
    have hb : pl o t < arr.toList.length := by lia
    rw [List.getElem?_eq_getElem hb] at this ⊢
    dsimp only [Option.getD_some, Option.map_some] at this ⊢
    rw [this], hsur⟩
  have h2 := order_2 tk R (.list (toks.map itm)) (.list (o.map .int)) (.list (o.map .int)) .un .un .un .un .un .un .un o.length (.str (SS row))
  rw [evF_strong (places_eval R (.list (toks.map itm)) (.list (o.map .int)) o h6 (.str (SS row)))] at h2
  have h3' := order_3 tk R (.list (toks.map itm)) (.list (o.map .int)) (.list (o.map .int)) .un .un .un .un .un .un o.length (.str (SS row)) (nD ((List.range o.length).map (pl o)))
  have h4 := order_4 tk R (.list (o.map .int)) (.list (o.map .int)) (.d (.str (SS row))) (.d (nD ((List.range o.length).map (pl o)))) (.d (.list [.int 0])) .un .un .un .un .un o.length (toks.map itm)
  refine x5_1 (order_loop (tk := tk) R (.list (toks.map itm)) (.list (o.map .int)) o H h6 (.list (o.map .int)) (.str (SS row)) toks [0] (by simp) .un .un .un .un .un) fun it b l h m e => ?_
  have h4' := h4.trans e
  have h5 := order_5 tk R (.list (toks.map itm)) (.list (o.map .int)) (.list (o.map .int)) it b l h m o.length (.str (SS row)) (nD ((List.range o.length).map (pl o))) ((toks.foldl (stepA o.length row) [0]).map fun (a : Nat) => .int (a : Int))
  rw [show ((o.length : Int) + 1) = ((o.length + 1 : Nat) : Int) by lia, rng_nat (by lia)] at h5
  dsimp only [Option.bind_some] at h5
  have hF : ∀ c ∈ List.range (o.length + 1), compE (T2x tk) 291 ⟨(fnP 21).sc, wk (stO R (.list (toks.map itm)) (.list (o.map .int)) (.list (o.map .int)) (.d (.int o.length)) (.d (.str (SS row))) (.d (nD ((List.range o.length).map (pl o)))) (.d (.list ((toks.foldl (stepA o.length row) [0]).map fun (a : Nat) => .int (a : Int)))) it b l h m)⟩ lastX (.int (c : Nat)) =
      some (bif Glob.takes c (Glob.runsOf (toks.map (Option.map fun t => PP row (pcc t)))) then some (.int (c : Int)) else none) := by
    intro c hc
    have hc' : c ≤ o.length := by have := List.mem_range.mp hc; lia
    rw [order_5x]
    rw [cut_take]
    have e1 := htk (row.take c) (by rw [List.length_take]; have := H.len; lia)
    have e2 : (⟨((SS row).cps.toList.take c).toArray⟩ : Str') = SS (row.take c) := by simp
    rw [e2, e1]
    have e3 : (row.take c).length = c := by rw [List.length_take]; have := H.len; lia
    rw [e3]
    have e4 : Glob.takes c (((Glob.runsOf toks).map (List.map pcc)).map fun r => r.map (PP (row.take c))) = Glob.takes c (Glob.runsOf (toks.map (Option.map fun t => PP row (pcc t)))) := by
      rw [Glob.runs_map]
      rw [Glob.takes_congr (f := PP (row.take c)) (g := PP row) (fun x k hk => by
        unfold PP
        congr 1
        simp [hk])]
      congr 1
      rw [List.map_map]
      refine List.map_congr_left fun x _ => ?_
      simp [Function.comp]
    rw [e4]
    dsimp only [Option.bind_some, atr]
    cases Glob.takes c (Glob.runsOf (toks.map (Option.map fun t => PP row (pcc t)))) <;> rfl
  rw [acomp_filter (p := fun c => Glob.takes c (Glob.runsOf (toks.map (Option.map fun t => PP row (pcc t))))) (g := fun c : Nat => .int (c : Int)) (List.range (o.length + 1)) hF] at h5
  have hm := Glob.glob_main o.length (toks.map (Option.map fun t => PP row (pcc t)))
  rw [cnt_fold] at hm
  rw [← hm] at h5
  dsimp only [Option.map_some, Option.bind_some] at h5
  have hq : acmp .Eq (D.list ((toks.foldl (stepA o.length row) [0]).map fun (a : Nat) => .int (a : Int))) (D.list ((toks.foldl (stepA o.length row) [0]).map fun (a : Nat) => .int (a : Int))) = some true := eq_refl _
  rw [hq] at h5
  rw [order_body]
  exact ⟨_, (ex_next h0).trans ((ex_next h1).trans ((ex_next h2).trans ((ex_next h3').trans ((ex_next h4').trans (ex_ret h5)))))⟩
end
theorem order_run (o : List Int) (h3 : 3 ≤ o.length) (h6 : o.length ≤ 6) (toks : List Tok) (ht : toks.length ≤ 1000) :
    runF T2 noSpec 21 [.list (((Glob.runsOf toks).map (List.map pcc)).map runD), .list (toks.map itm), .list (o.map .int), .list (o.map .int)] = some (.bool true) := by
  rw [t2_x]
  refine order_run' _ o h3 h6 toks fun name hn => ?_
  refine takes_run _ name (fun e => ?_) hn fun x hx => ?_
  · exact Glob.runs_ne toks (List.map_eq_nil_iff.mp e)
  · refine x1_2 (List.mem_map.mp hx) fun y hy hr2 => ?_; subst hr2
    have := Glob.runs_len toks y hy
    rw [List.length_map]; lia
end Mine
namespace Mine
open PySem PySem.W PyProof.Rows PySem.SeqAt
noncomputable def stP (b : Str') (bar : V) : AS := ⟨[(Str.ofString "body", .d (.str b)), (Str.ofString "bar", bar)], []⟩
noncomputable abbrev sl (b : Str') (x y : Option Int) : Str' := ⟨(cut b.cps.toList x y).toArray⟩
section
variable (b : Str') (bar : V)
theorem piece_body : (fnP 15).body = [stAt (fnP 15).body 0, stAt (fnP 15).body 1, stAt (fnP 15).body 2, stAt (fnP 15).body 3, stAt (fnP 15).body 4, stAt (fnP 15).body 5] := by kernel_rfl
theorem piece_0 : aexec T0 (fnP 15).sc ow noSpec 299 (stAt (fnP 15).body 0) (stP b bar) = (trF T0 (fnP 15).sc 298 (rhsOf (stAt (fnP 15).body 0)) (stP b bar)).bind fun c => bif c then some (.ret (.tup [.tup [.bool true, .str (SS [98]), .str (SS [97])], .int 1]), stP b bar) else some (.next, stP b bar) := by kernel_rfl
theorem piece_0e : atrue T0 298 (rhsOf (stAt (fnP 15).body 0)) ⟨(fnP 15).sc, frz (stP b bar)⟩ = ((asub (.str b) (.int 0)).bind fun a => (acmp .Eq a (.str (SS [46]))).map D.bool).bind atr := by kernel_rfl
theorem piece_1 : aexec T0 (fnP 15).sc ow noSpec 298 (stAt (fnP 15).body 1) (stP b bar) = bif (sl b none (some 4) == SS [40, 63, 33, 41]) then some (.ret (.tup [.tup [.bool false, .str (SS [98]), .str (SS [97])], .int 4]), stP b bar) else some (.next, stP b bar) := by kernel_rfl
theorem piece_2 : aexec T0 (fnP 15).sc ow noSpec 297 (stAt (fnP 15).body 2) (stP b bar) = (trF T0 (fnP 15).sc 296 (rhsOf (stAt (fnP 15).body 2)) (stP b bar)).bind fun c => bif c then aexecs T0 (fnP 15).sc ow noSpec 296 (bodyOf (stAt (fnP 15).body 2)) (stP b bar) else some (.next, stP b bar) := by kernel_rfl
theorem piece_2e : atrue T0 296 (rhsOf (stAt (fnP 15).body 2)) ⟨(fnP 15).sc, frz (stP b bar)⟩ = ((asub (.str b) (.int 0)).bind fun m => (acmp .LtE (.str (SS [97])) m).bind fun c => bif c then (acmp .LtE m (.str (SS [122]))).map D.bool else some (.bool false)).bind atr := by kernel_rfl
theorem piece_2r : bodyOf (stAt (fnP 15).body 2) = [stAt (bodyOf (stAt (fnP 15).body 2)) 0] := by kernel_rfl
theorem piece_20 : aexec T0 (fnP 15).sc ow noSpec 295 (stAt (bodyOf (stAt (fnP 15).body 2)) 0) (stP b bar) = ((((((asub (.str b) (.int 0)).bind fun x => ((asub (.str b) (.int 0)).bind fun y => some [y]).map fun l => x :: l).map fun l => D.bool false :: l).bind fun l => bif decide (l.length ≤ LIM) then some (D.tup l) else none).bind fun d => some [d, .int 1]).bind fun l => bif decide (l.length ≤ LIM) then some (D.tup l) else none).map fun d => (.ret d, stP b bar) := by kernel_rfl
theorem piece_3 : aexec T0 (fnP 15).sc ow noSpec 296 (stAt (fnP 15).body 3) (stP b bar) = (evF T0 (fnP 15).sc 295 (rhsOf (stAt (fnP 15).body 3)) (stP b bar)).map fun d => (.next, stP b (.d d)) := by kernel_rfl
theorem piece_3e : aeval T0 295 (rhsOf (stAt (fnP 15).body 3)) ⟨(fnP 15).sc, frz (stP b bar)⟩ = bif (sl b (some 1) (some 2) == SS [94]) then some (.int 1) else some (.int 0) := by kernel_rfl
theorem piece_4 : aexec T0 (fnP 15).sc ow noSpec 295 (stAt (fnP 15).body 4) (stP b bar) = (trF T0 (fnP 15).sc 294 (rhsOf (stAt (fnP 15).body 4)) (stP b bar)).bind fun c => bif c then aexecs T0 (fnP 15).sc ow noSpec 294 (bodyOf (stAt (fnP 15).body 4)) (stP b bar) else some (.next, stP b bar) := by kernel_rfl
theorem piece_4e (k : Int) : atrue T0 294 (rhsOf (stAt (fnP 15).body 4)) ⟨(fnP 15).sc, frz (stP b (.d (.int k)))⟩ = (((asub (.str b) (.int 0)).bind fun a => (acmp .Eq a (.str (SS [91]))).map D.bool).bind atr).bind fun c => bif c then
    (bif (sl b (some (2 + k)) (some (3 + k)) == SS [45]) then (bif (sl b (some (4 + k)) (some (5 + k)) == SS [93]) then (((asub (.str b) (.int (1 + k))).bind fun a => (asub (.str b) (.int (3 + k))).bind fun c => (acmp .LtE a c).map D.bool).bind atr).bind fun c => bif c then some true else some false else some false) else some false) else some false := by kernel_rfl
theorem piece_4r : bodyOf (stAt (fnP 15).body 4) = [stAt (bodyOf (stAt (fnP 15).body 4)) 0] := by kernel_rfl
theorem piece_40 (k : Int) : aexec T0 (fnP 15).sc ow noSpec 293 (stAt (bodyOf (stAt (fnP 15).body 4)) 0) (stP b (.d (.int k))) = ((((((asub (.str b) (.int (1 + k))).bind fun x => ((asub (.str b) (.int (3 + k))).bind fun y => some [y]).map fun l => x :: l).map fun l => D.bool (k == 1) :: l).bind fun l => bif decide (l.length ≤ LIM) then some (D.tup l) else none).bind fun d => some [d, .int (5 + k)]).bind fun l => bif decide (l.length ≤ LIM) then some (D.tup l) else none).map fun d => (.ret d, stP b (.d (.int k))) := by kernel_rfl
end
end Mine
namespace Mine
open PySem PySem.W PyProof.Rows PySem.SeqAt
noncomputable def part1 : Tk → List Nat
  | .q => [46]
  | .lt l => [97 + l]
  | .br n l h => bif decide (h < l) then (bif n then [46] else [40, 63, 33, 41]) else 91 :: ((bif n then [94] else []) ++ [97 + l, 45, 97 + h, 93])
noncomputable def Small : Tk → Prop
  | .q => True
  | .lt l => l < 6
  | .br n l h => l < 6 ∧ h < 6
theorem ss_beq (a b : List Nat) : ((SS a) == (SS b)) = (a == b) := by
  rw [str_beq']
theorem cut_nat {α : Type} (l : List α) (i j : Nat) : cut l (some (i : Int)) (some (j : Int)) = (l.drop i).take (j - i) := by
  delta cut clipL clipH
  simp only [clipN_nat]
  by_cases h : i ≤ l.length
  · rw [Nat.min_eq_left h]
    by_cases h2 : j ≤ l.length
    · rw [Nat.min_eq_left h2]
    · rw [Nat.min_eq_right (by lia), List.take_of_length_le (by simp), List.take_of_length_le (by simp; lia)]
  · rw [Nat.min_eq_right (show l.length ≤ i by lia), List.drop_of_length_le (show l.length ≤ i by lia), List.drop_of_length_le (Nat.le_refl _)]
    simp
theorem sl_nat (l : List Nat) (i j : Nat) : sl (SS l) (some (i : Int)) (some (j : Int)) = SS ((l.drop i).take (j - i)) := by
  show (⟨(cut l.toArray.toList _ _).toArray⟩ : Str') = _
  rw [cut_nat]
theorem sl_take (l : List Nat) (j : Nat) : sl (SS l) none (some (j : Int)) = SS (l.take j) := by
  show (⟨(cut l.toArray.toList _ _).toArray⟩ : Str') = _
  rw [cut_take]
theorem eq_ss (a b : List Nat) : acmp .Eq (.str (SS a)) (.str (SS b)) = some (a == b) := by
  show some (SS a == SS b) = _
  rw [ss_beq]
theorem sub_hd (c : Nat) (r : List Nat) : asub (.str (SS (c :: r))) (.int 0) = some (.str (SS [c])) := asub_str (i := 0) rfl
theorem beq1 (a b : Nat) : (([a] : List Nat) == [b]) = (a == b) := by
  show (a == b && true) = _
  rw [Bool.and_true]
section
variable {c : Nat} {r : List Nat}
theorem pc_0 (h : c ≠ 46) (bar : V) : aexec T0 (fnP 15).sc ow noSpec 299 (stAt (fnP 15).body 0) (stP (SS (c :: r)) bar) = some (.next, stP (SS (c :: r)) bar) := by
  have e := piece_0e (SS (c :: r)) bar
  rw [sub_hd] at e
  simp only [Option.bind_some] at e
  rw [eq_ss, beq1, beq_eq_false_iff_ne.mpr h] at e
  rw [piece_0, trF_strong (e.trans rfl)]
  rfl
theorem pc_0y (bar : V) : aexec T0 (fnP 15).sc ow noSpec 299 (stAt (fnP 15).body 0) (stP (SS (46 :: r)) bar) = some (.ret (.tup [pcD (true, 98, 97), .int 1]), stP (SS (46 :: r)) bar) := by
  have e := piece_0e (SS (46 :: r)) bar
  rw [sub_hd] at e
  simp only [Option.bind_some] at e
  rw [eq_ss, beq1, beq_self_eq_true] at e
  rw [piece_0, trF_strong (e.trans rfl)]
  rfl
theorem pc_1 (h : c ≠ 40) (bar : V) : aexec T0 (fnP 15).sc ow noSpec 298 (stAt (fnP 15).body 1) (stP (SS (c :: r)) bar) = some (.next, stP (SS (c :: r)) bar) := by
  rw [piece_1, show (4 : Int) = ((4 : Nat) : Int) from rfl, sl_take, ss_beq]
  have : ((c :: r).take 4 == [40, 63, 33, 41]) = false := by
    rw [beq_eq_false_iff_ne]
    intro e
    rw [List.take_succ_cons] at e
    injection e with e1 _
    exact h e1
  rw [this]; rfl
theorem pc_2 (h : c < 97) (bar : V) : aexec T0 (fnP 15).sc ow noSpec 297 (stAt (fnP 15).body 2) (stP (SS (c :: r)) bar) = some (.next, stP (SS (c :: r)) bar) := by
  have e := piece_2e (SS (c :: r)) bar
  rw [sub_hd] at e
  simp only [Option.bind_some, le_str] at e
  rw [decide_eq_false (by lia)] at e
  rw [piece_2, trF_strong (e.trans rfl)]
  rfl
end
theorem pc_2y (l : Nat) (r : List Nat) (hl : l < 26) (bar : V) : aexec T0 (fnP 15).sc ow noSpec 297 (stAt (fnP 15).body 2) (stP (SS ((97 + l) :: r)) bar) = some (.ret (.tup [pcD (false, 97 + l, 97 + l), .int 1]), stP (SS ((97 + l) :: r)) bar) := by
  generalize hc : 97 + l = c
  have h1 : 97 ≤ c := by lia
  have h2 : c ≤ 122 := by lia
  have e := piece_2e (SS (c :: r)) bar
  rw [sub_hd] at e
  simp only [Option.bind_some, le_str] at e
  rw [decide_eq_true h1, decide_eq_true h2] at e
  have e2 := piece_20 (SS (c :: r)) bar
  rw [sub_hd] at e2
  have e3 := e2.trans (show _ = some (Fl.ret (.tup [pcD (false, c, c), .int 1]), stP (SS (c :: r)) bar) from rfl)
  rw [piece_2, trF_strong (e.trans rfl), piece_2r]
  simp only [Option.bind_some, cond_true]
  rw [ex_ret e3]
theorem pc_3 (k : Nat) (c d : Nat) (r : List Nat) (bar : V) (hk : k = bif d == 94 then 1 else 0) : aexec T0 (fnP 15).sc ow noSpec 296 (stAt (fnP 15).body 3) (stP (SS (c :: d :: r)) bar) = some (.next, stP (SS (c :: d :: r)) (.d (.int k))) := by
  have e := piece_3e (SS (c :: d :: r)) bar
  have h1 : sl (SS (c :: d :: r)) (some 1) (some 2) = SS [d] := sl_nat (c :: d :: r) 1 2
  rw [h1, ss_beq, beq1] at e
  subst hk
  cases hd : (d == 94) with
  | true =>
    rw [hd] at e
    rw [piece_3, evF_strong (e.trans (show _ = some (D.int 1) from rfl))]
    rfl
  | false =>
    rw [hd] at e
    rw [piece_3, evF_strong (e.trans (show _ = some (D.int 0) from rfl))]
    rfl
theorem pc_4 (k : Nat) (body : List Nat) (a b : Nat) (h0 : body[0]? = some 91) (h2 : (body.drop (2 + k)).take 1 = [45]) (h4 : (body.drop (4 + k)).take 1 = [93]) (h1 : body[1 + k]? = some a) (h3 : body[3 + k]? = some b) (hab : a ≤ b) :
    aexec T0 (fnP 15).sc ow noSpec 295 (stAt (fnP 15).body 4) (stP (SS body) (.d (.int k))) = some (.ret (.tup [pcD ((k : Int) == 1, a, b), .int (5 + k : Nat)]), stP (SS body) (.d (.int k))) := by
  have e := piece_4e (SS body) k
  have s0 : asub (.str (SS body)) (.int 0) = some (.str (SS [91])) := asub_str (i := 0) h0
  have s1 : asub (.str (SS body)) (.int (1 + (k : Int))) = some (.str (SS [a])) := by
    rw [show (1 + (k : Int)) = ((1 + k : Nat) : Int) by lia]; exact asub_str h1
  have s3 : asub (.str (SS body)) (.int (3 + (k : Int))) = some (.str (SS [b])) := by
    rw [show (3 + (k : Int)) = ((3 + k : Nat) : Int) by lia]; exact asub_str h3
  have l2 : sl (SS body) (some (2 + (k : Int))) (some (3 + (k : Int))) = SS [45] := by
    rw [show (2 + (k : Int)) = ((2 + k : Nat) : Int) by lia, show (3 + (k : Int)) = ((3 + k : Nat) : Int) by lia, sl_nat, show 3 + k - (2 + k) = 1 by lia, h2]
  have l4 : sl (SS body) (some (4 + (k : Int))) (some (5 + (k : Int))) = SS [93] := by
    rw [show (4 + (k : Int)) = ((4 + k : Nat) : Int) by lia, show (5 + (k : Int)) = ((5 + k : Nat) : Int) by lia, sl_nat, show 5 + k - (4 + k) = 1 by lia, h4]
  rw [s0, s1, s3, l2, l4] at e
  simp only [Option.bind_some, le_str] at e
  rw [eq_ss, decide_eq_true hab] at e
  have r := piece_40 (SS body) k
  rw [s1, s3] at r
  have r2 := r.trans (show _ = some (Fl.ret (.tup [pcD ((k : Int) == 1, a, b), .int (5 + (k : Int))]), stP (SS body) (.d (.int k))) from rfl)
  rw [piece_4, trF_strong (e.trans (show _ = some true from rfl)), piece_4r]
  simp only [Option.bind_some, cond_true]
  rw [ex_ret r2]
  rw [show (5 + (k : Int)) = ((5 + k : Nat) : Int) by lia]
theorem part1_lt (n : Bool) {l h : Nat} (hlt : h < l) : part1 (.br n l h) = (bif n then [46] else [40, 63, 33, 41]) := by
  show (bif decide (h < l) then (bif n then [46] else [40, 63, 33, 41]) else 91 :: ((bif n then [94] else []) ++ [97 + l, 45, 97 + h, 93])) = _
  rw [decide_eq_true hlt]; rfl
theorem part1_ge (n : Bool) {l h : Nat} (hlt : ¬ h < l) : part1 (.br n l h) = 91 :: ((bif n then [94] else []) ++ [97 + l, 45, 97 + h, 93]) := by
  show (bif decide (h < l) then (bif n then [46] else [40, 63, 33, 41]) else 91 :: ((bif n then [94] else []) ++ [97 + l, 45, 97 + h, 93])) = _
  rw [decide_eq_false hlt]; rfl
theorem pcc_lt (n : Bool) {l h : Nat} (hlt : h < l) : pcc (.br n l h) = (n, 98, 97) := by
  show (bif decide (h < l) then (n, 98, 97) else (n, 97 + l, 97 + h)) = _
  rw [decide_eq_true hlt]; rfl
theorem pcc_ge (n : Bool) {l h : Nat} (hlt : ¬ h < l) : pcc (.br n l h) = (n, 97 + l, 97 + h) := by
  show (bif decide (h < l) then (n, 98, 97) else (n, 97 + l, 97 + h)) = _
  rw [decide_eq_false hlt]; rfl
theorem piece_run (t : Tk) (ht : Small t) (rest : List Nat) : runF T0 noSpec 15 [.str (SS (part1 t ++ rest))] = some (.tup [pcD (pcc t), .int ((part1 t).length : Nat)]) := by
  have hg : ∀ b, giveArgs (fnP 15).ps [.str b] ⟨startVars (fnP 15).sc, []⟩ = some (stP b .un) := by intro b; kernel_rfl
  refine run_of' (hg _) ?_
  rw [piece_body]
  cases t with
  | q => exact ⟨_, ex_ret (pc_0y (r := rest) .un)⟩
  | lt l =>
    have hl : l < 6 := ht
    exact ⟨_, (ex_next (pc_0 (c := 97 + l) (r := rest) (by lia) .un)).trans ((ex_next (pc_1 (c := 97 + l) (r := rest) (by lia) .un)).trans (ex_ret (pc_2y l rest (by lia) .un)))⟩
  | br n l h =>
    obtain ⟨hl, hh⟩ := ht
    by_cases hlt : h < l
    · rw [part1_lt n hlt, pcc_lt n hlt]
      cases n with
      | true => exact ⟨_, ex_ret (pc_0y (r := rest) .un)⟩
      | false =>
        refine ⟨stP (SS (40 :: 63 :: 33 :: 41 :: rest)) .un, (ex_next (pc_0 (c := 40) (r := 63 :: 33 :: 41 :: rest) (by lia) .un)).trans (ex_ret ((piece_1 _ _).trans ?_))⟩
        rw [show (4 : Int) = ((4 : Nat) : Int) from rfl, sl_take, ss_beq]
        rfl
    · rw [part1_ge n hlt, pcc_ge n hlt]
      cases n with
      | true =>
        exact ⟨_, (ex_next (pc_0 (c := 91) (r := 94 :: (97 + l) :: 45 :: (97 + h) :: 93 :: rest) (by lia) .un)).trans ((ex_next (pc_1 (c := 91) (by lia) .un)).trans ((ex_next (pc_2 (c := 91) (by lia) .un)).trans ((ex_next (pc_3 1 91 94 _ .un rfl)).trans
          (ex_ret (pc_4 1 (91 :: 94 :: (97 + l) :: 45 :: (97 + h) :: 93 :: rest) (97 + l) (97 + h) rfl rfl rfl rfl rfl (by lia))))))⟩
      | false =>
        have hk : (0 : Nat) = bif (97 + l) == 94 then 1 else 0 := by
          rw [show ((97 + l) == 94) = false from beq_eq_false_iff_ne.mpr (by lia)]; rfl
        exact ⟨_, (ex_next (pc_0 (c := 91) (r := (97 + l) :: 45 :: (97 + h) :: 93 :: rest) (by lia) .un)).trans ((ex_next (pc_1 (c := 91) (by lia) .un)).trans ((ex_next (pc_2 (c := 91) (by lia) .un)).trans ((ex_next (pc_3 0 91 (97 + l) _ .un hk)).trans
          (ex_ret (pc_4 0 (91 :: (97 + l) :: 45 :: (97 + h) :: 93 :: rest) (97 + l) (97 + h) rfl rfl rfl rfl rfl (by lia))))))⟩
end Mine
namespace Mine
open PySem PySem.W PyProof.Rows PySem.SeqAt
noncomputable def sFront : Str' := Str.ofString "front"
noncomputable def sBetween : Str' := Str.ofString "between"
noncomputable def sGroup : Str' := Str.ofString "group"
noncomputable def sLast : Str' := Str.ofString "last"
noncomputable def stQ (text : Str') (body : Str') (runs : V) (state piece size : V) (hp : List (List V)) : AS :=
  ⟨[(Str.ofString "text", .d (.str text)), (Str.ofString "body", .d (.str body)), (Str.ofString "runs", runs), (Str.ofString "state", state), (Str.ofString "piece", piece), (Str.ofString "size", size)], hp⟩
noncomputable def rdW : Stmt := stAt (bodyOf (stAt (fnP 16).body 4)) 0
noncomputable def rdW1 : Stmt := stAt (elseOf rdW) 0
noncomputable def rdW2 : Stmt := stAt (elseOf rdW1) 0
section
variable (e p f r : List D → Option D) (t b st : Str') (pc sz : V) (hp : List (List V))
theorem read_body : (fnP 16).body = [stAt (fnP 16).body 0, stAt (fnP 16).body 1, stAt (fnP 16).body 2, stAt (fnP 16).body 3, stAt (fnP 16).body 4, stAt (fnP 16).body 5] := by kernel_rfl
theorem read_0 : aexec (T1x e p f r) (fnP 16).sc ow noSpec 299 (stAt (fnP 16).body 0) ⟨[(Str.ofString "text", .d (.str t)), (Str.ofString "body", .un), (Str.ofString "runs", .un), (Str.ofString "state", .un), (Str.ofString "piece", .un), (Str.ofString "size", .un)], []⟩ = some (.next, stQ t (sl t (some 4) (some (-3))) .un .un .un .un []) := by kernel_rfl
theorem read_1 : aexec (T1x e p f r) (fnP 16).sc ow noSpec 298 (stAt (fnP 16).body 1) (stQ t b .un .un .un .un []) = (trF (T1x e p f r) (fnP 16).sc 297 (rhsOf (stAt (fnP 16).body 1)) (stQ t b .un .un .un .un [])).bind fun c => bif c then some (.ret .non, stQ t b .un .un .un .un []) else some (.next, stQ t b .un .un .un .un []) := by kernel_rfl
theorem read_1e : atrue (T1x e p f r) 297 (rhsOf (stAt (fnP 16).body 1)) ⟨(fnP 16).sc, frz (stQ t b .un .un .un .un [])⟩ = (((abin .Add (.str (SS [40, 63, 115, 58])) (.str b)).bind fun a => abin .Add a (.str (SS [41, 92, 90]))).bind fun a => (acmp .NotEq (.str t) a).map D.bool).bind atr := by kernel_rfl
theorem read_23 (x y : Stmt) : aexecs (T1x e p f r) (fnP 16).sc ow noSpec 298 [stAt (fnP 16).body 2, stAt (fnP 16).body 3, x, y] (stQ t b .un .un .un .un []) = aexecs (T1x e p f r) (fnP 16).sc ow noSpec 296 [x, y] (stQ t b (.p 1) (.d (.str sFront)) .un .un [[], [.p 0]]) := by kernel_rfl
theorem read_4 : aexec (T1x e p f r) (fnP 16).sc ow noSpec 295 (stAt (fnP 16).body 4) (stQ t b (.p 1) (.d (.str st)) pc sz hp) = awhile (trF (T1x e p f r) (fnP 16).sc 294 (rhsOf (stAt (fnP 16).body 4))) (aexecs (T1x e p f r) (fnP 16).sc ow noSpec 294 [rdW]) 294 (stQ t b (.p 1) (.d (.str st)) pc sz hp) := by kernel_rfl
theorem read_4e : trF (T1x e p f r) (fnP 16).sc 294 (rhsOf (stAt (fnP 16).body 4)) (stQ t b (.p 1) (.d (.str st)) pc sz hp) = some (!(b == SS [])) := by kernel_rfl
theorem read_5 : aexec (T1x e p f r) (fnP 16).sc ow noSpec 294 (stAt (fnP 16).body 5) (stQ t b (.p 1) (.d (.str st)) pc sz hp) = (aeval (T1x e p f r) 293 (rhsOf (stAt (fnP 16).body 5)) ⟨(fnP 16).sc, wk (stQ t b (.p 1) (.d (.str st)) pc sz hp)⟩).map fun d => (.ret d, stQ t b (.p 1) (.d (.str st)) pc sz hp) := by kernel_rfl
theorem read_5f (x y z : D) (q : Vars) : aeval (T1x e p f r) 293 (rhsOf (stAt (fnP 16).body 5)) ⟨(fnP 16).sc, (Str.ofString "text", x) :: (Str.ofString "body", y) :: (Str.ofString "runs", z) :: (Str.ofString "state", .str sFront) :: q⟩ = some z := by kernel_rfl
theorem read_5l (x y z : D) (q : Vars) : aeval (T1x e p f r) 293 (rhsOf (stAt (fnP 16).body 5)) ⟨(fnP 16).sc, (Str.ofString "text", x) :: (Str.ofString "body", y) :: (Str.ofString "runs", z) :: (Str.ofString "state", .str sLast) :: q⟩ = some z := by kernel_rfl
theorem read_w : aexec (T1x e p f r) (fnP 16).sc ow noSpec 293 rdW (stQ t b (.p 1) (.d (.str st)) pc sz hp) = (trF (T1x e p f r) (fnP 16).sc 292 (rhsOf rdW) (stQ t b (.p 1) (.d (.str st)) pc sz hp)).bind fun c => bif c then aexecs (T1x e p f r) (fnP 16).sc ow noSpec 292 (bodyOf rdW) (stQ t b (.p 1) (.d (.str st)) pc sz hp) else aexecs (T1x e p f r) (fnP 16).sc ow noSpec 292 [rdW1] (stQ t b (.p 1) (.d (.str st)) pc sz hp) := by kernel_rfl
theorem read_we : atrue (T1x e p f r) 292 (rhsOf rdW) ⟨(fnP 16).sc, frz (stQ t b (.p 1) (.d (.str st)) pc sz hp)⟩ = bif (sl b none (some 6) == SS [40, 63, 62, 46, 42, 63]) then (bif (sFront == st || (sBetween == st || false)) then some true else some false) else some false := by kernel_rfl
theorem read_wb : bodyOf rdW = [stAt (bodyOf rdW) 0, stAt (bodyOf rdW) 1, stAt (bodyOf rdW) 2] := by kernel_rfl
theorem read_wb0 : aexec (T1x e p f r) (fnP 16).sc ow noSpec 291 (stAt (bodyOf rdW) 0) (stQ t b (.p 1) (.d (.str st)) pc sz hp) = (appendTo (stQ t b (.p 1) (.d (.str st)) pc sz (hp ++ [[]])) 1 (.p hp.length)).map fun s => (.next, s) := by kernel_rfl
theorem read_wb1 : aexec (T1x e p f r) (fnP 16).sc ow noSpec 290 (stAt (bodyOf rdW) 1) (stQ t b (.p 1) (.d (.str st)) pc sz hp) = some (.next, stQ t b (.p 1) (.d (.str sGroup)) pc sz hp) := by kernel_rfl
theorem read_wb2 : aexec (T1x e p f r) (fnP 16).sc ow noSpec 289 (stAt (bodyOf rdW) 2) (stQ t b (.p 1) (.d (.str st)) pc sz hp) = some (.next, stQ t (sl b (some 6) none) (.p 1) (.d (.str st)) pc sz hp) := by kernel_rfl
theorem read_w1 : aexec (T1x e p f r) (fnP 16).sc ow noSpec 291 rdW1 (stQ t b (.p 1) (.d (.str st)) pc sz hp) = (trF (T1x e p f r) (fnP 16).sc 290 (rhsOf rdW1) (stQ t b (.p 1) (.d (.str st)) pc sz hp)).bind fun c => bif c then aexecs (T1x e p f r) (fnP 16).sc ow noSpec 290 (bodyOf rdW1) (stQ t b (.p 1) (.d (.str st)) pc sz hp) else aexecs (T1x e p f r) (fnP 16).sc ow noSpec 290 [rdW2] (stQ t b (.p 1) (.d (.str st)) pc sz hp) := by kernel_rfl
theorem read_w1e : atrue (T1x e p f r) 290 (rhsOf rdW1) ⟨(fnP 16).sc, frz (stQ t b (.p 1) (.d (.str st)) pc sz hp)⟩ = bif (sl b none (some 2) == SS [46, 42]) then (bif (sFront == st || (sBetween == st || false)) then some true else some false) else some false := by kernel_rfl
theorem read_w1b : bodyOf rdW1 = [stAt (bodyOf rdW1) 0, stAt (bodyOf rdW1) 1, stAt (bodyOf rdW1) 2] := by kernel_rfl
theorem read_w1b0 : aexec (T1x e p f r) (fnP 16).sc ow noSpec 289 (stAt (bodyOf rdW1) 0) (stQ t b (.p 1) (.d (.str st)) pc sz hp) = (appendTo (stQ t b (.p 1) (.d (.str st)) pc sz (hp ++ [[]])) 1 (.p hp.length)).map fun s => (.next, s) := by kernel_rfl
theorem read_w1b1 : aexec (T1x e p f r) (fnP 16).sc ow noSpec 288 (stAt (bodyOf rdW1) 1) (stQ t b (.p 1) (.d (.str st)) pc sz hp) = some (.next, stQ t b (.p 1) (.d (.str sLast)) pc sz hp) := by kernel_rfl
theorem read_w1b2 : aexec (T1x e p f r) (fnP 16).sc ow noSpec 287 (stAt (bodyOf rdW1) 2) (stQ t b (.p 1) (.d (.str st)) pc sz hp) = some (.next, stQ t (sl b (some 2) none) (.p 1) (.d (.str st)) pc sz hp) := by kernel_rfl
theorem read_w2 : aexec (T1x e p f r) (fnP 16).sc ow noSpec 289 rdW2 (stQ t b (.p 1) (.d (.str st)) pc sz hp) = (trF (T1x e p f r) (fnP 16).sc 288 (rhsOf rdW2) (stQ t b (.p 1) (.d (.str st)) pc sz hp)).bind fun c => bif c then aexecs (T1x e p f r) (fnP 16).sc ow noSpec 288 (bodyOf rdW2) (stQ t b (.p 1) (.d (.str st)) pc sz hp) else aexecs (T1x e p f r) (fnP 16).sc ow noSpec 288 (elseOf rdW2) (stQ t b (.p 1) (.d (.str st)) pc sz hp) := by kernel_rfl
theorem read_w2e0 : atrue (T1x e p f r) 288 (rhsOf rdW2) ⟨(fnP 16).sc, frz (stQ t b (.p 1) (.d (.str st)) .un .un hp)⟩ = (((asub (.str b) (.int 0)).bind fun a => (acmp .Eq a (.str (SS [41]))).map D.bool).bind atr).bind fun c => bif c then (bif (st == sGroup) then none else some false) else some false := by kernel_rfl
theorem read_w2e1 (x y : D) : atrue (T1x e p f r) 288 (rhsOf rdW2) ⟨(fnP 16).sc, frz (stQ t b (.p 1) (.d (.str st)) (.d x) (.d y) hp)⟩ = (((asub (.str b) (.int 0)).bind fun a => (acmp .Eq a (.str (SS [41]))).map D.bool).bind atr).bind fun c => bif c then (bif (st == sGroup) then none else some false) else some false := by kernel_rfl
theorem read_w2k (x : D) (rl : List D) (q : Vars) : atrue (T1x e p f r) 288 (rhsOf rdW2) ⟨(fnP 16).sc, (Str.ofString "text", x) :: (Str.ofString "body", .str b) :: (Str.ofString "runs", .list rl) :: (Str.ofString "state", .str st) :: q⟩ =
    (((asub (.str b) (.int 0)).bind fun a => (acmp .Eq a (.str (SS [41]))).map D.bool).bind atr).bind fun c => bif c then (bif (st == sGroup) then (((asub (.list rl) (.int (-1))).bind fun a => (acmp .NotEq a (.list [])).map D.bool).bind atr).bind fun c => bif c then some true else some false else some false) else some false := by kernel_rfl
theorem read_w2b : bodyOf rdW2 = [stAt (bodyOf rdW2) 0, stAt (bodyOf rdW2) 1] := by kernel_rfl
theorem read_w2b0 : aexec (T1x e p f r) (fnP 16).sc ow noSpec 287 (stAt (bodyOf rdW2) 0) (stQ t b (.p 1) (.d (.str st)) pc sz hp) = some (.next, stQ t b (.p 1) (.d (.str sBetween)) pc sz hp) := by kernel_rfl
theorem read_w2b1 : aexec (T1x e p f r) (fnP 16).sc ow noSpec 286 (stAt (bodyOf rdW2) 1) (stQ t b (.p 1) (.d (.str st)) pc sz hp) = some (.next, stQ t (sl b (some 1) none) (.p 1) (.d (.str st)) pc sz hp) := by kernel_rfl
theorem read_w2x : elseOf rdW2 = [stAt (elseOf rdW2) 0, stAt (elseOf rdW2) 1, stAt (elseOf rdW2) 2, stAt (elseOf rdW2) 3] := by kernel_rfl
theorem read_x0 : aexec (T1x e p f r) (fnP 16).sc ow noSpec 287 (stAt (elseOf rdW2) 0) (stQ t b (.p 1) (.d (.str st)) pc sz hp) = (evF (T1x e p f r) (fnP 16).sc 286 (rhsOf (stAt (elseOf rdW2) 0)) (stQ t b (.p 1) (.d (.str st)) pc sz hp)).bind fun d => (unpack [.Name (Str.ofString "piece") ⟨0, 0, 0, 0⟩, .Name (Str.ofString "size") ⟨0, 0, 0, 0⟩] d).bind fun bs => bif allStored (fnP 16).sc bs then some (.next, (stQ t b (.p 1) (.d (.str st)) pc sz hp).setMany bs) else none := by kernel_rfl
theorem read_x0e : aeval (T1x e p f r) 286 (rhsOf (stAt (elseOf rdW2) 0)) ⟨(fnP 16).sc, frz (stQ t b (.p 1) (.d (.str st)) pc sz hp)⟩ = p [.str b] := by kernel_rfl
theorem read_x0s (x y : D) : (unpack [.Name (Str.ofString "piece") ⟨0, 0, 0, 0⟩, .Name (Str.ofString "size") ⟨0, 0, 0, 0⟩] (.tup [x, y])).bind (fun bs => bif allStored (fnP 16).sc bs then some (Fl.next, (stQ t b (.p 1) (.d (.str st)) pc sz hp).setMany bs) else none) = some (.next, stQ t b (.p 1) (.d (.str st)) (.d x) (.d y) hp) := by kernel_rfl
theorem read_x1 (x : D) (k : Int) : aexec (T1x e p f r) (fnP 16).sc ow noSpec 286 (stAt (elseOf rdW2) 1) (stQ t b (.p 1) (.d (.str st)) (.d x) (.d (.int k)) hp) = (trF (T1x e p f r) (fnP 16).sc 285 (rhsOf (stAt (elseOf rdW2) 1)) (stQ t b (.p 1) (.d (.str st)) (.d x) (.d (.int k)) hp)).bind fun c => bif c then some (.ret .non, stQ t b (.p 1) (.d (.str st)) (.d x) (.d (.int k)) hp) else some (.next, stQ t b (.p 1) (.d (.str st)) (.d x) (.d (.int k)) hp) := by kernel_rfl
theorem read_x1e (x : D) (k : Int) : atrue (T1x e p f r) 285 (rhsOf (stAt (elseOf rdW2) 1)) ⟨(fnP 16).sc, frz (stQ t b (.p 1) (.d (.str st)) (.d x) (.d (.int k)) hp)⟩ = bif (k == 0) then some true else (bif (st == sBetween) then some true else some false) := by kernel_rfl
theorem read_x2 (x y : D) : aexec (T1x e p f r) (fnP 16).sc ow noSpec 285 (stAt (elseOf rdW2) 2) (stQ t b (.p 1) (.d (.str st)) (.d x) (.d y) hp) = (hp[1]?).bind fun (l : List V) => (idx (-1) l.length).bind fun q => (pGet (l[q]?)).bind fun r0 => (appendTo (stQ t b (.p 1) (.d (.str st)) (.d x) (.d y) hp) r0 (.d x)).map fun s' => (Fl.next, s') := by kernel_rfl
theorem read_x3 (x : D) (k : Int) : aexec (T1x e p f r) (fnP 16).sc ow noSpec 284 (stAt (elseOf rdW2) 3) (stQ t b (.p 1) (.d (.str st)) (.d x) (.d (.int k)) hp) = some (.next, stQ t (sl b (some k) none) (.p 1) (.d (.str st)) (.d x) (.d (.int k)) hp) := by kernel_rfl
end
end Mine
namespace Mine
open PySem PySem.W PyProof.Rows PySem.SeqAt
theorem aw_step {T : AS → Option Bool} {S : AS → Option (Fl × AS)} {m : Nat} {s s' : AS} (hT : T s = some true) (hS : S s = some (.next, s')) : awhile T S (m + 1) s = awhile T S m s' := by
  dsimp only [awhile]; rw [hT]; dsimp only [Option.bind_some, cond_true]; rw [hS]; rfl
theorem aw_stop {T : AS → Option Bool} {S : AS → Option (Fl × AS)} {m : Nat} {s : AS} (hT : T s = some false) : awhile T S (m + 1) s = some (.next, s) := by
  dsimp only [awhile]; rw [hT]; rfl
theorem cut_drop {α : Type} (l : List α) (k : Nat) : cut l (some (k : Int)) none = l.drop k := by
  delta cut clipL clipH
  simp only [clipN_nat]
  by_cases h : k ≤ l.length
  · rw [Nat.min_eq_left h, List.take_of_length_le (by simp)]
  · rw [Nat.min_eq_right (show l.length ≤ k by lia), List.drop_of_length_le (show l.length ≤ k by lia), List.drop_of_length_le (Nat.le_refl _)]; simp
theorem sl_drop (l : List Nat) (k : Nat) : sl (SS l) (some (k : Int)) none = SS (l.drop k) := by
  show (⟨(cut l.toArray.toList _ _).toArray⟩ : Str') = _
  rw [cut_drop]
theorem trF_weak {Φ : Fns} {sc : Scope} {n : Nat} {e : Expr} {s : AS} {b : Bool} (h0 : atrue Φ n e ⟨sc, frz s⟩ = none) (h : atrue Φ n e ⟨sc, wk s⟩ = some b) : trF Φ sc n e s = some b := by
  delta trF; rw [h0]; exact h
noncomputable abbrev pv : Pcc → V := fun p => .d (pcD p)
noncomputable def idxs (m : Nat) : List V := .p 0 :: (List.range m).map fun i => .p (i + 2)
noncomputable def hpR : List (List Pcc) → List (List V)
  | [] => []
  | r0 :: rs => r0.map pv :: idxs rs.length :: rs.map (List.map pv)
theorem idxs_succ (m : Nat) : idxs m ++ [.p (m + 2)] = idxs (m + 1) := by
  delta idxs; rw [List.range_succ]; simp
theorem hpR_new (r0 : List Pcc) (rs : List (List Pcc)) {vars : List (Str' × V)} (hl : rs.length ≤ 900) : appendTo ⟨vars, hpR (r0 :: rs) ++ [[]]⟩ 1 (.p (hpR (r0 :: rs)).length) = some ⟨vars, hpR (r0 :: (rs ++ [[]]))⟩ := by
  have h1 : (hpR (r0 :: rs) ++ [[]])[1]? = some (idxs rs.length) := rfl
  rw [append_to h1 (lim1000 (by delta idxs; simp; lia))]
  have h2 : (hpR (r0 :: rs)).length = rs.length + 2 := by simp [hpR]
  rw [h2, idxs_succ]
  simp [hpR]
theorem hpR_last (ss : List (List Pcc)) (s : List Pcc) : ∃ k, (hpR (ss ++ [s]))[1]? = some (idxs ss.length) ∧ idx (-1) (idxs ss.length).length = some ss.length ∧ (idxs ss.length)[ss.length]? = some (.p k) ∧ (hpR (ss ++ [s]))[k]? = some (s.map pv) ∧
    ∀ x, (hpR (ss ++ [s])).set k (s.map pv ++ [pv x]) = hpR (ss ++ [s ++ [x]]) := by
  have hi : idx (-1) (idxs ss.length).length = some ss.length := by
    rw [idx_neg1 (by simp [idxs])]; simp [idxs]
  cases ss with
  | nil => exact ⟨0, rfl, hi, rfl, rfl, fun x => by simp [hpR]⟩
  | cons r0 rs =>
    refine ⟨rs.length + 2, ?_, hi, ?_, ?_, fun x => ?_⟩
    · simp [hpR]
    · simp [idxs]
    · simp [hpR]
    · simp [hpR]
theorem hpR_thaw (r0 : List Pcc) (rs : List (List Pcc)) (hl : rs.length ≤ 900) (hs : ∀ x ∈ r0 :: rs, x.length ≤ 900) : thaw (hpR (r0 :: rs)) 3 (.p 1) = some (.list ((r0 :: rs).map runD)) := by
  have h1 : (hpR (r0 :: rs))[1]? = some (idxs rs.length) := rfl
  have e3 : thaw (hpR (r0 :: rs)) 3 (.p 1) = ((hpR (r0 :: rs))[1]?).bind fun l => bif decide (l.length ≤ LIM) then (thawL (thaw (hpR (r0 :: rs)) 2) l).map .list else none := rfl
  rw [e3, h1]
  have hlen : (idxs rs.length).length = rs.length + 1 := by simp [idxs]
  dsimp only [Option.bind_some]
  rw [hlen, decide_eq_true (lim1000' (by lia))]
  have one : ∀ k (r : List Pcc), r.length ≤ 900 → (hpR (r0 :: rs))[k]? = some (r.map pv) → thaw (hpR (r0 :: rs)) 2 (.p k) = some (runD r) := by
    intro k r hr hk
    have e2 : thaw (hpR (r0 :: rs)) 2 (.p k) = ((hpR (r0 :: rs))[k]?).bind fun l => bif decide (l.length ≤ LIM) then (thawL (thaw (hpR (r0 :: rs)) 1) l).map .list else none := rfl
    rw [e2, hk]
    simp only [Option.bind_some, List.length_map]
    rw [decide_eq_true (lim1000' (by lia))]
    have : r.map pv = (r.map pcD).map V.d := by rw [List.map_map]; rfl
    rw [this, thawL_d (fun d => rfl)]
    rfl
  have all : ∀ (ks : List V) (xs : List (List Pcc)), ks.length = xs.length → (∀ (i : Nat) (k : V), ks[i]? = some k → ∃ (n : Nat) (r : List Pcc), k = V.p n ∧ xs[i]? = some r ∧ r.length ≤ 900 ∧ (hpR (r0 :: rs))[n]? = some (r.map pv)) → thawL (thaw (hpR (r0 :: rs)) 2) ks = some (xs.map runD) := by
    intro ks
    induction ks with
    | nil => intro xs h _; cases xs with
      | nil => rfl
      | cons x xs => simp at h
    | cons k ks ih =>
      intro xs h hk
      cases xs with
      | nil => simp at h
      | cons x xs =>
        refine x2_4 (hk 0 k rfl) fun n r hr2 h2 h3 h4 => ?_; subst hr2
        have : x = r := by simpa using h2
        subst this
        simp only [thawL, one n x h3 h4, Option.bind_some]
        rw [ih xs (by simpa using h) fun i k hik => by
          refine x2_4 (hk (i + 1) k (by simpa using hik)) fun n r e1 e2 e3 e4 => ?_
          exact ⟨n, r, e1, by simpa using e2, e3, e4⟩]
        rfl
  rw [all (idxs rs.length) (r0 :: rs) (by simp [idxs]) fun i k hik => ?_]
  · rfl
  · cases i with
    | zero =>
      have : k = .p 0 := by simpa [idxs] using hik.symm
      exact ⟨0, r0, this, rfl, hs r0 List.mem_cons_self, rfl⟩
    | succ i =>
      have hi : i < rs.length := by
        have := (List.getElem?_eq_some_iff.mp hik).1
        simp [idxs] at this; exact this
      have : k = .p (i + 2) := by
        have := hik
        simp [idxs, hi] at this
        exact this.symm
      refine ⟨i + 2, rs[i], this, by simp [hi], hs _ (List.mem_cons_of_mem _ (List.getElem_mem hi)), ?_⟩
      simp [hpR, hi]
noncomputable def PS (pc sz : V) : Prop := (pc = .un ∧ sz = .un) ∨ ∃ x y, pc = .d x ∧ sz = .d y
theorem part_hd (t : Tk) : ∃ c r, part1 t = c :: r ∧ c ≠ 41 ∧ (c = 40 → ∃ r', r = 63 :: 33 :: r') ∧ (c = 46 → r = []) := by
  cases t with
  | q => exact ⟨46, [], rfl, by lia, by lia, fun _ => rfl⟩
  | lt l => exact ⟨97 + l, [], rfl, by lia, by lia, by lia⟩
  | br n l h =>
    by_cases hlt : h < l
    · rw [part1_lt n hlt]
      cases n with
      | true => exact ⟨46, [], rfl, by lia, by lia, fun _ => rfl⟩
      | false => exact ⟨40, _, rfl, by lia, fun _ => ⟨_, rfl⟩, by lia⟩
    · rw [part1_ge n hlt]
      exact ⟨91, _, rfl, by lia, by lia, by lia⟩
section
variable {e f r : List D → Option D} {p : List D → Option D} {t : Str'}
noncomputable abbrev rT (e p f r : List D → Option D) : AS → Option Bool := trF (T1x e p f r) (fnP 16).sc 294 (rhsOf (stAt (fnP 16).body 4))
noncomputable abbrev rS (e p f r : List D → Option D) : AS → Option (Fl × AS) := aexecs (T1x e p f r) (fnP 16).sc ow noSpec 294 [rdW]
noncomputable abbrev Q (t : Str') (b : List Nat) (st : Str') (pc sz : V) (rs : List (List Pcc)) : AS := stQ t (SS b) (.p 1) (.d (.str st)) pc sz (hpR rs)
theorem rd_test {b : List Nat} (hb : b ≠ []) {st : Str'} {pc sz : V} {rs : List (List Pcc)} : rT e p f r (Q t b st pc sz rs) = some true := by
  delta rT
  rw [read_4e, ss_beq]
  cases b with
  | nil => exact absurd rfl hb
  | cons a b => rfl
theorem rd_end {m : Nat} {st : Str'} {pc sz : V} {rs : List (List Pcc)} : awhile (rT e p f r) (rS e p f r) (m + 1) (Q t [] st pc sz rs) = some (.next, Q t [] st pc sz rs) := aw_stop (by rw [show rT e p f r (Q t [] st pc sz rs) = some (!(SS [] == SS [])) from read_4e e p f r t (SS []) st pc sz _, ss_beq]; rfl)
noncomputable def Open (st : Str') : Prop := (sFront == st || (sBetween == st || false)) = true
theorem open_front : Open sFront := by delta Open; decide +kernel
theorem open_between : Open sBetween := by delta Open; decide +kernel
theorem rd_w1no {b : List Nat} {st : Str'} {pc sz : V} {rs : List (List Pcc)} (h : (b.take 6 == [40, 63, 62, 46, 42, 63]) = false) : aexec (T1x e p f r) (fnP 16).sc ow noSpec 293 rdW (Q t b st pc sz rs) = aexecs (T1x e p f r) (fnP 16).sc ow noSpec 292 [rdW1] (Q t b st pc sz rs) := by
  have h1 := read_we e p f r t (SS b) st pc sz (hpR rs)
  rw [show (6 : Int) = ((6 : Nat) : Int) from rfl, sl_take, ss_beq, h] at h1
  rw [read_w, trF_strong (h1.trans rfl)]
  rfl
theorem rd_w2no {b : List Nat} {st : Str'} {pc sz : V} {rs : List (List Pcc)} (h : (b.take 2 == [46, 42]) = false) : aexec (T1x e p f r) (fnP 16).sc ow noSpec 291 rdW1 (Q t b st pc sz rs) = aexecs (T1x e p f r) (fnP 16).sc ow noSpec 290 [rdW2] (Q t b st pc sz rs) := by
  have h1 := read_w1e e p f r t (SS b) st pc sz (hpR rs)
  rw [show (2 : Int) = ((2 : Nat) : Int) from rfl, sl_take, ss_beq, h] at h1
  rw [read_w1, trF_strong (h1.trans rfl)]
  rfl
theorem rd_group {rest : List Nat} {st : Str'} (hst : Open st) {pc sz : V} {r0 : List Pcc} {rs : List (List Pcc)} (hl : rs.length ≤ 900) (m : Nat) :
    awhile (rT e p f r) (rS e p f r) (m + 1) (Q t ([40, 63, 62, 46, 42, 63] ++ rest) st pc sz (r0 :: rs)) = awhile (rT e p f r) (rS e p f r) m (Q t rest sGroup pc sz (r0 :: (rs ++ [[]]))) := by
  refine aw_step (rd_test (by simp)) ?_
  have h1 := read_we e p f r t (SS ([40, 63, 62, 46, 42, 63] ++ rest)) st pc sz (hpR (r0 :: rs))
  delta Open at hst
  rw [show (6 : Int) = ((6 : Nat) : Int) from rfl, sl_take, ss_beq, hst] at h1
  have hw := read_w e p f r t (SS ([40, 63, 62, 46, 42, 63] ++ rest)) st pc sz (hpR (r0 :: rs))
  rw [trF_strong (h1.trans rfl)] at hw
  have b0 := read_wb0 e p f r t (SS ([40, 63, 62, 46, 42, 63] ++ rest)) st pc sz (hpR (r0 :: rs))
  unfold stQ at b0
  rw [hpR_new r0 rs hl] at b0
  have b1 := read_wb1 e p f r t (SS ([40, 63, 62, 46, 42, 63] ++ rest)) st pc sz (hpR (r0 :: (rs ++ [[]])))
  have b2 := read_wb2 e p f r t (SS ([40, 63, 62, 46, 42, 63] ++ rest)) sGroup pc sz (hpR (r0 :: (rs ++ [[]])))
  rw [show (6 : Int) = ((6 : Nat) : Int) from rfl, sl_drop] at b2
  have hw2 := hw.trans (show _ = some (Fl.next, Q t rest sGroup pc sz (r0 :: (rs ++ [[]]))) by
    dsimp only [Option.bind_some, cond_true]
    rw [read_wb]
    exact (ex_next b0).trans ((ex_next b1).trans ((ex_next b2).trans ex_nil)))
  exact (ex_next hw2).trans ex_nil
theorem rd_star {rest : List Nat} {st : Str'} (hst : Open st) {pc sz : V} {r0 : List Pcc} {rs : List (List Pcc)} (hl : rs.length ≤ 900) (m : Nat) :
    awhile (rT e p f r) (rS e p f r) (m + 1) (Q t ([46, 42] ++ rest) st pc sz (r0 :: rs)) = awhile (rT e p f r) (rS e p f r) m (Q t rest sLast pc sz (r0 :: (rs ++ [[]]))) := by
  refine aw_step (rd_test (by simp)) ?_
  have h1 := read_w1e e p f r t (SS ([46, 42] ++ rest)) st pc sz (hpR (r0 :: rs))
  delta Open at hst
  rw [show (2 : Int) = ((2 : Nat) : Int) from rfl, sl_take, ss_beq, hst] at h1
  have hw := read_w1 e p f r t (SS ([46, 42] ++ rest)) st pc sz (hpR (r0 :: rs))
  rw [trF_strong (h1.trans rfl)] at hw
  have b0 := read_w1b0 e p f r t (SS ([46, 42] ++ rest)) st pc sz (hpR (r0 :: rs))
  unfold stQ at b0
  rw [hpR_new r0 rs hl] at b0
  have b1 := read_w1b1 e p f r t (SS ([46, 42] ++ rest)) st pc sz (hpR (r0 :: (rs ++ [[]])))
  have b2 := read_w1b2 e p f r t (SS ([46, 42] ++ rest)) sLast pc sz (hpR (r0 :: (rs ++ [[]])))
  rw [show (2 : Int) = ((2 : Nat) : Int) from rfl, sl_drop] at b2
  have hw2 := hw.trans (show _ = some (Fl.next, Q t rest sLast pc sz (r0 :: (rs ++ [[]]))) by
    dsimp only [Option.bind_some, cond_true]
    rw [read_w1b]
    exact (ex_next b0).trans ((ex_next b1).trans ((ex_next b2).trans ex_nil)))
  have hw3 := (rd_w1no (e := e) (p := p) (f := f) (r := r) (t := t) (b := [46, 42] ++ rest) (st := st) (pc := pc) (sz := sz) (rs := r0 :: rs) rfl).trans ((ex_next hw2).trans ex_nil)
  exact (ex_next hw3).trans ex_nil
end
end Mine
namespace Mine
open PySem PySem.W PyProof.Rows PySem.SeqAt
theorem wk_pt {x : Str'} {k : Nat} {vs : List (Str' × V)} {hp : List (List V)} {l : List D} (h : thaw hp 3 (.p k) = some (.list l)) : wk ⟨(x, .p k) :: vs, hp⟩ = (x, .list l) :: wk ⟨vs, hp⟩ := by
  unfold wk; simp [h]
section
variable {e f r : List D → Option D} {p : List D → Option D} {t : Str'}
theorem between_group : (sGroup == sBetween) = false := by decide +kernel
theorem rd_close {rest : List Nat} {x y : D} {r0 : List Pcc} {rs : List (List Pcc)} {s : List Pcc} (hs : s ≠ []) (hl : rs.length ≤ 800) (hsz : ∀ z ∈ r0 :: (rs ++ [s]), z.length ≤ 900) (m : Nat) :
    awhile (rT e p f r) (rS e p f r) (m + 1) (Q t (41 :: rest) sGroup (.d x) (.d y) (r0 :: (rs ++ [s]))) = awhile (rT e p f r) (rS e p f r) m (Q t rest sBetween (.d x) (.d y) (r0 :: (rs ++ [s]))) := by
  refine aw_step (rd_test (by simp)) ?_
  have hw := read_w2 e p f r t (SS (41 :: rest)) sGroup (.d x) (.d y) (hpR (r0 :: (rs ++ [s])))
  have h0 := read_w2e1 e p f r t (SS (41 :: rest)) sGroup (hpR (r0 :: (rs ++ [s]))) x y
  rw [sub_hd] at h0
  dsimp only [Option.bind_some] at h0
  rw [eq_ss, beq_self_eq_true] at h0
  have h0' := h0.trans (show _ = (none : Option Bool) by rw [show (sGroup == sGroup) = true from beq_self_eq_true _]; rfl)
  have h1 := fun q => read_w2k e p f r (SS (41 :: rest)) sGroup (.str t) ((r0 :: (rs ++ [s])).map runD) q
  have hla : asub (.list ((r0 :: (rs ++ [s])).map runD)) (.int (-1)) = some (runD s) := by
    have : (r0 :: (rs ++ [s])).map runD = (r0 :: rs).map runD ++ [runD s] := by simp
    rw [this]; exact asub_last
  have hne : acmp .NotEq (runD s) (.list []) = some true := by
    cases s with
    | nil => exact absurd rfl hs
    | cons a s => rfl
  simp only [hla, Option.bind_some, hne, sub_hd, eq_ss, beq_self_eq_true] at h1
  have hwk : wk (Q t (41 :: rest) sGroup (.d x) (.d y) (r0 :: (rs ++ [s]))) = (Str.ofString "text", .str t) :: (Str.ofString "body", .str (SS (41 :: rest))) :: (Str.ofString "runs", .list ((r0 :: (rs ++ [s])).map runD)) :: wk ⟨[(Str.ofString "state", .d (.str sGroup)), (Str.ofString "piece", .d x), (Str.ofString "size", .d y)], hpR (r0 :: (rs ++ [s]))⟩ :=
    wk_d.trans (congrArg _ (wk_d.trans (congrArg _ (wk_pt (hpR_thaw r0 (rs ++ [s]) (by simp; lia) hsz)))))
  have h2 : trF (T1x e p f r) (fnP 16).sc 288 (rhsOf rdW2) (Q t (41 :: rest) sGroup (.d x) (.d y) (r0 :: (rs ++ [s]))) = some true := by
    refine trF_weak h0' ?_
    rw [hwk]
    refine (h1 _).trans ?_
    rfl
  rw [h2] at hw
  have b0 := read_w2b0 e p f r t (SS (41 :: rest)) sGroup (.d x) (.d y) (hpR (r0 :: (rs ++ [s])))
  have b1 := read_w2b1 e p f r t (SS (41 :: rest)) sBetween (.d x) (.d y) (hpR (r0 :: (rs ++ [s])))
  rw [show (1 : Int) = ((1 : Nat) : Int) from rfl, sl_drop] at b1
  have hw2 := hw.trans (show _ = some (Fl.next, Q t rest sBetween (.d x) (.d y) (r0 :: (rs ++ [s]))) by
    dsimp only [Option.bind_some, cond_true]
    rw [read_w2b]
    exact (ex_next b0).trans ((ex_next b1).trans ex_nil))
  have hw1 := (rd_w2no (e := e) (p := p) (f := f) (r := r) (t := t) (b := 41 :: rest) (st := sGroup) (pc := .d x) (sz := .d y) (rs := r0 :: (rs ++ [s])) (by
    rw [beq_eq_false_iff_ne]; intro h; rw [List.take_succ_cons] at h; injection h with h _; lia)).trans ((ex_next hw2).trans ex_nil)
  have hw0 := (rd_w1no (e := e) (p := p) (f := f) (r := r) (t := t) (b := 41 :: rest) (st := sGroup) (pc := .d x) (sz := .d y) (rs := r0 :: (rs ++ [s])) (by
    rw [beq_eq_false_iff_ne]; intro h; rw [List.take_succ_cons] at h; injection h with h _; lia)).trans ((ex_next hw1).trans ex_nil)
  exact (ex_next hw0).trans ex_nil
theorem rd_w3no {c : Nat} {b : List Nat} (hc : c ≠ 41) {st : Str'} {pc sz : V} (hp : PS pc sz) {rs : List (List Pcc)} : aexec (T1x e p f r) (fnP 16).sc ow noSpec 289 rdW2 (Q t (c :: b) st pc sz rs) = aexecs (T1x e p f r) (fnP 16).sc ow noSpec 288 (elseOf rdW2) (Q t (c :: b) st pc sz rs) := by
  have h0 : atrue (T1x e p f r) 288 (rhsOf rdW2) ⟨(fnP 16).sc, frz (Q t (c :: b) st pc sz rs)⟩ = some false := by
    rcases hp with ⟨rfl, rfl⟩ | ⟨x, y, rfl, rfl⟩
    · have h := read_w2e0 e p f r t (SS (c :: b)) st (hpR rs)
      rw [sub_hd] at h
      dsimp only [Option.bind_some] at h
      rw [eq_ss, beq1, beq_eq_false_iff_ne.mpr hc] at h
      exact h.trans rfl
    · have h := read_w2e1 e p f r t (SS (c :: b)) st (hpR rs) x y
      rw [sub_hd] at h
      dsimp only [Option.bind_some] at h
      rw [eq_ss, beq1, beq_eq_false_iff_ne.mpr hc] at h
      exact h.trans rfl
  rw [read_w2, trF_strong h0]
  rfl
theorem rd_piece (hpc : ∀ (k : Tk) (rest : List Nat), Small k → p [.str (SS (part1 k ++ rest))] = some (.tup [pcD (pcc k), .int ((part1 k).length : Nat)])) (k : Tk) (hk : Small k) (rest : List Nat) (hrest : rest.head? ≠ some 42) {st : Str'} (hst : (st == sBetween) = false) {pc sz : V} (hps : PS pc sz)
    {ss : List (List Pcc)} {s : List Pcc} (hs : s.length ≤ 900) (m : Nat) :
    awhile (rT e p f r) (rS e p f r) (m + 1) (Q t (part1 k ++ rest) st pc sz (ss ++ [s])) = awhile (rT e p f r) (rS e p f r) m (Q t rest st (.d (pcD (pcc k))) (.d (.int ((part1 k).length : Nat))) (ss ++ [s ++ [pcc k]])) := by
  refine x2_4 (part_hd k) fun c q hq g1 g2 g3 => ?_
  have hlen : (part1 k).length ≠ 0 := by rw [hq]; simp
  refine aw_step (rd_test (by rw [hq]; simp)) ?_
  have n1 : ((part1 k ++ rest).take 6 == [40, 63, 62, 46, 42, 63]) = false := by
    rw [beq_eq_false_iff_ne, hq]
    intro h
    rw [List.cons_append, List.take_succ_cons] at h
    injection h with h1 h2
    refine x1_1 (g2 h1) fun q' hr1 => ?_; subst hr1
    simp at h2
  have n2 : ((part1 k ++ rest).take 2 == [46, 42]) = false := by
    rw [beq_eq_false_iff_ne, hq]
    intro h
    rw [List.cons_append, List.take_succ_cons] at h
    injection h with h1 h2
    have := g3 h1
    subst this
    cases rest with
    | nil => simp at h2
    | cons a rest => simp at h2; simp [h2] at hrest
  have x0 := read_x0 e p f r t (SS (part1 k ++ rest)) st pc sz (hpR (ss ++ [s]))
  rw [evF_strong ((read_x0e e p f r t (SS (part1 k ++ rest)) st pc sz (hpR (ss ++ [s]))).trans (hpc k rest hk))] at x0
  have x0' := x0.trans (read_x0s t (SS (part1 k ++ rest)) st pc sz (hpR (ss ++ [s])) (pcD (pcc k)) (.int ((part1 k).length : Nat)))
  have x1 := read_x1 e p f r t (SS (part1 k ++ rest)) st (hpR (ss ++ [s])) (pcD (pcc k)) ((part1 k).length : Nat)
  have e1 := read_x1e e p f r t (SS (part1 k ++ rest)) st (hpR (ss ++ [s])) (pcD (pcc k)) ((part1 k).length : Nat)
  rw [hst, show ((((part1 k).length : Nat) : Int) == 0) = false from beq_eq_false_iff_ne.mpr (by lia)] at e1
  rw [trF_strong (e1.trans rfl)] at x1
  have x2 := read_x2 e p f r t (SS (part1 k ++ rest)) st (hpR (ss ++ [s])) (pcD (pcc k)) (.int ((part1 k).length : Nat))
  refine x1_5 (hpR_last ss s) fun j j1 j2 j3 j4 j5 => ?_
  have x2' : aexec (T1x e p f r) (fnP 16).sc ow noSpec 285 (stAt (elseOf rdW2) 2) (stQ t (SS (part1 k ++ rest)) (.p 1) (.d (.str st)) (.d (pcD (pcc k))) (.d (.int ((part1 k).length : Nat))) (hpR (ss ++ [s]))) = some (.next, Q t (part1 k ++ rest) st (.d (pcD (pcc k))) (.d (.int ((part1 k).length : Nat))) (ss ++ [s ++ [pcc k]])) := by
    rw [x2, j1]
    dsimp only [Option.bind_some]
    rw [j2]
    dsimp only [Option.bind_some]
    rw [j3]
    dsimp only [pGet, Option.bind_some]
    unfold stQ
    rw [append_to j4 (lim1000 (by simp; lia)), j5]
    rfl
  have x3 := read_x3 e p f r t (SS (part1 k ++ rest)) st (hpR (ss ++ [s ++ [pcc k]])) (pcD (pcc k)) ((part1 k).length : Nat)
  rw [sl_drop, List.drop_left] at x3
  have hw2 : aexec (T1x e p f r) (fnP 16).sc ow noSpec 289 rdW2 (Q t (part1 k ++ rest) st pc sz (ss ++ [s])) = some (.next, Q t rest st (.d (pcD (pcc k))) (.d (.int ((part1 k).length : Nat))) (ss ++ [s ++ [pcc k]])) := by
    have h := rd_w3no (e := e) (p := p) (f := f) (r := r) (t := t) (b := q ++ rest) g1 (st := st) hps (rs := ss ++ [s])
    rw [show c :: (q ++ rest) = part1 k ++ rest by rw [hq]; rfl] at h
    rw [h, read_w2x]
    exact (ex_next x0').trans ((ex_next x1).trans ((ex_next x2').trans ((ex_next x3).trans ex_nil)))
  have hw1 := (rd_w2no (e := e) (p := p) (f := f) (r := r) (t := t) (b := part1 k ++ rest) (st := st) (pc := pc) (sz := sz) (rs := ss ++ [s]) n2).trans ((ex_next hw2).trans ex_nil)
  have hw0 := (rd_w1no (e := e) (p := p) (f := f) (r := r) (t := t) (b := part1 k ++ rest) (st := st) (pc := pc) (sz := sz) (rs := ss ++ [s]) n1).trans ((ex_next hw1).trans ex_nil)
  exact (ex_next hw0).trans ex_nil
end
end Mine
namespace Mine
open PySem PySem.W PyProof.Rows PySem.SeqAt
noncomputable def grp : List (List Tk) → List Nat
  | [] => []
  | [s] => [46, 42] ++ s.flatMap part1
  | s :: t :: ss => [40, 63, 62, 46, 42, 63] ++ (s.flatMap part1 ++ (41 :: grp (t :: ss)))
noncomputable def outT : List (List Tk) → List Nat
  | [] => []
  | r0 :: rest => r0.flatMap part1 ++ grp rest
theorem part_hd2 (k : Tk) (x : List Nat) : (part1 k ++ x).head? ≠ some 42 := by
  cases k with
  | q => simp [part1]
  | lt l => simp [part1]; lia
  | br n l h =>
    by_cases hlt : h < l
    · rw [part1_lt n hlt]; cases n <;> simp
    · rw [part1_ge n hlt]; simp
theorem grp_hd : ∀ (rest : List (List Tk)), (grp rest).head? ≠ some 42
  | [] => by simp [grp]
  | [s] => by simp [grp]
  | s :: t :: ss => by simp [grp]
noncomputable def PD (pc sz : V) : Prop := ∃ x y, pc = .d x ∧ sz = .d y
section
variable {e f r : List D → Option D} {p : List D → Option D} {t : Str'}
theorem rd_pieces (hpc : ∀ (k : Tk) (rest : List Nat), Small k → p [.str (SS (part1 k ++ rest))] = some (.tup [pcD (pcc k), .int ((part1 k).length : Nat)])) {rest : List Nat} (hrest : rest.head? ≠ some 42) {st : Str'} (hst : (st == sBetween) = false)
    {ss : List (List Pcc)} : ∀ (ks : List Tk), (∀ k ∈ ks, Small k) → ∀ (s : List Pcc) (pc sz : V), PS pc sz → s.length + ks.length ≤ 900 → ∀ m, ∃ pc' sz', PS pc' sz' ∧ (ks ≠ [] ∨ PD pc sz → PD pc' sz') ∧
    awhile (rT e p f r) (rS e p f r) (m + ks.length) (Q t (ks.flatMap part1 ++ rest) st pc sz (ss ++ [s])) = awhile (rT e p f r) (rS e p f r) m (Q t rest st pc' sz' (ss ++ [s ++ ks.map pcc]))
  | [], _, s, pc, sz, hps, _, m => ⟨pc, sz, hps, fun h => h.elim (fun h => absurd rfl h) id, by simp⟩
  | k :: ks, hk, s, pc, sz, hps, hl, m => by
    dsimp only [List.length_cons] at hl
    have h1 := rd_piece (e := e) (f := f) (r := r) (t := t) hpc k (hk k List.mem_cons_self) (ks.flatMap part1 ++ rest) (by
      cases ks with
      | nil => exact hrest
      | cons k' ks => rw [List.flatMap_cons, List.append_assoc]; exact part_hd2 k' _) hst hps (ss := ss) (s := s) (by lia) (m + ks.length)
    obtain ⟨pc', sz', g1, g2, g3⟩ := rd_pieces hpc hrest hst ks (fun k' hk' => hk k' (List.mem_cons_of_mem _ hk')) (s ++ [pcc k]) (.d (pcD (pcc k))) (.d (.int ((part1 k).length : Nat))) (.inr ⟨_, _, rfl, rfl⟩) (by simp; lia) m
    refine ⟨pc', sz', g1, fun _ => g2 (.inr ⟨_, _, rfl, rfl⟩), ?_⟩
    · rw [List.flatMap_cons, List.append_assoc, show m + (k :: ks).length = m + ks.length + 1 by simp; lia, h1, g3]
      simp
theorem last_ok : (sLast == sBetween) = false := by decide +kernel
theorem front_ok : (sFront == sBetween) = false := by decide +kernel
noncomputable def cost : List (List Tk) → Nat
  | [] => 0
  | s :: ss => s.length + 2 + cost ss
theorem rd_grp (hpc : ∀ (k : Tk) (rest : List Nat), Small k → p [.str (SS (part1 k ++ rest))] = some (.tup [pcD (pcc k), .int ((part1 k).length : Nat)])) {r0 : List Pcc} :
    ∀ (rest : List (List Tk)), rest ≠ [] → (∀ s ∈ rest, ∀ k ∈ s, Small k) → (∀ s ∈ rest.dropLast, s ≠ []) → (∀ s ∈ rest, s.length ≤ 800) → ∀ (rs : List (List Pcc)) (st : Str') (pc sz : V), Open st → PS pc sz → rs.length + rest.length ≤ 800 → (∀ z ∈ r0 :: rs, z.length ≤ 900) → ∀ m, cost rest ≤ m →
      ∃ pc' sz', awhile (rT e p f r) (rS e p f r) (m + 1) (Q t (grp rest) st pc sz (r0 :: rs)) = some (.next, Q t [] sLast pc' sz' (r0 :: (rs ++ rest.map (List.map pcc))))
  | [], h, _, _, _, _, _, _, _, _, _, _, _, _, _ => absurd rfl h
  | [s], _, hk, _, hls, rs, st, pc, sz, hst, hps, hl, hz, m, hm => by
    dsimp only [cost] at hm
    have hls' := hls s List.mem_cons_self
    obtain ⟨m', rfl⟩ : ∃ m', m = m' + s.length + 1 := ⟨m - s.length - 1, by lia⟩
    have h1 := rd_star (e := e) (p := p) (f := f) (r := r) (t := t) (rest := s.flatMap part1 ++ []) hst (pc := pc) (sz := sz) (r0 := r0) (rs := rs) (by lia) (m' + 1 + s.length)
    refine x2_3 (rd_pieces (e := e) (f := f) (r := r) (t := t) hpc (rest := []) (by simp) last_ok (ss := r0 :: rs) s (hk s List.mem_cons_self) [] pc sz hps (by simp; lia) (m' + 1)) fun pc' sz' g1 _ g3 => ?_
    refine ⟨pc', sz', ?_⟩
    have e1 : grp [s] = [46, 42] ++ (s.flatMap part1 ++ []) := by simp [grp]
    rw [e1, show m' + s.length + 1 + 1 = (m' + 1 + s.length) + 1 by lia, h1]
    rw [show r0 :: (rs ++ [[]]) = (r0 :: rs) ++ [[]] by simp, g3, rd_end]
    simp
  | s :: u :: ss, _, hk, hd, hls, rs, st, pc, sz, hst, hps, hl, hz, m, hm => by
    have hcost : cost (s :: u :: ss) = s.length + 2 + cost (u :: ss) := rfl
    rw [hcost] at hm
    have hls' := hls s List.mem_cons_self
    have hsne : s ≠ [] := hd s (by simp)
    obtain ⟨m', rfl⟩ : ∃ m', m = m' + s.length + 2 := ⟨m - s.length - 2, by lia⟩
    have hg : (sGroup == sBetween) = false := between_group
    have h1 := rd_group (e := e) (p := p) (f := f) (r := r) (t := t) (rest := s.flatMap part1 ++ (41 :: grp (u :: ss))) hst (pc := pc) (sz := sz) (r0 := r0) (rs := rs) (by simp at hl; lia) (m' + 1 + 1 + s.length)
    refine x2_3 (rd_pieces (e := e) (f := f) (r := r) (t := t) hpc (rest := 41 :: grp (u :: ss)) (by simp) hg (ss := r0 :: rs) s (hk s List.mem_cons_self) [] pc sz hps (by simp; lia) (m' + 1 + 1)) fun pc' sz' g1 g2 g3 => ?_
    refine x2_2 (g2 (.inl hsne)) fun x y hr2 hr3 => ?_; subst hr2; subst hr3
    have h2 := rd_close (e := e) (p := p) (f := f) (r := r) (t := t) (rest := grp (u :: ss)) (x := x) (y := y) (r0 := r0) (rs := rs) (s := s.map pcc) (by simpa using hsne) (by simp at hl; lia) (fun z hz' => by
      rcases List.mem_cons.mp hz' with h | h
      · exact hz z (by rw [h]; exact List.mem_cons_self)
      · rcases List.mem_append.mp h with h | h
        · exact hz z (List.mem_cons_of_mem _ h)
        · have : z = s.map pcc := by simpa using h
          rw [this, List.length_map]; lia) (m' + 1)
    obtain ⟨pc2, sz2, g4⟩ := rd_grp hpc (u :: ss) (by simp) (fun v hv => hk v (List.mem_cons_of_mem _ hv)) (fun v hv => hd v (by rw [List.dropLast_cons_of_ne_nil (by simp)]; exact List.mem_cons_of_mem _ hv)) (fun v hv => hls v (List.mem_cons_of_mem _ hv)) (rs ++ [s.map pcc]) sBetween (.d x) (.d y) open_between (.inr ⟨_, _, rfl, rfl⟩) (by simp at hl ⊢; lia) (fun z hz' => by
      rcases List.mem_cons.mp hz' with h | h
      · exact hz z (by rw [h]; exact List.mem_cons_self)
      · rcases List.mem_append.mp h with h | h
        · exact hz z (List.mem_cons_of_mem _ h)
        · have : z = s.map pcc := by simpa using h
          rw [this, List.length_map]; lia) m' (by lia)
    refine ⟨pc2, sz2, ?_⟩
    have e1 : grp (s :: u :: ss) = [40, 63, 62, 46, 42, 63] ++ (s.flatMap part1 ++ (41 :: grp (u :: ss))) := rfl
    rw [e1, show m' + s.length + 2 + 1 = (m' + 1 + 1 + s.length) + 1 by lia, h1]
    rw [show r0 :: (rs ++ [[]]) = (r0 :: rs) ++ [[]] by simp, g3]
    rw [show (r0 :: rs) ++ [[] ++ s.map pcc] = r0 :: (rs ++ [s.map pcc]) by simp, h2, g4]
    simp
end
theorem cut_text (a b c : List Nat) (ha : a.length = 4) (hc : c.length = 3) : cut (a ++ (b ++ c)) (some 4) (some (-3)) = b := by
  delta cut clipL clipH
  have h1 : clipN 4 (a ++ (b ++ c)).length = 4 := by delta clipN; simp; lia
  have h2 : clipN (-3) (a ++ (b ++ c)).length = 4 + b.length := by delta clipN; simp; lia
  dsimp only
  rw [h1, h2, ← ha, List.drop_left, show a.length + b.length - a.length = b.length by lia, List.take_left]
noncomputable def regT (runs : List (List Tk)) : List Nat := [40, 63, 115, 58] ++ (outT runs ++ [41, 92, 90])
theorem read_run (r0 : List Tk) (rest : List (List Tk)) (hk : ∀ s ∈ r0 :: rest, ∀ k ∈ s, Small k) (hd : ∀ s ∈ rest.dropLast, s ≠ []) (hl : r0.length + cost rest ≤ 200) (ho : (outT (r0 :: rest)).length ≤ 900) :
    runF T1 noSpec 16 [.str (SS (regT (r0 :: rest)))] = some (.list (((r0 :: rest).map (List.map pcc)).map runD)) := by
  have hpc : ∀ (k : Tk) (rest : List Nat), Small k → runF T0 noSpec 15 [.str (SS (part1 k ++ rest))] = some (.tup [pcD (pcc k), .int ((part1 k).length : Nat)]) := fun k rest h => piece_run k h rest
  rw [t1_x]
  generalize runF T0 noSpec 15 = p at hpc
  generalize runF T0 noSpec 17 = f
  generalize runF T0 noSpec 11 = r
  generalize fEsc = e
  have hcost : ∀ (rest : List (List Tk)), (∀ s ∈ rest, s.length ≤ cost rest) ∧ rest.length ≤ cost rest := by
    intro rest
    induction rest with
    | nil => simp [cost]
    | cons s ss ih =>
      refine x0_2 ih fun i1 i2 => ?_
      refine ⟨fun v hv => ?_, by simp [cost]; lia⟩
      rcases List.mem_cons.mp hv with h | h
      · subst h; simp [cost]; lia
      · have := i1 v h; simp [cost]; lia
  refine x0_2 (hcost rest) fun c1 c2 => ?_
  have hg : ∀ t, giveArgs (fnP 16).ps [.str t] ⟨startVars (fnP 16).sc, []⟩ = some ⟨[(Str.ofString "text", .d (.str t)), (Str.ofString "body", .un), (Str.ofString "runs", .un), (Str.ofString "state", .un), (Str.ofString "piece", .un), (Str.ofString "size", .un)], []⟩ := by intro t; kernel_rfl
  refine run_of' (hg _) ?_
  generalize hT : SS (regT (r0 :: rest)) = T
  have h0 := read_0 e p f r T
  have hcut : sl T (some 4) (some (-3)) = SS (outT (r0 :: rest)) := by
    rw [← hT]
    show (⟨(cut (regT (r0 :: rest)).toArray.toList _ _).toArray⟩ : Str') = _
    delta regT
    rw [cut_text _ _ _ rfl rfl]
  rw [hcut] at h0
  have h1 := read_1 e p f r T (SS (outT (r0 :: rest)))
  have e1 := read_1e e p f r T (SS (outT (r0 :: rest)))
  rw [add_ss (by simp; lia)] at e1
  dsimp only [Option.bind_some] at e1
  rw [add_ss (by simp; lia)] at e1
  dsimp only [Option.bind_some] at e1
  have hne : acmp .NotEq (.str T) (.str (SS ([40, 63, 115, 58] ++ outT (r0 :: rest) ++ [41, 92, 90]))) = some false := by
    rw [← hT]
    show some (!(SS (regT (r0 :: rest)) == SS ([40, 63, 115, 58] ++ outT (r0 :: rest) ++ [41, 92, 90]))) = _
    rw [ss_beq, show regT (r0 :: rest) = [40, 63, 115, 58] ++ outT (r0 :: rest) ++ [41, 92, 90] by simp [regT], beq_self_eq_true]; rfl
  rw [hne] at e1
  rw [trF_strong (e1.trans rfl)] at h1
  have h4 := read_4 e p f r T (SS (outT (r0 :: rest))) sFront .un .un [[], [.p 0]]
  refine x2_3 (rd_pieces (e := e) (f := f) (r := r) (t := T) hpc (rest := grp rest) (grp_hd rest) front_ok (ss := []) r0 (hk r0 List.mem_cons_self) [] .un .un (.inl ⟨rfl, rfl⟩) (by simp; lia) (294 - r0.length)) fun pc1 sz1 g1 _ g3 => ?_
  rw [show 294 - r0.length + r0.length = 294 by lia] at g3
  rw [read_body]
  have fin : ∃ st pc sz, (st = sFront ∨ st = sLast) ∧ awhile (rT e p f r) (rS e p f r) 294 (Q T (outT (r0 :: rest)) sFront .un .un [[]]) = some (.next, Q T [] st pc sz ((r0 :: rest).map (List.map pcc))) := by
    cases hrest : rest with
    | nil =>
      refine ⟨sFront, pc1, sz1, .inl rfl, ?_⟩
      rw [hrest] at g3
      have e5 : outT [r0] = r0.flatMap part1 ++ grp [] := rfl
      rw [e5]
      refine g3.trans ?_
      obtain ⟨m', hm'⟩ : ∃ m', 294 - r0.length = m' + 1 := ⟨293 - r0.length, by lia⟩
      rw [hm', show grp [] = [] from rfl, rd_end]
      simp
    | cons u us =>
      obtain ⟨m', hm'⟩ : ∃ m', 294 - r0.length = m' + 1 := ⟨293 - r0.length, by lia⟩
      obtain ⟨pc2, sz2, g4⟩ := rd_grp (e := e) (f := f) (r := r) (t := T) hpc (r0 := r0.map pcc) rest (by rw [hrest]; simp) (fun s hs => hk s (List.mem_cons_of_mem _ hs)) hd (fun s hs => by have := c1 s hs; lia) [] sFront pc1 sz1 open_front g1 (by simp; lia) (fun z hz => by
        have : z = r0.map pcc := by simpa using hz
        rw [this, List.length_map]; lia) m' (by lia)
      refine ⟨sLast, pc2, sz2, .inr rfl, ?_⟩
      rw [← hrest]
      have e5 : outT (r0 :: rest) = r0.flatMap part1 ++ grp rest := rfl
      rw [e5]
      refine g3.trans ?_
      rw [hm']
      refine g4.trans ?_
      simp
  refine x3_2 fin fun st pc sz hst hfin => ?_
  have h4' := h4.trans hfin
  have h5 := read_5 e p f r T (SS []) st pc sz (hpR ((r0 :: rest).map (List.map pcc)))
  have hwk : wk (Q T [] st pc sz ((r0 :: rest).map (List.map pcc))) = (Str.ofString "text", .str T) :: (Str.ofString "body", .str (SS [])) :: (Str.ofString "runs", .list (((r0 :: rest).map (List.map pcc)).map runD)) :: wk ⟨[(Str.ofString "state", .d (.str st)), (Str.ofString "piece", pc), (Str.ofString "size", sz)], hpR ((r0 :: rest).map (List.map pcc))⟩ :=
    wk_d.trans (congrArg _ (wk_d.trans (congrArg _ (wk_pt (hpR_thaw (r0.map pcc) (rest.map (List.map pcc)) (by simp; lia) (fun z hz => by
      rcases List.mem_cons.mp hz with h | h
      · rw [h, List.length_map]; lia
      · refine x1_2 (List.mem_map.mp h) fun v hv hr2 => ?_; subst hr2
        have := c1 v hv
        rw [List.length_map]; lia))))))
  have h5' : aexec (T1x e p f r) (fnP 16).sc ow noSpec 294 (stAt (fnP 16).body 5) (Q T [] st pc sz ((r0 :: rest).map (List.map pcc))) = some (.ret (.list (((r0 :: rest).map (List.map pcc)).map runD)), Q T [] st pc sz ((r0 :: rest).map (List.map pcc))) := by
    refine h5.trans ?_
    rw [hwk]
    rcases hst with rfl | rfl
    · rw [wk_d, read_5f]; rfl
    · rw [wk_d, read_5l]; rfl
  refine ⟨_, (ex_next h0).trans ((ex_next h1).trans ((read_23 e p f r T (SS (outT (r0 :: rest))) _ _).trans ((ex_next h4').trans (ex_ret h5'))))⟩
end Mine
namespace Mine
open PySem PySem.W PyProof.Rows PySem.SeqAt
noncomputable def stN (L : List D) (a : Addr) (res add : V) (i n : Int) (fixed : V) (hp : List (List V)) : AS :=
  ⟨[(Str.ofString "inp", .d (.list L)), (Str.ofString "STAR", .d (.obj a)), (Str.ofString "res", res), (Str.ofString "add", add), (Str.ofString "i", .d (.int i)), (Str.ofString "n", .d (.int n)), (Str.ofString "fixed", fixed)], hp⟩
noncomputable def jnB (k : Nat) : Stmt := stAt (bodyOf (stAt (fnP 9).body 4)) k
noncomputable def jnA (k : Nat) : Stmt := stAt (bodyOf (stAt (fnP 9).body 3)) k
section
variable (L : List D) (a : Addr) (i n : Int) (fx : V) (hp : List (List V))
theorem join_012 : aexecs T0 (fnP 9).sc ow noSpec 300 (fnP 9).body ⟨[(Str.ofString "inp", .d (.list L)), (Str.ofString "STAR", .d (.obj a)), (Str.ofString "res", .un), (Str.ofString "add", .un), (Str.ofString "i", .un), (Str.ofString "n", .un), (Str.ofString "fixed", .un)], []⟩ =
    aexecs T0 (fnP 9).sc ow noSpec 297 [stAt (fnP 9).body 3, stAt (fnP 9).body 4, stAt (fnP 9).body 5, stAt (fnP 9).body 6, stAt (fnP 9).body 7] (stN L a (.p 0) (.app 0) 0 L.length .un [[]]) := by kernel_rfl
theorem join_3 : aexec T0 (fnP 9).sc ow noSpec 296 (stAt (fnP 9).body 3) (stN L a (.p 0) (.app 0) i n fx hp) = awhile (trF T0 (fnP 9).sc 295 (rhsOf (stAt (fnP 9).body 3))) (aexecs T0 (fnP 9).sc ow noSpec 295 [jnA 0, jnA 1]) 295 (stN L a (.p 0) (.app 0) i n fx hp) := by kernel_rfl
theorem join_3e : atrue T0 295 (rhsOf (stAt (fnP 9).body 3)) ⟨(fnP 9).sc, frz (stN L a (.p 0) (.app 0) i n fx hp)⟩ = bif decide (i < n) then ((((asub (.list L) (.int i)).bind fun x => (acmp .IsNot x (.obj a)).map D.bool).bind atr).bind fun c => bif c then some true else some false) else some false := by kernel_rfl
theorem join_a0 : aexec T0 (fnP 9).sc ow noSpec 294 (jnA 0) (stN L a (.p 0) (.app 0) i n fx hp) = (evF T0 (fnP 9).sc 293 (argOf (jnA 0)) (stN L a (.p 0) (.app 0) i n fx hp)).bind fun d => (appendTo (stN L a (.p 0) (.app 0) i n fx hp) 0 (.d d)).map fun s => (.next, s) := by kernel_rfl
theorem join_a0e : aeval T0 293 (argOf (jnA 0)) ⟨(fnP 9).sc, frz (stN L a (.p 0) (.app 0) i n fx hp)⟩ = asub (.list L) (.int i) := by kernel_rfl
theorem join_a1 : aexec T0 (fnP 9).sc ow noSpec 293 (jnA 1) (stN L a (.p 0) (.app 0) i n fx hp) = some (.next, stN L a (.p 0) (.app 0) (i + 1) n fx hp) := by kernel_rfl
theorem join_4 : aexec T0 (fnP 9).sc ow noSpec 295 (stAt (fnP 9).body 4) (stN L a (.p 0) (.app 0) i n fx hp) = awhile (trF T0 (fnP 9).sc 294 (rhsOf (stAt (fnP 9).body 4))) (aexecs T0 (fnP 9).sc ow noSpec 294 [jnB 0, jnB 1, jnB 2, jnB 3, jnB 4, jnB 5, jnB 6, jnB 7]) 294 (stN L a (.p 0) (.app 0) i n fx hp) := by kernel_rfl
theorem join_4e : trF T0 (fnP 9).sc 294 (rhsOf (stAt (fnP 9).body 4)) (stN L a (.p 0) (.app 0) i n fx hp) = some (decide (i < n)) := by kernel_rfl
theorem join_b0 : aexec T0 (fnP 9).sc ow noSpec 293 (jnB 0) (stN L a (.p 0) (.app 0) i n fx hp) = (trF T0 (fnP 9).sc 292 (rhsOf (jnB 0)) (stN L a (.p 0) (.app 0) i n fx hp)).bind fun c => bif c then some (.next, stN L a (.p 0) (.app 0) i n fx hp) else none := by kernel_rfl
theorem join_b0e : atrue T0 292 (rhsOf (jnB 0)) ⟨(fnP 9).sc, frz (stN L a (.p 0) (.app 0) i n fx hp)⟩ = ((asub (.list L) (.int i)).bind fun x => (acmp .Is x (.obj a)).map D.bool).bind atr := by kernel_rfl
theorem join_b1 : aexec T0 (fnP 9).sc ow noSpec 292 (jnB 1) (stN L a (.p 0) (.app 0) i n fx hp) = some (.next, stN L a (.p 0) (.app 0) (i + 1) n fx hp) := by kernel_rfl
theorem join_b2 : aexec T0 (fnP 9).sc ow noSpec 291 (jnB 2) (stN L a (.p 0) (.app 0) i n fx hp) = bif (i == n) then aexecs T0 (fnP 9).sc ow noSpec 290 (bodyOf (jnB 2)) (stN L a (.p 0) (.app 0) i n fx hp) else some (.next, stN L a (.p 0) (.app 0) i n fx hp) := by kernel_rfl
theorem join_b2b : bodyOf (jnB 2) = [stAt (bodyOf (jnB 2)) 0, stAt (bodyOf (jnB 2)) 1] := by kernel_rfl
theorem join_b20 : aexec T0 (fnP 9).sc ow noSpec 289 (stAt (bodyOf (jnB 2)) 0) (stN L a (.p 0) (.app 0) i n fx hp) = (appendTo (stN L a (.p 0) (.app 0) i n fx hp) 0 (.d (.str (SS [46, 42])))).map fun s => (.next, s) := by kernel_rfl
theorem join_b21 : aexec T0 (fnP 9).sc ow noSpec 288 (stAt (bodyOf (jnB 2)) 1) (stN L a (.p 0) (.app 0) i n fx hp) = some (.brk, stN L a (.p 0) (.app 0) i n fx hp) := by kernel_rfl
theorem join_b3 : aexec T0 (fnP 9).sc ow noSpec 290 (jnB 3) (stN L a (.p 0) (.app 0) i n fx hp) = (trF T0 (fnP 9).sc 289 (rhsOf (jnB 3)) (stN L a (.p 0) (.app 0) i n fx hp)).bind fun c => bif c then some (.next, stN L a (.p 0) (.app 0) i n fx hp) else none := by kernel_rfl
theorem join_b3e : atrue T0 289 (rhsOf (jnB 3)) ⟨(fnP 9).sc, frz (stN L a (.p 0) (.app 0) i n fx hp)⟩ = ((asub (.list L) (.int i)).bind fun x => (acmp .IsNot x (.obj a)).map D.bool).bind atr := by kernel_rfl
theorem join_b4 : aexec T0 (fnP 9).sc ow noSpec 289 (jnB 4) (stN L a (.p 0) (.app 0) i n fx hp) = some (.next, stN L a (.p 0) (.app 0) i n (.p hp.length) (hp ++ [[]])) := by kernel_rfl
theorem join_b5 : aexec T0 (fnP 9).sc ow noSpec 288 (jnB 5) (stN L a (.p 0) (.app 0) i n fx hp) = awhile (trF T0 (fnP 9).sc 287 (rhsOf (jnB 5))) (aexecs T0 (fnP 9).sc ow noSpec 287 [stAt (bodyOf (jnB 5)) 0, stAt (bodyOf (jnB 5)) 1]) 287 (stN L a (.p 0) (.app 0) i n fx hp) := by kernel_rfl
theorem join_b5e : atrue T0 287 (rhsOf (jnB 5)) ⟨(fnP 9).sc, frz (stN L a (.p 0) (.app 0) i n fx hp)⟩ = bif decide (i < n) then ((((asub (.list L) (.int i)).bind fun x => (acmp .IsNot x (.obj a)).map D.bool).bind atr).bind fun c => bif c then some true else some false) else some false := by kernel_rfl
theorem join_b50 (k : Nat) : aexec T0 (fnP 9).sc ow noSpec 286 (stAt (bodyOf (jnB 5)) 0) (stN L a (.p 0) (.app 0) i n (.p k) hp) = (evF T0 (fnP 9).sc 285 (argOf (stAt (bodyOf (jnB 5)) 0)) (stN L a (.p 0) (.app 0) i n (.p k) hp)).bind fun d => (appendTo (stN L a (.p 0) (.app 0) i n (.p k) hp) k (.d d)).map fun s => (.next, s) := by kernel_rfl
theorem join_b50e : aeval T0 285 (argOf (stAt (bodyOf (jnB 5)) 0)) ⟨(fnP 9).sc, frz (stN L a (.p 0) (.app 0) i n fx hp)⟩ = asub (.list L) (.int i) := by kernel_rfl
theorem join_b51 : aexec T0 (fnP 9).sc ow noSpec 285 (stAt (bodyOf (jnB 5)) 1) (stN L a (.p 0) (.app 0) i n fx hp) = some (.next, stN L a (.p 0) (.app 0) (i + 1) n fx hp) := by kernel_rfl
theorem join_b6 (k : Nat) : aexec T0 (fnP 9).sc ow noSpec 287 (jnB 6) (stN L a (.p 0) (.app 0) i n (.p k) hp) = (evF T0 (fnP 9).sc 286 (rhsOf (jnB 6)) (stN L a (.p 0) (.app 0) i n (.p k) hp)).map fun d => (.next, stN L a (.p 0) (.app 0) i n (.d d) hp) := by kernel_rfl
theorem join_b6s (k : Nat) : aeval T0 286 (rhsOf (jnB 6)) ⟨(fnP 9).sc, frz (stN L a (.p 0) (.app 0) i n (.p k) hp)⟩ = none := by kernel_rfl
theorem join_b6w (x y z u v w : D) : aeval T0 286 (rhsOf (jnB 6)) ⟨(fnP 9).sc, [(Str.ofString "inp", x), (Str.ofString "STAR", y), (Str.ofString "res", z), (Str.ofString "i", u), (Str.ofString "n", v), (Str.ofString "fixed", w)]⟩ = ajoin (SS []) w := by kernel_rfl
theorem join_b7 (x : Str') : aexec T0 (fnP 9).sc ow noSpec 286 (jnB 7) (stN L a (.p 0) (.app 0) i n (.d (.str x)) hp) = bif (i == n) then aexecs T0 (fnP 9).sc ow noSpec 285 (bodyOf (jnB 7)) (stN L a (.p 0) (.app 0) i n (.d (.str x)) hp) else aexecs T0 (fnP 9).sc ow noSpec 285 (elseOf (jnB 7)) (stN L a (.p 0) (.app 0) i n (.d (.str x)) hp) := by kernel_rfl
theorem join_b7b : bodyOf (jnB 7) = [stAt (bodyOf (jnB 7)) 0, stAt (bodyOf (jnB 7)) 1] := by kernel_rfl
theorem join_b7c : elseOf (jnB 7) = [stAt (elseOf (jnB 7)) 0] := by kernel_rfl
theorem join_b70 : aexec T0 (fnP 9).sc ow noSpec 284 (stAt (bodyOf (jnB 7)) 0) (stN L a (.p 0) (.app 0) i n fx hp) = (appendTo (stN L a (.p 0) (.app 0) i n fx hp) 0 (.d (.str (SS [46, 42])))).map fun s => (.next, s) := by kernel_rfl
theorem join_b71 (x : Str') : aexec T0 (fnP 9).sc ow noSpec 283 (stAt (bodyOf (jnB 7)) 1) (stN L a (.p 0) (.app 0) i n (.d (.str x)) hp) = (appendTo (stN L a (.p 0) (.app 0) i n (.d (.str x)) hp) 0 (.d (.str x))).map fun s => (.next, s) := by kernel_rfl
theorem join_b7e (x : Str') : aexec T0 (fnP 9).sc ow noSpec 284 (stAt (elseOf (jnB 7)) 0) (stN L a (.p 0) (.app 0) i n (.d (.str x)) hp) = (evF T0 (fnP 9).sc 283 (argOf (stAt (elseOf (jnB 7)) 0)) (stN L a (.p 0) (.app 0) i n (.d (.str x)) hp)).bind fun d => (appendTo (stN L a (.p 0) (.app 0) i n (.d (.str x)) hp) 0 (.d d)).map fun s => (.next, s) := by kernel_rfl
theorem join_b7f (x : Str') : aeval T0 283 (argOf (stAt (elseOf (jnB 7)) 0)) ⟨(fnP 9).sc, frz (stN L a (.p 0) (.app 0) i n (.d (.str x)) hp)⟩ = ((addS (SS [40, 63, 62, 46, 42, 63]) x).bind fun a => ((addS a (SS [41])).bind fun a => some a)).map D.str := by kernel_rfl
theorem join_5 : aexec T0 (fnP 9).sc ow noSpec 294 (stAt (fnP 9).body 5) (stN L a (.p 0) (.app 0) i n fx hp) = bif (i == n) then some (.next, stN L a (.p 0) (.app 0) i n fx hp) else none := by kernel_rfl
theorem join_6 : aexec T0 (fnP 9).sc ow noSpec 293 (stAt (fnP 9).body 6) (stN L a (.p 0) (.app 0) i n fx hp) = (evF T0 (fnP 9).sc 292 (rhsOf (stAt (fnP 9).body 6)) (stN L a (.p 0) (.app 0) i n fx hp)).map fun d => (.next, stN L a (.d d) (.app 0) i n fx hp) := by kernel_rfl
theorem join_6su : aeval T0 292 (rhsOf (stAt (fnP 9).body 6)) ⟨(fnP 9).sc, frz (stN L a (.p 0) (.app 0) i n .un hp)⟩ = none := by kernel_rfl
theorem join_6sd (x : D) : aeval T0 292 (rhsOf (stAt (fnP 9).body 6)) ⟨(fnP 9).sc, frz (stN L a (.p 0) (.app 0) i n (.d x) hp)⟩ = none := by kernel_rfl
theorem join_6w (x y z : D) (q : Vars) : aeval T0 292 (rhsOf (stAt (fnP 9).body 6)) ⟨(fnP 9).sc, (Str.ofString "inp", x) :: (Str.ofString "STAR", y) :: (Str.ofString "res", z) :: q⟩ = ajoin (SS []) z := by kernel_rfl
theorem join_7 (x : Str') : aexec T0 (fnP 9).sc ow noSpec 292 (stAt (fnP 9).body 7) (stN L a (.d (.str x)) (.app 0) i n fx hp) = (((addS (SS [40, 63, 115, 58]) x).bind fun a => ((addS a (SS [41, 92, 90])).bind fun a => some a)).map D.str).map fun d => (.ret d, stN L a (.d (.str x)) (.app 0) i n fx hp) := by kernel_rfl
end
end Mine
namespace Mine
open PySem PySem.W PyProof.Rows PySem.SeqAt
noncomputable abbrev tD (l : List Nat) : V := .d (.str (SS l))
noncomputable abbrev strD (k : Tk) : D := .str (SS (part1 k))
noncomputable def lay (a : Addr) : List (List Tk) → List D
  | [] => []
  | s :: ss => .obj a :: (s.map strD ++ lay a ss)
theorem sub_at {L pre post : List D} {x : D} (h : L = pre ++ x :: post) : asub (.list L) (.int (pre.length : Nat)) = some x := asub_list (by rw [h]; simp)
theorem isnot_str {x : Str'} {a : Addr} : acmp .IsNot (.str x) (.obj a) = some true := rfl
theorem isnot_obj {a : Addr} : acmp .IsNot (.obj a) (.obj a) = some false := by
  show some (!(a == a)) = _
  rw [show (a == a) = true from beq_self_eq_true (α := Nat) a]; rfl
theorem is_obj {a : Addr} : acmp .Is (.obj a) (.obj a) = some true := by
  show (some (!(a == a))).map (!·) = _
  rw [show (a == a) = true from beq_self_eq_true (α := Nat) a]; rfl
noncomputable def Stop (a : Addr) (post : List D) : Prop := post = [] ∨ ∃ ps, post = .obj a :: ps
theorem stop_lay (a : Addr) (ss : List (List Tk)) : Stop a (lay a ss) := by
  cases ss with
  | nil => exact .inl rfl
  | cons s ss => exact .inr ⟨_, rfl⟩
theorem app_N {L : List D} {a : Addr} {res add fx v : V} {i n : Int} {l : List V} {hp : List (List V)} (h : l.length ≤ 900) : appendTo (stN L a res add i n fx (l :: hp)) 0 v = some (stN L a res add i n fx ((l ++ [v]) :: hp)) := by
  unfold stN; rw [append_to (k := 0) rfl (lim1000 (by lia))]; rfl
theorem app_last {L : List D} {a : Addr} {res add fx v : V} {i n : Int} {l : List V} {H : List (List V)} (h : l.length ≤ 900) : appendTo (stN L a res add i n fx (H ++ [l])) H.length v = some (stN L a res add i n fx (H ++ [l ++ [v]])) := by
  unfold stN; rw [append_to (k := H.length) (l := l) (by simp) (lim1000 (by lia))]; simp
theorem len_cast {L pre post : List D} {x : D} (h : L = pre ++ x :: post) : decide (((pre.length : Nat) : Int) < ((L.length : Nat) : Int)) = true := decide_eq_true (by rw [h]; simp; lia)
section
variable (L : List D) (a : Addr) (fx : V)
noncomputable abbrev jT1 : AS → Option Bool := trF T0 (fnP 9).sc 295 (rhsOf (stAt (fnP 9).body 3))
noncomputable abbrev jS1 : AS → Option (Fl × AS) := aexecs T0 (fnP 9).sc ow noSpec 295 [jnA 0, jnA 1]
theorem jn_front {post : List D} (hpost : Stop a post) : ∀ (ks : List Tk) (pre : List D), L = pre ++ (ks.map strD ++ post) → ∀ (ls : List (List Nat)) (junk : List (List V)), ls.length + ks.length ≤ 900 → ∀ m, 
    awhile jT1 jS1 (m + ks.length + 1) (stN L a (.p 0) (.app 0) (pre.length : Nat) (L.length : Nat) fx (ls.map tD :: junk)) = some (.next, stN L a (.p 0) (.app 0) ((pre.length + ks.length : Nat) : Int) (L.length : Nat) fx ((ls ++ ks.map part1).map tD :: junk))
  | [], pre, hL, ls, junk, hl, m => by
    have h := join_3e L a (pre.length : Nat) (L.length : Nat) fx (ls.map tD :: junk)
    have ht : jT1 (stN L a (.p 0) (.app 0) (pre.length : Nat) (L.length : Nat) fx (ls.map tD :: junk)) = some false := by
      rcases hpost with h0 | ⟨ps, h0⟩
      · subst h0
        rw [decide_eq_false (by rw [hL]; simp)] at h
        exact trF_strong (h.trans rfl)
      · subst h0
        rw [len_cast (show L = pre ++ D.obj a :: ps from hL), sub_at (show L = pre ++ D.obj a :: ps from hL)] at h
        simp only [Option.bind_some] at h
        rw [isnot_obj] at h
        exact trF_strong (h.trans rfl)
    have hh := aw_stop (S := jS1) (m := m) ht
    rw [show m + ([] : List Tk).length + 1 = m + 1 from rfl, hh]
    simp
  | k :: ks, pre, hL, ls, junk, hl, m => by
    simp only [List.length_cons] at hl
    have hL1 : L = pre ++ strD k :: (ks.map strD ++ post) := by simpa using hL
    have h := join_3e L a (pre.length : Nat) (L.length : Nat) fx (ls.map tD :: junk)
    rw [len_cast hL1, sub_at hL1] at h
    simp only [Option.bind_some] at h
    rw [isnot_str] at h
    have ht : jT1 (stN L a (.p 0) (.app 0) (pre.length : Nat) (L.length : Nat) fx (ls.map tD :: junk)) = some true := trF_strong (h.trans rfl)
    have a0 := join_a0 L a (pre.length : Nat) (L.length : Nat) fx (ls.map tD :: junk)
    rw [evF_strong ((join_a0e L a (pre.length : Nat) (L.length : Nat) fx (ls.map tD :: junk)).trans (sub_at hL1))] at a0
    simp only [Option.bind_some] at a0
    rw [app_N (by simp; lia)] at a0
    have a1 := join_a1 L a (pre.length : Nat) (L.length : Nat) fx ((ls.map tD ++ [.d (strD k)]) :: junk)
    have hs : jS1 (stN L a (.p 0) (.app 0) (pre.length : Nat) (L.length : Nat) fx (ls.map tD :: junk)) = some (.next, stN L a (.p 0) (.app 0) (((pre ++ [strD k]).length : Nat) : Int) (L.length : Nat) fx ((ls ++ [part1 k]).map tD :: junk)) := by
      have e : ((pre.length : Nat) : Int) + 1 = (((pre ++ [strD k]).length : Nat) : Int) := by simp
      rw [e] at a1
      have e2 : ls.map tD ++ [V.d (strD k)] = (ls ++ [part1 k]).map tD := by simp
      rw [e2] at a0 a1
      exact (ex_next a0).trans ((ex_next a1).trans ex_nil)
    rw [show m + (k :: ks).length + 1 = (m + ks.length + 1) + 1 by simp; lia, aw_step ht hs]
    rw [jn_front hpost ks (pre ++ [strD k]) (by simpa using hL) (ls ++ [part1 k]) junk (by simp; lia) m]
    have e3 : (((pre ++ [strD k]).length + ks.length : Nat) : Int) = ((pre.length + (k :: ks).length : Nat) : Int) := by simp; lia
    rw [e3, List.map_cons, List.append_assoc]
    rfl
noncomputable abbrev jT2 : AS → Option Bool := trF T0 (fnP 9).sc 287 (rhsOf (jnB 5))
noncomputable abbrev jS2 : AS → Option (Fl × AS) := aexecs T0 (fnP 9).sc ow noSpec 287 [stAt (bodyOf (jnB 5)) 0, stAt (bodyOf (jnB 5)) 1]
theorem jn_in {post : List D} (hpost : Stop a post) : ∀ (ks : List Tk) (pre : List D), L = pre ++ (ks.map strD ++ post) → ∀ (fs : List (List Nat)) (H : List (List V)), fs.length + ks.length ≤ 900 → ∀ m, 
    awhile jT2 jS2 (m + ks.length + 1) (stN L a (.p 0) (.app 0) (pre.length : Nat) (L.length : Nat) (.p H.length) (H ++ [fs.map tD])) = some (.next, stN L a (.p 0) (.app 0) ((pre.length + ks.length : Nat) : Int) (L.length : Nat) (.p H.length) (H ++ [(fs ++ ks.map part1).map tD]))
  | [], pre, hL, fs, H, hl, m => by
    have h := join_b5e L a (pre.length : Nat) (L.length : Nat) (.p H.length) (H ++ [fs.map tD])
    have ht : jT2 (stN L a (.p 0) (.app 0) (pre.length : Nat) (L.length : Nat) (.p H.length) (H ++ [fs.map tD])) = some false := by
      rcases hpost with h0 | ⟨ps, h0⟩
      · subst h0
        rw [decide_eq_false (by rw [hL]; simp)] at h
        exact trF_strong (h.trans rfl)
      · subst h0
        rw [len_cast (show L = pre ++ D.obj a :: ps from hL), sub_at (show L = pre ++ D.obj a :: ps from hL)] at h
        simp only [Option.bind_some] at h
        rw [isnot_obj] at h
        exact trF_strong (h.trans rfl)
    have hh := aw_stop (S := jS2) (m := m) ht
    rw [show m + ([] : List Tk).length + 1 = m + 1 from rfl, hh]
    simp
  | k :: ks, pre, hL, fs, H, hl, m => by
    simp only [List.length_cons] at hl
    have hL1 : L = pre ++ strD k :: (ks.map strD ++ post) := by simpa using hL
    have h := join_b5e L a (pre.length : Nat) (L.length : Nat) (.p H.length) (H ++ [fs.map tD])
    rw [len_cast hL1, sub_at hL1] at h
    simp only [Option.bind_some] at h
    rw [isnot_str] at h
    have ht : jT2 (stN L a (.p 0) (.app 0) (pre.length : Nat) (L.length : Nat) (.p H.length) (H ++ [fs.map tD])) = some true := trF_strong (h.trans rfl)
    have a0 := join_b50 L a (pre.length : Nat) (L.length : Nat) (H ++ [fs.map tD]) H.length
    rw [evF_strong ((join_b50e L a (pre.length : Nat) (L.length : Nat) (.p H.length) (H ++ [fs.map tD])).trans (sub_at hL1))] at a0
    simp only [Option.bind_some] at a0
    rw [app_last (by simp; lia)] at a0
    have a1 := join_b51 L a (pre.length : Nat) (L.length : Nat) (.p H.length) (H ++ [fs.map tD ++ [.d (strD k)]])
    have hs : jS2 (stN L a (.p 0) (.app 0) (pre.length : Nat) (L.length : Nat) (.p H.length) (H ++ [fs.map tD])) = some (.next, stN L a (.p 0) (.app 0) (((pre ++ [strD k]).length : Nat) : Int) (L.length : Nat) (.p H.length) (H ++ [(fs ++ [part1 k]).map tD])) := by
      have e : ((pre.length : Nat) : Int) + 1 = (((pre ++ [strD k]).length : Nat) : Int) := by simp
      rw [e] at a1
      have e2 : fs.map tD ++ [V.d (strD k)] = (fs ++ [part1 k]).map tD := by simp
      rw [e2] at a0 a1
      exact (ex_next a0).trans ((ex_next a1).trans ex_nil)
    rw [show m + (k :: ks).length + 1 = (m + ks.length + 1) + 1 by simp; lia, aw_step ht hs]
    rw [jn_in hpost ks (pre ++ [strD k]) (by simpa using hL) (fs ++ [part1 k]) H (by simp; lia) m]
    have e3 : (((pre ++ [strD k]).length + ks.length : Nat) : Int) = ((pre.length + (k :: ks).length : Nat) : Int) := by simp; lia
    rw [e3, List.map_cons, List.append_assoc]
    rfl
end
end Mine
namespace Mine
open PySem PySem.W PyProof.Rows PySem.SeqAt
theorem aw_brk {T : AS → Option Bool} {S : AS → Option (Fl × AS)} {m : Nat} {s s' : AS} (hT : T s = some true) (hS : S s = some (.brk, s')) : awhile T S (m + 1) s = some (.next, s') := by
  dsimp only [awhile]; rw [hT]; dsimp only [Option.bind_some, cond_true]; rw [hS]; rfl
theorem tD_list (ls : List (List Nat)) : ls.map tD = (ls.map fun l => D.str (SS l)).map V.d := by rw [List.map_map]; rfl
theorem flat_map (s : List Tk) : (s.map part1).flatten = s.flatMap part1 := by rw [List.flatMap_def]
noncomputable def FX (fx : V) : Prop := fx = .un ∨ ∃ x, fx = .d x
theorem addS_ss {a b : List Nat} (h : a.length + b.length ≤ 1000) : addS (SS a) (SS b) = some (SS (a ++ b)) := by
  unfold addS
  rw [ss_len, ss_len, decide_eq_true (lim1000' h), ss_append]; rfl
section
variable (L : List D) (a : Addr)
noncomputable abbrev jT3 : AS → Option Bool := trF T0 (fnP 9).sc 294 (rhsOf (stAt (fnP 9).body 4))
noncomputable abbrev jS3 : AS → Option (Fl × AS) := aexecs T0 (fnP 9).sc ow noSpec 294 [jnB 0, jnB 1, jnB 2, jnB 3, jnB 4, jnB 5, jnB 6, jnB 7]
theorem jn_head {pre post : List D} (hL : L = pre ++ .obj a :: post) (fx : V) (hp : List (List V)) :
    jS3 (stN L a (.p 0) (.app 0) (pre.length : Nat) (L.length : Nat) fx hp) = aexecs T0 (fnP 9).sc ow noSpec 292 [jnB 2, jnB 3, jnB 4, jnB 5, jnB 6, jnB 7] (stN L a (.p 0) (.app 0) (((pre ++ [D.obj a]).length : Nat) : Int) (L.length : Nat) fx hp) := by
  have b0 := join_b0 L a (pre.length : Nat) (L.length : Nat) fx hp
  have e0 := join_b0e L a (pre.length : Nat) (L.length : Nat) fx hp
  rw [sub_at hL] at e0
  dsimp only [Option.bind_some] at e0
  rw [is_obj] at e0
  rw [trF_strong (e0.trans rfl)] at b0
  have b1 := join_b1 L a (pre.length : Nat) (L.length : Nat) fx hp
  have e : ((pre.length : Nat) : Int) + 1 = (((pre ++ [D.obj a]).length : Nat) : Int) := by simp
  rw [e] at b1
  exact (ex_next b0).trans (ex_next b1)
theorem jn_seg {pre post : List D} {s : List Tk} (hs : s ≠ []) (hL : L = pre ++ .obj a :: (s.map strD ++ post)) (hpost : Stop a post) (fx : V) (ls : List (List Nat)) (junk : List (List V)) (hl : ls.length ≤ 900) (hsl : s.length ≤ 280) (hfl : (s.flatMap part1).length ≤ 900) :
    ∃ junk', jS3 (stN L a (.p 0) (.app 0) (pre.length : Nat) (L.length : Nat) fx (ls.map tD :: junk)) = aexecs T0 (fnP 9).sc ow noSpec 287 [jnB 7] (stN L a (.p 0) (.app 0) ((pre.length + 1 + s.length : Nat) : Int) (L.length : Nat) (.d (.str (SS (s.flatMap part1)))) (ls.map tD :: junk')) := by
  refine ⟨junk ++ [(([] : List (List Nat)) ++ s.map part1).map tD], ?_⟩
  rw [jn_head L a hL]
  obtain ⟨k, s', rfl⟩ : ∃ k s', s = k :: s' := by
    cases s with
    | nil => exact absurd rfl hs
    | cons k s' => exact ⟨k, s', rfl⟩
  have hL1 : L = (pre ++ [D.obj a]) ++ strD k :: (s'.map strD ++ post) := by rw [hL]; simp
  have hL2 : L = (pre ++ [D.obj a]) ++ ((k :: s').map strD ++ post) := by rw [hL]; simp
  have b2 := join_b2 L a ((pre ++ [D.obj a]).length : Nat) (L.length : Nat) fx (ls.map tD :: junk)
  have hne : ((((pre ++ [D.obj a]).length : Nat) : Int) == ((L.length : Nat) : Int)) = false := beq_eq_false_iff_ne.mpr (by rw [hL1]; simp; lia)
  rw [hne] at b2
  have b3 := join_b3 L a ((pre ++ [D.obj a]).length : Nat) (L.length : Nat) fx (ls.map tD :: junk)
  have e3 := join_b3e L a ((pre ++ [D.obj a]).length : Nat) (L.length : Nat) fx (ls.map tD :: junk)
  rw [sub_at hL1] at e3
  dsimp only [Option.bind_some] at e3
  rw [isnot_str] at e3
  rw [trF_strong (e3.trans rfl)] at b3
  have b4 := join_b4 L a ((pre ++ [D.obj a]).length : Nat) (L.length : Nat) fx (ls.map tD :: junk)
  have b5 := join_b5 L a ((pre ++ [D.obj a]).length : Nat) (L.length : Nat) (.p (ls.map tD :: junk).length) ((ls.map tD :: junk) ++ [([] : List (List Nat)).map tD])
  have i5 := jn_in L a hpost (k :: s') (pre ++ [D.obj a]) hL2 [] (ls.map tD :: junk) (by simp at hsl ⊢; lia) (286 - (k :: s').length)
  rw [show 286 - (k :: s').length + (k :: s').length + 1 = 287 by lia] at i5
  have b5' := b5.trans i5
  have b6 := join_b6 L a (((pre ++ [D.obj a]).length + (k :: s').length : Nat) : Int) (L.length : Nat) ((ls.map tD :: junk) ++ [(([] : List (List Nat)) ++ (k :: s').map part1).map tD]) (ls.map tD :: junk).length
  have hwk : wk (stN L a (.p 0) (.app 0) (((pre ++ [D.obj a]).length + (k :: s').length : Nat) : Int) (L.length : Nat) (.p (ls.map tD :: junk).length) ((ls.map tD :: junk) ++ [(([] : List (List Nat)) ++ (k :: s').map part1).map tD])) =
      [(Str.ofString "inp", .list L), (Str.ofString "STAR", .obj a), (Str.ofString "res", .list (ls.map fun l => .str (SS l))), (Str.ofString "i", .int (((pre ++ [D.obj a]).length + (k :: s').length : Nat) : Int)), (Str.ofString "n", .int (L.length : Nat)), (Str.ofString "fixed", .list (((k :: s').map part1).map fun l => .str (SS l)))] :=
    wk_d.trans (congrArg _ (wk_d.trans (congrArg _ ((wk_p (l := ls.map fun l => .str (SS l)) (by rw [← tD_list]; rfl) (lim1000' (by simp; lia))).trans (congrArg _ (wk_app.trans (wk_d.trans (congrArg _ (wk_d.trans (congrArg _ ((wk_p (l := ((k :: s').map part1).map fun l => .str (SS l)) (by rw [← tD_list]; simp) (lim1000' (by simp at hsl ⊢; lia))).trans rfl)))))))))))
  have w6 : evF T0 (fnP 9).sc 286 (rhsOf (jnB 6)) (stN L a (.p 0) (.app 0) (((pre ++ [D.obj a]).length + (k :: s').length : Nat) : Int) (L.length : Nat) (.p (ls.map tD :: junk).length) ((ls.map tD :: junk) ++ [(([] : List (List Nat)) ++ (k :: s').map part1).map tD])) = some (.str (SS ((k :: s').flatMap part1))) := by
    refine evF_weak (join_b6s L a _ _ _ _) ?_ rfl
    rw [hwk, join_b6w, ajoin_ss _ (by rw [flat_map]; lia), flat_map]
  rw [w6] at b6
  have e6 : (((pre ++ [D.obj a]).length + (k :: s').length : Nat) : Int) = ((pre.length + 1 + (k :: s').length : Nat) : Int) := by simp
  rw [e6] at b6 b5'
  exact (ex_next b2).trans ((ex_next b3).trans ((ex_next b4).trans ((ex_next b5').trans (ex_next b6))))
theorem jn_grp : ∀ (rest : List (List Tk)) (pre : List D), L = pre ++ lay a rest → (∀ s ∈ rest.dropLast, s ≠ []) → (∀ s ∈ rest, s.length ≤ 280 ∧ (s.flatMap part1).length ≤ 900) → ∀ (fx : V) (ls : List (List Nat)) (junk : List (List V)), FX fx → ls.length + 2 * rest.length ≤ 900 → ∀ m, rest.length ≤ m →
    ∃ (ls' : List (List Nat)) (junk' : List (List V)) (fx' : V), FX fx' ∧ awhile jT3 jS3 (m + 1) (stN L a (.p 0) (.app 0) (pre.length : Nat) (L.length : Nat) fx (ls.map tD :: junk)) = some (.next, stN L a (.p 0) (.app 0) (L.length : Nat) (L.length : Nat) fx' (ls'.map tD :: junk')) ∧ ls'.flatten = ls.flatten ++ grp rest ∧ ls'.length ≤ ls.length + 2 * rest.length
  | [], pre, hL, _, _, fx, ls, junk, hfx, hl, m, hm => by
    have e : pre.length = L.length := by rw [hL]; simp [lay]
    refine ⟨ls, junk, fx, hfx, ?_, by simp [grp], by simp⟩
    rw [e]
    refine aw_stop ?_
    have := join_4e L a (L.length : Nat) (L.length : Nat) fx (ls.map tD :: junk)
    rw [decide_eq_false (by lia)] at this
    exact this
  | [s], pre, hL, hd, hz, fx, ls, junk, hfx, hl, m, hm => by
    have hL0 : L = pre ++ .obj a :: (s.map strD ++ []) := by rw [hL]; rfl
    have ht : jT3 (stN L a (.p 0) (.app 0) (pre.length : Nat) (L.length : Nat) fx (ls.map tD :: junk)) = some true := by
      have := join_4e L a (pre.length : Nat) (L.length : Nat) fx (ls.map tD :: junk)
      rw [len_cast hL0] at this
      exact this
    dsimp only [List.length_cons, List.length_nil] at hl hm
    by_cases hs : s = []
    · subst hs
      have hlen : (((pre ++ [D.obj a]).length : Nat) : Int) = ((L.length : Nat) : Int) := by rw [hL0]; simp
      have h1 := jn_head L a hL0 fx (ls.map tD :: junk)
      rw [hlen] at h1
      have b2 := join_b2 L a (L.length : Nat) (L.length : Nat) fx (ls.map tD :: junk)
      rw [beq_self_eq_true] at b2
      have b20 := join_b20 L a (L.length : Nat) (L.length : Nat) fx (ls.map tD :: junk)
      rw [app_N (by simp; lia)] at b20
      have b21 := join_b21 L a (L.length : Nat) (L.length : Nat) fx ((ls.map tD ++ [.d (.str (SS [46, 42]))]) :: junk)
      refine ⟨ls ++ [[46, 42]], junk, fx, hfx, ?_, by simp [grp], by simp⟩
      refine aw_brk ht ?_
      rw [h1]
      refine ex_brk (b2.trans ?_)
      rw [join_b2b]
      refine (ex_next b20).trans ((ex_brk b21).trans ?_)
      simp
    · refine x0_2 (hz s List.mem_cons_self) fun z1 z2 => ?_
      refine x1_1 (jn_seg L a hs hL0 (.inl rfl) fx ls junk (by lia) z1 z2) fun junk' h1 => ?_
      have hlen : ((pre.length + 1 + s.length : Nat) : Int) = ((L.length : Nat) : Int) := by rw [hL0]; simp; lia
      rw [hlen] at h1
      have b7 := join_b7 L a (L.length : Nat) (L.length : Nat) (ls.map tD :: junk') (SS (s.flatMap part1))
      rw [beq_self_eq_true] at b7
      have b70 := join_b70 L a (L.length : Nat) (L.length : Nat) (.d (.str (SS (s.flatMap part1)))) (ls.map tD :: junk')
      rw [app_N (by simp; lia)] at b70
      have b71 := join_b71 L a (L.length : Nat) (L.length : Nat) ((ls.map tD ++ [.d (.str (SS [46, 42]))]) :: junk') (SS (s.flatMap part1))
      rw [app_N (by simp; lia)] at b71
      refine ⟨ls ++ [[46, 42]] ++ [s.flatMap part1], junk', .d (.str (SS (s.flatMap part1))), .inr ⟨_, rfl⟩, ?_, by simp [grp], by simp⟩
      obtain ⟨m', rfl⟩ : ∃ m', m = m' + 1 := ⟨m - 1, by lia⟩
      have hst : jS3 (stN L a (.p 0) (.app 0) (pre.length : Nat) (L.length : Nat) fx (ls.map tD :: junk)) = some (.next, stN L a (.p 0) (.app 0) (L.length : Nat) (L.length : Nat) (.d (.str (SS (s.flatMap part1)))) ((ls ++ [[46, 42]] ++ [s.flatMap part1]).map tD :: junk')) := by
        rw [h1]
        refine (ex_next (b7.trans ?_)).trans ex_nil
        rw [join_b7b]
        refine (ex_next b70).trans ((ex_next b71).trans (ex_nil.trans ?_))
        simp
      rw [aw_step ht hst]
      refine aw_stop ?_
      have := join_4e L a (L.length : Nat) (L.length : Nat) (.d (.str (SS (s.flatMap part1)))) ((ls ++ [[46, 42]] ++ [s.flatMap part1]).map tD :: junk')
      rw [decide_eq_false (by lia)] at this
      exact this
  | s :: u :: ss, pre, hL, hd, hz, fx, ls, junk, hfx, hl, m, hm => by
    have hL0 : L = pre ++ .obj a :: (s.map strD ++ lay a (u :: ss)) := by rw [hL]; rfl
    have ht : jT3 (stN L a (.p 0) (.app 0) (pre.length : Nat) (L.length : Nat) fx (ls.map tD :: junk)) = some true := by
      have := join_4e L a (pre.length : Nat) (L.length : Nat) fx (ls.map tD :: junk)
      rw [len_cast hL0] at this
      exact this
    have hs : s ≠ [] := hd s (by simp)
    dsimp only [List.length_cons] at hl hm
    refine x0_2 (hz s List.mem_cons_self) fun z1 z2 => ?_
    refine x1_1 (jn_seg L a hs hL0 (stop_lay a _) fx ls junk (by lia) z1 z2) fun junk' h1 => ?_
    have hpre : ((pre.length + 1 + s.length : Nat) : Int) = (((pre ++ .obj a :: s.map strD).length : Nat) : Int) := by simp; lia
    rw [hpre] at h1
    have hL3 : L = (pre ++ .obj a :: s.map strD) ++ lay a (u :: ss) := by rw [hL0]; simp
    have b7 := join_b7 L a ((pre ++ .obj a :: s.map strD).length : Nat) (L.length : Nat) (ls.map tD :: junk') (SS (s.flatMap part1))
    have hne : ((((pre ++ .obj a :: s.map strD).length : Nat) : Int) == ((L.length : Nat) : Int)) = false := beq_eq_false_iff_ne.mpr (by
      have : L.length = (pre ++ .obj a :: s.map strD).length + (lay a (u :: ss)).length := by rw [← List.length_append, ← hL3]
      have h2 : (lay a (u :: ss)).length ≠ 0 := by simp [lay]
      lia)
    rw [hne] at b7
    have b7e := join_b7e L a ((pre ++ .obj a :: s.map strD).length : Nat) (L.length : Nat) (ls.map tD :: junk') (SS (s.flatMap part1))
    have f7 := join_b7f L a ((pre ++ .obj a :: s.map strD).length : Nat) (L.length : Nat) (ls.map tD :: junk') (SS (s.flatMap part1))
    rw [addS_ss (by rw [show ([40, 63, 62, 46, 42, 63] : List Nat).length = 6 from rfl]; lia)] at f7
    dsimp only [Option.bind_some] at f7
    rw [addS_ss (by rw [List.length_append, show ([40, 63, 62, 46, 42, 63] : List Nat).length = 6 from rfl, show ([41] : List Nat).length = 1 from rfl]; lia)] at f7
    rw [evF_strong (f7.trans rfl)] at b7e
    dsimp only [Option.bind_some] at b7e
    rw [app_N (by simp; lia)] at b7e
    have hst : jS3 (stN L a (.p 0) (.app 0) (pre.length : Nat) (L.length : Nat) fx (ls.map tD :: junk)) = some (.next, stN L a (.p 0) (.app 0) ((pre ++ .obj a :: s.map strD).length : Nat) (L.length : Nat) (.d (.str (SS (s.flatMap part1)))) ((ls ++ [[40, 63, 62, 46, 42, 63] ++ s.flatMap part1 ++ [41]]).map tD :: junk')) := by
      rw [h1]
      refine (ex_next (b7.trans ?_)).trans ex_nil
      rw [join_b7c]
      refine (ex_next b7e).trans (ex_nil.trans ?_)
      simp
    obtain ⟨m', rfl⟩ : ∃ m', m = m' + 1 := ⟨m - 1, by lia⟩
    refine x3_4 (jn_grp (u :: ss) (pre ++ .obj a :: s.map strD) hL3 (fun v hv => hd v (by rw [List.dropLast_cons_of_ne_nil (by simp)]; exact List.mem_cons_of_mem _ hv)) (fun v hv => hz v (List.mem_cons_of_mem _ hv)) (.d (.str (SS (s.flatMap part1)))) (ls ++ [[40, 63, 62, 46, 42, 63] ++ s.flatMap part1 ++ [41]]) junk' (.inr ⟨_, rfl⟩) (by simp; lia) m' (by simp; lia)) fun ls' junk2 fx' g1 g2 g3 g4 => ?_
    refine ⟨ls', junk2, fx', g1, ?_, ?_, ?_⟩
    · rw [aw_step ht hst, g2]
    · rw [g3]; simp [grp]
    · simp at g4 ⊢; lia
end
end Mine
namespace Mine
open PySem PySem.W PyProof.Rows PySem.SeqAt
theorem flat_le {s : List Tk} {rest : List (List Tk)} (h : s ∈ rest) : (s.flatMap part1).length ≤ (grp rest).length := by
  induction rest with
  | nil => cases h
  | cons u us ih =>
    cases us with
    | nil =>
      have : s = u := by simpa using h
      subst this
      simp only [grp, List.length_append]; lia
    | cons v vs =>
      rcases List.mem_cons.mp h with h | h
      · subst h; simp only [grp, List.length_append, List.length_cons]; lia
      · have := ih h; simp only [grp, List.length_append, List.length_cons] at this ⊢; lia
theorem join_run (a : Addr) (r0 : List Tk) (rest : List (List Tk)) (hd : ∀ s ∈ rest.dropLast, s ≠ []) (hz : ∀ s ∈ r0 :: rest, s.length ≤ 200) (hl : rest.length ≤ 200) (ho : (outT (r0 :: rest)).length ≤ 900) :
    runF T0 noSpec 9 [.list (r0.map strD ++ lay a rest), .obj a] = some (.str (SS (regT (r0 :: rest)))) := by
  have hg : ∀ L, giveArgs (fnP 9).ps [.list L, .obj a] ⟨startVars (fnP 9).sc, []⟩ = some ⟨[(Str.ofString "inp", .d (.list L)), (Str.ofString "STAR", .d (.obj a)), (Str.ofString "res", .un), (Str.ofString "add", .un), (Str.ofString "i", .un), (Str.ofString "n", .un), (Str.ofString "fixed", .un)], []⟩ := by intro L; kernel_rfl
  refine run_of' (hg _) ?_
  generalize hL : r0.map strD ++ lay a rest = L
  have hz0 := hz r0 List.mem_cons_self
  have ho' : (outT (r0 :: rest)).length = (r0.flatMap part1).length + (grp rest).length := by unfold outT; rw [List.length_append]
  have h3 := join_3 L a (([] : List D).length : Nat) (L.length : Nat) .un [[]]
  have f3 := jn_front L a .un (stop_lay a rest) r0 [] (by rw [← hL]; rfl) [] [] (by rw [List.length_nil]; lia) (294 - r0.length)
  rw [show 294 - r0.length + r0.length + 1 = 295 by lia] at f3
  have h3' := h3.trans f3
  have h4 := join_4 L a ((([] : List D).length + r0.length : Nat) : Int) (L.length : Nat) .un [(([] : List (List Nat)) ++ r0.map part1).map tD]
  have hpre : ((([] : List D).length + r0.length : Nat) : Int) = (((r0.map strD).length : Nat) : Int) := by simp
  refine x3_4 (jn_grp L a rest (r0.map strD) hL.symm hd (fun s hs => ⟨by have := hz s (List.mem_cons_of_mem _ hs); lia, by have := flat_le hs; lia⟩) .un (([] : List (List Nat)) ++ r0.map part1) [] (.inl rfl) (by simp; lia) 293 (by lia)) fun ls junk fx g1 g2 g3 g4 => ?_
  rw [hpre] at h4 h3'
  have h4' := h4.trans g2
  have h5 := join_5 L a (L.length : Nat) (L.length : Nat) fx (ls.map tD :: junk)
  rw [beq_self_eq_true] at h5
  have h6 := join_6 L a (L.length : Nat) (L.length : Nat) fx (ls.map tD :: junk)
  have hflat : ls.flatten = outT (r0 :: rest) := by rw [g3, List.nil_append, flat_map]; rfl
  have hlen : ls.length ≤ 700 := by simp at g4; lia
  have hwk : ∃ q, wk (stN L a (.p 0) (.app 0) (L.length : Nat) (L.length : Nat) fx (ls.map tD :: junk)) = (Str.ofString "inp", .list L) :: (Str.ofString "STAR", .obj a) :: (Str.ofString "res", .list (ls.map fun l => .str (SS l))) :: q :=
    ⟨_, wk_d.trans (congrArg _ (wk_d.trans (congrArg _ (wk_p (l := ls.map fun l => .str (SS l)) (by rw [← tD_list]; rfl) (lim1000' (by simp; lia))))))⟩
  refine x1_1 hwk fun q hq => ?_
  have w6 : evF T0 (fnP 9).sc 292 (rhsOf (stAt (fnP 9).body 6)) (stN L a (.p 0) (.app 0) (L.length : Nat) (L.length : Nat) fx (ls.map tD :: junk)) = some (.str (SS (outT (r0 :: rest)))) := by
    refine evF_weak ?_ ?_ rfl
    · rcases g1 with rfl | ⟨x, rfl⟩
      · exact join_6su L a _ _ _
      · exact join_6sd L a _ _ _ x
    · rw [hq, join_6w, ajoin_ss _ (by rw [hflat]; lia), hflat]
  rw [w6] at h6
  have h7 := join_7 L a (L.length : Nat) (L.length : Nat) fx (ls.map tD :: junk) (SS (outT (r0 :: rest)))
  rw [addS_ss (by rw [show ([40, 63, 115, 58] : List Nat).length = 4 from rfl]; lia)] at h7
  simp only [Option.bind_some] at h7
  rw [addS_ss (by rw [List.length_append, show ([40, 63, 115, 58] : List Nat).length = 4 from rfl, show ([41, 92, 90] : List Nat).length = 3 from rfl]; lia)] at h7
  have hre : [40, 63, 115, 58] ++ outT (r0 :: rest) ++ [41, 92, 90] = regT (r0 :: rest) := by simp [regT]
  rw [hre] at h7
  refine ⟨_, (join_012 L a).trans ((ex_next h3').trans ((ex_next h4').trans ((ex_next h5).trans ((ex_next h6).trans (ex_ret h7)))))⟩
end Mine
namespace Mine
open PySem PySem.W PyProof.Rows PySem.SeqAt
noncomputable def stX (P : Str') (a : Addr) (i n : Int) (c j stuff chunks k chunk : V) (hp : List (List V)) : AS :=
  ⟨[(Str.ofString "pat", .d (.str P)), (Str.ofString "STAR", .d (.obj a)), (Str.ofString "QUESTION_MARK", .d (.str (SS [46]))), (Str.ofString "res", .p 0), (Str.ofString "add", .app 0), (Str.ofString "i", .d (.int i)), (Str.ofString "n", .d (.int n)), (Str.ofString "c", c), (Str.ofString "j", j), (Str.ofString "stuff", stuff), (Str.ofString "chunks", chunks), (Str.ofString "k", k), (Str.ofString "chunk", chunk)], hp⟩
noncomputable abbrev xc : Scope := (fnP 8).sc
noncomputable abbrev xs : Spec := specT (fnP 8).sc
noncomputable def trW (k : Nat) : Stmt := stAt (bodyOf (stAt (fnP 8).body 3)) k
noncomputable def tr1 : Stmt := stAt (elseOf (trW 2)) 0
noncomputable def tr2 : Stmt := stAt (elseOf tr1) 0
noncomputable def trS (k : Nat) : Stmt := stAt (bodyOf tr2) k
noncomputable def trE (k : Nat) : Stmt := stAt (elseOf (trS 4)) k
noncomputable def trF' (k : Nat) : Stmt := stAt (elseOf (trE 1)) k
noncomputable def trL (k : Nat) : Stmt := stAt (bodyOf (trF' 2)) k
section
variable (e p f r : List D → Option D) (P : Str') (a : Addr) (i n : Int) (c j stuff chunks k chunk : V) (hp : List (List V))
theorem tr_012 : aexecs (T1x e p f r) xc ow xs 300 (fnP 8).body ⟨[(Str.ofString "pat", .d (.str P)), (Str.ofString "STAR", .d (.obj a)), (Str.ofString "QUESTION_MARK", .d (.str (SS [46]))), (Str.ofString "res", .un), (Str.ofString "add", .un), (Str.ofString "i", .un), (Str.ofString "n", .un), (Str.ofString "c", .un), (Str.ofString "j", .un), (Str.ofString "stuff", .un), (Str.ofString "chunks", .un), (Str.ofString "k", .un), (Str.ofString "chunk", .un)], []⟩ =
    aexecs (T1x e p f r) xc ow xs 297 [stAt (fnP 8).body 3, stAt (fnP 8).body 4, stAt (fnP 8).body 5] (stX P a 0 P.length .un .un .un .un .un .un [[]]) := by kernel_rfl
theorem tr_3 : aexec (T1x e p f r) xc ow xs 296 (stAt (fnP 8).body 3) (stX P a i n c j stuff chunks k chunk hp) = awhile (trF (T1x e p f r) xc 295 (rhsOf (stAt (fnP 8).body 3))) (aexecs (T1x e p f r) xc ow xs 295 [trW 0, trW 1, trW 2]) 295 (stX P a i n c j stuff chunks k chunk hp) := by kernel_rfl
theorem tr_3e : trF (T1x e p f r) xc 295 (rhsOf (stAt (fnP 8).body 3)) (stX P a i n c j stuff chunks k chunk hp) = some (decide (i < n)) := by kernel_rfl
theorem tr_4 : aexec (T1x e p f r) xc ow xs 295 (stAt (fnP 8).body 4) (stX P a i n c j stuff chunks k chunk hp) = bif (i == n) then some (.next, stX P a i n c j stuff chunks k chunk hp) else none := by kernel_rfl
theorem tr_5 : aexec (T1x e p f r) xc ow xs 294 (stAt (fnP 8).body 5) (stX P a i n c j stuff chunks k chunk hp) = (aeval (T1x e p f r) 293 (rhsOf (stAt (fnP 8).body 5)) ⟨xc, wk (stX P a i n c j stuff chunks k chunk hp)⟩).map fun d => (.ret d, stX P a i n c j stuff chunks k chunk hp) := by kernel_rfl
theorem tr_5e (x y z w : D) (q : Vars) : aeval (T1x e p f r) 293 (rhsOf (stAt (fnP 8).body 5)) ⟨xc, (Str.ofString "pat", x) :: (Str.ofString "STAR", y) :: (Str.ofString "QUESTION_MARK", z) :: (Str.ofString "res", w) :: q⟩ = some w := by kernel_rfl
theorem tr_w0 : aexec (T1x e p f r) xc ow xs 294 (trW 0) (stX P a i n c j stuff chunks k chunk hp) = (evF (T1x e p f r) xc 293 (rhsOf (trW 0)) (stX P a i n c j stuff chunks k chunk hp)).map fun d => (.next, stX P a i n (.d d) j stuff chunks k chunk hp) := by kernel_rfl
theorem tr_w0e : aeval (T1x e p f r) 293 (rhsOf (trW 0)) ⟨xc, frz (stX P a i n c j stuff chunks k chunk hp)⟩ = asub (.str P) (.int i) := by kernel_rfl
theorem tr_w1 : aexec (T1x e p f r) xc ow xs 293 (trW 1) (stX P a i n c j stuff chunks k chunk hp) = some (.next, stX P a (i + 1) n c j stuff chunks k chunk hp) := by kernel_rfl
theorem tr_w2 (x : Str') : aexec (T1x e p f r) xc ow xs 292 (trW 2) (stX P a i n (.d (.str x)) j stuff chunks k chunk hp) = bif (x == SS [42]) then aexecs (T1x e p f r) xc ow xs 291 [stAt (bodyOf (trW 2)) 0] (stX P a i n (.d (.str x)) j stuff chunks k chunk hp) else aexecs (T1x e p f r) xc ow xs 291 [tr1] (stX P a i n (.d (.str x)) j stuff chunks k chunk hp) := by kernel_rfl
theorem tr_s (x : Str') : aexec (T1x e p f r) xc ow xs 290 (stAt (bodyOf (trW 2)) 0) (stX P a i n (.d (.str x)) j stuff chunks k chunk hp) = (trF (T1x e p f r) xc 289 (rhsOf (stAt (bodyOf (trW 2)) 0)) (stX P a i n (.d (.str x)) j stuff chunks k chunk hp)).bind fun q => bif q then aexecs (T1x e p f r) xc ow xs 289 [stAt (bodyOf (stAt (bodyOf (trW 2)) 0)) 0] (stX P a i n (.d (.str x)) j stuff chunks k chunk hp) else some (.next, stX P a i n (.d (.str x)) j stuff chunks k chunk hp) := by kernel_rfl
theorem tr_s0u (x : D) : atrue (T1x e p f r) 289 (rhsOf (stAt (bodyOf (trW 2)) 0)) ⟨xc, frz (stX P a i n (.d x) .un .un .un .un .un hp)⟩ = none := by kernel_rfl
theorem tr_s0d (x y z u v : D) (m : Nat) : atrue (T1x e p f r) 289 (rhsOf (stAt (bodyOf (trW 2)) 0)) ⟨xc, frz (stX P a i n (.d x) (.d y) (.d z) (.p m) (.d u) (.d v) hp)⟩ = none := by kernel_rfl
theorem tr_s0w (x z : D) (l : List D) (q : Vars) : atrue (T1x e p f r) 289 (rhsOf (stAt (bodyOf (trW 2)) 0)) ⟨xc, (Str.ofString "pat", x) :: (Str.ofString "STAR", .obj a) :: (Str.ofString "QUESTION_MARK", z) :: (Str.ofString "res", .list l) :: q⟩ =
    bif !(!l.isEmpty) then some true else ((((asub (.list l) (.int (-1))).bind fun b => (acmp .IsNot b (.obj a)).map D.bool).bind atr).bind fun b => bif b then some true else some false) := by kernel_rfl
theorem tr_s1 (x : Str') : aexec (T1x e p f r) xc ow xs 288 (stAt (bodyOf (stAt (bodyOf (trW 2)) 0)) 0) (stX P a i n (.d (.str x)) j stuff chunks k chunk hp) = (appendTo (stX P a i n (.d (.str x)) j stuff chunks k chunk hp) 0 (.d (.obj a))).map fun s => (.next, s) := by kernel_rfl
theorem tr_1 (x : Str') : aexec (T1x e p f r) xc ow xs 290 tr1 (stX P a i n (.d (.str x)) j stuff chunks k chunk hp) = bif (x == SS [63]) then aexecs (T1x e p f r) xc ow xs 289 [stAt (bodyOf tr1) 0] (stX P a i n (.d (.str x)) j stuff chunks k chunk hp) else aexecs (T1x e p f r) xc ow xs 289 [tr2] (stX P a i n (.d (.str x)) j stuff chunks k chunk hp) := by kernel_rfl
theorem tr_10 (x : Str') : aexec (T1x e p f r) xc ow xs 288 (stAt (bodyOf tr1) 0) (stX P a i n (.d (.str x)) j stuff chunks k chunk hp) = (appendTo (stX P a i n (.d (.str x)) j stuff chunks k chunk hp) 0 (.d (.str (SS [46])))).map fun s => (.next, s) := by kernel_rfl
theorem tr_2 (x : Str') : aexec (T1x e p f r) xc ow xs 288 tr2 (stX P a i n (.d (.str x)) j stuff chunks k chunk hp) = bif (x == SS [91]) then aexecs (T1x e p f r) xc ow xs 287 (bodyOf tr2) (stX P a i n (.d (.str x)) j stuff chunks k chunk hp) else aexecs (T1x e p f r) xc ow xs 287 [stAt (elseOf tr2) 0] (stX P a i n (.d (.str x)) j stuff chunks k chunk hp) := by kernel_rfl
theorem tr_20 (x : Str') : aexec (T1x e p f r) xc ow xs 286 (stAt (elseOf tr2) 0) (stX P a i n (.d (.str x)) j stuff chunks k chunk hp) = (evF (T1x e p f r) xc 285 (argOf (stAt (elseOf tr2) 0)) (stX P a i n (.d (.str x)) j stuff chunks k chunk hp)).bind fun d => (appendTo (stX P a i n (.d (.str x)) j stuff chunks k chunk hp) 0 (.d d)).map fun s => (.next, s) := by kernel_rfl
theorem tr_20e (x : D) : aeval (T1x e p f r) 285 (argOf (stAt (elseOf tr2) 0)) ⟨xc, frz (stX P a i n (.d x) j stuff chunks k chunk hp)⟩ = e [x] := by kernel_rfl
theorem tr_2b : bodyOf tr2 = [trS 0, trS 1, trS 2, trS 3, trS 4] := by kernel_rfl
end
end Mine
namespace Mine
open PySem PySem.W PyProof.Rows PySem.SeqAt
section
variable (e p f r : List D → Option D) (P : Str') (a : Addr) (i n : Int) (x : Str') (j : Int) (stuff chunks k chunk : V) (hp : List (List V)) (sf : Str') (m : Nat) (kk : Int)
theorem br_0 (j0 : V) : aexec (T1x e p f r) xc ow xs 286 (trS 0) (stX P a i n (.d (.str x)) j0 stuff chunks k chunk hp) = some (.next, stX P a i n (.d (.str x)) (.d (.int i)) stuff chunks k chunk hp) := by kernel_rfl
theorem br_1 : aexec (T1x e p f r) xc ow xs 285 (trS 1) (stX P a i n (.d (.str x)) (.d (.int j)) stuff chunks k chunk hp) = (trF (T1x e p f r) xc 284 (rhsOf (trS 1)) (stX P a i n (.d (.str x)) (.d (.int j)) stuff chunks k chunk hp)).bind fun q => bif q then some (.next, stX P a i n (.d (.str x)) (.d (.int (j + 1))) stuff chunks k chunk hp) else some (.next, stX P a i n (.d (.str x)) (.d (.int j)) stuff chunks k chunk hp) := by kernel_rfl
theorem br_1e : atrue (T1x e p f r) 284 (rhsOf (trS 1)) ⟨xc, frz (stX P a i n (.d (.str x)) (.d (.int j)) stuff chunks k chunk hp)⟩ = bif decide (j < n) then ((((asub (.str P) (.int j)).bind fun b => (acmp .Eq b (.str (SS [33]))).map D.bool).bind atr).bind fun b => bif b then some true else some false) else some false := by kernel_rfl
theorem br_2 : aexec (T1x e p f r) xc ow xs 284 (trS 2) (stX P a i n (.d (.str x)) (.d (.int j)) stuff chunks k chunk hp) = (trF (T1x e p f r) xc 283 (rhsOf (trS 2)) (stX P a i n (.d (.str x)) (.d (.int j)) stuff chunks k chunk hp)).bind fun q => bif q then some (.next, stX P a i n (.d (.str x)) (.d (.int (j + 1))) stuff chunks k chunk hp) else some (.next, stX P a i n (.d (.str x)) (.d (.int j)) stuff chunks k chunk hp) := by kernel_rfl
theorem br_2e : atrue (T1x e p f r) 283 (rhsOf (trS 2)) ⟨xc, frz (stX P a i n (.d (.str x)) (.d (.int j)) stuff chunks k chunk hp)⟩ = bif decide (j < n) then ((((asub (.str P) (.int j)).bind fun b => (acmp .Eq b (.str (SS [93]))).map D.bool).bind atr).bind fun b => bif b then some true else some false) else some false := by kernel_rfl
theorem br_3 : aexec (T1x e p f r) xc ow xs 283 (trS 3) (stX P a i n (.d (.str x)) (.d (.int j)) stuff chunks k chunk hp) = awhile (trF (T1x e p f r) xc 282 (rhsOf (trS 3))) (aexecs (T1x e p f r) xc ow xs 282 (bodyOf (trS 3))) 282 (stX P a i n (.d (.str x)) (.d (.int j)) stuff chunks k chunk hp) := by kernel_rfl
theorem br_3e : atrue (T1x e p f r) 282 (rhsOf (trS 3)) ⟨xc, frz (stX P a i n (.d (.str x)) (.d (.int j)) stuff chunks k chunk hp)⟩ = bif decide (j < n) then ((((asub (.str P) (.int j)).bind fun b => (acmp .NotEq b (.str (SS [93]))).map D.bool).bind atr).bind fun b => bif b then some true else some false) else some false := by kernel_rfl
theorem br_3b : aexecs (T1x e p f r) xc ow xs 282 (bodyOf (trS 3)) (stX P a i n (.d (.str x)) (.d (.int j)) stuff chunks k chunk hp) = some (.next, stX P a i n (.d (.str x)) (.d (.int (j + 1))) stuff chunks k chunk hp) := by kernel_rfl
theorem br_4 : aexec (T1x e p f r) xc ow xs 282 (trS 4) (stX P a i n (.d (.str x)) (.d (.int j)) stuff chunks k chunk hp) = bif decide (j ≥ n) then aexecs (T1x e p f r) xc ow xs 281 (bodyOf (trS 4)) (stX P a i n (.d (.str x)) (.d (.int j)) stuff chunks k chunk hp) else aexecs (T1x e p f r) xc ow xs 281 (elseOf (trS 4)) (stX P a i n (.d (.str x)) (.d (.int j)) stuff chunks k chunk hp) := by kernel_rfl
theorem br_4b : elseOf (trS 4) = [trE 0, trE 1, trE 2, trE 3, trE 4] := by kernel_rfl
theorem br_e0 : aexec (T1x e p f r) xc ow xs 280 (trE 0) (stX P a i n (.d (.str x)) (.d (.int j)) stuff chunks k chunk hp) = some (.next, stX P a i n (.d (.str x)) (.d (.int j)) (.d (.str (sl P (some i) (some j)))) chunks k chunk hp) := by kernel_rfl
theorem br_e1 : aexec (T1x e p f r) xc ow xs 279 (trE 1) (stX P a i n (.d (.str x)) (.d (.int j)) (.d (.str sf)) chunks k chunk hp) = bif !(!(Builtin.Str.occurrences sf (SS [45]) 0 sf.length 1).isEmpty) then aexecs (T1x e p f r) xc ow xs 278 (bodyOf (trE 1)) (stX P a i n (.d (.str x)) (.d (.int j)) (.d (.str sf)) chunks k chunk hp) else aexecs (T1x e p f r) xc ow xs 278 (elseOf (trE 1)) (stX P a i n (.d (.str x)) (.d (.int j)) (.d (.str sf)) chunks k chunk hp) := by kernel_rfl
theorem br_e1b : elseOf (trE 1) = [trF' 0, trF' 1, trF' 2, trF' 3, trF' 4, trF' 5, trF' 6] := by kernel_rfl
theorem br_f0 : aexec (T1x e p f r) xc ow xs 277 (trF' 0) (stX P a i n (.d (.str x)) (.d (.int j)) (.d (.str sf)) chunks k chunk hp) = some (.next, stX P a i n (.d (.str x)) (.d (.int j)) (.d (.str sf)) (.p hp.length) k chunk (hp ++ [[]])) := by kernel_rfl
theorem br_f1 : aexec (T1x e p f r) xc ow xs 276 (trF' 1) (stX P a i n (.d (.str x)) (.d (.int j)) (.d (.str sf)) (.p m) k chunk hp) = (evF (T1x e p f r) xc 275 (rhsOf (trF' 1)) (stX P a i n (.d (.str x)) (.d (.int j)) (.d (.str sf)) (.p m) k chunk hp)).map fun d => (.next, stX P a i n (.d (.str x)) (.d (.int j)) (.d (.str sf)) (.p m) (.d d) chunk hp) := by kernel_rfl
theorem br_f1e : aeval (T1x e p f r) 275 (rhsOf (trF' 1)) ⟨xc, frz (stX P a i n (.d (.str x)) (.d (.int j)) (.d (.str sf)) (.p m) k chunk hp)⟩ = (((asub (.str P) (.int i)).bind fun b => (acmp .Eq b (.str (SS [33]))).map D.bool).bind atr).bind fun b => bif b then some (.int (i + 2)) else some (.int (i + 1)) := by kernel_rfl
theorem br_f2 : aexec (T1x e p f r) xc ow xs 275 (trF' 2) (stX P a i n (.d (.str x)) (.d (.int j)) (.d (.str sf)) (.p m) k chunk hp) = awhile (trF (T1x e p f r) xc 274 (rhsOf (trF' 2))) (aexecs (T1x e p f r) xc ow xs 274 [trL 0, trL 1, trL 2, trL 3, trL 4]) 274 (stX P a i n (.d (.str x)) (.d (.int j)) (.d (.str sf)) (.p m) k chunk hp) := by kernel_rfl
theorem br_f2t : trF (T1x e p f r) xc 274 (rhsOf (trF' 2)) (stX P a i n (.d (.str x)) (.d (.int j)) (.d (.str sf)) (.p m) k chunk hp) = some true := by kernel_rfl
theorem br_l0 : aexec (T1x e p f r) xc ow xs 273 (trL 0) (stX P a i n (.d (.str x)) (.d (.int j)) (.d (.str sf)) (.p m) (.d (.int kk)) chunk hp) = some (.next, stX P a i n (.d (.str x)) (.d (.int j)) (.d (.str sf)) (.p m) (.d (.int (afind P (SS [45]) kk j))) chunk hp) := by kernel_rfl
theorem br_l1 : aexec (T1x e p f r) xc ow xs 272 (trL 1) (stX P a i n (.d (.str x)) (.d (.int j)) (.d (.str sf)) (.p m) (.d (.int kk)) chunk hp) = bif decide (kk < 0) then some (.brk, stX P a i n (.d (.str x)) (.d (.int j)) (.d (.str sf)) (.p m) (.d (.int kk)) chunk hp) else some (.next, stX P a i n (.d (.str x)) (.d (.int j)) (.d (.str sf)) (.p m) (.d (.int kk)) chunk hp) := by kernel_rfl
theorem br_l2 : aexec (T1x e p f r) xc ow xs 271 (trL 2) (stX P a i n (.d (.str x)) (.d (.int j)) (.d (.str sf)) (.p m) (.d (.int kk)) chunk hp) = (appendTo (stX P a i n (.d (.str x)) (.d (.int j)) (.d (.str sf)) (.p m) (.d (.int kk)) chunk hp) m (.d (.str (sl P (some i) (some kk))))).map fun s => (.next, s) := by kernel_rfl
theorem br_l3 : aexec (T1x e p f r) xc ow xs 270 (trL 3) (stX P a i n (.d (.str x)) (.d (.int j)) (.d (.str sf)) (.p m) (.d (.int kk)) chunk hp) = some (.next, stX P a (kk + 1) n (.d (.str x)) (.d (.int j)) (.d (.str sf)) (.p m) (.d (.int kk)) chunk hp) := by kernel_rfl
theorem br_l4 : aexec (T1x e p f r) xc ow xs 269 (trL 4) (stX P a i n (.d (.str x)) (.d (.int j)) (.d (.str sf)) (.p m) (.d (.int kk)) chunk hp) = some (.next, stX P a i n (.d (.str x)) (.d (.int j)) (.d (.str sf)) (.p m) (.d (.int (kk + 3))) chunk hp) := by kernel_rfl
theorem br_f3 : aexec (T1x e p f r) xc ow xs 274 (trF' 3) (stX P a i n (.d (.str x)) (.d (.int j)) (.d (.str sf)) (.p m) (.d (.int kk)) chunk hp) = some (.next, stX P a i n (.d (.str x)) (.d (.int j)) (.d (.str sf)) (.p m) (.d (.int kk)) (.d (.str (sl P (some i) (some j)))) hp) := by kernel_rfl
theorem br_f4 (y : Str') : aexec (T1x e p f r) xc ow xs 273 (trF' 4) (stX P a i n (.d (.str x)) (.d (.int j)) (.d (.str sf)) (.p m) (.d (.int kk)) (.d (.str y)) hp) = bif !(y.length == 0) then aexecs (T1x e p f r) xc ow xs 272 [stAt (bodyOf (trF' 4)) 0] (stX P a i n (.d (.str x)) (.d (.int j)) (.d (.str sf)) (.p m) (.d (.int kk)) (.d (.str y)) hp) else aexecs (T1x e p f r) xc ow xs 272 (elseOf (trF' 4)) (stX P a i n (.d (.str x)) (.d (.int j)) (.d (.str sf)) (.p m) (.d (.int kk)) (.d (.str y)) hp) := by kernel_rfl
theorem br_f40 (y : Str') : aexec (T1x e p f r) xc ow xs 271 (stAt (bodyOf (trF' 4)) 0) (stX P a i n (.d (.str x)) (.d (.int j)) (.d (.str sf)) (.p m) (.d (.int kk)) (.d (.str y)) hp) = (appendTo (stX P a i n (.d (.str x)) (.d (.int j)) (.d (.str sf)) (.p m) (.d (.int kk)) (.d (.str y)) hp) m (.d (.str y))).map fun s => (.next, s) := by kernel_rfl
end
end Mine
namespace Mine
open PySem PySem.W PyProof.Rows PySem.SeqAt
noncomputable def argsE : Expr → List Expr
  | .Call _ args _ _ => args
  | _ => []
noncomputable def isRange (sc : Scope) : Expr → Bool
  | .Call (.Name f _) _ [] _ => AE.glob ⟨sc, []⟩ f && f == Str.ofString "range"
  | _ => false
theorem itF_weak {Φ : Fns} {sc : Scope} {n : Nat} {tt : Bool} {e : Expr} {s : AS} (hr : isRange sc e = true) (h0 : aiter Φ n tt e ⟨sc, frz s⟩ = none) (h : aevals (fun e => aeval Φ n e ⟨sc, wk s⟩) (argsE e) = some [.int 1, .int 0, .int (-1)]) : itF Φ sc n tt e s = some [.int 1] := by
  unfold itF
  rw [h0]
  cases e with
  | Call g args kws p => cases g with
    | Name g gp => cases kws with
      | cons _ _ => exact Bool.noConfusion (show false = true from hr)
      | nil =>
        show (bif AE.glob ⟨sc, []⟩ g && g == Str.ofString "range" then (aevals (fun e => aeval Φ n e ⟨sc, wk s⟩) args).bind rngL else none) = _
        rw [show (AE.glob ⟨sc, []⟩ g && g == Str.ofString "range") = true from hr, show aevals (fun e => aeval Φ n e ⟨sc, wk s⟩) args = _ from h]
        rfl
    | _ => exact Bool.noConfusion (show false = true from hr)
  | _ => exact Bool.noConfusion (show false = true from hr)
theorem ex_spec {Φ : Fns} {sc : Scope} {ow : Str' → Bool} {spec : Spec} {n : Nat} {st : Stmt} {s s' : AS} (h : spec st s = some s') : aexec Φ sc ow spec (n + 1) st s = some (.next, s') := by rw [exec_eq, h]
noncomputable def trG (k : Nat) : Stmt := stAt (bodyOf (stAt (bodyOf (trF' 5)) 0)) k
noncomputable def trE4 : Stmt := stAt (elseOf (trE 4)) 0
noncomputable def trH (k : Nat) : Stmt := stAt (elseOf trE4) k
noncomputable abbrev envX (pt st qm rs i n c j sf ch k cu : D) : Vars := [(Str.ofString "pat", pt), (Str.ofString "STAR", st), (Str.ofString "QUESTION_MARK", qm), (Str.ofString "res", rs), (Str.ofString "i", i), (Str.ofString "n", n), (Str.ofString "c", c), (Str.ofString "j", j), (Str.ofString "stuff", sf), (Str.ofString "chunks", ch), (Str.ofString "k", k), (Str.ofString "chunk", cu)]
section
variable (e p f r : List D → Option D) (P : Str') (a : Addr) (i n : Int) (x : Str') (j : Int) (stuff chunks k chunk : V) (hp : List (List V)) (sf : Str') (m : Nat) (kk : Int) (cu : D)
theorem br_f5 : aexec (T1x e p f r) xc ow xs 272 (trF' 5) (stX P a i n (.d (.str x)) (.d (.int j)) (.d (.str sf)) (.p m) (.d (.int kk)) (.d cu) hp) = (itF (T1x e p f r) xc 271 false (rhsOf (trF' 5)) (stX P a i n (.d (.str x)) (.d (.int j)) (.d (.str sf)) (.p m) (.d (.int kk)) (.d cu) hp)).bind fun items => afor (forStep (T1x e p f r) xc ow xs 271 (targetOf (trF' 5)) (bodyOf (trF' 5))) items (stX P a i n (.d (.str x)) (.d (.int j)) (.d (.str sf)) (.p m) (.d (.int kk)) (.d cu) hp) := by kernel_rfl
theorem br_f5r : isRange xc (rhsOf (trF' 5)) = true := by kernel_rfl
theorem br_f5s : aiter (T1x e p f r) 271 false (rhsOf (trF' 5)) ⟨xc, frz (stX P a i n (.d (.str x)) (.d (.int j)) (.d (.str sf)) (.p m) (.d (.int kk)) (.d cu) hp)⟩ = none := by kernel_rfl
theorem br_f5w (d1 d2 d3 d4 d5 d6 d7 d8 d9 d11 d12 u v : D) : aevals (fun q => aeval (T1x e p f r) 271 q ⟨xc, envX d1 d2 d3 d4 d5 d6 d7 d8 d9 (.list [u, v]) d11 d12⟩) (argsE (rhsOf (trF' 5))) = some [.int 1, .int 0, .int (-1)] := by kernel_rfl
theorem br_fs : forStep (T1x e p f r) xc ow xs 271 (targetOf (trF' 5)) (bodyOf (trF' 5)) (.int 1) (stX P a i n (.d (.str x)) (.d (.int j)) (.d (.str sf)) (.p m) (.d (.int kk)) (.d cu) hp) = (aexecs (T1x e p f r) xc ow xs 271 [stAt (bodyOf (trF' 5)) 0] (stX P a i n (.d (.str x)) (.d (.int j)) (.d (.str sf)) (.p m) (.d (.int 1)) (.d cu) hp)).bind (fun q => bif q.2.hp.length == hp.length then some q else none) := by kernel_rfl
theorem br_if : aexec (T1x e p f r) xc ow xs 270 (stAt (bodyOf (trF' 5)) 0) (stX P a i n (.d (.str x)) (.d (.int j)) (.d (.str sf)) (.p m) (.d (.int 1)) (.d cu) hp) = (trF (T1x e p f r) xc 269 (rhsOf (stAt (bodyOf (trF' 5)) 0)) (stX P a i n (.d (.str x)) (.d (.int j)) (.d (.str sf)) (.p m) (.d (.int 1)) (.d cu) hp)).bind fun q => bif q then aexecs (T1x e p f r) xc ow xs 269 [trG 0, trG 1] (stX P a i n (.d (.str x)) (.d (.int j)) (.d (.str sf)) (.p m) (.d (.int 1)) (.d cu) hp) else some (.next, stX P a i n (.d (.str x)) (.d (.int j)) (.d (.str sf)) (.p m) (.d (.int 1)) (.d cu) hp) := by kernel_rfl
theorem br_ifs : atrue (T1x e p f r) 269 (rhsOf (stAt (bodyOf (trF' 5)) 0)) ⟨xc, frz (stX P a i n (.d (.str x)) (.d (.int j)) (.d (.str sf)) (.p m) (.d (.int 1)) (.d cu) hp)⟩ = none := by kernel_rfl
theorem br_ifw (d1 d2 d3 d4 d5 d6 d7 d8 d9 d12 u v : D) : atrue (T1x e p f r) 269 (rhsOf (stAt (bodyOf (trF' 5)) 0)) ⟨xc, envX d1 d2 d3 d4 d5 d6 d7 d8 d9 (.list [u, v]) (.int 1) d12⟩ = ((asub u (.int (-1))).bind fun s => (asub v (.int 0)).bind fun t => (acmp .Gt s t).map D.bool).bind atr := by kernel_rfl
theorem br_g0 : aexec (T1x e p f r) xc ow xs 268 (trG 0) (stX P a i n (.d (.str x)) (.d (.int j)) (.d (.str sf)) (.p m) (.d (.int 1)) (.d cu) hp) = (evF (T1x e p f r) xc 267 (rhsOf (trG 0)) (stX P a i n (.d (.str x)) (.d (.int j)) (.d (.str sf)) (.p m) (.d (.int 1)) (.d cu) hp)).bind fun d => (hp[m]?).bind fun l => (idx (1 - 1) l.length).map fun q => (.next, stX P a i n (.d (.str x)) (.d (.int j)) (.d (.str sf)) (.p m) (.d (.int 1)) (.d cu) (putAt hp m (l.set q (.d d)))) := by kernel_rfl
theorem br_g0s : aeval (T1x e p f r) 267 (rhsOf (trG 0)) ⟨xc, frz (stX P a i n (.d (.str x)) (.d (.int j)) (.d (.str sf)) (.p m) (.d (.int 1)) (.d cu) hp)⟩ = none := by kernel_rfl
theorem br_g0w (d1 d2 d3 d4 d5 d6 d7 d8 d9 d12 : D) (u v : Str') : aeval (T1x e p f r) 267 (rhsOf (trG 0)) ⟨xc, envX d1 d2 d3 d4 d5 d6 d7 d8 d9 (.list [.str u, .str v]) (.int 1) d12⟩ = abin .Add (.str (sl u none (some (-1)))) (.str (sl v (some 1) none)) := by kernel_rfl
theorem br_g1 : aexec (T1x e p f r) xc ow xs 267 (trG 1) (stX P a i n (.d (.str x)) (.d (.int j)) (.d (.str sf)) (.p m) (.d (.int 1)) (.d cu) hp) = (hp[m]?).bind fun l => (idx 1 l.length).map fun q => (.next, stX P a i n (.d (.str x)) (.d (.int j)) (.d (.str sf)) (.p m) (.d (.int 1)) (.d cu) (putAt hp m (l.eraseIdx q))) := by kernel_rfl
theorem br_f6 : specT xc (trF' 6) (stX P a i n (.d (.str x)) (.d (.int j)) (.d (.str sf)) (.p m) (.d (.int kk)) (.d cu) hp) = (hp[m]?).bind fun l => (strsV l).bind fun ys => guardB (ys.all (fun y => noOcc y (SS [92]) && noOcc y (SS [45])) && (JoinOk (SS [45]) ys && decide ((Txt.join (SS [45]) ys).length ≤ LIM))) (some (stX P a i n (.d (.str x)) (.d (.int j)) (.d (.str (Txt.join (SS [45]) ys))) (.p m) (.d (.int kk)) (.d cu) hp)) := by kernel_rfl
theorem br_e2 : specT xc (trE 2) (stX P a i n (.d (.str x)) (.d (.int j)) (.d (.str sf)) chunks k chunk hp) = guardB (reFails sf) (some (stX P a i n (.d (.str x)) (.d (.int j)) (.d (.str sf)) chunks k chunk hp)) := by kernel_rfl
theorem br_e3 : aexec (T1x e p f r) xc ow xs 277 (trE 3) (stX P a i n (.d (.str x)) (.d (.int j)) (.d (.str sf)) chunks k chunk hp) = some (.next, stX P a (j + 1) n (.d (.str x)) (.d (.int j)) (.d (.str sf)) chunks k chunk hp) := by kernel_rfl
theorem br_e4 : aexec (T1x e p f r) xc ow xs 276 (trE 4) (stX P a i n (.d (.str x)) (.d (.int j)) (.d (.str sf)) chunks k chunk hp) = bif !(!(sf.length == 0)) then aexecs (T1x e p f r) xc ow xs 275 [stAt (bodyOf (trE 4)) 0] (stX P a i n (.d (.str x)) (.d (.int j)) (.d (.str sf)) chunks k chunk hp) else aexecs (T1x e p f r) xc ow xs 275 [trE4] (stX P a i n (.d (.str x)) (.d (.int j)) (.d (.str sf)) chunks k chunk hp) := by kernel_rfl
theorem br_e40 : aexec (T1x e p f r) xc ow xs 274 (stAt (bodyOf (trE 4)) 0) (stX P a i n (.d (.str x)) (.d (.int j)) (.d (.str sf)) chunks k chunk hp) = (appendTo (stX P a i n (.d (.str x)) (.d (.int j)) (.d (.str sf)) chunks k chunk hp) 0 (.d (.str (SS [40, 63, 33, 41])))).map fun s => (.next, s) := by kernel_rfl
theorem br_e5 : aexec (T1x e p f r) xc ow xs 274 trE4 (stX P a i n (.d (.str x)) (.d (.int j)) (.d (.str sf)) chunks k chunk hp) = bif (sf == SS [33]) then aexecs (T1x e p f r) xc ow xs 273 [stAt (bodyOf trE4) 0] (stX P a i n (.d (.str x)) (.d (.int j)) (.d (.str sf)) chunks k chunk hp) else aexecs (T1x e p f r) xc ow xs 273 [trH 0, trH 1] (stX P a i n (.d (.str x)) (.d (.int j)) (.d (.str sf)) chunks k chunk hp) := by kernel_rfl
theorem br_e50 : aexec (T1x e p f r) xc ow xs 272 (stAt (bodyOf trE4) 0) (stX P a i n (.d (.str x)) (.d (.int j)) (.d (.str sf)) chunks k chunk hp) = (appendTo (stX P a i n (.d (.str x)) (.d (.int j)) (.d (.str sf)) chunks k chunk hp) 0 (.d (.str (SS [46])))).map fun s => (.next, s) := by kernel_rfl
theorem br_h0 : aexec (T1x e p f r) xc ow xs 272 (trH 0) (stX P a i n (.d (.str x)) (.d (.int j)) (.d (.str sf)) chunks k chunk hp) = (trF (T1x e p f r) xc 271 (rhsOf (trH 0)) (stX P a i n (.d (.str x)) (.d (.int j)) (.d (.str sf)) chunks k chunk hp)).bind fun q => bif q then aexecs (T1x e p f r) xc ow xs 271 [stAt (bodyOf (trH 0)) 0] (stX P a i n (.d (.str x)) (.d (.int j)) (.d (.str sf)) chunks k chunk hp) else aexecs (T1x e p f r) xc ow xs 271 [stAt (elseOf (trH 0)) 0] (stX P a i n (.d (.str x)) (.d (.int j)) (.d (.str sf)) chunks k chunk hp) := by kernel_rfl
theorem br_h0e : atrue (T1x e p f r) 271 (rhsOf (trH 0)) ⟨xc, frz (stX P a i n (.d (.str x)) (.d (.int j)) (.d (.str sf)) chunks k chunk hp)⟩ = ((asub (.str sf) (.int 0)).bind fun b => (acmp .Eq b (.str (SS [33]))).map D.bool).bind atr := by kernel_rfl
theorem br_h00 : aexec (T1x e p f r) xc ow xs 270 (stAt (bodyOf (trH 0)) 0) (stX P a i n (.d (.str x)) (.d (.int j)) (.d (.str sf)) chunks k chunk hp) = (evF (T1x e p f r) xc 269 (rhsOf (stAt (bodyOf (trH 0)) 0)) (stX P a i n (.d (.str x)) (.d (.int j)) (.d (.str sf)) chunks k chunk hp)).map fun d => (.next, stX P a i n (.d (.str x)) (.d (.int j)) (.d d) chunks k chunk hp) := by kernel_rfl
theorem br_h00e : aeval (T1x e p f r) 269 (rhsOf (stAt (bodyOf (trH 0)) 0)) ⟨xc, frz (stX P a i n (.d (.str x)) (.d (.int j)) (.d (.str sf)) chunks k chunk hp)⟩ = abin .Add (.str (SS [94])) (.str (sl sf (some 1) none)) := by kernel_rfl
theorem br_h01 : aexec (T1x e p f r) xc ow xs 270 (stAt (elseOf (trH 0)) 0) (stX P a i n (.d (.str x)) (.d (.int j)) (.d (.str sf)) chunks k chunk hp) = (trF (T1x e p f r) xc 269 (rhsOf (stAt (elseOf (trH 0)) 0)) (stX P a i n (.d (.str x)) (.d (.int j)) (.d (.str sf)) chunks k chunk hp)).bind fun q => bif q then aexecs (T1x e p f r) xc ow xs 269 (bodyOf (stAt (elseOf (trH 0)) 0)) (stX P a i n (.d (.str x)) (.d (.int j)) (.d (.str sf)) chunks k chunk hp) else some (.next, stX P a i n (.d (.str x)) (.d (.int j)) (.d (.str sf)) chunks k chunk hp) := by kernel_rfl
theorem br_h01e : atrue (T1x e p f r) 269 (rhsOf (stAt (elseOf (trH 0)) 0)) ⟨xc, frz (stX P a i n (.d (.str x)) (.d (.int j)) (.d (.str sf)) chunks k chunk hp)⟩ = ((asub (.str sf) (.int 0)).bind fun b => (acmp .In b (.tup [.str (SS [94]), .str (SS [91])])).map D.bool).bind atr := by kernel_rfl
theorem br_h1 : aexec (T1x e p f r) xc ow xs 271 (trH 1) (stX P a i n (.d (.str x)) (.d (.int j)) (.d (.str sf)) chunks k chunk hp) = (evF (T1x e p f r) xc 270 (argOf (trH 1)) (stX P a i n (.d (.str x)) (.d (.int j)) (.d (.str sf)) chunks k chunk hp)).bind fun d => (appendTo (stX P a i n (.d (.str x)) (.d (.int j)) (.d (.str sf)) chunks k chunk hp) 0 (.d d)).map fun s => (.next, s) := by kernel_rfl
theorem br_h1e : aeval (T1x e p f r) 270 (argOf (trH 1)) ⟨xc, frz (stX P a i n (.d (.str x)) (.d (.int j)) (.d (.str sf)) chunks k chunk hp)⟩ = ((addS (SS [91]) sf).bind fun b => ((addS b (SS [93])).bind fun b => some b)).map D.str := by kernel_rfl
end
end Mine
namespace Mine
open PySem PySem.W PyProof.Rows PySem.SeqAt
open StrLaws in
theorem occ_full (s sub : Str') (hi limit : Nat) : ∀ (l : List Nat) (st : Array Nat × Nat), ¬ st.fst.size < limit → (forIn l st (occBody s sub hi limit)).run.fst = st.fst
  | [], st, h => rfl
  | a :: l, st, h => by
    rw [List.forIn_cons]
    unfold occBody
    rw [if_neg (fun hc => h hc.1.1.1)]
    exact occ_full s sub hi limit l _ h
open StrLaws in
theorem occ_first {x : Str'} {c lo hi : Nat} (hc : x.cps.toList[lo]? = some c) (hlo : lo < hi) : Builtin.Str.occurrences x (SS [c]) lo hi 1 = [lo] := by
  rw [occ_eq]
  obtain ⟨k, hk⟩ : ∃ k, hi + 1 - lo = k + 1 := ⟨hi - lo, by lia⟩
  rw [hk, List.range'_succ, List.forIn_cons]
  have hs := (subAt_one x c lo).mpr hc
  have e : occBody x (SS [c]) hi 1 lo (#[], lo) = pure (ForInStep.yield (#[lo], lo + 1)) := by
    unfold occBody
    rw [if_pos ⟨⟨⟨by simp, Nat.le_refl _⟩, by show lo + 1 ≤ hi; lia⟩, hs.2⟩]
    rfl
  rw [e]
  show ((forIn (List.range' (lo + 1) k) ((#[lo] : Array Nat), lo + 1) (occBody x (SS [c]) hi 1)).run.fst).toList = [lo]
  rw [occ_full _ _ _ _ _ _ (by simp)]
open StrLaws in
theorem occ_over {x y : Str'} {lo hi : Nat} (h : hi < lo) : Builtin.Str.occurrences x y lo hi 1 = [] := by
  rw [occ_eq, show hi + 1 - lo = 0 by lia]
  rfl
theorem from_nat (len i : Nat) : fromIndex len (i : Int) = i := by unfold fromIndex; rw [if_neg (by lia)]; lia
theorem find_at {l : List Nat} {i j : Nat} (h : l[i]? = some 45) (hij : i < j) (hj : j ≤ l.length) : afind (SS l) (SS [45]) (i : Int) (j : Int) = (i : Int) := by
  unfold afind
  rw [from_nat, from_nat, ss_len, Nat.min_eq_left hj, occ_first (by simpa using h) hij]
theorem find_no {l : List Nat} {i j : Nat} (hij : j < i) : afind (SS l) (SS [45]) (i : Int) (j : Int) = -1 := by
  unfold afind
  rw [from_nat, from_nat, occ_over (by lia)]
noncomputable def wOf (nb : Bool) : List Nat := bif nb then [33] else []
noncomputable def tailOf (nb : Bool) (l h : Nat) (post : List Nat) : List Nat := wOf nb ++ (97 + l) :: 45 :: (97 + h) :: 93 :: post
noncomputable def leadOf (nb : Bool) (l : Nat) : List Nat := wOf nb ++ [97 + l]
section
variable (nb : Bool) (l h : Nat) (pre post : List Nat)
noncomputable abbrev patOf : List Nat := pre ++ 91 :: tailOf nb l h post
theorem pat_at_ (t : Nat) : (patOf nb l h pre post)[pre.length + 1 + t]? = (tailOf nb l h post)[t]? := by
  rw [List.getElem?_append_right (by lia), show pre.length + 1 + t - pre.length = t + 1 by lia, List.getElem?_cons_succ]
theorem pat_sl (s t : Nat) : sl (SS (patOf nb l h pre post)) (some ((pre.length + 1 + s : Nat) : Int)) (some ((pre.length + 1 + t : Nat) : Int)) = SS (((tailOf nb l h post).drop s).take (t - s)) := by
  have : (patOf nb l h pre post).drop (pre.length + 1 + s) = (tailOf nb l h post).drop s := by
    rw [show pre.length + 1 + s = (pre ++ [91]).length + s by simp, show patOf nb l h pre post = (pre ++ [91]) ++ tailOf nb l h post by simp, List.drop_append]
    simp
  rw [sl_nat, this, show pre.length + 1 + t - (pre.length + 1 + s) = t - s by lia]
theorem tail_len : (tailOf nb l h post).length = (wOf nb).length + 4 + post.length := by unfold tailOf; simp; lia
end
end Mine
namespace Mine
open PySem PySem.W PyProof.Rows PySem.SeqAt
noncomputable def pos (pre : List Nat) (t : Nat) : Int := ((pre.length + 1 + t : Nat) : Int)
theorem pos_add (pre : List Nat) (t k : Nat) : pos pre t + (k : Int) = pos pre (t + k) := by delta pos; lia
theorem pos_add1 (pre : List Nat) (t : Nat) : pos pre t + 1 = pos pre (t + 1) := pos_add pre t 1
noncomputable def finOf (nb : Bool) (l h : Nat) : List Nat := bif decide (h < l) then wOf nb else leadOf nb l ++ [45, 97 + h]
noncomputable def chunksOf (nb : Bool) (l h : Nat) : List (List Nat) := bif decide (h < l) then [wOf nb] else [leadOf nb l, [97 + h]]
noncomputable def f6ok (nb : Bool) (l h : Nat) : Bool := ((chunksOf nb l h).map SS).all (fun y => noOcc y (SS [92]) && noOcc y (SS [45])) && (JoinOk (SS [45]) ((chunksOf nb l h).map SS) && ((Txt.join (SS [45]) ((chunksOf nb l h).map SS) == SS (finOf nb l h)) && reFails (SS (finOf nb l h))))
theorem f6_all : ([true, false].all fun nb => (List.range 6).all fun l => (List.range 6).all fun h => f6ok nb l h) = true := by decide +kernel
theorem f6_ok (nb : Bool) {l h : Nat} (hl : l < 6) (hh : h < 6) : f6ok nb l h = true := by
  have h1 := List.all_eq_true.mp f6_all nb (by cases nb <;> simp)
  have h2 := List.all_eq_true.mp h1 l (by simpa using hl)
  exact List.all_eq_true.mp h2 h (by simpa using hh)
section
variable (nb : Bool) (l h : Nat) (pre post : List Nat)
theorem sub_P {t c : Nat} (ht : (tailOf nb l h post)[t]? = some c) : asub (.str (SS (patOf nb l h pre post))) (.int (pos pre t)) = some (.str (SS [c])) := asub_str (by rw [pat_at_]; exact ht)
noncomputable abbrev bb : Nat := (wOf nb).length
theorem t_0 : (tailOf nb l h post)[bb nb]? = some (97 + l) := by cases nb <;> rfl
theorem t_1 : (tailOf nb l h post)[bb nb + 1]? = some 45 := by cases nb <;> rfl
theorem t_2 : (tailOf nb l h post)[bb nb + 2]? = some (97 + h) := by cases nb <;> rfl
theorem t_3 : (tailOf nb l h post)[bb nb + 3]? = some 93 := by cases nb <;> rfl
theorem n_eq : (((patOf nb l h pre post).length : Nat) : Int) = pos pre (bb nb + 4 + post.length) := by delta pos bb; simp [tail_len]; lia
theorem pos_lt {s t : Nat} (hst : s < t) : decide (pos pre s < pos pre t) = true := decide_eq_true (by delta pos; lia)
variable (e p f r : List D → Option D) (a : Addr) (stuff chunks k chunk : V) (hp : List (List V))
noncomputable abbrev bN : Int := pos pre (bb nb + 4 + post.length)
noncomputable abbrev bX (i : Int) (j stuff chunks k chunk : V) (hp : List (List V)) : AS := stX (SS (patOf nb l h pre post)) a i (bN nb pre post) (.d (.str (SS [91]))) j stuff chunks k chunk hp
theorem bw_1 : aexec (T1x e p f r) xc ow xs 285 (trS 1) (bX nb l h pre post a (pos pre 0) (.d (.int (pos pre 0))) stuff chunks k chunk hp) = some (.next, bX nb l h pre post a (pos pre 0) (.d (.int (pos pre (bb nb)))) stuff chunks k chunk hp) := by
  have e1 := br_1e e p f r (SS (patOf nb l h pre post)) a (pos pre 0) (bN nb pre post) (SS [91]) (pos pre 0) stuff chunks k chunk hp
  rw [pos_lt pre (by lia)] at e1
  have h1 := br_1 e p f r (SS (patOf nb l h pre post)) a (pos pre 0) (bN nb pre post) (SS [91]) (pos pre 0) stuff chunks k chunk hp
  cases nb with
  | true =>
    rw [sub_P true l h pre post (t := 0) (c := 33) rfl] at e1
    simp only [Option.bind_some] at e1
    rw [eq_ss, beq1] at e1
    rw [trF_strong (e1.trans rfl)] at h1
    rw [pos_add1] at h1
    exact h1
  | false =>
    rw [sub_P false l h pre post (t := 0) (c := 97 + l) rfl] at e1
    simp only [Option.bind_some] at e1
    rw [eq_ss, beq1, beq_eq_false_iff_ne.mpr (show 97 + l ≠ 33 by lia)] at e1
    rw [trF_strong (e1.trans rfl)] at h1
    exact h1
theorem bw_2 : aexec (T1x e p f r) xc ow xs 284 (trS 2) (bX nb l h pre post a (pos pre 0) (.d (.int (pos pre (bb nb)))) stuff chunks k chunk hp) = some (.next, bX nb l h pre post a (pos pre 0) (.d (.int (pos pre (bb nb)))) stuff chunks k chunk hp) := by
  have e1 := br_2e e p f r (SS (patOf nb l h pre post)) a (pos pre 0) (bN nb pre post) (SS [91]) (pos pre (bb nb)) stuff chunks k chunk hp
  rw [pos_lt pre (by lia), sub_P nb l h pre post (t_0 nb l h post)] at e1
  simp only [Option.bind_some] at e1
  have h1 := br_2 e p f r (SS (patOf nb l h pre post)) a (pos pre 0) (bN nb pre post) (SS [91]) (pos pre (bb nb)) stuff chunks k chunk hp
  by_cases hl : 97 + l = 93
  · lia
  · rw [eq_ss, beq1, beq_eq_false_iff_ne.mpr hl] at e1
    rw [trF_strong (e1.trans rfl)] at h1
    exact h1
theorem ne_ss (a b : List Nat) : acmp .NotEq (.str (SS a)) (.str (SS b)) = some (!(a == b)) := by
  show some (!(SS a == SS b)) = _
  rw [ss_beq]
theorem bw_3t {t c : Nat} (ht : (tailOf nb l h post)[t]? = some c) (hlt : t < bb nb + 4) : trF (T1x e p f r) xc 282 (rhsOf (trS 3)) (bX nb l h pre post a (pos pre 0) (.d (.int (pos pre t))) stuff chunks k chunk hp) = some (!(c == 93)) := by
  have e1 := br_3e e p f r (SS (patOf nb l h pre post)) a (pos pre 0) (bN nb pre post) (SS [91]) (pos pre t) stuff chunks k chunk hp
  rw [pos_lt pre (by lia), sub_P nb l h pre post ht] at e1
  simp only [Option.bind_some] at e1
  rw [ne_ss, beq1] at e1
  refine trF_strong (e1.trans ?_)
  cases (c == 93) <;> rfl
theorem bw_3s (t : Nat) : aexecs (T1x e p f r) xc ow xs 282 (bodyOf (trS 3)) (bX nb l h pre post a (pos pre 0) (.d (.int (pos pre t))) stuff chunks k chunk hp) = some (.next, bX nb l h pre post a (pos pre 0) (.d (.int (pos pre (t + 1)))) stuff chunks k chunk hp) := by
  have h1 := br_3b e p f r (SS (patOf nb l h pre post)) a (pos pre 0) (bN nb pre post) (SS [91]) (pos pre t) stuff chunks k chunk hp
  rw [pos_add1] at h1
  exact h1
theorem bw_3 : aexec (T1x e p f r) xc ow xs 283 (trS 3) (bX nb l h pre post a (pos pre 0) (.d (.int (pos pre (bb nb)))) stuff chunks k chunk hp) = some (.next, bX nb l h pre post a (pos pre 0) (.d (.int (pos pre (bb nb + 3)))) stuff chunks k chunk hp) := by
  refine (br_3 e p f r (SS (patOf nb l h pre post)) a (pos pre 0) (bN nb pre post) (SS [91]) (pos pre (bb nb)) stuff chunks k chunk hp).trans ?_
  have b0 := bw_3t nb l h pre post e p f r a stuff chunks k chunk hp (t_0 nb l h post) (by lia)
  rw [beq_eq_false_iff_ne.mpr (show 97 + l ≠ 93 by lia)] at b0
  have b1 := bw_3t nb l h pre post e p f r a stuff chunks k chunk hp (t_1 nb l h post) (by lia)
  have b2 := bw_3t nb l h pre post e p f r a stuff chunks k chunk hp (t_2 nb l h post) (by lia)
  rw [beq_eq_false_iff_ne.mpr (show 97 + h ≠ 93 by lia)] at b2
  have b3 := bw_3t nb l h pre post e p f r a stuff chunks k chunk hp (t_3 nb l h post) (by lia)
  have s0 := bw_3s nb l h pre post e p f r a stuff chunks k chunk hp (bb nb)
  have s1 := bw_3s nb l h pre post e p f r a stuff chunks k chunk hp (bb nb + 1)
  have s2 := bw_3s nb l h pre post e p f r a stuff chunks k chunk hp (bb nb + 2)
  exact (aw_step (m := 281) b0 s0).trans ((aw_step (m := 280) b1 s1).trans ((aw_step (m := 279) b2 s2).trans (aw_stop (m := 278) b3)))
theorem take_stuff : (tailOf nb l h post).take (bb nb + 3) = leadOf nb l ++ [45, 97 + h] := by cases nb <;> rfl
theorem bw_e0 : aexec (T1x e p f r) xc ow xs 280 (trE 0) (bX nb l h pre post a (pos pre 0) (.d (.int (pos pre (bb nb + 3)))) stuff chunks k chunk hp) = some (.next, bX nb l h pre post a (pos pre 0) (.d (.int (pos pre (bb nb + 3)))) (.d (.str (SS (leadOf nb l ++ [45, 97 + h])))) chunks k chunk hp) := by
  have h1 := br_e0 e p f r (SS (patOf nb l h pre post)) a (pos pre 0) (bN nb pre post) (SS [91]) (pos pre (bb nb + 3)) stuff chunks k chunk hp
  have hs : sl (SS (patOf nb l h pre post)) (some (pos pre 0)) (some (pos pre (bb nb + 3))) = SS (leadOf nb l ++ [45, 97 + h]) := by
    rw [← take_stuff nb l h post]
    exact pat_sl nb l h pre post 0 (bb nb + 3)
  rw [hs] at h1
  exact h1
noncomputable abbrev stf : Str' := SS (leadOf nb l ++ [45, 97 + h])
theorem bw_f1 (m : Nat) : aexec (T1x e p f r) xc ow xs 276 (trF' 1) (bX nb l h pre post a (pos pre 0) (.d (.int (pos pre (bb nb + 3)))) (.d (.str (stf nb l h))) (.p m) k chunk hp) = some (.next, bX nb l h pre post a (pos pre 0) (.d (.int (pos pre (bb nb + 3)))) (.d (.str (stf nb l h))) (.p m) (.d (.int (pos pre (bb nb + 1)))) chunk hp) := by
  have h1 := br_f1 e p f r (SS (patOf nb l h pre post)) a (pos pre 0) (bN nb pre post) (SS [91]) (pos pre (bb nb + 3)) k chunk hp (stf nb l h) m
  have e1 := br_f1e e p f r (SS (patOf nb l h pre post)) a (pos pre 0) (bN nb pre post) (SS [91]) (pos pre (bb nb + 3)) k chunk hp (stf nb l h) m
  cases nb with
  | true =>
    rw [sub_P true l h pre post (t := 0) (c := 33) rfl] at e1
    simp only [Option.bind_some] at e1
    rw [eq_ss, beq1] at e1
    rw [evF_strong (e1.trans (show _ = some (D.int (pos pre 0 + 2)) from rfl)), show pos pre 0 + 2 = pos pre 2 from pos_add pre 0 2] at h1
    exact h1
  | false =>
    rw [sub_P false l h pre post (t := 0) (c := 97 + l) rfl] at e1
    simp only [Option.bind_some] at e1
    rw [eq_ss, beq1, beq_eq_false_iff_ne.mpr (show 97 + l ≠ 33 by lia)] at e1
    rw [evF_strong (e1.trans (show _ = some (D.int (pos pre 0 + 1)) from rfl)), show pos pre 0 + 1 = pos pre 1 from pos_add pre 0 1] at h1
    exact h1
theorem app_X {P : Str'} {i n : Int} {c j : V} {ls : List V} {H : List (List V)} {v : V} (hl : ls.length ≤ 900) : appendTo (stX P a i n c j stuff (.p H.length) k chunk (H ++ [ls])) H.length v = some (stX P a i n c j stuff (.p H.length) k chunk (H ++ [ls ++ [v]])) := by
  delta stX; rw [append_to (k := H.length) (l := ls) (by simp) (lim1000 (by lia))]; simp
theorem app_X0 {P : Str'} {i n : Int} {c j : V} {ls : List V} {H : List (List V)} {v : V} (hl : ls.length ≤ 900) : appendTo (stX P a i n c j stuff chunks k chunk (ls :: H)) 0 v = some (stX P a i n c j stuff chunks k chunk ((ls ++ [v]) :: H)) := by
  delta stX; rw [append_to (k := 0) (l := ls) rfl (lim1000 (by lia))]; rfl
theorem pos_not (t : Nat) : decide (pos pre t < 0) = false := decide_eq_false (by delta pos; lia)
theorem bw_f2 (H : List (List V)) : aexec (T1x e p f r) xc ow xs 275 (trF' 2) (bX nb l h pre post a (pos pre 0) (.d (.int (pos pre (bb nb + 3)))) (.d (.str (stf nb l h))) (.p H.length) (.d (.int (pos pre (bb nb + 1)))) chunk (H ++ [[]])) =
    some (.next, bX nb l h pre post a (pos pre (bb nb + 2)) (.d (.int (pos pre (bb nb + 3)))) (.d (.str (stf nb l h))) (.p H.length) (.d (.int (-1))) chunk (H ++ [[tD (leadOf nb l)]])) := by
  refine (br_f2 e p f r (SS (patOf nb l h pre post)) a (pos pre 0) (bN nb pre post) (SS [91]) (pos pre (bb nb + 3)) (.d (.int (pos pre (bb nb + 1)))) chunk (H ++ [[]]) (stf nb l h) H.length).trans ?_
  have hlen : (patOf nb l h pre post).length = pre.length + 1 + (bb nb + 4 + post.length) := by have := n_eq nb l h pre post; unfold pos at this; lia
  have l0 := br_l0 e p f r (SS (patOf nb l h pre post)) a (pos pre 0) (bN nb pre post) (SS [91]) (pos pre (bb nb + 3)) chunk (H ++ [[]]) (stf nb l h) H.length (pos pre (bb nb + 1))
  have hf : afind (SS (patOf nb l h pre post)) (SS [45]) (pos pre (bb nb + 1)) (pos pre (bb nb + 3)) = pos pre (bb nb + 1) := find_at (by rw [pat_at_]; exact t_1 nb l h post) (by lia) (by lia)
  rw [hf] at l0
  have l1 := br_l1 e p f r (SS (patOf nb l h pre post)) a (pos pre 0) (bN nb pre post) (SS [91]) (pos pre (bb nb + 3)) chunk (H ++ [[]]) (stf nb l h) H.length (pos pre (bb nb + 1))
  rw [pos_not] at l1
  have l2 := br_l2 e p f r (SS (patOf nb l h pre post)) a (pos pre 0) (bN nb pre post) (SS [91]) (pos pre (bb nb + 3)) chunk (H ++ [[]]) (stf nb l h) H.length (pos pre (bb nb + 1))
  have hsl : sl (SS (patOf nb l h pre post)) (some (pos pre 0)) (some (pos pre (bb nb + 1))) = SS (leadOf nb l) := by
    have e1 : (tailOf nb l h post).take (bb nb + 1) = leadOf nb l := by cases nb <;> rfl
    rw [← e1]
    exact pat_sl nb l h pre post 0 (bb nb + 1)
  rw [hsl, app_X _ _ _ _ (by simp)] at l2
  have l3 := br_l3 e p f r (SS (patOf nb l h pre post)) a (pos pre 0) (bN nb pre post) (SS [91]) (pos pre (bb nb + 3)) chunk (H ++ [[] ++ [tD (leadOf nb l)]]) (stf nb l h) H.length (pos pre (bb nb + 1))
  rw [pos_add1] at l3
  have l4 := br_l4 e p f r (SS (patOf nb l h pre post)) a (pos pre (bb nb + 1 + 1)) (bN nb pre post) (SS [91]) (pos pre (bb nb + 3)) chunk (H ++ [[] ++ [tD (leadOf nb l)]]) (stf nb l h) H.length (pos pre (bb nb + 1))
  rw [show pos pre (bb nb + 1) + 3 = pos pre (bb nb + 4) from pos_add pre (bb nb + 1) 3] at l4
  have step1 : aexecs (T1x e p f r) xc ow xs 274 [trL 0, trL 1, trL 2, trL 3, trL 4] (bX nb l h pre post a (pos pre 0) (.d (.int (pos pre (bb nb + 3)))) (.d (.str (stf nb l h))) (.p H.length) (.d (.int (pos pre (bb nb + 1)))) chunk (H ++ [[]])) =
      some (.next, bX nb l h pre post a (pos pre (bb nb + 2)) (.d (.int (pos pre (bb nb + 3)))) (.d (.str (stf nb l h))) (.p H.length) (.d (.int (pos pre (bb nb + 4)))) chunk (H ++ [[tD (leadOf nb l)]])) :=
    (ex_next l0).trans ((ex_next l1).trans ((ex_next l2).trans ((ex_next l3).trans ((ex_next l4).trans ex_nil))))
  have m0 := br_l0 e p f r (SS (patOf nb l h pre post)) a (pos pre (bb nb + 2)) (bN nb pre post) (SS [91]) (pos pre (bb nb + 3)) chunk (H ++ [[tD (leadOf nb l)]]) (stf nb l h) H.length (pos pre (bb nb + 4))
  have hf2 : afind (SS (patOf nb l h pre post)) (SS [45]) (pos pre (bb nb + 4)) (pos pre (bb nb + 3)) = -1 := find_no (by lia)
  rw [hf2] at m0
  have m1 := br_l1 e p f r (SS (patOf nb l h pre post)) a (pos pre (bb nb + 2)) (bN nb pre post) (SS [91]) (pos pre (bb nb + 3)) chunk (H ++ [[tD (leadOf nb l)]]) (stf nb l h) H.length (-1)
  rw [show decide ((-1 : Int) < 0) = true from rfl] at m1
  have step2 : aexecs (T1x e p f r) xc ow xs 274 [trL 0, trL 1, trL 2, trL 3, trL 4] (bX nb l h pre post a (pos pre (bb nb + 2)) (.d (.int (pos pre (bb nb + 3)))) (.d (.str (stf nb l h))) (.p H.length) (.d (.int (pos pre (bb nb + 4)))) chunk (H ++ [[tD (leadOf nb l)]])) =
      some (.brk, bX nb l h pre post a (pos pre (bb nb + 2)) (.d (.int (pos pre (bb nb + 3)))) (.d (.str (stf nb l h))) (.p H.length) (.d (.int (-1))) chunk (H ++ [[tD (leadOf nb l)]])) :=
    (ex_next m0).trans (ex_brk m1)
  exact (aw_step (m := 273) (br_f2t e p f r (SS (patOf nb l h pre post)) a (pos pre 0) (bN nb pre post) (SS [91]) (pos pre (bb nb + 3)) (.d (.int (pos pre (bb nb + 1)))) chunk (H ++ [[]]) (stf nb l h) H.length) step1).trans
    (aw_brk (m := 272) (br_f2t e p f r (SS (patOf nb l h pre post)) a (pos pre (bb nb + 2)) (bN nb pre post) (SS [91]) (pos pre (bb nb + 3)) (.d (.int (pos pre (bb nb + 4)))) chunk (H ++ [[tD (leadOf nb l)]]) (stf nb l h) H.length) step2)
end
end Mine
namespace Mine
open PySem PySem.W PyProof.Rows PySem.SeqAt
theorem wkX {P : Str'} {a : Addr} {i n : Int} {c j sf k cu : D} {R : List D} {junk : List (List V)} {C : List D} (hR : R.length ≤ 900) (hC : C.length ≤ 900) :
    wk (stX P a i n (.d c) (.d j) (.d sf) (.p (R.map V.d :: junk).length) (.d k) (.d cu) ((R.map V.d :: junk) ++ [C.map V.d])) = envX (.str P) (.obj a) (.str (SS [46])) (.list R) (.int i) (.int n) c j sf (.list C) k cu :=
  wk_d.trans (congrArg _ (wk_d.trans (congrArg _ (wk_d.trans (congrArg _ ((wk_p (l := R) rfl (lim1000' (by lia))).trans (congrArg _ (wk_app.trans (wk_d.trans (congrArg _ (wk_d.trans (congrArg _ (wk_d.trans (congrArg _ (wk_d.trans (congrArg _ (wk_d.trans (congrArg _ ((wk_p (l := C) (by simp) (lim1000' (by lia))).trans (congrArg _ (wk_d.trans (congrArg _ (wk_d.trans rfl)))))))))))))))))))))))
section
variable (nb : Bool) (l h : Nat) (pre post : List Nat) (e p f r : List D → Option D) (a : Addr) (R : List D) (junk : List (List V))
noncomputable abbrev bH : List (List V) := R.map V.d :: junk
theorem bw_f3 (hp : List (List V)) (m : Nat) (chunk : V) (kk : Int) : aexec (T1x e p f r) xc ow xs 274 (trF' 3) (bX nb l h pre post a (pos pre (bb nb + 2)) (.d (.int (pos pre (bb nb + 3)))) (.d (.str (stf nb l h))) (.p m) (.d (.int kk)) chunk hp) =
    some (.next, bX nb l h pre post a (pos pre (bb nb + 2)) (.d (.int (pos pre (bb nb + 3)))) (.d (.str (stf nb l h))) (.p m) (.d (.int kk)) (tD [97 + h]) hp) := by
  have h1 := br_f3 e p f r (SS (patOf nb l h pre post)) a (pos pre (bb nb + 2)) (bN nb pre post) (SS [91]) (pos pre (bb nb + 3)) chunk hp (stf nb l h) m kk
  have hsl : sl (SS (patOf nb l h pre post)) (some (pos pre (bb nb + 2))) (some (pos pre (bb nb + 3))) = SS [97 + h] := by
    have e1 : ((tailOf nb l h post).drop (bb nb + 2)).take (bb nb + 3 - (bb nb + 2)) = [97 + h] := by cases nb <;> rfl
    rw [← e1]
    exact pat_sl nb l h pre post (bb nb + 2) (bb nb + 3)
  rw [hsl] at h1
  exact h1
noncomputable abbrev cu1 : V := tD [97 + h]
theorem bw_f4 (H : List (List V)) (kk : Int) : aexec (T1x e p f r) xc ow xs 273 (trF' 4) (bX nb l h pre post a (pos pre (bb nb + 2)) (.d (.int (pos pre (bb nb + 3)))) (.d (.str (stf nb l h))) (.p H.length) (.d (.int kk)) (tD [97 + h]) (H ++ [[tD (leadOf nb l)]])) =
    some (.next, bX nb l h pre post a (pos pre (bb nb + 2)) (.d (.int (pos pre (bb nb + 3)))) (.d (.str (stf nb l h))) (.p H.length) (.d (.int kk)) (tD [97 + h]) (H ++ [[tD (leadOf nb l), tD [97 + h]]])) := by
  have h1 := br_f4 e p f r (SS (patOf nb l h pre post)) a (pos pre (bb nb + 2)) (bN nb pre post) (SS [91]) (pos pre (bb nb + 3)) (H ++ [[tD (leadOf nb l)]]) (stf nb l h) H.length kk (SS [97 + h])
  rw [show ((SS [97 + h]).length == 0) = false from by rw [ss_len]; rfl] at h1
  have h2 := br_f40 e p f r (SS (patOf nb l h pre post)) a (pos pre (bb nb + 2)) (bN nb pre post) (SS [91]) (pos pre (bb nb + 3)) (H ++ [[tD (leadOf nb l)]]) (stf nb l h) H.length kk (SS [97 + h])
  rw [app_X _ _ _ _ (by simp)] at h2
  exact h1.trans ((ex_next h2).trans ex_nil)
noncomputable def chD (ls : List (List Nat)) : List V := ls.map tD
theorem bw_f5 (hR : R.length ≤ 900) (kk : Int) : ∃ kk', aexec (T1x e p f r) xc ow xs 272 (trF' 5) (bX nb l h pre post a (pos pre (bb nb + 2)) (.d (.int (pos pre (bb nb + 3)))) (.d (.str (stf nb l h))) (.p (bH R junk).length) (.d (.int kk)) (tD [97 + h]) (bH R junk ++ [chD [leadOf nb l, [97 + h]]])) =
    some (.next, bX nb l h pre post a (pos pre (bb nb + 2)) (.d (.int (pos pre (bb nb + 3)))) (.d (.str (stf nb l h))) (.p (bH R junk).length) (.d (.int kk')) (tD [97 + h]) (bH R junk ++ [chD (chunksOf nb l h)])) := by
  refine ⟨1, ?_⟩
  have h1 := br_f5 e p f r (SS (patOf nb l h pre post)) a (pos pre (bb nb + 2)) (bN nb pre post) (SS [91]) (pos pre (bb nb + 3)) (bH R junk ++ [chD [leadOf nb l, [97 + h]]]) (stf nb l h) (bH R junk).length kk (.str (SS [97 + h]))
  have hwk : ∀ kk : Int, wk (bX nb l h pre post a (pos pre (bb nb + 2)) (.d (.int (pos pre (bb nb + 3)))) (.d (.str (stf nb l h))) (.p (bH R junk).length) (.d (.int kk)) (tD [97 + h]) (bH R junk ++ [chD [leadOf nb l, [97 + h]]])) =
      envX (.str (SS (patOf nb l h pre post))) (.obj a) (.str (SS [46])) (.list R) (.int (pos pre (bb nb + 2))) (.int (bN nb pre post)) (.str (SS [91])) (.int (pos pre (bb nb + 3))) (.str (stf nb l h)) (.list [.str (SS (leadOf nb l)), .str (SS [97 + h])]) (.int kk) (.str (SS [97 + h])) :=
    fun kk => wkX (C := [.str (SS (leadOf nb l)), .str (SS [97 + h])]) hR (by simp)
  have hit : itF (T1x e p f r) xc 271 false (rhsOf (trF' 5)) (bX nb l h pre post a (pos pre (bb nb + 2)) (.d (.int (pos pre (bb nb + 3)))) (.d (.str (stf nb l h))) (.p (bH R junk).length) (.d (.int kk)) (tD [97 + h]) (bH R junk ++ [chD [leadOf nb l, [97 + h]]])) = some [.int 1] := by
    refine itF_weak br_f5r (br_f5s e p f r _ a _ _ _ _ _ _ _ _ _) ?_
    rw [hwk]
    exact br_f5w e p f r _ _ _ _ _ _ _ _ _ _ _ _ _
  rw [hit] at h1
  dsimp only [Option.bind_some, afor] at h1
  have h2 := br_fs e p f r (SS (patOf nb l h pre post)) a (pos pre (bb nb + 2)) (bN nb pre post) (SS [91]) (pos pre (bb nb + 3)) (bH R junk ++ [chD [leadOf nb l, [97 + h]]]) (stf nb l h) (bH R junk).length kk (.str (SS [97 + h]))
  have h3 := br_if e p f r (SS (patOf nb l h pre post)) a (pos pre (bb nb + 2)) (bN nb pre post) (SS [91]) (pos pre (bb nb + 3)) (bH R junk ++ [chD [leadOf nb l, [97 + h]]]) (stf nb l h) (bH R junk).length (.str (SS [97 + h]))
  have s1 : asub (.str (SS (leadOf nb l))) (.int (-1)) = some (.str (SS [97 + l])) := by cases nb <;> rfl
  have ht : trF (T1x e p f r) xc 269 (rhsOf (stAt (bodyOf (trF' 5)) 0)) (bX nb l h pre post a (pos pre (bb nb + 2)) (.d (.int (pos pre (bb nb + 3)))) (.d (.str (stf nb l h))) (.p (bH R junk).length) (.d (.int 1)) (tD [97 + h]) (bH R junk ++ [chD [leadOf nb l, [97 + h]]])) = some (decide (h < l)) := by
    refine trF_weak (br_ifs e p f r _ a _ _ _ _ _ _ _ _) ?_
    rw [hwk, br_ifw, s1, sub_hd]
    dsimp only [Option.bind_some]
    have hg : acmp .Gt (.str (SS [97 + l])) (.str (SS [97 + h])) = some (decide (97 + h < 97 + l)) := by
      show some (decide ((SS [97 + h]).cps.toList < (SS [97 + l]).cps.toList)) = _
      rw [lt1]
    rw [hg, show decide (97 + h < 97 + l) = decide (h < l) from decide_eq_decide.mpr (by lia)]
    rfl
  rw [ht] at h3
  have hfor : forStep (T1x e p f r) xc ow xs 271 (targetOf (trF' 5)) (bodyOf (trF' 5)) (.int 1) (bX nb l h pre post a (pos pre (bb nb + 2)) (.d (.int (pos pre (bb nb + 3)))) (.d (.str (stf nb l h))) (.p (bH R junk).length) (.d (.int kk)) (tD [97 + h]) (bH R junk ++ [chD [leadOf nb l, [97 + h]]])) =
      some (.next, bX nb l h pre post a (pos pre (bb nb + 2)) (.d (.int (pos pre (bb nb + 3)))) (.d (.str (stf nb l h))) (.p (bH R junk).length) (.d (.int 1)) (tD [97 + h]) (bH R junk ++ [chD (chunksOf nb l h)])) := by
    refine h2.trans ?_
    by_cases hlt : h < l
    · rw [decide_eq_true hlt] at h3
      have g0 := br_g0 e p f r (SS (patOf nb l h pre post)) a (pos pre (bb nb + 2)) (bN nb pre post) (SS [91]) (pos pre (bb nb + 3)) (bH R junk ++ [chD [leadOf nb l, [97 + h]]]) (stf nb l h) (bH R junk).length (.str (SS [97 + h]))
      have hv : evF (T1x e p f r) xc 267 (rhsOf (trG 0)) (bX nb l h pre post a (pos pre (bb nb + 2)) (.d (.int (pos pre (bb nb + 3)))) (.d (.str (stf nb l h))) (.p (bH R junk).length) (.d (.int 1)) (tD [97 + h]) (bH R junk ++ [chD [leadOf nb l, [97 + h]]])) = some (.str (SS (wOf nb))) := by
        refine evF_weak (br_g0s e p f r _ a _ _ _ _ _ _ _ _) ?_ rfl
        rw [hwk, br_g0w]
        have s2 : sl (SS (leadOf nb l)) none (some (-1)) = SS (wOf nb) := by cases nb <;> rfl
        have s3 : sl (SS [97 + h]) (some 1) none = SS [] := sl_drop [97 + h] 1
        rw [s2, s3, add_ss (by cases nb <;> simp [wOf]), List.append_nil]
      rw [hv] at g0
      have hget : ∀ c : List V, (bH R junk ++ [c])[(bH R junk).length]? = some c := fun c => by simp
      have hset : ∀ c d : List V, putAt (bH R junk ++ [c]) (bH R junk).length d = bH R junk ++ [d] := fun c d => by unfold putAt; simp
      rw [hget] at g0
      dsimp only [Option.bind_some] at g0
      have g0' := g0.trans (show _ = some (Fl.next, bX nb l h pre post a (pos pre (bb nb + 2)) (.d (.int (pos pre (bb nb + 3)))) (.d (.str (stf nb l h))) (.p (bH R junk).length) (.d (.int 1)) (tD [97 + h]) (bH R junk ++ [[tD (wOf nb), tD [97 + h]]])) by
        rw [show idx (1 - 1) (chD [leadOf nb l, [97 + h]]).length = some 0 from rfl]
        dsimp only [Option.map_some]
        rw [hset]
        rfl)
      have g1 := br_g1 e p f r (SS (patOf nb l h pre post)) a (pos pre (bb nb + 2)) (bN nb pre post) (SS [91]) (pos pre (bb nb + 3)) (bH R junk ++ [[tD (wOf nb), tD [97 + h]]]) (stf nb l h) (bH R junk).length (.str (SS [97 + h]))
      rw [hget] at g1
      dsimp only [Option.bind_some] at g1
      have g1' := g1.trans (show _ = some (Fl.next, bX nb l h pre post a (pos pre (bb nb + 2)) (.d (.int (pos pre (bb nb + 3)))) (.d (.str (stf nb l h))) (.p (bH R junk).length) (.d (.int 1)) (tD [97 + h]) (bH R junk ++ [chD (chunksOf nb l h)])) by
        rw [show idx 1 [tD (wOf nb), tD [97 + h]].length = some 1 from rfl]
        dsimp only [Option.map_some]
        rw [hset]
        have : chunksOf nb l h = [wOf nb] := by unfold chunksOf; rw [decide_eq_true hlt]; rfl
        rw [this]
        rfl)
      have h3' := h3.trans ((ex_next g0').trans ((ex_next g1').trans ex_nil))
      rw [(ex_next h3').trans ex_nil]
      dsimp only [Option.bind_some]
      have : ((bX nb l h pre post a (pos pre (bb nb + 2)) (.d (.int (pos pre (bb nb + 3)))) (.d (.str (stf nb l h))) (.p (bH R junk).length) (.d (.int 1)) (tD [97 + h]) (bH R junk ++ [chD (chunksOf nb l h)])).hp.length == (bH R junk ++ [chD [leadOf nb l, [97 + h]]]).length) = true := by
        show ((bH R junk ++ [chD (chunksOf nb l h)]).length == _) = true
        simp
      rw [this]
      rfl
    · rw [decide_eq_false hlt] at h3
      have hc : chunksOf nb l h = [leadOf nb l, [97 + h]] := by unfold chunksOf; rw [decide_eq_false hlt]; rfl
      rw [hc]
      rw [(ex_next (h3.trans rfl)).trans ex_nil]
      dsimp only [Option.bind_some]
      have : ((bX nb l h pre post a (pos pre (bb nb + 2)) (.d (.int (pos pre (bb nb + 3)))) (.d (.str (stf nb l h))) (.p (bH R junk).length) (.d (.int 1)) (tD [97 + h]) (bH R junk ++ [chD [leadOf nb l, [97 + h]]])).hp.length == (bH R junk ++ [chD [leadOf nb l, [97 + h]]]).length) = true := by
        show ((bH R junk ++ [chD [leadOf nb l, [97 + h]]]).length == _) = true
        simp
      rw [this]
      rfl
  have h1' := h1.trans (congrArg (fun z => Option.bind z _) hfor)
  refine h1'.trans ?_
  rfl
end
end Mine
namespace Mine
open PySem PySem.W PyProof.Rows PySem.SeqAt
theorem strsV_ch : ∀ (ls : List (List Nat)), strsV (chD ls) = some (ls.map SS)
  | [] => rfl
  | x :: ls => by
    show (strsV (chD ls)).map (fun l => SS x :: l) = _
    rw [strsV_ch ls]; rfl
section
variable (nb : Bool) (l h : Nat) (pre post : List Nat) (e p f r : List D → Option D) (a : Addr) (R : List D) (junk : List (List V))
theorem bw_f6 (hl : l < 6) (hh : h < 6) (kk : Int) : aexec (T1x e p f r) xc ow xs 271 (trF' 6) (bX nb l h pre post a (pos pre (bb nb + 2)) (.d (.int (pos pre (bb nb + 3)))) (.d (.str (stf nb l h))) (.p (bH R junk).length) (.d (.int kk)) (tD [97 + h]) (bH R junk ++ [chD (chunksOf nb l h)])) =
    some (.next, bX nb l h pre post a (pos pre (bb nb + 2)) (.d (.int (pos pre (bb nb + 3)))) (tD (finOf nb l h)) (.p (bH R junk).length) (.d (.int kk)) (tD [97 + h]) (bH R junk ++ [chD (chunksOf nb l h)])) := by
  refine ex_spec ((br_f6 (SS (patOf nb l h pre post)) a (pos pre (bb nb + 2)) (bN nb pre post) (SS [91]) (pos pre (bb nb + 3)) (bH R junk ++ [chD (chunksOf nb l h)]) (stf nb l h) (bH R junk).length kk (.str (SS [97 + h]))).trans ?_)
  have hget : (bH R junk ++ [chD (chunksOf nb l h)])[(bH R junk).length]? = some (chD (chunksOf nb l h)) := by simp
  rw [hget]
  simp only [Option.bind_some]
  rw [strsV_ch]
  simp only [Option.bind_some]
  have hk := f6_ok nb hl hh
  unfold f6ok at hk
  simp only [Bool.and_eq_true] at hk
  refine x0_4 hk fun k1 k2 k3 k4 => ?_
  have k3' : Txt.join (SS [45]) ((chunksOf nb l h).map SS) = SS (finOf nb l h) := by simpa using k3
  rw [k1, k2, k3']
  have hlen : decide ((SS (finOf nb l h)).length ≤ LIM) = true := by
    rw [ss_len]
    refine lim2 _ ?_
    delta finOf leadOf wOf
    cases decide (h < l) <;> cases nb <;> simp
  rw [hlen]
  rfl
theorem bw_e1 (hl : l < 6) (hh : h < 6) (hR : R.length ≤ 900) (chunks k chunk : V) : ∃ kk, aexec (T1x e p f r) xc ow xs 279 (trE 1) (bX nb l h pre post a (pos pre 0) (.d (.int (pos pre (bb nb + 3)))) (.d (.str (stf nb l h))) chunks k chunk (bH R junk)) =
    some (.next, bX nb l h pre post a (pos pre (bb nb + 2)) (.d (.int (pos pre (bb nb + 3)))) (tD (finOf nb l h)) (.p (bH R junk).length) (.d (.int kk)) (tD [97 + h]) (bH R junk ++ [chD (chunksOf nb l h)])) := by
  have h1 := br_e1 e p f r (SS (patOf nb l h pre post)) a (pos pre 0) (bN nb pre post) (SS [91]) (pos pre (bb nb + 3)) chunks k chunk (bH R junk) (stf nb l h)
  have ho : (!(Builtin.Str.occurrences (stf nb l h) (SS [45]) 0 (stf nb l h).length 1).isEmpty) = true := by
    have := StrLaws.found_one (stf nb l h) 45
    refine this.trans (decide_eq_true ?_)
    show 45 ∈ leadOf nb l ++ [45, 97 + h]
    simp
  rw [ho] at h1
  have f0 := br_f0 e p f r (SS (patOf nb l h pre post)) a (pos pre 0) (bN nb pre post) (SS [91]) (pos pre (bb nb + 3)) chunks k chunk (bH R junk) (stf nb l h)
  have f1 := bw_f1 nb l h pre post e p f r a k chunk (bH R junk ++ [[]]) (bH R junk).length
  have f2 := bw_f2 nb l h pre post e p f r a chunk (bH R junk)
  have f3 := bw_f3 nb l h pre post e p f r a (bH R junk ++ [[tD (leadOf nb l)]]) (bH R junk).length chunk (-1)
  have f4 := bw_f4 nb l h pre post e p f r a (bH R junk) (-1)
  refine x1_1 (bw_f5 nb l h pre post e p f r a R junk hR (-1)) fun kk f5 => ?_
  have f6 := bw_f6 nb l h pre post e p f r a R junk hl hh kk
  refine ⟨kk, h1.trans ?_⟩
  simp only [Bool.not_true, cond_false]
  rw [br_e1b]
  exact (ex_next f0).trans ((ex_next f1).trans ((ex_next f2).trans ((ex_next f3).trans ((ex_next f4).trans ((ex_next f5).trans ((ex_next f6).trans ex_nil))))))
theorem bw_e4 {P : Str'} {i n : Int} {x : Str'} {j : Int} (chunks k chunk : V) (hR : R.length ≤ 900) : ∃ sf', aexec (T1x e p f r) xc ow xs 276 (trE 4) (stX P a i n (.d (.str x)) (.d (.int j)) (tD (finOf nb l h)) chunks k chunk (R.map V.d :: junk)) =
    some (.next, stX P a i n (.d (.str x)) (.d (.int j)) (.d (.str sf')) chunks k chunk ((R ++ [strD (.br nb l h)]).map V.d :: junk)) := by
  have hmap : (R ++ [strD (.br nb l h)]).map V.d = R.map V.d ++ [V.d (.str (SS (part1 (.br nb l h))))] := by simp
  rw [hmap]
  have h1 := br_e4 e p f r P a i n x j chunks k chunk (R.map V.d :: junk) (SS (finOf nb l h))
  have h5 := br_e5 e p f r P a i n x j chunks k chunk (R.map V.d :: junk) (SS (finOf nb l h))
  rw [ss_len] at h1
  rw [ss_beq] at h5
  by_cases hlt : h < l
  · have hfin : finOf nb l h = wOf nb := by delta finOf; rw [decide_eq_true hlt]; rfl
    rw [part1_lt nb hlt]
    cases nb with
    | false =>
      have h40 := br_e40 e p f r P a i n x j chunks k chunk (R.map V.d :: junk) (SS (finOf false l h))
      rw [app_X0 _ _ _ _ _ (by simp; lia)] at h40
      refine ⟨SS (finOf false l h), h1.trans ?_⟩
      rw [hfin]
      rw [hfin] at h40
      exact (ex_next h40).trans ex_nil
    | true =>
      have h50 := br_e50 e p f r P a i n x j chunks k chunk (R.map V.d :: junk) (SS (finOf true l h))
      rw [app_X0 _ _ _ _ _ (by simp; lia)] at h50
      refine ⟨SS (finOf true l h), h1.trans ?_⟩
      rw [hfin] at h5 h50 ⊢
      exact (ex_next (h5.trans ((ex_next h50).trans ex_nil))).trans ex_nil
  · have hfin : finOf nb l h = leadOf nb l ++ [45, 97 + h] := by delta finOf; rw [decide_eq_false hlt]; rfl
    rw [part1_ge nb hlt]
    have hne : (finOf nb l h).length ≠ 0 := by rw [hfin]; simp
    rw [beq_eq_false_iff_ne.mpr hne] at h1
    have hn33 : (finOf nb l h == [33]) = false := by rw [hfin]; cases nb <;> simp [leadOf, wOf]
    rw [hn33] at h5
    have hh0 := br_h0 e p f r P a i n x j chunks k chunk (R.map V.d :: junk) (SS (finOf nb l h))
    have hh0e := br_h0e e p f r P a i n x j chunks k chunk (R.map V.d :: junk) (SS (finOf nb l h))
    cases nb with
    | true =>
      have hf : finOf true l h = 33 :: [97 + l, 45, 97 + h] := by rw [hfin]; rfl
      rw [hf] at h1 h5 hh0 hh0e ⊢
      rw [sub_hd] at hh0e
      simp only [Option.bind_some] at hh0e
      rw [eq_ss, beq_self_eq_true] at hh0e
      rw [trF_strong (hh0e.trans rfl)] at hh0
      have h00 := br_h00 e p f r P a i n x j chunks k chunk (R.map V.d :: junk) (SS (33 :: [97 + l, 45, 97 + h]))
      have h00e := br_h00e e p f r P a i n x j chunks k chunk (R.map V.d :: junk) (SS (33 :: [97 + l, 45, 97 + h]))
      rw [show sl (SS (33 :: [97 + l, 45, 97 + h])) (some 1) none = SS [97 + l, 45, 97 + h] from sl_drop (33 :: [97 + l, 45, 97 + h]) 1, add_ss (by simp)] at h00e
      rw [evF_strong h00e] at h00
      have g0 := hh0.trans ((ex_next h00).trans ex_nil)
      have g1 := br_h1 e p f r P a i n x j chunks k chunk (R.map V.d :: junk) (SS ([94] ++ [97 + l, 45, 97 + h]))
      have g1e := br_h1e e p f r P a i n x j chunks k chunk (R.map V.d :: junk) (SS ([94] ++ [97 + l, 45, 97 + h]))
      rw [addS_ss (by simp)] at g1e
      simp only [Option.bind_some] at g1e
      rw [addS_ss (by simp)] at g1e
      rw [evF_strong (g1e.trans rfl)] at g1
      simp only [Option.bind_some] at g1
      rw [app_X0 _ _ _ _ _ (by simp; lia)] at g1
      have hl2 : (91 :: ((bif true then [94] else []) ++ [97 + l, 45, 97 + h, 93])) = [91] ++ ([94] ++ [97 + l, 45, 97 + h]) ++ [93] := by simp
      rw [hl2]
      simp only [Option.map_some] at g1
      refine ⟨SS ([94] ++ [97 + l, 45, 97 + h]), ?_⟩
      rw [h1]
      simp only [Bool.not_false, Bool.not_true, cond_false]
      simp only [cond_false] at h5
      rw [ex_next g0, ex_next g1, ex_nil] at h5
      rw [ex_next h5, ex_nil]
    | false =>
      have hf : finOf false l h = (97 + l) :: [45, 97 + h] := by rw [hfin]; rfl
      rw [hf] at h1 h5 hh0 hh0e ⊢
      rw [sub_hd] at hh0e
      simp only [Option.bind_some] at hh0e
      rw [eq_ss, beq1, beq_eq_false_iff_ne.mpr (show 97 + l ≠ 33 by lia)] at hh0e
      rw [trF_strong (hh0e.trans rfl)] at hh0
      have h01 := br_h01 e p f r P a i n x j chunks k chunk (R.map V.d :: junk) (SS ((97 + l) :: [45, 97 + h]))
      have h01e := br_h01e e p f r P a i n x j chunks k chunk (R.map V.d :: junk) (SS ((97 + l) :: [45, 97 + h]))
      rw [sub_hd] at h01e
      simp only [Option.bind_some] at h01e
      have hin : acmp .In (.str (SS [97 + l])) (.tup [.str (SS [94]), .str (SS [91])]) = some false := by
        show some ((SS [94] == SS [97 + l]) || ((SS [91] == SS [97 + l]) || false)) = _
        rw [ss_beq, ss_beq, beq1, beq1, beq_eq_false_iff_ne.mpr (show 94 ≠ 97 + l by lia), beq_eq_false_iff_ne.mpr (show 91 ≠ 97 + l by lia)]
        rfl
      rw [hin] at h01e
      rw [trF_strong (h01e.trans rfl)] at h01
      have g0 := hh0.trans ((ex_next h01).trans ex_nil)
      have g1 := br_h1 e p f r P a i n x j chunks k chunk (R.map V.d :: junk) (SS ((97 + l) :: [45, 97 + h]))
      have g1e := br_h1e e p f r P a i n x j chunks k chunk (R.map V.d :: junk) (SS ((97 + l) :: [45, 97 + h]))
      rw [addS_ss (by simp)] at g1e
      simp only [Option.bind_some] at g1e
      rw [addS_ss (by simp)] at g1e
      rw [evF_strong (g1e.trans rfl)] at g1
      simp only [Option.bind_some] at g1
      rw [app_X0 _ _ _ _ _ (by simp; lia)] at g1
      have hl2 : (91 :: ((bif false then [94] else []) ++ [97 + l, 45, 97 + h, 93])) = [91] ++ ((97 + l) :: [45, 97 + h]) ++ [93] := by simp
      rw [hl2]
      simp only [Option.map_some] at g1
      refine ⟨SS ((97 + l) :: [45, 97 + h]), ?_⟩
      rw [h1]
      simp only [Bool.not_false, Bool.not_true, cond_false]
      simp only [cond_false] at h5
      rw [ex_next g0, ex_next g1, ex_nil] at h5
      rw [ex_next h5, ex_nil]
theorem bw_all (hl : l < 6) (hh : h < 6) (hR : R.length ≤ 900) (j0 sf0 chunks k chunk : V) : ∃ jj sf kk junk' m, aexecs (T1x e p f r) xc ow xs 287 (bodyOf tr2) (bX nb l h pre post a (pos pre 0) j0 sf0 chunks k chunk (bH R junk)) =
    some (.next, bX nb l h pre post a (pos pre (bb nb + 4)) (.d jj) (.d sf) (.p m) (.d kk) (tD [97 + h]) ((R ++ [strD (.br nb l h)]).map V.d :: junk')) := by
  have s0 := br_0 e p f r (SS (patOf nb l h pre post)) a (pos pre 0) (bN nb pre post) (SS [91]) sf0 chunks k chunk (bH R junk) j0
  have s1 := bw_1 nb l h pre post e p f r a sf0 chunks k chunk (bH R junk)
  have s2 := bw_2 nb l h pre post e p f r a sf0 chunks k chunk (bH R junk)
  have s3 := bw_3 nb l h pre post e p f r a sf0 chunks k chunk (bH R junk)
  have s4 := br_4 e p f r (SS (patOf nb l h pre post)) a (pos pre 0) (bN nb pre post) (SS [91]) (pos pre (bb nb + 3)) sf0 chunks k chunk (bH R junk)
  rw [show decide (pos pre (bb nb + 3) ≥ bN nb pre post) = false from decide_eq_false (by delta bN pos; lia)] at s4
  have e0 := bw_e0 nb l h pre post e p f r a sf0 chunks k chunk (bH R junk)
  refine x1_1 (bw_e1 nb l h pre post e p f r a R junk hl hh hR chunks k chunk) fun kk e1 => ?_
  have hk := f6_ok nb hl hh
  unfold f6ok at hk
  simp only [Bool.and_eq_true] at hk
  refine x0_4 hk fun _ _ _ k4 => ?_
  have e2 : aexec (T1x e p f r) xc ow xs 278 (trE 2) (bX nb l h pre post a (pos pre (bb nb + 2)) (.d (.int (pos pre (bb nb + 3)))) (tD (finOf nb l h)) (.p (bH R junk).length) (.d (.int kk)) (tD [97 + h]) (bH R junk ++ [chD (chunksOf nb l h)])) = some (.next, bX nb l h pre post a (pos pre (bb nb + 2)) (.d (.int (pos pre (bb nb + 3)))) (tD (finOf nb l h)) (.p (bH R junk).length) (.d (.int kk)) (tD [97 + h]) (bH R junk ++ [chD (chunksOf nb l h)])) := by
    refine ex_spec ((br_e2 (SS (patOf nb l h pre post)) a (pos pre (bb nb + 2)) (bN nb pre post) (SS [91]) (pos pre (bb nb + 3)) (.p (bH R junk).length) (.d (.int kk)) (tD [97 + h]) (bH R junk ++ [chD (chunksOf nb l h)]) (SS (finOf nb l h))).trans ?_)
    rw [k4]; rfl
  have e3 := br_e3 e p f r (SS (patOf nb l h pre post)) a (pos pre (bb nb + 2)) (bN nb pre post) (SS [91]) (pos pre (bb nb + 3)) (.p (bH R junk).length) (.d (.int kk)) (tD [97 + h]) (bH R junk ++ [chD (chunksOf nb l h)]) (SS (finOf nb l h))
  rw [pos_add1] at e3
  refine x1_1 (bw_e4 nb l h e p f r a R (junk ++ [chD (chunksOf nb l h)]) (P := SS (patOf nb l h pre post)) (i := pos pre (bb nb + 3 + 1)) (n := bN nb pre post) (x := SS [91]) (j := pos pre (bb nb + 3)) (.p (bH R junk).length) (.d (.int kk)) (tD [97 + h]) hR) fun sf' e4 => ?_
  refine ⟨.int (pos pre (bb nb + 3)), .str sf', .int kk, junk ++ [chD (chunksOf nb l h)], (bH R junk).length, ?_⟩
  have s4' := s4.trans (show _ = some (Fl.next, bX nb l h pre post a (pos pre (bb nb + 4)) (.d (.int (pos pre (bb nb + 3)))) (.d (.str sf')) (.p (bH R junk).length) (.d (.int kk)) (tD [97 + h]) ((R ++ [strD (.br nb l h)]).map V.d :: (junk ++ [chD (chunksOf nb l h)]))) by
    simp only [cond_false]
    rw [br_4b]
    exact (ex_next e0).trans ((ex_next e1).trans ((ex_next e2).trans ((ex_next e3).trans ((ex_next e4).trans ex_nil)))))
  rw [tr_2b]
  exact (ex_next s0).trans ((ex_next s1).trans ((ex_next s2).trans ((ex_next s3).trans ((ex_next s4').trans ex_nil))))
end
end Mine
namespace Mine
open PySem PySem.W PyProof.Rows PySem.SeqAt
noncomputable def tokD (a : Addr) : Tok → D
  | none => .obj a
  | some k => strD k
noncomputable def XZ (j sf ch k cu : V) : Prop := (j = .un ∧ sf = .un ∧ ch = .un ∧ k = .un ∧ cu = .un) ∨ ∃ j' sf' m k' cu', j = .d j' ∧ sf = .d sf' ∧ ch = .p m ∧ k = .d k' ∧ cu = .d cu'
noncomputable def lastStar (acc : List Tok) : Bool := match acc.getLast? with
  | some none => true
  | _ => false
noncomputable def addTok (acc : List Tok) : Tok → List Tok
  | none => bif lastStar acc then acc else acc ++ [none]
  | some k => acc ++ [some k]
theorem isnot_tok (a : Addr) (acc : List Tok) : (bif !(!(acc.map (tokD a)).isEmpty) then some true else ((((asub (.list (acc.map (tokD a))) (.int (-1))).bind fun b => (acmp .IsNot b (.obj a)).map D.bool).bind atr).bind fun b => bif b then some true else some false)) = some (!(lastStar acc)) := by
  rcases List.eq_nil_or_concat acc with rfl | ⟨l, x, rfl⟩
  · rfl
  · have he : ((l.concat x).map (tokD a)).isEmpty = false := by simp
    rw [he]
    have hl : (l.concat x).map (tokD a) = l.map (tokD a) ++ [tokD a x] := by simp
    rw [hl, asub_last]
    simp only [Option.bind_some]
    cases x with
    | none =>
      have hs : lastStar (l.concat none) = true := by unfold lastStar; simp
      rw [hs, show tokD a none = .obj a from rfl, isnot_obj]; rfl
    | some k =>
      have hs : lastStar (l.concat (some k)) = false := by unfold lastStar; simp
      rw [hs, show tokD a (some k) = .str (SS (part1 k)) from rfl, isnot_str]; rfl
section
variable (e p f r : List D → Option D) (P : Str') (a : Addr)
noncomputable abbrev xT : AS → Option Bool := trF (T1x e p f r) xc 295 (rhsOf (stAt (fnP 8).body 3))
noncomputable abbrev xS : AS → Option (Fl × AS) := aexecs (T1x e p f r) xc ow xs 295 [trW 0, trW 1, trW 2]
theorem tt_01 {i n : Int} {c j sf ch k cu : V} {hp : List (List V)} {x : Nat} (hi : asub (.str P) (.int i) = some (.str (SS [x]))) :
    xS e p f r (stX P a i n c j sf ch k cu hp) = aexecs (T1x e p f r) xc ow xs 293 [trW 2] (stX P a (i + 1) n (.d (.str (SS [x]))) j sf ch k cu hp) := by
  have h0 := tr_w0 e p f r P a i n c j sf ch k cu hp
  rw [evF_strong ((tr_w0e e p f r P a i n c j sf ch k cu hp).trans hi)] at h0
  have h1 := tr_w1 e p f r P a i n (.d (.str (SS [x]))) j sf ch k cu hp
  exact (ex_next h0).trans (ex_next h1)
theorem tt_star {i n : Int} {j sf ch k cu : V} (hx : XZ j sf ch k cu) (acc : List Tok) (hl : acc.length ≤ 900) (junk : List (List V)) :
    aexecs (T1x e p f r) xc ow xs 293 [trW 2] (stX P a i n (.d (.str (SS [42]))) j sf ch k cu ((acc.map (tokD a)).map V.d :: junk)) = some (.next, stX P a i n (.d (.str (SS [42]))) j sf ch k cu (((addTok acc none).map (tokD a)).map V.d :: junk)) := by
  have h2 := tr_w2 e p f r P a i n j sf ch k cu ((acc.map (tokD a)).map V.d :: junk) (SS [42])
  rw [ss_beq, beq_self_eq_true] at h2
  have hs := tr_s e p f r P a i n j sf ch k cu ((acc.map (tokD a)).map V.d :: junk) (SS [42])
  have hwk : ∃ q, wk (stX P a i n (.d (.str (SS [42]))) j sf ch k cu ((acc.map (tokD a)).map V.d :: junk)) = (Str.ofString "pat", .str P) :: (Str.ofString "STAR", .obj a) :: (Str.ofString "QUESTION_MARK", .str (SS [46])) :: (Str.ofString "res", .list (acc.map (tokD a))) :: q :=
    ⟨_, wk_d.trans (congrArg _ (wk_d.trans (congrArg _ (wk_d.trans (congrArg _ (wk_p (l := acc.map (tokD a)) rfl (lim1000' (by simp; lia))))))))⟩
  refine x1_1 hwk fun q hq => ?_
  have ht : trF (T1x e p f r) xc 289 (rhsOf (stAt (bodyOf (trW 2)) 0)) (stX P a i n (.d (.str (SS [42]))) j sf ch k cu ((acc.map (tokD a)).map V.d :: junk)) = some (!(lastStar acc)) := by
    refine trF_weak ?_ ?_
    · rcases hx with ⟨rfl, rfl, rfl, rfl, rfl⟩ | ⟨j', sf', m, k', cu', rfl, rfl, rfl, rfl, rfl⟩
      · exact tr_s0u e p f r P a i n _ _
      · exact tr_s0d e p f r P a i n _ _ _ _ _ _ _
    · rw [hq, tr_s0w, isnot_tok]
  rw [ht] at hs
  have h1 := tr_s1 e p f r P a i n j sf ch k cu ((acc.map (tokD a)).map V.d :: junk) (SS [42])
  rw [app_X0 _ _ _ _ _ (by simp; lia)] at h1
  unfold addTok
  cases hst : lastStar acc with
  | true =>
    rw [hst] at hs
    exact (ex_next (h2.trans ((ex_next (hs.trans rfl)).trans ex_nil))).trans ex_nil
  | false =>
    rw [hst] at hs
    have e1 : ((bif false then acc else acc ++ [none]).map (tokD a)).map V.d = (acc.map (tokD a)).map V.d ++ [V.d (.obj a)] := by simp [tokD]
    rw [e1]
    exact (ex_next (h2.trans ((ex_next (hs.trans ((ex_next h1).trans ex_nil))).trans ex_nil))).trans ex_nil
theorem tt_q {i n : Int} {j sf ch k cu : V} (acc : List Tok) (hl : acc.length ≤ 900) (junk : List (List V)) :
    aexecs (T1x e p f r) xc ow xs 293 [trW 2] (stX P a i n (.d (.str (SS [63]))) j sf ch k cu ((acc.map (tokD a)).map V.d :: junk)) = some (.next, stX P a i n (.d (.str (SS [63]))) j sf ch k cu (((addTok acc (some .q)).map (tokD a)).map V.d :: junk)) := by
  have h2 := tr_w2 e p f r P a i n j sf ch k cu ((acc.map (tokD a)).map V.d :: junk) (SS [63])
  rw [ss_beq, beq1, show ((63 : Nat) == 42) = false from rfl] at h2
  have h1 := tr_1 e p f r P a i n j sf ch k cu ((acc.map (tokD a)).map V.d :: junk) (SS [63])
  rw [ss_beq, beq_self_eq_true] at h1
  have h0 := tr_10 e p f r P a i n j sf ch k cu ((acc.map (tokD a)).map V.d :: junk) (SS [63])
  rw [app_X0 _ _ _ _ _ (by simp; lia)] at h0
  have e1 : ((addTok acc (some .q)).map (tokD a)).map V.d = (acc.map (tokD a)).map V.d ++ [V.d (.str (SS [46]))] := by simp [addTok, tokD, part1]
  rw [e1]
  exact (ex_next (h2.trans ((ex_next (h1.trans ((ex_next h0).trans ex_nil))).trans ex_nil))).trans ex_nil
theorem tt_not {i n : Int} {j sf ch k cu : V} {hp : List (List V)} {x : Nat} (h42 : x ≠ 42) (h63 : x ≠ 63) {s' : AS} (h : aexec (T1x e p f r) xc ow xs 288 tr2 (stX P a i n (.d (.str (SS [x]))) j sf ch k cu hp) = some (.next, s')) :
    aexecs (T1x e p f r) xc ow xs 293 [trW 2] (stX P a i n (.d (.str (SS [x]))) j sf ch k cu hp) = some (.next, s') := by
  have h2 := tr_w2 e p f r P a i n j sf ch k cu hp (SS [x])
  rw [ss_beq, beq1, beq_eq_false_iff_ne.mpr h42] at h2
  have h1 := tr_1 e p f r P a i n j sf ch k cu hp (SS [x])
  rw [ss_beq, beq1, beq_eq_false_iff_ne.mpr h63] at h1
  simp only [cond_false] at h1 h2
  rw [ex_next h, ex_nil] at h1
  rw [ex_next h1, ex_nil] at h2
  rw [ex_next h2, ex_nil]
theorem tt_lt {i n : Int} {j sf ch k cu : V} (l : Nat) (he : e [.str (SS [97 + l])] = some (.str (SS [97 + l]))) (acc : List Tok) (hl : acc.length ≤ 900) (junk : List (List V)) :
    aexecs (T1x e p f r) xc ow xs 293 [trW 2] (stX P a i n (.d (.str (SS [97 + l]))) j sf ch k cu ((acc.map (tokD a)).map V.d :: junk)) = some (.next, stX P a i n (.d (.str (SS [97 + l]))) j sf ch k cu (((addTok acc (some (.lt l))).map (tokD a)).map V.d :: junk)) := by
  have e1 : ((addTok acc (some (.lt l))).map (tokD a)).map V.d = (acc.map (tokD a)).map V.d ++ [V.d (.str (SS [97 + l]))] := by simp [addTok, tokD, part1]
  rw [e1]
  generalize hy : 97 + l = y at *
  refine tt_not e p f r P a (by lia) (by lia) ?_
  have h2 := tr_2 e p f r P a i n j sf ch k cu ((acc.map (tokD a)).map V.d :: junk) (SS [y])
  rw [ss_beq, beq1, beq_eq_false_iff_ne.mpr (show y ≠ 91 by lia)] at h2
  have h0 := tr_20 e p f r P a i n j sf ch k cu ((acc.map (tokD a)).map V.d :: junk) (SS [y])
  rw [evF_strong ((tr_20e e p f r P a i n j sf ch k cu _ _).trans he)] at h0
  simp only [Option.bind_some] at h0
  rw [app_X0 _ _ _ _ _ (by simp; lia)] at h0
  simp only [cond_false] at h2
  simp only [Option.map_some] at h0
  rw [ex_next h0, ex_nil] at h2
  exact h2
end
theorem tt_br (e p f r : List D → Option D) (a : Addr) (nb : Bool) (l h : Nat) (hl : l < 6) (hh : h < 6) (pre post : List Nat) (acc : List Tok) (hacc : acc.length ≤ 900) (junk : List (List V)) (j sf ch k cu : V) :
    ∃ j' sf' ch' k' cu' junk', XZ j' sf' ch' k' cu' ∧ aexecs (T1x e p f r) xc ow xs 293 [trW 2] (stX (SS (patOf nb l h pre post)) a (pos pre 0) (bN nb pre post) (.d (.str (SS [91]))) j sf ch k cu ((acc.map (tokD a)).map V.d :: junk)) =
      some (.next, stX (SS (patOf nb l h pre post)) a (pos pre (bb nb + 4)) (bN nb pre post) (.d (.str (SS [91]))) j' sf' ch' k' cu' (((addTok acc (some (.br nb l h))).map (tokD a)).map V.d :: junk')) := by
  refine x5_1 (bw_all nb l h pre post e p f r a (acc.map (tokD a)) junk hl hh (by simp; lia) j sf ch k cu) fun jj sf1 kk junk' m hb => ?_
  refine ⟨.d jj, .d sf1, .p m, .d kk, tD [97 + h], junk', .inr ⟨_, _, _, _, _, rfl, rfl, rfl, rfl, rfl⟩, ?_⟩
  have e1 : (addTok acc (some (.br nb l h))).map (tokD a) = acc.map (tokD a) ++ [strD (.br nb l h)] := by simp [addTok, tokD]
  rw [e1]
  refine tt_not e p f r (SS (patOf nb l h pre post)) a (x := 91) (by lia) (by lia) ?_
  have h2 := tr_2 e p f r (SS (patOf nb l h pre post)) a (pos pre 0) (bN nb pre post) j sf ch k cu ((acc.map (tokD a)).map V.d :: junk) (SS [91])
  rw [ss_beq, beq_self_eq_true] at h2
  simp only [cond_true] at h2
  exact h2.trans hb
end Mine
namespace Mine
open PySem PySem.W PyProof.Rows PySem.SeqAt
noncomputable def SmallT : Tok → Prop
  | none => True
  | some k => Small k
section
variable {e p f r : List D → Option D} {a : Addr}
theorem tr_turn (he : ∀ l, l < 6 → e [.str (SS [97 + l])] = some (.str (SS [97 + l]))) (t : Tok) (ht : SmallT t) (pre post : List Nat) (acc : List Tok) (hacc : acc.length ≤ 900) (junk : List (List V)) (c j sf ch k cu : V) (hx : XZ j sf ch k cu) :
    ∃ c' j' sf' ch' k' cu' junk', XZ j' sf' ch' k' cu' ∧ xS e p f r (stX (SS (pre ++ (txt t ++ post))) a (pre.length : Nat) ((pre ++ (txt t ++ post)).length : Nat) c j sf ch k cu ((acc.map (tokD a)).map V.d :: junk)) =
      some (.next, stX (SS (pre ++ (txt t ++ post))) a ((pre ++ txt t).length : Nat) ((pre ++ (txt t ++ post)).length : Nat) c' j' sf' ch' k' cu' (((addTok acc t).map (tokD a)).map V.d :: junk')) := by
  have hsub : ∀ (c0 : Nat) (q : List Nat), txt t = c0 :: q → asub (.str (SS (pre ++ (txt t ++ post)))) (.int (pre.length : Nat)) = some (.str (SS [c0])) := fun c0 q h => asub_str (by rw [h]; simp)
  cases t with
  | none =>
    have h1 := tt_01 e p f r (SS (pre ++ (txt none ++ post))) a (n := ((pre ++ (txt none ++ post)).length : Nat)) (c := c) (j := j) (sf := sf) (ch := ch) (k := k) (cu := cu) (hp := (acc.map (tokD a)).map V.d :: junk) (hsub 42 [] rfl)
    rw [tt_star e p f r _ a hx acc hacc junk] at h1
    rw [show ((pre.length : Nat) : Int) + 1 = (((pre ++ txt none).length : Nat) : Int) by simp [txt]] at h1
    exact ⟨_, _, _, _, _, _, _, hx, h1⟩
  | some kk =>
    cases kk with
    | q =>
      have h1 := tt_01 e p f r (SS (pre ++ (txt (some .q) ++ post))) a (n := ((pre ++ (txt (some .q) ++ post)).length : Nat)) (c := c) (j := j) (sf := sf) (ch := ch) (k := k) (cu := cu) (hp := (acc.map (tokD a)).map V.d :: junk) (hsub 63 [] rfl)
      rw [tt_q e p f r _ a acc hacc junk] at h1
      rw [show ((pre.length : Nat) : Int) + 1 = (((pre ++ txt (some .q)).length : Nat) : Int) by simp [txt, txt1]] at h1
      exact ⟨_, _, _, _, _, _, _, hx, h1⟩
    | lt l =>
      have hl : l < 6 := ht
      have h1 := tt_01 e p f r (SS (pre ++ (txt (some (.lt l)) ++ post))) a (n := ((pre ++ (txt (some (.lt l)) ++ post)).length : Nat)) (c := c) (j := j) (sf := sf) (ch := ch) (k := k) (cu := cu) (hp := (acc.map (tokD a)).map V.d :: junk) (hsub (97 + l) [] rfl)
      rw [tt_lt e p f r _ a l (he l hl) acc hacc junk] at h1
      rw [show ((pre.length : Nat) : Int) + 1 = (((pre ++ txt (some (.lt l))).length : Nat) : Int) by simp [txt, txt1]] at h1
      exact ⟨_, _, _, _, _, _, _, hx, h1⟩
    | br nb l h =>
      refine x0_2 ht fun hl hh => ?_
      have hP : pre ++ (txt (some (.br nb l h)) ++ post) = patOf nb l h pre post := by
        show pre ++ (91 :: ((bif nb then [33] else []) ++ [97 + l, 45, 97 + h, 93]) ++ post) = pre ++ 91 :: ((bif nb then [33] else []) ++ (97 + l) :: 45 :: (97 + h) :: 93 :: post)
        simp
      have h1 := tt_01 e p f r (SS (pre ++ (txt (some (.br nb l h)) ++ post))) a (n := ((pre ++ (txt (some (.br nb l h)) ++ post)).length : Nat)) (c := c) (j := j) (sf := sf) (ch := ch) (k := k) (cu := cu) (hp := (acc.map (tokD a)).map V.d :: junk) (hsub 91 _ rfl)
      refine x6_2 (tt_br e p f r a nb l h hl hh pre post acc hacc junk j sf ch k cu) fun j' sf' ch' k' cu' junk' hx' h2 => ?_
      refine ⟨.d (.str (SS [91])), j', sf', ch', k', cu', junk', hx', h1.trans ?_⟩
      rw [hP, n_eq, show ((pre.length : Nat) : Int) + 1 = pos pre 0 by unfold pos; lia, h2]
      have : pos pre (bb nb + 4) = (((pre ++ txt (some (.br nb l h))).length : Nat) : Int) := by
        unfold pos
        have : (txt (some (.br nb l h))).length = bb nb + 5 := by cases nb <;> rfl
        rw [List.length_append, this]; lia
      rw [this]
theorem tr_loop (he : ∀ l, l < 6 → e [.str (SS [97 + l])] = some (.str (SS [97 + l]))) (PL : List Nat) : ∀ (toks : List Tok) (pre : List Nat), PL = pre ++ texts toks → (∀ t ∈ toks, SmallT t) → ∀ (acc : List Tok) (junk : List (List V)) (c j sf ch k cu : V), XZ j sf ch k cu → acc.length + toks.length ≤ 900 → ∀ m, toks.length ≤ m →
    ∃ c' j' sf' ch' k' cu' junk', awhile (xT e p f r) (xS e p f r) (m + 1) (stX (SS PL) a (pre.length : Nat) (PL.length : Nat) c j sf ch k cu ((acc.map (tokD a)).map V.d :: junk)) =
      some (.next, stX (SS PL) a (PL.length : Nat) (PL.length : Nat) c' j' sf' ch' k' cu' (((toks.foldl addTok acc).map (tokD a)).map V.d :: junk'))
  | [], pre, hP, _, acc, junk, c, j, sf, ch, k, cu, hx, hl, m, hm => by
    have e1 : pre.length = PL.length := by rw [hP]; simp [texts]
    refine ⟨c, j, sf, ch, k, cu, junk, ?_⟩
    rw [e1]
    refine aw_stop ?_
    have := tr_3e e p f r (SS PL) a (PL.length : Nat) (PL.length : Nat) c j sf ch k cu ((acc.map (tokD a)).map V.d :: junk)
    rw [decide_eq_false (by lia)] at this
    exact this
  | t :: toks, pre, hP, hs, acc, junk, c, j, sf, ch, k, cu, hx, hl, m, hm => by
    simp only [List.length_cons] at hl hm
    obtain ⟨m', rfl⟩ : ∃ m', m = m' + 1 := ⟨m - 1, by lia⟩
    have hP1 : PL = pre ++ (txt t ++ texts toks) := by rw [hP]; rfl
    have htx : 0 < (txt t).length := by
      cases t with
      | none => simp [txt]
      | some kk => cases kk <;> simp [txt, txt1]
    have hT : xT e p f r (stX (SS PL) a (pre.length : Nat) (PL.length : Nat) c j sf ch k cu ((acc.map (tokD a)).map V.d :: junk)) = some true := by
      have := tr_3e e p f r (SS PL) a (pre.length : Nat) (PL.length : Nat) c j sf ch k cu ((acc.map (tokD a)).map V.d :: junk)
      rw [decide_eq_true (by rw [hP1, List.length_append, List.length_append]; lia)] at this
      exact this
    refine x7_2 (tr_turn (p := p) (f := f) (r := r) (a := a) he t (hs t List.mem_cons_self) pre (texts toks) acc (by lia) junk c j sf ch k cu hx) fun c1 j1 sf1 ch1 k1 cu1 junk1 hx1 hS => ?_
    rw [← hP1] at hS
    have hadd : (addTok acc t).length ≤ acc.length + 1 := by
      unfold addTok
      cases t with
      | none => dsimp only; cases lastStar acc <;> simp
      | some k => simp
    refine x7_1 (tr_loop he PL toks (pre ++ txt t) (by rw [hP1]; simp) (fun t ht => hs t (List.mem_cons_of_mem _ ht)) (addTok acc t) junk1 c1 j1 sf1 ch1 k1 cu1 hx1 (by lia) m' (by lia)) fun c2 j2 sf2 ch2 k2 cu2 junk2 hF => ?_
    exact ⟨c2, j2, sf2, ch2, k2, cu2, junk2, (aw_step hT hS).trans hF⟩
end
theorem fEsc_lt (l : Nat) (hl : l < 6) : fEsc [.str (SS [97 + l])] = some (.str (SS [97 + l])) := by
  show (bif decide (97 ≤ 97 + l) && decide (97 + l ≤ 102) then some (D.str ⟨#[97 + l]⟩) else none) = _
  rw [decide_eq_true (by lia), decide_eq_true (by lia)]; rfl
theorem translate_run (a : Addr) (toks : List Tok) (hs : ∀ t ∈ toks, SmallT t) (hl : toks.length ≤ 200) :
    runF T1 (specT (fnP 8).sc) 8 [.str (SS (texts toks)), .obj a, .str (SS [46])] = some (.list ((toks.foldl addTok []).map (tokD a))) := by
  have hg : ∀ P, giveArgs (fnP 8).ps [.str P, .obj a, .str (SS [46])] ⟨startVars (fnP 8).sc, []⟩ = some ⟨[(Str.ofString "pat", .d (.str P)), (Str.ofString "STAR", .d (.obj a)), (Str.ofString "QUESTION_MARK", .d (.str (SS [46]))), (Str.ofString "res", .un), (Str.ofString "add", .un), (Str.ofString "i", .un), (Str.ofString "n", .un), (Str.ofString "c", .un), (Str.ofString "j", .un), (Str.ofString "stuff", .un), (Str.ofString "chunks", .un), (Str.ofString "k", .un), (Str.ofString "chunk", .un)], []⟩ := by intro P; kernel_rfl
  rw [t1_x]
  refine run_of' (hg _) ?_
  have he : ∀ l, l < 6 → fEsc [.str (SS [97 + l])] = some (.str (SS [97 + l])) := fEsc_lt
  generalize fEsc = e at he
  generalize runF T0 noSpec 15 = p
  generalize runF T0 noSpec 17 = f
  generalize runF T0 noSpec 11 = r
  refine x7_1 (tr_loop (p := p) (f := f) (r := r) (a := a) he (texts toks) toks [] rfl hs [] [] .un .un .un .un .un .un (.inl ⟨rfl, rfl, rfl, rfl, rfl⟩) (by simp; lia) 294 (by lia)) fun c j sf ch k cu junk hF => ?_
  have h3 := (tr_3 e p f r (SS (texts toks)) a (([] : List Nat).length : Nat) ((texts toks).length : Nat) .un .un .un .un .un .un [[]]).trans hF
  have h4 := tr_4 e p f r (SS (texts toks)) a ((texts toks).length : Nat) ((texts toks).length : Nat) c j sf ch k cu (((toks.foldl addTok []).map (tokD a)).map V.d :: junk)
  rw [beq_self_eq_true] at h4
  have h5 := tr_5 e p f r (SS (texts toks)) a ((texts toks).length : Nat) ((texts toks).length : Nat) c j sf ch k cu (((toks.foldl addTok []).map (tokD a)).map V.d :: junk)
  have hlen : ∀ (ts : List Tok) (acc : List Tok), (ts.foldl addTok acc).length ≤ acc.length + ts.length := by
    intro ts
    induction ts with
    | nil => intro acc; simp
    | cons t ts ih =>
      intro acc
      have h1 := ih (addTok acc t)
      have hadd : (addTok acc t).length ≤ acc.length + 1 := by
        unfold addTok
        cases t with
        | none => dsimp only; cases lastStar acc <;> simp
        | some k => simp
      simp only [List.foldl_cons, List.length_cons]; lia
  have hwk : ∃ q, wk (stX (SS (texts toks)) a ((texts toks).length : Nat) ((texts toks).length : Nat) c j sf ch k cu (((toks.foldl addTok []).map (tokD a)).map V.d :: junk)) = (Str.ofString "pat", .str (SS (texts toks))) :: (Str.ofString "STAR", .obj a) :: (Str.ofString "QUESTION_MARK", .str (SS [46])) :: (Str.ofString "res", .list ((toks.foldl addTok []).map (tokD a))) :: q :=
    ⟨_, wk_d.trans (congrArg _ (wk_d.trans (congrArg _ (wk_d.trans (congrArg _ (wk_p (l := (toks.foldl addTok []).map (tokD a)) rfl (lim1000' (by have := hlen toks []; simp at this ⊢; lia))))))))⟩
  refine x1_1 hwk fun q hq => ?_
  rw [hq, tr_5e] at h5
  have h012 := tr_012 e p f r (SS (texts toks)) a
  rw [ss_len] at h012
  exact ⟨_, h012.trans ((ex_next h3).trans ((ex_next h4).trans (ex_ret h5)))⟩
end Mine
namespace Mine.Glob
variable {α : Type}
noncomputable def mids : List (List α) → List (List α)
  | [] => []
  | [s] => [s]
  | s :: t :: ss => bif s.isEmpty then mids (t :: ss) else s :: mids (t :: ss)
theorem mids_eq : ∀ (t : List α) (ss : List (List α)), ((t :: ss).dropLast.filter fun s => !s.isEmpty) ++ [(t :: ss).getLastD []] = mids (t :: ss)
  | t, [] => by simp [mids]
  | t, u :: ss => by
    have ih := mids_eq u ss
    rw [List.dropLast_cons_of_ne_nil (by simp), List.filter_cons]
    have hl : (t :: u :: ss).getLastD [] = (u :: ss).getLastD [] := by simp [List.getLastD_cons]
    rw [hl]
    cases ht : t.isEmpty with
    | true => simp only [mids, ht, Bool.not_true, cond_true, Bool.false_eq_true, if_false]; exact ih
    | false => simp only [mids, ht, Bool.not_false, cond_false, if_true, List.cons_append]; rw [ih]
theorem runs_mids {l : List (Option α)} {s : List α} {ss : List (List α)} (h : segs l = s :: ss) : runsOf l = s :: mids ss := by
  unfold runsOf
  rw [h]
  cases ss with
  | nil => rfl
  | cons t ss => rw [← mids_eq]
theorem mids_ne : ∀ (ss : List (List α)), ∀ s ∈ (mids ss).dropLast, s ≠ []
  | [], s, h => by simp [mids] at h
  | [t], s, h => by simp [mids] at h
  | t :: u :: ss, s, h => by
    have ih := mids_ne (u :: ss)
    dsimp only [mids] at h
    cases ht : t.isEmpty with
    | true => rw [ht] at h; exact ih s h
    | false =>
      rw [ht] at h
      dsimp only [cond_false] at h
      have hne : mids (u :: ss) ≠ [] := by rw [← mids_eq]; simp
      rw [List.dropLast_cons_of_ne_nil hne] at h
      rcases List.mem_cons.mp h with h | h
      · subst h; intro e; rw [e] at ht; simp at ht
      · exact ih s h
noncomputable def csum : List (List α) → Nat
  | [] => 0
  | s :: ss => s.length + 1 + csum ss
theorem csum_segs : ∀ (l : List (Option α)), csum (segs l) = l.length + 1
  | [] => rfl
  | none :: r => by simp only [segs, csum, csum_segs r, List.length_cons, List.length_nil]; lia
  | some p :: r => by
    refine x2_1 (segs_ne r) fun s ss h => ?_
    have ih := csum_segs r
    dsimp only [segs]
    rw [h] at ih ⊢
    dsimp only [csum, List.length_cons] at ih ⊢
    lia
theorem csum_mids : ∀ (ss : List (List α)), csum (mids ss) ≤ csum ss
  | [] => Nat.le_refl _
  | [s] => Nat.le_refl _
  | s :: t :: ss => by
    have ih := csum_mids (t :: ss)
    dsimp only [mids]
    cases s.isEmpty with
    | true => dsimp only [cond_true]; dsimp only [csum] at ih ⊢; lia
    | false => dsimp only [cond_false]; dsimp only [csum] at ih ⊢; lia
end Mine.Glob
namespace Mine
open PySem PySem.W PyProof.Rows PySem.SeqAt
noncomputable def gS (b : Bool) : List (List Tk) → List Tok
  | [] => []
  | s :: ss => (bif b then [] else [none]) ++ (s.map some ++ gS s.isEmpty ss)
theorem last_some (acc : List Tok) (s : List Tk) : lastStar (acc ++ s.map some) = bif s.isEmpty then lastStar acc else false := by
  rcases List.eq_nil_or_concat s with rfl | ⟨s', k, rfl⟩
  · simp
  · unfold lastStar; simp
theorem last_add (acc : List Tok) : lastStar (addTok acc none) = true := by
  unfold addTok
  cases h : lastStar acc with
  | true => exact h
  | false => unfold lastStar; simp
theorem fold_add : ∀ (toks : List Tok) (acc : List Tok) (s : List Tk) (ss : List (List Tk)), Glob.segs toks = s :: ss → toks.foldl addTok acc = acc ++ (s.map some ++ gS (lastStar (acc ++ s.map some)) ss)
  | [], acc, s, ss, h => by
    simp only [Glob.segs] at h
    cases h
    simp [gS]
  | none :: r, acc, s, ss, h => by
    refine x2_1 (Glob.segs_ne r) fun s0 ss0 h0 => ?_
    simp only [Glob.segs] at h
    rw [h0] at h
    cases h
    rw [List.foldl_cons, fold_add r (addTok acc none) s0 ss0 h0, last_some, last_add]
    simp only [List.map_nil, List.append_nil, List.nil_append, gS]
    have e1 : (bif s0.isEmpty then true else false) = s0.isEmpty := by cases s0.isEmpty <;> rfl
    rw [e1]
    unfold addTok
    cases lastStar acc <;> simp
  | some k :: r, acc, s, ss, h => by
    refine x2_1 (Glob.segs_ne r) fun s0 ss0 h0 => ?_
    simp only [Glob.segs] at h
    rw [h0] at h
    injection h with ha hb
    subst ha
    subst hb
    rw [List.foldl_cons, fold_add r (addTok acc (some k)) s0 ss0 h0]
    simp [addTok]
noncomputable def lay2 : List (List Tk) → List Tok
  | [] => []
  | s :: ss => none :: (s.map some ++ lay2 ss)
theorem gS_tf (s : List Tk) (ss : List (List Tk)) : none :: gS true (s :: ss) = gS false (s :: ss) := rfl
theorem gS_lay : ∀ (ss : List (List Tk)), gS false ss = lay2 (Glob.mids ss)
  | [] => rfl
  | [s] => by simp [gS, lay2, Glob.mids]
  | s :: t :: ss => by
    have ih := gS_lay (t :: ss)
    cases hs : s.isEmpty with
    | true =>
      have : s = [] := by simpa using hs
      rw [this]
      have e1 : gS false ([] :: t :: ss) = none :: gS true (t :: ss) := rfl
      rw [e1, gS_tf, ih]
      rfl
    | false =>
      have e1 : gS false (s :: t :: ss) = none :: (s.map some ++ gS s.isEmpty (t :: ss)) := rfl
      have e2 : Glob.mids (s :: t :: ss) = s :: Glob.mids (t :: ss) := by dsimp only [Glob.mids]; rw [hs]; rfl
      rw [e1, e2, hs, ih]
      rfl
theorem fold_runs (toks : List Tok) : ∃ r0 rest, Glob.runsOf toks = r0 :: rest ∧ toks.foldl addTok [] = r0.map some ++ lay2 rest ∧ (∀ s ∈ rest.dropLast, s ≠ []) ∧ Glob.csum (r0 :: rest) ≤ toks.length + 1 := by
  refine x2_1 (Glob.segs_ne toks) fun s ss h => ?_
  refine ⟨s, Glob.mids ss, Glob.runs_mids h, ?_, Glob.mids_ne ss, ?_⟩
  · rw [fold_add toks [] s ss h, List.nil_append, List.nil_append]
    have : lastStar (s.map some) = false := by
      have := last_some [] s
      rw [List.nil_append] at this
      rw [this]
      cases s.isEmpty <;> rfl
    rw [this, gS_lay]
  · have h1 := Glob.csum_segs toks
    rw [h] at h1
    have h2 := Glob.csum_mids ss
    dsimp only [Glob.csum] at h1 ⊢
    lia
theorem lay_tok (a : Addr) : ∀ (rest : List (List Tk)), (lay2 rest).map (tokD a) = lay a rest
  | [] => rfl
  | s :: ss => by
    have ih := lay_tok a ss
    simp only [lay2, lay, List.map_cons, List.map_append, ih, List.map_map]
    rfl
theorem part_len (k : Tk) : (part1 k).length ≤ 6 := by
  cases k with
  | q => simp [part1]
  | lt l => simp [part1]
  | br n l h =>
    by_cases hlt : h < l
    · rw [part1_lt n hlt]; cases n <;> simp
    · rw [part1_ge n hlt]; cases n <;> simp
theorem flat_len : ∀ (s : List Tk), (s.flatMap part1).length ≤ 6 * s.length
  | [] => by simp
  | k :: s => by
    have h1 := part_len k
    have h2 := flat_len s
    rw [List.flatMap_cons, List.length_append, List.length_cons]; lia
theorem grp_len : ∀ (rest : List (List Tk)), (grp rest).length ≤ 7 * Glob.csum rest
  | [] => by simp [grp]
  | [s] => by have := flat_len s; simp only [grp, Glob.csum, List.length_append, List.length_cons, List.length_nil]; lia
  | s :: t :: ss => by
    have h1 := flat_len s
    have h2 := grp_len (t :: ss)
    simp only [grp, Glob.csum, List.length_append, List.length_cons, List.length_nil] at h2 ⊢; lia
theorem out_len (r0 : List Tk) (rest : List (List Tk)) : (outT (r0 :: rest)).length ≤ 7 * Glob.csum (r0 :: rest) := by
  have h1 := flat_len r0
  have h2 := grp_len rest
  simp only [outT, Glob.csum, List.length_append]; lia
theorem cost_len : ∀ (rest : List (List Tk)), cost rest ≤ 2 * Glob.csum rest ∧ rest.length ≤ Glob.csum rest ∧ ∀ s ∈ rest, s.length ≤ Glob.csum rest
  | [] => by simp [cost]
  | s :: ss => by
    refine x0_3 (cost_len ss) fun h1 h2 h3 => ?_
    refine ⟨by dsimp only [cost, Glob.csum]; lia, by dsimp only [Glob.csum, List.length_cons]; lia, fun t ht => ?_⟩
    rcases List.mem_cons.mp ht with h | h
    · subst h; dsimp only [Glob.csum]; lia
    · have := h3 t h; dsimp only [Glob.csum]; lia
theorem segs_mem {α : Type} : ∀ (l : List (Option α)), ∀ s ∈ Glob.segs l, ∀ x ∈ s, some x ∈ l
  | [], s, hs, x, hx => by simp [Glob.segs] at hs; subst hs; cases hx
  | none :: r, s, hs, x, hx => by
    simp only [Glob.segs, List.mem_cons] at hs
    rcases hs with rfl | hs
    · cases hx
    · exact List.mem_cons_of_mem _ (segs_mem r s hs x hx)
  | some p :: r, s, hs, x, hx => by
    refine x2_1 (Glob.segs_ne r) fun s0 ss h => ?_
    have ih := segs_mem r
    dsimp only [Glob.segs] at hs
    rw [h] at hs ih
    simp only [List.mem_cons] at hs
    rcases hs with rfl | hs
    · rcases List.mem_cons.mp hx with rfl | hx
      · exact List.mem_cons_self
      · exact List.mem_cons_of_mem _ (ih s0 List.mem_cons_self x hx)
    · exact List.mem_cons_of_mem _ (ih s (List.mem_cons_of_mem _ hs) x hx)
theorem trans_all (toks : List Tok) (hs : ∀ t ∈ toks, SmallT t) (hl : toks.length ≤ 40) : ∃ T0', (∀ a, ∃ parts, runF T1 (specT (fnP 8).sc) 8 [.str (SS (texts toks)), .obj a, .str (SS [46])] = some parts ∧ runF T0 noSpec 9 [parts, .obj a] = some (.str T0')) ∧
    runF T1 noSpec 16 [.str T0'] = some (.list (((Glob.runsOf toks).map (List.map pcc)).map runD)) := by
  refine x2_4 (fold_runs toks) fun r0 rest h1 h2 h3 h4 => ?_
  have hout := out_len r0 rest
  refine x0_3 (cost_len rest) fun c1 c2 c3 => ?_
  have hc : Glob.csum (r0 :: rest) = r0.length + 1 + Glob.csum rest := rfl
  refine ⟨SS (regT (r0 :: rest)), fun a => ⟨_, translate_run a toks hs (by lia), ?_⟩, ?_⟩
  · rw [h2, List.map_append, lay_tok, List.map_map]
    refine join_run a r0 rest h3 (fun s hs' => ?_) (by lia) (by lia)
    rcases List.mem_cons.mp hs' with h | h
    · subst h; lia
    · have := c3 s h; lia
  · rw [h1]
    refine read_run r0 rest (fun s hs' k hk => ?_) h3 (by lia) (by lia)
    have hm := Glob.runs_sub toks s (by rw [h1]; exact hs')
    exact hs (some k) (segs_mem toks s hm k hk)
end Mine
namespace Mine
open PySem PySem.W PyProof.Rows PySem.SeqAt
theorem cells_len (ns : List Int) : (cellsOf ns).length = 3 := by delta cellsOf defs; simp
theorem th_le (c : Int) : 1 ≤ (thOf c).length ∧ (thOf c).length ≤ 2 := by delta thOf; cases (sideOf c != 0) <;> simp
theorem ts_len (ns : List Int) : 3 ≤ ((cellsOf ns).flatMap thOf).length ∧ ((cellsOf ns).flatMap thOf).length ≤ 6 := by
  have h := cells_len ns
  have : ∀ cs : List Int, cs.length ≤ (cs.flatMap thOf).length ∧ (cs.flatMap thOf).length ≤ 2 * cs.length := by
    intro cs
    induction cs with
    | nil => simp
    | cons c cs ih =>
      have := th_le c
      simp only [List.flatMap_cons, List.length_append, List.length_cons]; lia
  have := this (cellsOf ns)
  lia
theorem mem_bif {b : Bool} {t x : Tok} (h : t ∈ (bif b then [x] else [])) : t = x := by
  cases b with
  | true => simpa using h
  | false => cases h
theorem small_tk {k : Int} {l m : Nat} (hl : l < 6) (hm : m < 6) : ∀ t ∈ tkOf k l m, SmallT t := by
  intro t ht
  delta tkOf at ht
  simp only [List.mem_append] at ht
  rcases ht with h | h | h | h | h
  · rw [mem_bif h]; trivial
  · rw [mem_bif h]; trivial
  · rw [mem_bif h]; exact hl
  · rw [mem_bif h]; exact ⟨hl, hm⟩
  · rw [mem_bif h]; trivial
theorem plain_of (ns : List Int) (hlen : ns.length ≤ 63) : Plain ns := by
  refine x0_2 (ts_len ns) fun t3 t6 => ?_
  have hc3 := cells_len ns
  generalize hts : (cellsOf ns).flatMap thOf = ts at t3 t6
  have hct : 0 < (ts.length : Int) ∧ (ts.length : Int) < 100 := by lia
  generalize hhs : (homesOf ts).map (fun i : Nat => (i : Int)) = hs
  generalize htk : ((cellsOf ns).zip hs).flatMap (cellT ts.length) = toks
  have hsm : ∀ t ∈ toks, SmallT t := by
    intro t ht
    rw [← htk] at ht
    obtain ⟨q, _, hq⟩ := List.mem_flatMap.mp ht
    delta cellT at hq
    have h1 := (mod_ct (q.2 + (q.1.fdiv 100000).fmod 10) ts.length hct.1 hct.2).2
    have h2 := (mod_ct (q.2 + (q.1.fdiv 1000000).fmod 10) ts.length hct.1 hct.2).2
    exact small_tk (by delta lowOf; lia) (by delta highOf; lia) t hq
  have htl : toks.length ≤ 15 := by
    have : ∀ qs : List (Int × Int), (qs.flatMap (cellT ts.length)).length ≤ 5 * qs.length := by
      intro qs
      induction qs with
      | nil => simp
      | cons q qs ih =>
        have g2 := (tk_len (kindOf q.1) (lowOf q.1 q.2 ts.length) (highOf q.1 q.2 ts.length)).2
        rw [List.length_map] at g2
        simp only [List.flatMap_cons, List.length_append, List.length_cons]
        unfold cellT at *
        lia
    have h1 := this ((cellsOf ns).zip hs)
    rw [htk] at h1
    have h2 : ((cellsOf ns).zip hs).length ≤ 3 := by simp; lia
    lia
  refine x1_2 (trans_all toks hsm (by lia)) fun T0' htr hrd => ?_
  refine ⟨SS (texts toks), T0', htr, ?_⟩
  have hth := things_run (cellsOf ns) (by lia)
  rw [hts] at hth
  have hit := items_run (cellsOf ns) hs ts.length hct.1 hct.2 (by lia)
  rw [htk] at hit
  have hhsD : hs.map D.int = (homesOf ts).map fun i : Nat => D.int (i : Int) := by rw [← hhs, List.map_map]; rfl
  rw [hhsD] at hit
  have hcol : ∀ t ∈ ts, Col t.1 := by
    intro t ht
    rw [← hts] at ht
    obtain ⟨c, _, hq⟩ := List.mem_flatMap.mp ht
    delta thOf at hq
    rcases List.mem_cons.mp hq with h | h
    · rw [h]; exact col_of c
    · cases hb : (sideOf c != 0) with
      | true => rw [hb] at h; simp at h; rw [h]; exact col_of c
      | false => rw [hb] at h; simp at h
  have htd := told_run ts hcol (by lia)
  have htr' : fT (SS (texts toks)) T0' [.str (SS (texts toks))] = some (.str T0') := by
    show (if SS (texts toks) = SS (texts toks) then some (D.str T0') else none) = _
    rw [if_pos rfl]
  show acall (T4 (SS (texts toks)) T0') (fnP 23).sc ow noSpec 300 (fnP 23).ps (fnP 23).body [.list (ns.map .int)] = some (.bool true)
  rw [t4_x]
  refine law_run ns hlen ?_
  show acall (T3 (SS (texts toks)) T0') (fnP 22).sc ow noSpec 300 (fnP 22).ps (fnP 22).body [.list ((cellsOf ns).map .int)] = some (.bool true)
  rw [t3_x]
  refine rows_run ((cellsOf ns).map .int) ts (by lia) (.str (SS (texts toks))) (.str T0') (toks.map itm) (((Glob.runsOf toks).map (List.map pcc)).map runD) hth hit htr' hrd htd scales_run fun w hw => ?_
  have ho := order_run (ts.map (ownOf w)) (by rw [List.length_map]; lia) (by rw [List.length_map]; lia) toks (by lia)
  have hm : (ts.map (ownOf w)).map D.int = ts.map fun t => .int (ownOf w t) := by rw [List.map_map]; rfl
  rw [hm] at ho
  exact ho
end Mine
open PySem PySem.W PyProof.Rows
theorem PySem.Challenge.cw_ij0022_01_holds : PySem.Challenge.rw_ij0022_01.Holds :=
  Mine.hd (by
  w_strict (
    k_fill
    intro w s₀ s₁ mg mb G Y fa o pm cd doc dV kV ho hdd hcd hD hmg hg args vals as hpre hlay hrd hwl hlo
    have KX := km_in_of Y
    km_tabs Y
    have X := (Ground.X G).1
    have V := (Ground.X G).2
    refine Ground.open G ?_
    intro T B D TE TW
    try (refine guard_noD D (by decide +kernel) ?_; clear D)
    km_lay T hmg ho hdd cd
    wrow_args hpre hlay hrd hwl hlo
    all_goals (
      first | refine callC_kw (enter_call ?_) | refine enter_call ?_
      w_top on
      exact Mine.law_end KX T hT9 hg hmg (by assumption) (by assumption) (by omega) (Mine.plain_of _ (by omega)))))
