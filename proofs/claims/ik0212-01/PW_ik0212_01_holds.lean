import PyProof.Rows.All
import Wide.All
import OpenK.AllK
import Wide.FinOn
import KE.KDictIter
import KE.KPar
import KE.KSetInts
import KE.KSortAsk
import KE.KSortKey
import KE.KSuperObj
import KE.KTryDeepN
import KE.KTryMore
import PyProof.FactsAll.int_3
import PyProof.FactsAll.int_4
import PyProof.Rows.SortStr
import PySem.Challenge.RW_ik0212_01
set_option Elab.async false
set_option compiler.extract_closed false
set_option compiler.reuse false
section
open PySem PySem.W PyProof.Rows
set_option maxRecDepth 100000
namespace Mine
noncomputable def topRunT (tb : String → Option Builtin) (p : Program) (w : World) (n₀ : Nat) (ann : Option Value) : Nat → SharedT → Thread → Option SharedT
  | 0, _, _ => none
  | n + 1, s, t => match through t with
    | true => some s
    | false => match stepOk n₀ ann t with
      | false => none
      | true => match stepT (denote tb) p w s t with
        | some (s', t') => topRunT tb p w n₀ ann n s' t'
        | none => none
theorem topRun_of {tb : String → Option Builtin} {p : Program} {w : World} {n₀ : Nat} {ann : Option Value} : ∀ {n : Nat} {s s' : SharedT} {t : Thread}, topRunT tb p w n₀ ann n s t = some s' → topRun tb p w n₀ ann n s.abs t = some s'.abs
  | 0, _, _, _, h => by cases h
  | n + 1, s, s', t, h => by
    unfold topRunT at h
    unfold topRun
    cases he : through t with
    | true => rw [he] at h; cases h; rfl
    | false =>
      rw [he] at h
      cases hk : stepOk n₀ ann t with
      | false => rw [hk] at h; cases h
      | true =>
        rw [hk] at h
        cases hs : stepT (denote tb) p w s t with
        | none => rw [hs] at h; cases h
        | some r => obtain ⟨s₂, t₂⟩ := r; rw [hs] at h; rw [stepT_spec hs]; exact topRun_of h
noncomputable def bootT (P : Params) : BT :=
  .node (boot_o_0 P)
    (.node (boot_o_1 P) (.node (boot_o_3 P) (.node (boot_o_7 P) .nil .nil) .nil) (.node (boot_o_5 P) (.node (boot_o_9 P) .nil .nil) .nil))
    (.node (boot_o_2 P) (.node (boot_o_4 P) (.node (boot_o_8 P) .nil .nil) .nil) (.node (boot_o_6 P) (.node (boot_o_10 P) .nil .nil) .nil))
theorem boot_abs (P : Params) : absHeap (bootT P) 11 { } = boot_heap P := by kernel_rfl
noncomputable def s0T (w : World) (os : OsState) : SharedT := ⟨bootT w.params, 11, { }, #[], { }, 181, os⟩
noncomputable abbrev vwOf (p : Program) : Program := view p [0, 2, 3, 4, 5, 6, 10, 11, 14, 15, 16, 17, 18, 20, 21, 22, 23, 24, 25, 26]
noncomputable abbrev vw : Program := vwOf PySem.Challenge.pw_ik0212_01
noncomputable abbrev loos : List Str := [Str.ofString "locale_encoding_alias", Str.ofString "_initial_missing", Str.ofString "reduce", Str.ofString "_NodeInfo"]
noncomputable def allC (p : Program) (as ts : List Addr) (w : World) (os : OsState) :=
  (topRunT treeTable p w 11 (some (.ref 6)) 11100 (s0T w os) (topStub p)).map fun s =>
    ((staticsOk (importedModules p.main.body) (boot_heap w.params) s.abs.heap && namesBound p s.abs.heap && gensDone s.abs && laidKept (boot_heap w.params) s.abs.heap),
      openSeen (vwOf p) loos (importedModules p.main.body) (fun s => xlAt (vwOf p) [] s && recOk [] s) true s.abs, (as.map s.abs.heap.get?, ts.map s.abs.heap.get?))
noncomputable def goodC (p : Program) := openGood (vwOf p) loos
theorem allC_self : allC = allC := rfl
theorem goodC_self : goodC = goodC := rfl
name_quick allQ for Mine.allC by Mine.allC_self
name_quick goodQ for Mine.goodC by Mine.goodC_self
theorem left_of (as ts : List Addr) {Ya : World → List (Option Obj) × List (Option Obj)} (run : ∀ w os, allC PySem.Challenge.pw_ik0212_01 as ts w os = some (true, goodC PySem.Challenge.pw_ik0212_01, Ya w)) :
    LeftO PySem.Challenge.pw_ik0212_01 vw loos (fun s => xlAt vw [] s && recOk [] s) (fun s => (as.map s.heap.get?, ts.map s.heap.get?)) Ya 22036 := fun w => by
  obtain ⟨⟨h, gs, d, k, os⟩, e, e'⟩ := Option.map_eq_some_iff.mp (boot_open (p := PySem.Challenge.pw_ik0212_01) (N := 22036) rfl rfl (fun _ => rfl) w)
  obtain ⟨rfl, rfl, rfl, rfl⟩ : h = boot_heap w.params ∧ gs = Array.mk [] ∧ d = boot_drawn ∧ k = boot_toks := by simpa using e'
  obtain ⟨s, hs, hl⟩ := Option.map_eq_some_iff.mp (run w os)
  have r := topRun_mono (22036 - 11100) _ _ _ _ (topRun_of hs)
  have ha : (s0T w os).abs = ⟨boot_heap w.params, Array.mk [], boot_drawn, boot_toks, os⟩ := by
    show Shared.mk (absHeap (bootT w.params) 11 { }) _ _ _ _ = _
    rw [boot_abs]
    rfl
  rw [ha] at r
  obtain ⟨l1, l2⟩ := Prod.mk.inj hl
  have t : topFrom treeTable PySem.Challenge.pw_ik0212_01 w 22036 ⟨boot_heap w.params, Array.mk [], boot_drawn, boot_toks, os⟩ = some s.abs := by
    unfold topFrom
    dsimp only
    rw [show (boot_heap w.params).isNs mainGlobals = true by kernel_rfl, show (boot_heap w.params).objs.size = 11 by kernel_rfl, show (boot_heap w.params).nsMap mainGlobals "__annotations__" = some (.ref 6) by kernel_rfl]
    show (topRun treeTable PySem.Challenge.pw_ik0212_01 w 11 (some (.ref 6)) 22036 _ _).bind _ = _
    rw [show (22036 : Nat) = 11100 + (22036 - 11100) by decide, r]
    show (match staticsOk _ _ _ && namesBound _ _ && gensDone _ && laidKept _ _ with | true => _ | false => _) = _
    rw [l1]
  unfold openEnds
  rw [e]
  show (topFrom treeTable PySem.Challenge.pw_ik0212_01 w 22036 _).map _ = _
  rw [t]
  exact congrArg some l2
end Mine
end
section
open PySem PySem.W PyProof.Rows
set_option maxRecDepth 100000
namespace Mine
theorem well : PySem.Challenge.rw_ik0212_01.wellSaid = true := by decide +kernel
set_option hygiene false in
local macro_rules | `(tactic| o_head $_) => `(tactic| exact hgiven)
theorem mkK : PySem.Challenge.rw_ik0212_01.row.Holds → PySem.Challenge.rw_ik0212_01.row.Holds := by
  intro hgiven
  w_on
  k_head
end Mine
end
section
open PySem PySem.W PyProof.Rows
set_option maxRecDepth 100000
namespace Mine
noncomputable abbrev asL : List Addr := [2, 3, 15, 17, 18, 20, 21, 22, 24, 25, 27, 28, 29, 31, 32, 34, 35, 36, 38, 39, 41, 42, 43, 45, 46, 48, 49, 50, 240, 242, 243, 245, 246, 247, 248, 249, 251, 252, 254, 255, 263, 264, 266, 267, 269, 270, 271, 273, 274, 275, 276, 277, 280, 287, 288, 289, 290, 300, 301, 303, 304, 306, 307, 308, 310, 311, 313, 314, 315, 317, 318, 320, 321, 322, 325, 326, 327, 329, 330, 332, 333, 334, 336, 337, 339, 340, 341, 343, 344, 346, 347, 348, 350, 351, 353, 354, 355, 357, 358, 360, 361, 362, 364, 365, 367, 368, 369, 370, 371, 372, 373, 376, 379, 380, 381, 383, 384, 386, 387, 388, 390, 391, 393, 394, 395, 397, 398, 400, 401, 402, 404, 405, 407, 408, 409, 411, 412, 414, 415, 416, 419, 420]
theorem asK : ∀ P, asL = (mkK.heap_1 P).map (·.1) := fun _ => by kernel_rfl
noncomputable abbrev HH : Hook := kmHook mkK.heap_1 asL asK [241, 417]
theorem sideF_b : ∀ (w : World) (os : OsState), (allC PySem.Challenge.pw_ik0212_01 asL [241, 417] (w.withFollow "special-get-raises" false) os).map (·.2.1) = some (goodC PySem.Challenge.pw_ik0212_01) := by
  intro w os
  rw [PySem.W.Fast.allQ_eq, PySem.W.Fast.goodQ_eq]
  kernel_rfl
theorem sideF_c : ∀ (w : World) (os : OsState), (allC PySem.Challenge.pw_ik0212_01 asL [241, 417] (w.withFollow "special-get-raises" false) os).map (·.2.2) = some (HH.val (w.withFollow "special-get-raises" false)) := by
  intro w os
  rw [PySem.W.Fast.allQ_eq]
  kernel_rfl
theorem sideF_a : ∀ (w : World) (os : OsState), (allC PySem.Challenge.pw_ik0212_01 asL [241, 417] (w.withFollow "special-get-raises" false) os).map (·.1) = some true := by
  intro w os
  rw [PySem.W.Fast.allQ_eq]
  kernel_rfl
theorem sideT_b : ∀ (w : World) (os : OsState), (allC PySem.Challenge.pw_ik0212_01 asL [241, 417] (w.withFollow "special-get-raises" true) os).map (·.2.1) = some (goodC PySem.Challenge.pw_ik0212_01) := by
  intro w os
  rw [PySem.W.Fast.allQ_eq, PySem.W.Fast.goodQ_eq]
  kernel_rfl
theorem sideT_c : ∀ (w : World) (os : OsState), (allC PySem.Challenge.pw_ik0212_01 asL [241, 417] (w.withFollow "special-get-raises" true) os).map (·.2.2) = some (HH.val (w.withFollow "special-get-raises" true)) := by
  intro w os
  rw [PySem.W.Fast.allQ_eq]
  kernel_rfl
theorem sideT_a : ∀ (w : World) (os : OsState), (allC PySem.Challenge.pw_ik0212_01 asL [241, 417] (w.withFollow "special-get-raises" true) os).map (·.1) = some true := by
  intro w os
  rw [PySem.W.Fast.allQ_eq]
  kernel_rfl
theorem three {α β γ : Type} {x : Option (α × β × γ)} {a : α} {b : β} {c : γ} (h1 : x.map (·.1) = some a) (h2 : x.map (·.2.1) = some b) (h3 : x.map (·.2.2) = some c) : x = some (a, b, c) := by
  rcases x with _ | y
  · exact nomatch h1
  · exact congrArg some (Prod.ext (Option.some.inj h1) (Prod.ext (Option.some.inj h2) (Option.some.inj h3)))
theorem left : LeftO PySem.Challenge.pw_ik0212_01 vw loos (fun s => xlAt vw [] s && recOk [] s) (Hook.obs HH) (Hook.val HH) 22036 :=
  left_of asL [241, 417] (byRow2 "special-get-raises" (P := fun w => ∀ os, allC PySem.Challenge.pw_ik0212_01 asL [241, 417] w os = some (true, goodC PySem.Challenge.pw_ik0212_01, HH.val w)) (fun w os => three (sideF_a w os) (sideF_b w os) (sideF_c w os)) (fun w os => three (sideT_a w os) (sideT_b w os) (sideT_c w os)))
end Mine
end
section
open PySem
namespace Mine
theorem drink {α : Type} (n : Nonempty α) (P : α → Prop) : ∃ x, P x → ∀ y, P y := by
  by_cases h : ∃ y, ¬ P y
  · obtain ⟨y, hy⟩ := h
    exact ⟨y, fun q => absurd q hy⟩
  · obtain ⟨x⟩ := n
    exact ⟨x, fun _ y => Classical.byContradiction fun hy => h ⟨y, hy⟩⟩
/-- a value at which P fails, if P fails anywhere: what is shown of it is shown of all -/
@[irreducible] noncomputable def qz {α : Type} (n : Nonempty α) (P : α → Prop) : α := Classical.choose (drink n P)
@[irreducible] noncomputable def qzf {α β : Type} (t : α × β) : α := t.1
@[irreducible] noncomputable def qzs {α β : Type} (t : α × β) : β := t.2
/-- a sign that the data of a proof are closed -/
noncomputable def Closing : Prop := True
theorem clo : Closing := trivial
theorem eps1 {α : Type} (_ : Closing) (n : Nonempty α) {P : α → Prop} (h : P (qz n P)) : ∀ x, P x := by
  unfold qz at h
  exact Classical.choose_spec (drink n P) h
theorem neP {α β : Type} (a : Nonempty α) (b : Nonempty β) : Nonempty (α × β) := by
  obtain ⟨a⟩ := a; obtain ⟨b⟩ := b; exact ⟨(a, b)⟩
@[irreducible] noncomputable def qz2 {α0 α1 : Type} (n : Nonempty (α0 × α1)) (P : α0 → α1 → Prop) : α0 × α1 := qz n fun t => P (qzf t) (qzs t)
theorem eps2 {α0 α1 : Type} (c : Closing) (n0 : Nonempty α0) (n1 : Nonempty α1) {P : α0 → α1 → Prop} (h : P (qzf (qz2 (neP n0 n1) P)) (qzs (qz2 (neP n0 n1) P))) : ∀ x0 x1, P x0 x1 := by
  intro x0 x1
  with_unfolding_all exact eps1 (P := fun t : α0 × α1 => P (qzf t) (qzs t)) c (neP n0 n1) h (x0, x1)
@[irreducible] noncomputable def qz3 {α0 α1 α2 : Type} (n : Nonempty (α0 × α1 × α2)) (P : α0 → α1 → α2 → Prop) : α0 × α1 × α2 := qz n fun t => P (qzf t) (qzf (qzs t)) (qzs (qzs t))
theorem eps3 {α0 α1 α2 : Type} (c : Closing) (n0 : Nonempty α0) (n1 : Nonempty α1) (n2 : Nonempty α2) {P : α0 → α1 → α2 → Prop} (h : P (qzf (qz3 (neP n0 (neP n1 n2)) P)) (qzf (qzs (qz3 (neP n0 (neP n1 n2)) P))) (qzs (qzs (qz3 (neP n0 (neP n1 n2)) P)))) : ∀ x0 x1 x2, P x0 x1 x2 := by
  intro x0 x1 x2
  with_unfolding_all exact eps1 (P := fun t : α0 × α1 × α2 => P (qzf t) (qzf (qzs t)) (qzs (qzs t))) c (neP n0 (neP n1 n2)) h (x0, x1, x2)
@[irreducible] noncomputable def qz4 {α0 α1 α2 α3 : Type} (n : Nonempty (α0 × α1 × α2 × α3)) (P : α0 → α1 → α2 → α3 → Prop) : α0 × α1 × α2 × α3 := qz n fun t => P (qzf t) (qzf (qzs t)) (qzf (qzs (qzs t))) (qzs (qzs (qzs t)))
theorem eps4 {α0 α1 α2 α3 : Type} (c : Closing) (n0 : Nonempty α0) (n1 : Nonempty α1) (n2 : Nonempty α2) (n3 : Nonempty α3) {P : α0 → α1 → α2 → α3 → Prop} (h : P (qzf (qz4 (neP n0 (neP n1 (neP n2 n3))) P)) (qzf (qzs (qz4 (neP n0 (neP n1 (neP n2 n3))) P))) (qzf (qzs (qzs (qz4 (neP n0 (neP n1 (neP n2 n3))) P)))) (qzs (qzs (qzs (qz4 (neP n0 (neP n1 (neP n2 n3))) P))))) : ∀ x0 x1 x2 x3, P x0 x1 x2 x3 := by
  intro x0 x1 x2 x3
  with_unfolding_all exact eps1 (P := fun t : α0 × α1 × α2 × α3 => P (qzf t) (qzf (qzs t)) (qzf (qzs (qzs t))) (qzs (qzs (qzs t)))) c (neP n0 (neP n1 (neP n2 n3))) h (x0, x1, x2, x3)
@[irreducible] noncomputable def qz5 {α0 α1 α2 α3 α4 : Type} (n : Nonempty (α0 × α1 × α2 × α3 × α4)) (P : α0 → α1 → α2 → α3 → α4 → Prop) : α0 × α1 × α2 × α3 × α4 := qz n fun t => P (qzf t) (qzf (qzs t)) (qzf (qzs (qzs t))) (qzf (qzs (qzs (qzs t)))) (qzs (qzs (qzs (qzs t))))
theorem eps5 {α0 α1 α2 α3 α4 : Type} (c : Closing) (n0 : Nonempty α0) (n1 : Nonempty α1) (n2 : Nonempty α2) (n3 : Nonempty α3) (n4 : Nonempty α4) {P : α0 → α1 → α2 → α3 → α4 → Prop} (h : P (qzf (qz5 (neP n0 (neP n1 (neP n2 (neP n3 n4)))) P)) (qzf (qzs (qz5 (neP n0 (neP n1 (neP n2 (neP n3 n4)))) P))) (qzf (qzs (qzs (qz5 (neP n0 (neP n1 (neP n2 (neP n3 n4)))) P)))) (qzf (qzs (qzs (qzs (qz5 (neP n0 (neP n1 (neP n2 (neP n3 n4)))) P))))) (qzs (qzs (qzs (qzs (qz5 (neP n0 (neP n1 (neP n2 (neP n3 n4)))) P)))))) : ∀ x0 x1 x2 x3 x4, P x0 x1 x2 x3 x4 := by
  intro x0 x1 x2 x3 x4
  with_unfolding_all exact eps1 (P := fun t : α0 × α1 × α2 × α3 × α4 => P (qzf t) (qzf (qzs t)) (qzf (qzs (qzs t))) (qzf (qzs (qzs (qzs t)))) (qzs (qzs (qzs (qzs t))))) c (neP n0 (neP n1 (neP n2 (neP n3 n4)))) h (x0, x1, x2, x3, x4)
@[irreducible] noncomputable def qz6 {α0 α1 α2 α3 α4 α5 : Type} (n : Nonempty (α0 × α1 × α2 × α3 × α4 × α5)) (P : α0 → α1 → α2 → α3 → α4 → α5 → Prop) : α0 × α1 × α2 × α3 × α4 × α5 := qz n fun t => P (qzf t) (qzf (qzs t)) (qzf (qzs (qzs t))) (qzf (qzs (qzs (qzs t)))) (qzf (qzs (qzs (qzs (qzs t))))) (qzs (qzs (qzs (qzs (qzs t)))))
theorem eps6 {α0 α1 α2 α3 α4 α5 : Type} (c : Closing) (n0 : Nonempty α0) (n1 : Nonempty α1) (n2 : Nonempty α2) (n3 : Nonempty α3) (n4 : Nonempty α4) (n5 : Nonempty α5) {P : α0 → α1 → α2 → α3 → α4 → α5 → Prop} (h : P (qzf (qz6 (neP n0 (neP n1 (neP n2 (neP n3 (neP n4 n5))))) P)) (qzf (qzs (qz6 (neP n0 (neP n1 (neP n2 (neP n3 (neP n4 n5))))) P))) (qzf (qzs (qzs (qz6 (neP n0 (neP n1 (neP n2 (neP n3 (neP n4 n5))))) P)))) (qzf (qzs (qzs (qzs (qz6 (neP n0 (neP n1 (neP n2 (neP n3 (neP n4 n5))))) P))))) (qzf (qzs (qzs (qzs (qzs (qz6 (neP n0 (neP n1 (neP n2 (neP n3 (neP n4 n5))))) P)))))) (qzs (qzs (qzs (qzs (qzs (qz6 (neP n0 (neP n1 (neP n2 (neP n3 (neP n4 n5))))) P))))))) : ∀ x0 x1 x2 x3 x4 x5, P x0 x1 x2 x3 x4 x5 := by
  intro x0 x1 x2 x3 x4 x5
  with_unfolding_all exact eps1 (P := fun t : α0 × α1 × α2 × α3 × α4 × α5 => P (qzf t) (qzf (qzs t)) (qzf (qzs (qzs t))) (qzf (qzs (qzs (qzs t)))) (qzf (qzs (qzs (qzs (qzs t))))) (qzs (qzs (qzs (qzs (qzs t)))))) c (neP n0 (neP n1 (neP n2 (neP n3 (neP n4 n5))))) h (x0, x1, x2, x3, x4, x5)
@[irreducible] noncomputable def qz7 {α0 α1 α2 α3 α4 α5 α6 : Type} (n : Nonempty (α0 × α1 × α2 × α3 × α4 × α5 × α6)) (P : α0 → α1 → α2 → α3 → α4 → α5 → α6 → Prop) : α0 × α1 × α2 × α3 × α4 × α5 × α6 := qz n fun t => P (qzf t) (qzf (qzs t)) (qzf (qzs (qzs t))) (qzf (qzs (qzs (qzs t)))) (qzf (qzs (qzs (qzs (qzs t))))) (qzf (qzs (qzs (qzs (qzs (qzs t)))))) (qzs (qzs (qzs (qzs (qzs (qzs t))))))
theorem eps7 {α0 α1 α2 α3 α4 α5 α6 : Type} (c : Closing) (n0 : Nonempty α0) (n1 : Nonempty α1) (n2 : Nonempty α2) (n3 : Nonempty α3) (n4 : Nonempty α4) (n5 : Nonempty α5) (n6 : Nonempty α6) {P : α0 → α1 → α2 → α3 → α4 → α5 → α6 → Prop} (h : P (qzf (qz7 (neP n0 (neP n1 (neP n2 (neP n3 (neP n4 (neP n5 n6)))))) P)) (qzf (qzs (qz7 (neP n0 (neP n1 (neP n2 (neP n3 (neP n4 (neP n5 n6)))))) P))) (qzf (qzs (qzs (qz7 (neP n0 (neP n1 (neP n2 (neP n3 (neP n4 (neP n5 n6)))))) P)))) (qzf (qzs (qzs (qzs (qz7 (neP n0 (neP n1 (neP n2 (neP n3 (neP n4 (neP n5 n6)))))) P))))) (qzf (qzs (qzs (qzs (qzs (qz7 (neP n0 (neP n1 (neP n2 (neP n3 (neP n4 (neP n5 n6)))))) P)))))) (qzf (qzs (qzs (qzs (qzs (qzs (qz7 (neP n0 (neP n1 (neP n2 (neP n3 (neP n4 (neP n5 n6)))))) P))))))) (qzs (qzs (qzs (qzs (qzs (qzs (qz7 (neP n0 (neP n1 (neP n2 (neP n3 (neP n4 (neP n5 n6)))))) P)))))))) : ∀ x0 x1 x2 x3 x4 x5 x6, P x0 x1 x2 x3 x4 x5 x6 := by
  intro x0 x1 x2 x3 x4 x5 x6
  with_unfolding_all exact eps1 (P := fun t : α0 × α1 × α2 × α3 × α4 × α5 × α6 => P (qzf t) (qzf (qzs t)) (qzf (qzs (qzs t))) (qzf (qzs (qzs (qzs t)))) (qzf (qzs (qzs (qzs (qzs t))))) (qzf (qzs (qzs (qzs (qzs (qzs t)))))) (qzs (qzs (qzs (qzs (qzs (qzs t))))))) c (neP n0 (neP n1 (neP n2 (neP n3 (neP n4 (neP n5 n6)))))) h (x0, x1, x2, x3, x4, x5, x6)
@[irreducible] noncomputable def qz8 {α0 α1 α2 α3 α4 α5 α6 α7 : Type} (n : Nonempty (α0 × α1 × α2 × α3 × α4 × α5 × α6 × α7)) (P : α0 → α1 → α2 → α3 → α4 → α5 → α6 → α7 → Prop) : α0 × α1 × α2 × α3 × α4 × α5 × α6 × α7 := qz n fun t => P (qzf t) (qzf (qzs t)) (qzf (qzs (qzs t))) (qzf (qzs (qzs (qzs t)))) (qzf (qzs (qzs (qzs (qzs t))))) (qzf (qzs (qzs (qzs (qzs (qzs t)))))) (qzf (qzs (qzs (qzs (qzs (qzs (qzs t))))))) (qzs (qzs (qzs (qzs (qzs (qzs (qzs t)))))))
theorem eps8 {α0 α1 α2 α3 α4 α5 α6 α7 : Type} (c : Closing) (n0 : Nonempty α0) (n1 : Nonempty α1) (n2 : Nonempty α2) (n3 : Nonempty α3) (n4 : Nonempty α4) (n5 : Nonempty α5) (n6 : Nonempty α6) (n7 : Nonempty α7) {P : α0 → α1 → α2 → α3 → α4 → α5 → α6 → α7 → Prop} (h : P (qzf (qz8 (neP n0 (neP n1 (neP n2 (neP n3 (neP n4 (neP n5 (neP n6 n7))))))) P)) (qzf (qzs (qz8 (neP n0 (neP n1 (neP n2 (neP n3 (neP n4 (neP n5 (neP n6 n7))))))) P))) (qzf (qzs (qzs (qz8 (neP n0 (neP n1 (neP n2 (neP n3 (neP n4 (neP n5 (neP n6 n7))))))) P)))) (qzf (qzs (qzs (qzs (qz8 (neP n0 (neP n1 (neP n2 (neP n3 (neP n4 (neP n5 (neP n6 n7))))))) P))))) (qzf (qzs (qzs (qzs (qzs (qz8 (neP n0 (neP n1 (neP n2 (neP n3 (neP n4 (neP n5 (neP n6 n7))))))) P)))))) (qzf (qzs (qzs (qzs (qzs (qzs (qz8 (neP n0 (neP n1 (neP n2 (neP n3 (neP n4 (neP n5 (neP n6 n7))))))) P))))))) (qzf (qzs (qzs (qzs (qzs (qzs (qzs (qz8 (neP n0 (neP n1 (neP n2 (neP n3 (neP n4 (neP n5 (neP n6 n7))))))) P)))))))) (qzs (qzs (qzs (qzs (qzs (qzs (qzs (qz8 (neP n0 (neP n1 (neP n2 (neP n3 (neP n4 (neP n5 (neP n6 n7))))))) P))))))))) : ∀ x0 x1 x2 x3 x4 x5 x6 x7, P x0 x1 x2 x3 x4 x5 x6 x7 := by
  intro x0 x1 x2 x3 x4 x5 x6 x7
  with_unfolding_all exact eps1 (P := fun t : α0 × α1 × α2 × α3 × α4 × α5 × α6 × α7 => P (qzf t) (qzf (qzs t)) (qzf (qzs (qzs t))) (qzf (qzs (qzs (qzs t)))) (qzf (qzs (qzs (qzs (qzs t))))) (qzf (qzs (qzs (qzs (qzs (qzs t)))))) (qzf (qzs (qzs (qzs (qzs (qzs (qzs t))))))) (qzs (qzs (qzs (qzs (qzs (qzs (qzs t)))))))) c (neP n0 (neP n1 (neP n2 (neP n3 (neP n4 (neP n5 (neP n6 n7))))))) h (x0, x1, x2, x3, x4, x5, x6, x7)
@[irreducible] noncomputable def qz9 {α0 α1 α2 α3 α4 α5 α6 α7 α8 : Type} (n : Nonempty (α0 × α1 × α2 × α3 × α4 × α5 × α6 × α7 × α8)) (P : α0 → α1 → α2 → α3 → α4 → α5 → α6 → α7 → α8 → Prop) : α0 × α1 × α2 × α3 × α4 × α5 × α6 × α7 × α8 := qz n fun t => P (qzf t) (qzf (qzs t)) (qzf (qzs (qzs t))) (qzf (qzs (qzs (qzs t)))) (qzf (qzs (qzs (qzs (qzs t))))) (qzf (qzs (qzs (qzs (qzs (qzs t)))))) (qzf (qzs (qzs (qzs (qzs (qzs (qzs t))))))) (qzf (qzs (qzs (qzs (qzs (qzs (qzs (qzs t)))))))) (qzs (qzs (qzs (qzs (qzs (qzs (qzs (qzs t))))))))
theorem eps9 {α0 α1 α2 α3 α4 α5 α6 α7 α8 : Type} (c : Closing) (n0 : Nonempty α0) (n1 : Nonempty α1) (n2 : Nonempty α2) (n3 : Nonempty α3) (n4 : Nonempty α4) (n5 : Nonempty α5) (n6 : Nonempty α6) (n7 : Nonempty α7) (n8 : Nonempty α8) {P : α0 → α1 → α2 → α3 → α4 → α5 → α6 → α7 → α8 → Prop} (h : P (qzf (qz9 (neP n0 (neP n1 (neP n2 (neP n3 (neP n4 (neP n5 (neP n6 (neP n7 n8)))))))) P)) (qzf (qzs (qz9 (neP n0 (neP n1 (neP n2 (neP n3 (neP n4 (neP n5 (neP n6 (neP n7 n8)))))))) P))) (qzf (qzs (qzs (qz9 (neP n0 (neP n1 (neP n2 (neP n3 (neP n4 (neP n5 (neP n6 (neP n7 n8)))))))) P)))) (qzf (qzs (qzs (qzs (qz9 (neP n0 (neP n1 (neP n2 (neP n3 (neP n4 (neP n5 (neP n6 (neP n7 n8)))))))) P))))) (qzf (qzs (qzs (qzs (qzs (qz9 (neP n0 (neP n1 (neP n2 (neP n3 (neP n4 (neP n5 (neP n6 (neP n7 n8)))))))) P)))))) (qzf (qzs (qzs (qzs (qzs (qzs (qz9 (neP n0 (neP n1 (neP n2 (neP n3 (neP n4 (neP n5 (neP n6 (neP n7 n8)))))))) P))))))) (qzf (qzs (qzs (qzs (qzs (qzs (qzs (qz9 (neP n0 (neP n1 (neP n2 (neP n3 (neP n4 (neP n5 (neP n6 (neP n7 n8)))))))) P)))))))) (qzf (qzs (qzs (qzs (qzs (qzs (qzs (qzs (qz9 (neP n0 (neP n1 (neP n2 (neP n3 (neP n4 (neP n5 (neP n6 (neP n7 n8)))))))) P))))))))) (qzs (qzs (qzs (qzs (qzs (qzs (qzs (qzs (qz9 (neP n0 (neP n1 (neP n2 (neP n3 (neP n4 (neP n5 (neP n6 (neP n7 n8)))))))) P)))))))))) : ∀ x0 x1 x2 x3 x4 x5 x6 x7 x8, P x0 x1 x2 x3 x4 x5 x6 x7 x8 := by
  intro x0 x1 x2 x3 x4 x5 x6 x7 x8
  with_unfolding_all exact eps1 (P := fun t : α0 × α1 × α2 × α3 × α4 × α5 × α6 × α7 × α8 => P (qzf t) (qzf (qzs t)) (qzf (qzs (qzs t))) (qzf (qzs (qzs (qzs t)))) (qzf (qzs (qzs (qzs (qzs t))))) (qzf (qzs (qzs (qzs (qzs (qzs t)))))) (qzf (qzs (qzs (qzs (qzs (qzs (qzs t))))))) (qzf (qzs (qzs (qzs (qzs (qzs (qzs (qzs t)))))))) (qzs (qzs (qzs (qzs (qzs (qzs (qzs (qzs t))))))))) c (neP n0 (neP n1 (neP n2 (neP n3 (neP n4 (neP n5 (neP n6 (neP n7 n8)))))))) h (x0, x1, x2, x3, x4, x5, x6, x7, x8)
@[irreducible] noncomputable def qz10 {α0 α1 α2 α3 α4 α5 α6 α7 α8 α9 : Type} (n : Nonempty (α0 × α1 × α2 × α3 × α4 × α5 × α6 × α7 × α8 × α9)) (P : α0 → α1 → α2 → α3 → α4 → α5 → α6 → α7 → α8 → α9 → Prop) : α0 × α1 × α2 × α3 × α4 × α5 × α6 × α7 × α8 × α9 := qz n fun t => P (qzf t) (qzf (qzs t)) (qzf (qzs (qzs t))) (qzf (qzs (qzs (qzs t)))) (qzf (qzs (qzs (qzs (qzs t))))) (qzf (qzs (qzs (qzs (qzs (qzs t)))))) (qzf (qzs (qzs (qzs (qzs (qzs (qzs t))))))) (qzf (qzs (qzs (qzs (qzs (qzs (qzs (qzs t)))))))) (qzf (qzs (qzs (qzs (qzs (qzs (qzs (qzs (qzs t))))))))) (qzs (qzs (qzs (qzs (qzs (qzs (qzs (qzs (qzs t)))))))))
theorem eps10 {α0 α1 α2 α3 α4 α5 α6 α7 α8 α9 : Type} (c : Closing) (n0 : Nonempty α0) (n1 : Nonempty α1) (n2 : Nonempty α2) (n3 : Nonempty α3) (n4 : Nonempty α4) (n5 : Nonempty α5) (n6 : Nonempty α6) (n7 : Nonempty α7) (n8 : Nonempty α8) (n9 : Nonempty α9) {P : α0 → α1 → α2 → α3 → α4 → α5 → α6 → α7 → α8 → α9 → Prop} (h : P (qzf (qz10 (neP n0 (neP n1 (neP n2 (neP n3 (neP n4 (neP n5 (neP n6 (neP n7 (neP n8 n9))))))))) P)) (qzf (qzs (qz10 (neP n0 (neP n1 (neP n2 (neP n3 (neP n4 (neP n5 (neP n6 (neP n7 (neP n8 n9))))))))) P))) (qzf (qzs (qzs (qz10 (neP n0 (neP n1 (neP n2 (neP n3 (neP n4 (neP n5 (neP n6 (neP n7 (neP n8 n9))))))))) P)))) (qzf (qzs (qzs (qzs (qz10 (neP n0 (neP n1 (neP n2 (neP n3 (neP n4 (neP n5 (neP n6 (neP n7 (neP n8 n9))))))))) P))))) (qzf (qzs (qzs (qzs (qzs (qz10 (neP n0 (neP n1 (neP n2 (neP n3 (neP n4 (neP n5 (neP n6 (neP n7 (neP n8 n9))))))))) P)))))) (qzf (qzs (qzs (qzs (qzs (qzs (qz10 (neP n0 (neP n1 (neP n2 (neP n3 (neP n4 (neP n5 (neP n6 (neP n7 (neP n8 n9))))))))) P))))))) (qzf (qzs (qzs (qzs (qzs (qzs (qzs (qz10 (neP n0 (neP n1 (neP n2 (neP n3 (neP n4 (neP n5 (neP n6 (neP n7 (neP n8 n9))))))))) P)))))))) (qzf (qzs (qzs (qzs (qzs (qzs (qzs (qzs (qz10 (neP n0 (neP n1 (neP n2 (neP n3 (neP n4 (neP n5 (neP n6 (neP n7 (neP n8 n9))))))))) P))))))))) (qzf (qzs (qzs (qzs (qzs (qzs (qzs (qzs (qzs (qz10 (neP n0 (neP n1 (neP n2 (neP n3 (neP n4 (neP n5 (neP n6 (neP n7 (neP n8 n9))))))))) P)))))))))) (qzs (qzs (qzs (qzs (qzs (qzs (qzs (qzs (qzs (qz10 (neP n0 (neP n1 (neP n2 (neP n3 (neP n4 (neP n5 (neP n6 (neP n7 (neP n8 n9))))))))) P))))))))))) : ∀ x0 x1 x2 x3 x4 x5 x6 x7 x8 x9, P x0 x1 x2 x3 x4 x5 x6 x7 x8 x9 := by
  intro x0 x1 x2 x3 x4 x5 x6 x7 x8 x9
  with_unfolding_all exact eps1 (P := fun t : α0 × α1 × α2 × α3 × α4 × α5 × α6 × α7 × α8 × α9 => P (qzf t) (qzf (qzs t)) (qzf (qzs (qzs t))) (qzf (qzs (qzs (qzs t)))) (qzf (qzs (qzs (qzs (qzs t))))) (qzf (qzs (qzs (qzs (qzs (qzs t)))))) (qzf (qzs (qzs (qzs (qzs (qzs (qzs t))))))) (qzf (qzs (qzs (qzs (qzs (qzs (qzs (qzs t)))))))) (qzf (qzs (qzs (qzs (qzs (qzs (qzs (qzs (qzs t))))))))) (qzs (qzs (qzs (qzs (qzs (qzs (qzs (qzs (qzs t)))))))))) c (neP n0 (neP n1 (neP n2 (neP n3 (neP n4 (neP n5 (neP n6 (neP n7 (neP n8 n9))))))))) h (x0, x1, x2, x3, x4, x5, x6, x7, x8, x9)
@[irreducible] noncomputable def qz11 {α0 α1 α2 α3 α4 α5 α6 α7 α8 α9 α10 : Type} (n : Nonempty (α0 × α1 × α2 × α3 × α4 × α5 × α6 × α7 × α8 × α9 × α10)) (P : α0 → α1 → α2 → α3 → α4 → α5 → α6 → α7 → α8 → α9 → α10 → Prop) : α0 × α1 × α2 × α3 × α4 × α5 × α6 × α7 × α8 × α9 × α10 := qz n fun t => P (qzf t) (qzf (qzs t)) (qzf (qzs (qzs t))) (qzf (qzs (qzs (qzs t)))) (qzf (qzs (qzs (qzs (qzs t))))) (qzf (qzs (qzs (qzs (qzs (qzs t)))))) (qzf (qzs (qzs (qzs (qzs (qzs (qzs t))))))) (qzf (qzs (qzs (qzs (qzs (qzs (qzs (qzs t)))))))) (qzf (qzs (qzs (qzs (qzs (qzs (qzs (qzs (qzs t))))))))) (qzf (qzs (qzs (qzs (qzs (qzs (qzs (qzs (qzs (qzs t)))))))))) (qzs (qzs (qzs (qzs (qzs (qzs (qzs (qzs (qzs (qzs t))))))))))
theorem eps11 {α0 α1 α2 α3 α4 α5 α6 α7 α8 α9 α10 : Type} (c : Closing) (n0 : Nonempty α0) (n1 : Nonempty α1) (n2 : Nonempty α2) (n3 : Nonempty α3) (n4 : Nonempty α4) (n5 : Nonempty α5) (n6 : Nonempty α6) (n7 : Nonempty α7) (n8 : Nonempty α8) (n9 : Nonempty α9) (n10 : Nonempty α10) {P : α0 → α1 → α2 → α3 → α4 → α5 → α6 → α7 → α8 → α9 → α10 → Prop} (h : P (qzf (qz11 (neP n0 (neP n1 (neP n2 (neP n3 (neP n4 (neP n5 (neP n6 (neP n7 (neP n8 (neP n9 n10)))))))))) P)) (qzf (qzs (qz11 (neP n0 (neP n1 (neP n2 (neP n3 (neP n4 (neP n5 (neP n6 (neP n7 (neP n8 (neP n9 n10)))))))))) P))) (qzf (qzs (qzs (qz11 (neP n0 (neP n1 (neP n2 (neP n3 (neP n4 (neP n5 (neP n6 (neP n7 (neP n8 (neP n9 n10)))))))))) P)))) (qzf (qzs (qzs (qzs (qz11 (neP n0 (neP n1 (neP n2 (neP n3 (neP n4 (neP n5 (neP n6 (neP n7 (neP n8 (neP n9 n10)))))))))) P))))) (qzf (qzs (qzs (qzs (qzs (qz11 (neP n0 (neP n1 (neP n2 (neP n3 (neP n4 (neP n5 (neP n6 (neP n7 (neP n8 (neP n9 n10)))))))))) P)))))) (qzf (qzs (qzs (qzs (qzs (qzs (qz11 (neP n0 (neP n1 (neP n2 (neP n3 (neP n4 (neP n5 (neP n6 (neP n7 (neP n8 (neP n9 n10)))))))))) P))))))) (qzf (qzs (qzs (qzs (qzs (qzs (qzs (qz11 (neP n0 (neP n1 (neP n2 (neP n3 (neP n4 (neP n5 (neP n6 (neP n7 (neP n8 (neP n9 n10)))))))))) P)))))))) (qzf (qzs (qzs (qzs (qzs (qzs (qzs (qzs (qz11 (neP n0 (neP n1 (neP n2 (neP n3 (neP n4 (neP n5 (neP n6 (neP n7 (neP n8 (neP n9 n10)))))))))) P))))))))) (qzf (qzs (qzs (qzs (qzs (qzs (qzs (qzs (qzs (qz11 (neP n0 (neP n1 (neP n2 (neP n3 (neP n4 (neP n5 (neP n6 (neP n7 (neP n8 (neP n9 n10)))))))))) P)))))))))) (qzf (qzs (qzs (qzs (qzs (qzs (qzs (qzs (qzs (qzs (qz11 (neP n0 (neP n1 (neP n2 (neP n3 (neP n4 (neP n5 (neP n6 (neP n7 (neP n8 (neP n9 n10)))))))))) P))))))))))) (qzs (qzs (qzs (qzs (qzs (qzs (qzs (qzs (qzs (qzs (qz11 (neP n0 (neP n1 (neP n2 (neP n3 (neP n4 (neP n5 (neP n6 (neP n7 (neP n8 (neP n9 n10)))))))))) P)))))))))))) : ∀ x0 x1 x2 x3 x4 x5 x6 x7 x8 x9 x10, P x0 x1 x2 x3 x4 x5 x6 x7 x8 x9 x10 := by
  intro x0 x1 x2 x3 x4 x5 x6 x7 x8 x9 x10
  with_unfolding_all exact eps1 (P := fun t : α0 × α1 × α2 × α3 × α4 × α5 × α6 × α7 × α8 × α9 × α10 => P (qzf t) (qzf (qzs t)) (qzf (qzs (qzs t))) (qzf (qzs (qzs (qzs t)))) (qzf (qzs (qzs (qzs (qzs t))))) (qzf (qzs (qzs (qzs (qzs (qzs t)))))) (qzf (qzs (qzs (qzs (qzs (qzs (qzs t))))))) (qzf (qzs (qzs (qzs (qzs (qzs (qzs (qzs t)))))))) (qzf (qzs (qzs (qzs (qzs (qzs (qzs (qzs (qzs t))))))))) (qzf (qzs (qzs (qzs (qzs (qzs (qzs (qzs (qzs (qzs t)))))))))) (qzs (qzs (qzs (qzs (qzs (qzs (qzs (qzs (qzs (qzs t))))))))))) c (neP n0 (neP n1 (neP n2 (neP n3 (neP n4 (neP n5 (neP n6 (neP n7 (neP n8 (neP n9 n10)))))))))) h (x0, x1, x2, x3, x4, x5, x6, x7, x8, x9, x10)
@[irreducible] noncomputable def qz12 {α0 α1 α2 α3 α4 α5 α6 α7 α8 α9 α10 α11 : Type} (n : Nonempty (α0 × α1 × α2 × α3 × α4 × α5 × α6 × α7 × α8 × α9 × α10 × α11)) (P : α0 → α1 → α2 → α3 → α4 → α5 → α6 → α7 → α8 → α9 → α10 → α11 → Prop) : α0 × α1 × α2 × α3 × α4 × α5 × α6 × α7 × α8 × α9 × α10 × α11 := qz n fun t => P (qzf t) (qzf (qzs t)) (qzf (qzs (qzs t))) (qzf (qzs (qzs (qzs t)))) (qzf (qzs (qzs (qzs (qzs t))))) (qzf (qzs (qzs (qzs (qzs (qzs t)))))) (qzf (qzs (qzs (qzs (qzs (qzs (qzs t))))))) (qzf (qzs (qzs (qzs (qzs (qzs (qzs (qzs t)))))))) (qzf (qzs (qzs (qzs (qzs (qzs (qzs (qzs (qzs t))))))))) (qzf (qzs (qzs (qzs (qzs (qzs (qzs (qzs (qzs (qzs t)))))))))) (qzf (qzs (qzs (qzs (qzs (qzs (qzs (qzs (qzs (qzs (qzs t))))))))))) (qzs (qzs (qzs (qzs (qzs (qzs (qzs (qzs (qzs (qzs (qzs t)))))))))))
theorem eps12 {α0 α1 α2 α3 α4 α5 α6 α7 α8 α9 α10 α11 : Type} (c : Closing) (n0 : Nonempty α0) (n1 : Nonempty α1) (n2 : Nonempty α2) (n3 : Nonempty α3) (n4 : Nonempty α4) (n5 : Nonempty α5) (n6 : Nonempty α6) (n7 : Nonempty α7) (n8 : Nonempty α8) (n9 : Nonempty α9) (n10 : Nonempty α10) (n11 : Nonempty α11) {P : α0 → α1 → α2 → α3 → α4 → α5 → α6 → α7 → α8 → α9 → α10 → α11 → Prop} (h : P (qzf (qz12 (neP n0 (neP n1 (neP n2 (neP n3 (neP n4 (neP n5 (neP n6 (neP n7 (neP n8 (neP n9 (neP n10 n11))))))))))) P)) (qzf (qzs (qz12 (neP n0 (neP n1 (neP n2 (neP n3 (neP n4 (neP n5 (neP n6 (neP n7 (neP n8 (neP n9 (neP n10 n11))))))))))) P))) (qzf (qzs (qzs (qz12 (neP n0 (neP n1 (neP n2 (neP n3 (neP n4 (neP n5 (neP n6 (neP n7 (neP n8 (neP n9 (neP n10 n11))))))))))) P)))) (qzf (qzs (qzs (qzs (qz12 (neP n0 (neP n1 (neP n2 (neP n3 (neP n4 (neP n5 (neP n6 (neP n7 (neP n8 (neP n9 (neP n10 n11))))))))))) P))))) (qzf (qzs (qzs (qzs (qzs (qz12 (neP n0 (neP n1 (neP n2 (neP n3 (neP n4 (neP n5 (neP n6 (neP n7 (neP n8 (neP n9 (neP n10 n11))))))))))) P)))))) (qzf (qzs (qzs (qzs (qzs (qzs (qz12 (neP n0 (neP n1 (neP n2 (neP n3 (neP n4 (neP n5 (neP n6 (neP n7 (neP n8 (neP n9 (neP n10 n11))))))))))) P))))))) (qzf (qzs (qzs (qzs (qzs (qzs (qzs (qz12 (neP n0 (neP n1 (neP n2 (neP n3 (neP n4 (neP n5 (neP n6 (neP n7 (neP n8 (neP n9 (neP n10 n11))))))))))) P)))))))) (qzf (qzs (qzs (qzs (qzs (qzs (qzs (qzs (qz12 (neP n0 (neP n1 (neP n2 (neP n3 (neP n4 (neP n5 (neP n6 (neP n7 (neP n8 (neP n9 (neP n10 n11))))))))))) P))))))))) (qzf (qzs (qzs (qzs (qzs (qzs (qzs (qzs (qzs (qz12 (neP n0 (neP n1 (neP n2 (neP n3 (neP n4 (neP n5 (neP n6 (neP n7 (neP n8 (neP n9 (neP n10 n11))))))))))) P)))))))))) (qzf (qzs (qzs (qzs (qzs (qzs (qzs (qzs (qzs (qzs (qz12 (neP n0 (neP n1 (neP n2 (neP n3 (neP n4 (neP n5 (neP n6 (neP n7 (neP n8 (neP n9 (neP n10 n11))))))))))) P))))))))))) (qzf (qzs (qzs (qzs (qzs (qzs (qzs (qzs (qzs (qzs (qzs (qz12 (neP n0 (neP n1 (neP n2 (neP n3 (neP n4 (neP n5 (neP n6 (neP n7 (neP n8 (neP n9 (neP n10 n11))))))))))) P)))))))))))) (qzs (qzs (qzs (qzs (qzs (qzs (qzs (qzs (qzs (qzs (qzs (qz12 (neP n0 (neP n1 (neP n2 (neP n3 (neP n4 (neP n5 (neP n6 (neP n7 (neP n8 (neP n9 (neP n10 n11))))))))))) P))))))))))))) : ∀ x0 x1 x2 x3 x4 x5 x6 x7 x8 x9 x10 x11, P x0 x1 x2 x3 x4 x5 x6 x7 x8 x9 x10 x11 := by
  intro x0 x1 x2 x3 x4 x5 x6 x7 x8 x9 x10 x11
  with_unfolding_all exact eps1 (P := fun t : α0 × α1 × α2 × α3 × α4 × α5 × α6 × α7 × α8 × α9 × α10 × α11 => P (qzf t) (qzf (qzs t)) (qzf (qzs (qzs t))) (qzf (qzs (qzs (qzs t)))) (qzf (qzs (qzs (qzs (qzs t))))) (qzf (qzs (qzs (qzs (qzs (qzs t)))))) (qzf (qzs (qzs (qzs (qzs (qzs (qzs t))))))) (qzf (qzs (qzs (qzs (qzs (qzs (qzs (qzs t)))))))) (qzf (qzs (qzs (qzs (qzs (qzs (qzs (qzs (qzs t))))))))) (qzf (qzs (qzs (qzs (qzs (qzs (qzs (qzs (qzs (qzs t)))))))))) (qzf (qzs (qzs (qzs (qzs (qzs (qzs (qzs (qzs (qzs (qzs t))))))))))) (qzs (qzs (qzs (qzs (qzs (qzs (qzs (qzs (qzs (qzs (qzs t)))))))))))) c (neP n0 (neP n1 (neP n2 (neP n3 (neP n4 (neP n5 (neP n6 (neP n7 (neP n8 (neP n9 (neP n10 n11))))))))))) h (x0, x1, x2, x3, x4, x5, x6, x7, x8, x9, x10, x11)
@[irreducible] noncomputable def qz14 {α0 α1 α2 α3 α4 α5 α6 α7 α8 α9 α10 α11 α12 α13 : Type} (n : Nonempty (α0 × α1 × α2 × α3 × α4 × α5 × α6 × α7 × α8 × α9 × α10 × α11 × α12 × α13)) (P : α0 → α1 → α2 → α3 → α4 → α5 → α6 → α7 → α8 → α9 → α10 → α11 → α12 → α13 → Prop) : α0 × α1 × α2 × α3 × α4 × α5 × α6 × α7 × α8 × α9 × α10 × α11 × α12 × α13 := qz n fun t => P (qzf t) (qzf (qzs t)) (qzf (qzs (qzs t))) (qzf (qzs (qzs (qzs t)))) (qzf (qzs (qzs (qzs (qzs t))))) (qzf (qzs (qzs (qzs (qzs (qzs t)))))) (qzf (qzs (qzs (qzs (qzs (qzs (qzs t))))))) (qzf (qzs (qzs (qzs (qzs (qzs (qzs (qzs t)))))))) (qzf (qzs (qzs (qzs (qzs (qzs (qzs (qzs (qzs t))))))))) (qzf (qzs (qzs (qzs (qzs (qzs (qzs (qzs (qzs (qzs t)))))))))) (qzf (qzs (qzs (qzs (qzs (qzs (qzs (qzs (qzs (qzs (qzs t))))))))))) (qzf (qzs (qzs (qzs (qzs (qzs (qzs (qzs (qzs (qzs (qzs (qzs t)))))))))))) (qzf (qzs (qzs (qzs (qzs (qzs (qzs (qzs (qzs (qzs (qzs (qzs (qzs t))))))))))))) (qzs (qzs (qzs (qzs (qzs (qzs (qzs (qzs (qzs (qzs (qzs (qzs (qzs t)))))))))))))
theorem eps14 {α0 α1 α2 α3 α4 α5 α6 α7 α8 α9 α10 α11 α12 α13 : Type} (c : Closing) (n0 : Nonempty α0) (n1 : Nonempty α1) (n2 : Nonempty α2) (n3 : Nonempty α3) (n4 : Nonempty α4) (n5 : Nonempty α5) (n6 : Nonempty α6) (n7 : Nonempty α7) (n8 : Nonempty α8) (n9 : Nonempty α9) (n10 : Nonempty α10) (n11 : Nonempty α11) (n12 : Nonempty α12) (n13 : Nonempty α13) {P : α0 → α1 → α2 → α3 → α4 → α5 → α6 → α7 → α8 → α9 → α10 → α11 → α12 → α13 → Prop} (h : P (qzf (qz14 (neP n0 (neP n1 (neP n2 (neP n3 (neP n4 (neP n5 (neP n6 (neP n7 (neP n8 (neP n9 (neP n10 (neP n11 (neP n12 n13))))))))))))) P)) (qzf (qzs (qz14 (neP n0 (neP n1 (neP n2 (neP n3 (neP n4 (neP n5 (neP n6 (neP n7 (neP n8 (neP n9 (neP n10 (neP n11 (neP n12 n13))))))))))))) P))) (qzf (qzs (qzs (qz14 (neP n0 (neP n1 (neP n2 (neP n3 (neP n4 (neP n5 (neP n6 (neP n7 (neP n8 (neP n9 (neP n10 (neP n11 (neP n12 n13))))))))))))) P)))) (qzf (qzs (qzs (qzs (qz14 (neP n0 (neP n1 (neP n2 (neP n3 (neP n4 (neP n5 (neP n6 (neP n7 (neP n8 (neP n9 (neP n10 (neP n11 (neP n12 n13))))))))))))) P))))) (qzf (qzs (qzs (qzs (qzs (qz14 (neP n0 (neP n1 (neP n2 (neP n3 (neP n4 (neP n5 (neP n6 (neP n7 (neP n8 (neP n9 (neP n10 (neP n11 (neP n12 n13))))))))))))) P)))))) (qzf (qzs (qzs (qzs (qzs (qzs (qz14 (neP n0 (neP n1 (neP n2 (neP n3 (neP n4 (neP n5 (neP n6 (neP n7 (neP n8 (neP n9 (neP n10 (neP n11 (neP n12 n13))))))))))))) P))))))) (qzf (qzs (qzs (qzs (qzs (qzs (qzs (qz14 (neP n0 (neP n1 (neP n2 (neP n3 (neP n4 (neP n5 (neP n6 (neP n7 (neP n8 (neP n9 (neP n10 (neP n11 (neP n12 n13))))))))))))) P)))))))) (qzf (qzs (qzs (qzs (qzs (qzs (qzs (qzs (qz14 (neP n0 (neP n1 (neP n2 (neP n3 (neP n4 (neP n5 (neP n6 (neP n7 (neP n8 (neP n9 (neP n10 (neP n11 (neP n12 n13))))))))))))) P))))))))) (qzf (qzs (qzs (qzs (qzs (qzs (qzs (qzs (qzs (qz14 (neP n0 (neP n1 (neP n2 (neP n3 (neP n4 (neP n5 (neP n6 (neP n7 (neP n8 (neP n9 (neP n10 (neP n11 (neP n12 n13))))))))))))) P)))))))))) (qzf (qzs (qzs (qzs (qzs (qzs (qzs (qzs (qzs (qzs (qz14 (neP n0 (neP n1 (neP n2 (neP n3 (neP n4 (neP n5 (neP n6 (neP n7 (neP n8 (neP n9 (neP n10 (neP n11 (neP n12 n13))))))))))))) P))))))))))) (qzf (qzs (qzs (qzs (qzs (qzs (qzs (qzs (qzs (qzs (qzs (qz14 (neP n0 (neP n1 (neP n2 (neP n3 (neP n4 (neP n5 (neP n6 (neP n7 (neP n8 (neP n9 (neP n10 (neP n11 (neP n12 n13))))))))))))) P)))))))))))) (qzf (qzs (qzs (qzs (qzs (qzs (qzs (qzs (qzs (qzs (qzs (qzs (qz14 (neP n0 (neP n1 (neP n2 (neP n3 (neP n4 (neP n5 (neP n6 (neP n7 (neP n8 (neP n9 (neP n10 (neP n11 (neP n12 n13))))))))))))) P))))))))))))) (qzf (qzs (qzs (qzs (qzs (qzs (qzs (qzs (qzs (qzs (qzs (qzs (qzs (qz14 (neP n0 (neP n1 (neP n2 (neP n3 (neP n4 (neP n5 (neP n6 (neP n7 (neP n8 (neP n9 (neP n10 (neP n11 (neP n12 n13))))))))))))) P)))))))))))))) (qzs (qzs (qzs (qzs (qzs (qzs (qzs (qzs (qzs (qzs (qzs (qzs (qzs (qz14 (neP n0 (neP n1 (neP n2 (neP n3 (neP n4 (neP n5 (neP n6 (neP n7 (neP n8 (neP n9 (neP n10 (neP n11 (neP n12 n13))))))))))))) P))))))))))))))) : ∀ x0 x1 x2 x3 x4 x5 x6 x7 x8 x9 x10 x11 x12 x13, P x0 x1 x2 x3 x4 x5 x6 x7 x8 x9 x10 x11 x12 x13 := by
  intro x0 x1 x2 x3 x4 x5 x6 x7 x8 x9 x10 x11 x12 x13
  with_unfolding_all exact eps1 (P := fun t : α0 × α1 × α2 × α3 × α4 × α5 × α6 × α7 × α8 × α9 × α10 × α11 × α12 × α13 => P (qzf t) (qzf (qzs t)) (qzf (qzs (qzs t))) (qzf (qzs (qzs (qzs t)))) (qzf (qzs (qzs (qzs (qzs t))))) (qzf (qzs (qzs (qzs (qzs (qzs t)))))) (qzf (qzs (qzs (qzs (qzs (qzs (qzs t))))))) (qzf (qzs (qzs (qzs (qzs (qzs (qzs (qzs t)))))))) (qzf (qzs (qzs (qzs (qzs (qzs (qzs (qzs (qzs t))))))))) (qzf (qzs (qzs (qzs (qzs (qzs (qzs (qzs (qzs (qzs t)))))))))) (qzf (qzs (qzs (qzs (qzs (qzs (qzs (qzs (qzs (qzs (qzs t))))))))))) (qzf (qzs (qzs (qzs (qzs (qzs (qzs (qzs (qzs (qzs (qzs (qzs t)))))))))))) (qzf (qzs (qzs (qzs (qzs (qzs (qzs (qzs (qzs (qzs (qzs (qzs (qzs t))))))))))))) (qzs (qzs (qzs (qzs (qzs (qzs (qzs (qzs (qzs (qzs (qzs (qzs (qzs t)))))))))))))) c (neP n0 (neP n1 (neP n2 (neP n3 (neP n4 (neP n5 (neP n6 (neP n7 (neP n8 (neP n9 (neP n10 (neP n11 (neP n12 n13))))))))))))) h (x0, x1, x2, x3, x4, x5, x6, x7, x8, x9, x10, x11, x12, x13)
@[irreducible] noncomputable def qz16 {α0 α1 α2 α3 α4 α5 α6 α7 α8 α9 α10 α11 α12 α13 α14 α15 : Type} (n : Nonempty (α0 × α1 × α2 × α3 × α4 × α5 × α6 × α7 × α8 × α9 × α10 × α11 × α12 × α13 × α14 × α15)) (P : α0 → α1 → α2 → α3 → α4 → α5 → α6 → α7 → α8 → α9 → α10 → α11 → α12 → α13 → α14 → α15 → Prop) : α0 × α1 × α2 × α3 × α4 × α5 × α6 × α7 × α8 × α9 × α10 × α11 × α12 × α13 × α14 × α15 := qz n fun t => P (qzf t) (qzf (qzs t)) (qzf (qzs (qzs t))) (qzf (qzs (qzs (qzs t)))) (qzf (qzs (qzs (qzs (qzs t))))) (qzf (qzs (qzs (qzs (qzs (qzs t)))))) (qzf (qzs (qzs (qzs (qzs (qzs (qzs t))))))) (qzf (qzs (qzs (qzs (qzs (qzs (qzs (qzs t)))))))) (qzf (qzs (qzs (qzs (qzs (qzs (qzs (qzs (qzs t))))))))) (qzf (qzs (qzs (qzs (qzs (qzs (qzs (qzs (qzs (qzs t)))))))))) (qzf (qzs (qzs (qzs (qzs (qzs (qzs (qzs (qzs (qzs (qzs t))))))))))) (qzf (qzs (qzs (qzs (qzs (qzs (qzs (qzs (qzs (qzs (qzs (qzs t)))))))))))) (qzf (qzs (qzs (qzs (qzs (qzs (qzs (qzs (qzs (qzs (qzs (qzs (qzs t))))))))))))) (qzf (qzs (qzs (qzs (qzs (qzs (qzs (qzs (qzs (qzs (qzs (qzs (qzs (qzs t)))))))))))))) (qzf (qzs (qzs (qzs (qzs (qzs (qzs (qzs (qzs (qzs (qzs (qzs (qzs (qzs (qzs t))))))))))))))) (qzs (qzs (qzs (qzs (qzs (qzs (qzs (qzs (qzs (qzs (qzs (qzs (qzs (qzs (qzs t)))))))))))))))
theorem eps16 {α0 α1 α2 α3 α4 α5 α6 α7 α8 α9 α10 α11 α12 α13 α14 α15 : Type} (c : Closing) (n0 : Nonempty α0) (n1 : Nonempty α1) (n2 : Nonempty α2) (n3 : Nonempty α3) (n4 : Nonempty α4) (n5 : Nonempty α5) (n6 : Nonempty α6) (n7 : Nonempty α7) (n8 : Nonempty α8) (n9 : Nonempty α9) (n10 : Nonempty α10) (n11 : Nonempty α11) (n12 : Nonempty α12) (n13 : Nonempty α13) (n14 : Nonempty α14) (n15 : Nonempty α15) {P : α0 → α1 → α2 → α3 → α4 → α5 → α6 → α7 → α8 → α9 → α10 → α11 → α12 → α13 → α14 → α15 → Prop} (h : P (qzf (qz16 (neP n0 (neP n1 (neP n2 (neP n3 (neP n4 (neP n5 (neP n6 (neP n7 (neP n8 (neP n9 (neP n10 (neP n11 (neP n12 (neP n13 (neP n14 n15))))))))))))))) P)) (qzf (qzs (qz16 (neP n0 (neP n1 (neP n2 (neP n3 (neP n4 (neP n5 (neP n6 (neP n7 (neP n8 (neP n9 (neP n10 (neP n11 (neP n12 (neP n13 (neP n14 n15))))))))))))))) P))) (qzf (qzs (qzs (qz16 (neP n0 (neP n1 (neP n2 (neP n3 (neP n4 (neP n5 (neP n6 (neP n7 (neP n8 (neP n9 (neP n10 (neP n11 (neP n12 (neP n13 (neP n14 n15))))))))))))))) P)))) (qzf (qzs (qzs (qzs (qz16 (neP n0 (neP n1 (neP n2 (neP n3 (neP n4 (neP n5 (neP n6 (neP n7 (neP n8 (neP n9 (neP n10 (neP n11 (neP n12 (neP n13 (neP n14 n15))))))))))))))) P))))) (qzf (qzs (qzs (qzs (qzs (qz16 (neP n0 (neP n1 (neP n2 (neP n3 (neP n4 (neP n5 (neP n6 (neP n7 (neP n8 (neP n9 (neP n10 (neP n11 (neP n12 (neP n13 (neP n14 n15))))))))))))))) P)))))) (qzf (qzs (qzs (qzs (qzs (qzs (qz16 (neP n0 (neP n1 (neP n2 (neP n3 (neP n4 (neP n5 (neP n6 (neP n7 (neP n8 (neP n9 (neP n10 (neP n11 (neP n12 (neP n13 (neP n14 n15))))))))))))))) P))))))) (qzf (qzs (qzs (qzs (qzs (qzs (qzs (qz16 (neP n0 (neP n1 (neP n2 (neP n3 (neP n4 (neP n5 (neP n6 (neP n7 (neP n8 (neP n9 (neP n10 (neP n11 (neP n12 (neP n13 (neP n14 n15))))))))))))))) P)))))))) (qzf (qzs (qzs (qzs (qzs (qzs (qzs (qzs (qz16 (neP n0 (neP n1 (neP n2 (neP n3 (neP n4 (neP n5 (neP n6 (neP n7 (neP n8 (neP n9 (neP n10 (neP n11 (neP n12 (neP n13 (neP n14 n15))))))))))))))) P))))))))) (qzf (qzs (qzs (qzs (qzs (qzs (qzs (qzs (qzs (qz16 (neP n0 (neP n1 (neP n2 (neP n3 (neP n4 (neP n5 (neP n6 (neP n7 (neP n8 (neP n9 (neP n10 (neP n11 (neP n12 (neP n13 (neP n14 n15))))))))))))))) P)))))))))) (qzf (qzs (qzs (qzs (qzs (qzs (qzs (qzs (qzs (qzs (qz16 (neP n0 (neP n1 (neP n2 (neP n3 (neP n4 (neP n5 (neP n6 (neP n7 (neP n8 (neP n9 (neP n10 (neP n11 (neP n12 (neP n13 (neP n14 n15))))))))))))))) P))))))))))) (qzf (qzs (qzs (qzs (qzs (qzs (qzs (qzs (qzs (qzs (qzs (qz16 (neP n0 (neP n1 (neP n2 (neP n3 (neP n4 (neP n5 (neP n6 (neP n7 (neP n8 (neP n9 (neP n10 (neP n11 (neP n12 (neP n13 (neP n14 n15))))))))))))))) P)))))))))))) (qzf (qzs (qzs (qzs (qzs (qzs (qzs (qzs (qzs (qzs (qzs (qzs (qz16 (neP n0 (neP n1 (neP n2 (neP n3 (neP n4 (neP n5 (neP n6 (neP n7 (neP n8 (neP n9 (neP n10 (neP n11 (neP n12 (neP n13 (neP n14 n15))))))))))))))) P))))))))))))) (qzf (qzs (qzs (qzs (qzs (qzs (qzs (qzs (qzs (qzs (qzs (qzs (qzs (qz16 (neP n0 (neP n1 (neP n2 (neP n3 (neP n4 (neP n5 (neP n6 (neP n7 (neP n8 (neP n9 (neP n10 (neP n11 (neP n12 (neP n13 (neP n14 n15))))))))))))))) P)))))))))))))) (qzf (qzs (qzs (qzs (qzs (qzs (qzs (qzs (qzs (qzs (qzs (qzs (qzs (qzs (qz16 (neP n0 (neP n1 (neP n2 (neP n3 (neP n4 (neP n5 (neP n6 (neP n7 (neP n8 (neP n9 (neP n10 (neP n11 (neP n12 (neP n13 (neP n14 n15))))))))))))))) P))))))))))))))) (qzf (qzs (qzs (qzs (qzs (qzs (qzs (qzs (qzs (qzs (qzs (qzs (qzs (qzs (qzs (qz16 (neP n0 (neP n1 (neP n2 (neP n3 (neP n4 (neP n5 (neP n6 (neP n7 (neP n8 (neP n9 (neP n10 (neP n11 (neP n12 (neP n13 (neP n14 n15))))))))))))))) P)))))))))))))))) (qzs (qzs (qzs (qzs (qzs (qzs (qzs (qzs (qzs (qzs (qzs (qzs (qzs (qzs (qzs (qz16 (neP n0 (neP n1 (neP n2 (neP n3 (neP n4 (neP n5 (neP n6 (neP n7 (neP n8 (neP n9 (neP n10 (neP n11 (neP n12 (neP n13 (neP n14 n15))))))))))))))) P))))))))))))))))) : ∀ x0 x1 x2 x3 x4 x5 x6 x7 x8 x9 x10 x11 x12 x13 x14 x15, P x0 x1 x2 x3 x4 x5 x6 x7 x8 x9 x10 x11 x12 x13 x14 x15 := by
  intro x0 x1 x2 x3 x4 x5 x6 x7 x8 x9 x10 x11 x12 x13 x14 x15
  with_unfolding_all exact eps1 (P := fun t : α0 × α1 × α2 × α3 × α4 × α5 × α6 × α7 × α8 × α9 × α10 × α11 × α12 × α13 × α14 × α15 => P (qzf t) (qzf (qzs t)) (qzf (qzs (qzs t))) (qzf (qzs (qzs (qzs t)))) (qzf (qzs (qzs (qzs (qzs t))))) (qzf (qzs (qzs (qzs (qzs (qzs t)))))) (qzf (qzs (qzs (qzs (qzs (qzs (qzs t))))))) (qzf (qzs (qzs (qzs (qzs (qzs (qzs (qzs t)))))))) (qzf (qzs (qzs (qzs (qzs (qzs (qzs (qzs (qzs t))))))))) (qzf (qzs (qzs (qzs (qzs (qzs (qzs (qzs (qzs (qzs t)))))))))) (qzf (qzs (qzs (qzs (qzs (qzs (qzs (qzs (qzs (qzs (qzs t))))))))))) (qzf (qzs (qzs (qzs (qzs (qzs (qzs (qzs (qzs (qzs (qzs (qzs t)))))))))))) (qzf (qzs (qzs (qzs (qzs (qzs (qzs (qzs (qzs (qzs (qzs (qzs (qzs t))))))))))))) (qzf (qzs (qzs (qzs (qzs (qzs (qzs (qzs (qzs (qzs (qzs (qzs (qzs (qzs t)))))))))))))) (qzf (qzs (qzs (qzs (qzs (qzs (qzs (qzs (qzs (qzs (qzs (qzs (qzs (qzs (qzs t))))))))))))))) (qzs (qzs (qzs (qzs (qzs (qzs (qzs (qzs (qzs (qzs (qzs (qzs (qzs (qzs (qzs t)))))))))))))))) c (neP n0 (neP n1 (neP n2 (neP n3 (neP n4 (neP n5 (neP n6 (neP n7 (neP n8 (neP n9 (neP n10 (neP n11 (neP n12 (neP n13 (neP n14 n15))))))))))))))) h (x0, x1, x2, x3, x4, x5, x6, x7, x8, x9, x10, x11, x12, x13, x14, x15)
@[irreducible] noncomputable def qz20 {α0 α1 α2 α3 α4 α5 α6 α7 α8 α9 α10 α11 α12 α13 α14 α15 α16 α17 α18 α19 : Type} (n : Nonempty (α0 × α1 × α2 × α3 × α4 × α5 × α6 × α7 × α8 × α9 × α10 × α11 × α12 × α13 × α14 × α15 × α16 × α17 × α18 × α19)) (P : α0 → α1 → α2 → α3 → α4 → α5 → α6 → α7 → α8 → α9 → α10 → α11 → α12 → α13 → α14 → α15 → α16 → α17 → α18 → α19 → Prop) : α0 × α1 × α2 × α3 × α4 × α5 × α6 × α7 × α8 × α9 × α10 × α11 × α12 × α13 × α14 × α15 × α16 × α17 × α18 × α19 := qz n fun t => P (qzf t) (qzf (qzs t)) (qzf (qzs (qzs t))) (qzf (qzs (qzs (qzs t)))) (qzf (qzs (qzs (qzs (qzs t))))) (qzf (qzs (qzs (qzs (qzs (qzs t)))))) (qzf (qzs (qzs (qzs (qzs (qzs (qzs t))))))) (qzf (qzs (qzs (qzs (qzs (qzs (qzs (qzs t)))))))) (qzf (qzs (qzs (qzs (qzs (qzs (qzs (qzs (qzs t))))))))) (qzf (qzs (qzs (qzs (qzs (qzs (qzs (qzs (qzs (qzs t)))))))))) (qzf (qzs (qzs (qzs (qzs (qzs (qzs (qzs (qzs (qzs (qzs t))))))))))) (qzf (qzs (qzs (qzs (qzs (qzs (qzs (qzs (qzs (qzs (qzs (qzs t)))))))))))) (qzf (qzs (qzs (qzs (qzs (qzs (qzs (qzs (qzs (qzs (qzs (qzs (qzs t))))))))))))) (qzf (qzs (qzs (qzs (qzs (qzs (qzs (qzs (qzs (qzs (qzs (qzs (qzs (qzs t)))))))))))))) (qzf (qzs (qzs (qzs (qzs (qzs (qzs (qzs (qzs (qzs (qzs (qzs (qzs (qzs (qzs t))))))))))))))) (qzf (qzs (qzs (qzs (qzs (qzs (qzs (qzs (qzs (qzs (qzs (qzs (qzs (qzs (qzs (qzs t)))))))))))))))) (qzf (qzs (qzs (qzs (qzs (qzs (qzs (qzs (qzs (qzs (qzs (qzs (qzs (qzs (qzs (qzs (qzs t))))))))))))))))) (qzf (qzs (qzs (qzs (qzs (qzs (qzs (qzs (qzs (qzs (qzs (qzs (qzs (qzs (qzs (qzs (qzs (qzs t)))))))))))))))))) (qzf (qzs (qzs (qzs (qzs (qzs (qzs (qzs (qzs (qzs (qzs (qzs (qzs (qzs (qzs (qzs (qzs (qzs (qzs t))))))))))))))))))) (qzs (qzs (qzs (qzs (qzs (qzs (qzs (qzs (qzs (qzs (qzs (qzs (qzs (qzs (qzs (qzs (qzs (qzs (qzs t)))))))))))))))))))
theorem eps20 {α0 α1 α2 α3 α4 α5 α6 α7 α8 α9 α10 α11 α12 α13 α14 α15 α16 α17 α18 α19 : Type} (c : Closing) (n0 : Nonempty α0) (n1 : Nonempty α1) (n2 : Nonempty α2) (n3 : Nonempty α3) (n4 : Nonempty α4) (n5 : Nonempty α5) (n6 : Nonempty α6) (n7 : Nonempty α7) (n8 : Nonempty α8) (n9 : Nonempty α9) (n10 : Nonempty α10) (n11 : Nonempty α11) (n12 : Nonempty α12) (n13 : Nonempty α13) (n14 : Nonempty α14) (n15 : Nonempty α15) (n16 : Nonempty α16) (n17 : Nonempty α17) (n18 : Nonempty α18) (n19 : Nonempty α19) {P : α0 → α1 → α2 → α3 → α4 → α5 → α6 → α7 → α8 → α9 → α10 → α11 → α12 → α13 → α14 → α15 → α16 → α17 → α18 → α19 → Prop} (h : P (qzf (qz20 (neP n0 (neP n1 (neP n2 (neP n3 (neP n4 (neP n5 (neP n6 (neP n7 (neP n8 (neP n9 (neP n10 (neP n11 (neP n12 (neP n13 (neP n14 (neP n15 (neP n16 (neP n17 (neP n18 n19))))))))))))))))))) P)) (qzf (qzs (qz20 (neP n0 (neP n1 (neP n2 (neP n3 (neP n4 (neP n5 (neP n6 (neP n7 (neP n8 (neP n9 (neP n10 (neP n11 (neP n12 (neP n13 (neP n14 (neP n15 (neP n16 (neP n17 (neP n18 n19))))))))))))))))))) P))) (qzf (qzs (qzs (qz20 (neP n0 (neP n1 (neP n2 (neP n3 (neP n4 (neP n5 (neP n6 (neP n7 (neP n8 (neP n9 (neP n10 (neP n11 (neP n12 (neP n13 (neP n14 (neP n15 (neP n16 (neP n17 (neP n18 n19))))))))))))))))))) P)))) (qzf (qzs (qzs (qzs (qz20 (neP n0 (neP n1 (neP n2 (neP n3 (neP n4 (neP n5 (neP n6 (neP n7 (neP n8 (neP n9 (neP n10 (neP n11 (neP n12 (neP n13 (neP n14 (neP n15 (neP n16 (neP n17 (neP n18 n19))))))))))))))))))) P))))) (qzf (qzs (qzs (qzs (qzs (qz20 (neP n0 (neP n1 (neP n2 (neP n3 (neP n4 (neP n5 (neP n6 (neP n7 (neP n8 (neP n9 (neP n10 (neP n11 (neP n12 (neP n13 (neP n14 (neP n15 (neP n16 (neP n17 (neP n18 n19))))))))))))))))))) P)))))) (qzf (qzs (qzs (qzs (qzs (qzs (qz20 (neP n0 (neP n1 (neP n2 (neP n3 (neP n4 (neP n5 (neP n6 (neP n7 (neP n8 (neP n9 (neP n10 (neP n11 (neP n12 (neP n13 (neP n14 (neP n15 (neP n16 (neP n17 (neP n18 n19))))))))))))))))))) P))))))) (qzf (qzs (qzs (qzs (qzs (qzs (qzs (qz20 (neP n0 (neP n1 (neP n2 (neP n3 (neP n4 (neP n5 (neP n6 (neP n7 (neP n8 (neP n9 (neP n10 (neP n11 (neP n12 (neP n13 (neP n14 (neP n15 (neP n16 (neP n17 (neP n18 n19))))))))))))))))))) P)))))))) (qzf (qzs (qzs (qzs (qzs (qzs (qzs (qzs (qz20 (neP n0 (neP n1 (neP n2 (neP n3 (neP n4 (neP n5 (neP n6 (neP n7 (neP n8 (neP n9 (neP n10 (neP n11 (neP n12 (neP n13 (neP n14 (neP n15 (neP n16 (neP n17 (neP n18 n19))))))))))))))))))) P))))))))) (qzf (qzs (qzs (qzs (qzs (qzs (qzs (qzs (qzs (qz20 (neP n0 (neP n1 (neP n2 (neP n3 (neP n4 (neP n5 (neP n6 (neP n7 (neP n8 (neP n9 (neP n10 (neP n11 (neP n12 (neP n13 (neP n14 (neP n15 (neP n16 (neP n17 (neP n18 n19))))))))))))))))))) P)))))))))) (qzf (qzs (qzs (qzs (qzs (qzs (qzs (qzs (qzs (qzs (qz20 (neP n0 (neP n1 (neP n2 (neP n3 (neP n4 (neP n5 (neP n6 (neP n7 (neP n8 (neP n9 (neP n10 (neP n11 (neP n12 (neP n13 (neP n14 (neP n15 (neP n16 (neP n17 (neP n18 n19))))))))))))))))))) P))))))))))) (qzf (qzs (qzs (qzs (qzs (qzs (qzs (qzs (qzs (qzs (qzs (qz20 (neP n0 (neP n1 (neP n2 (neP n3 (neP n4 (neP n5 (neP n6 (neP n7 (neP n8 (neP n9 (neP n10 (neP n11 (neP n12 (neP n13 (neP n14 (neP n15 (neP n16 (neP n17 (neP n18 n19))))))))))))))))))) P)))))))))))) (qzf (qzs (qzs (qzs (qzs (qzs (qzs (qzs (qzs (qzs (qzs (qzs (qz20 (neP n0 (neP n1 (neP n2 (neP n3 (neP n4 (neP n5 (neP n6 (neP n7 (neP n8 (neP n9 (neP n10 (neP n11 (neP n12 (neP n13 (neP n14 (neP n15 (neP n16 (neP n17 (neP n18 n19))))))))))))))))))) P))))))))))))) (qzf (qzs (qzs (qzs (qzs (qzs (qzs (qzs (qzs (qzs (qzs (qzs (qzs (qz20 (neP n0 (neP n1 (neP n2 (neP n3 (neP n4 (neP n5 (neP n6 (neP n7 (neP n8 (neP n9 (neP n10 (neP n11 (neP n12 (neP n13 (neP n14 (neP n15 (neP n16 (neP n17 (neP n18 n19))))))))))))))))))) P)))))))))))))) (qzf (qzs (qzs (qzs (qzs (qzs (qzs (qzs (qzs (qzs (qzs (qzs (qzs (qzs (qz20 (neP n0 (neP n1 (neP n2 (neP n3 (neP n4 (neP n5 (neP n6 (neP n7 (neP n8 (neP n9 (neP n10 (neP n11 (neP n12 (neP n13 (neP n14 (neP n15 (neP n16 (neP n17 (neP n18 n19))))))))))))))))))) P))))))))))))))) (qzf (qzs (qzs (qzs (qzs (qzs (qzs (qzs (qzs (qzs (qzs (qzs (qzs (qzs (qzs (qz20 (neP n0 (neP n1 (neP n2 (neP n3 (neP n4 (neP n5 (neP n6 (neP n7 (neP n8 (neP n9 (neP n10 (neP n11 (neP n12 (neP n13 (neP n14 (neP n15 (neP n16 (neP n17 (neP n18 n19))))))))))))))))))) P)))))))))))))))) (qzf (qzs (qzs (qzs (qzs (qzs (qzs (qzs (qzs (qzs (qzs (qzs (qzs (qzs (qzs (qzs (qz20 (neP n0 (neP n1 (neP n2 (neP n3 (neP n4 (neP n5 (neP n6 (neP n7 (neP n8 (neP n9 (neP n10 (neP n11 (neP n12 (neP n13 (neP n14 (neP n15 (neP n16 (neP n17 (neP n18 n19))))))))))))))))))) P))))))))))))))))) (qzf (qzs (qzs (qzs (qzs (qzs (qzs (qzs (qzs (qzs (qzs (qzs (qzs (qzs (qzs (qzs (qzs (qz20 (neP n0 (neP n1 (neP n2 (neP n3 (neP n4 (neP n5 (neP n6 (neP n7 (neP n8 (neP n9 (neP n10 (neP n11 (neP n12 (neP n13 (neP n14 (neP n15 (neP n16 (neP n17 (neP n18 n19))))))))))))))))))) P)))))))))))))))))) (qzf (qzs (qzs (qzs (qzs (qzs (qzs (qzs (qzs (qzs (qzs (qzs (qzs (qzs (qzs (qzs (qzs (qzs (qz20 (neP n0 (neP n1 (neP n2 (neP n3 (neP n4 (neP n5 (neP n6 (neP n7 (neP n8 (neP n9 (neP n10 (neP n11 (neP n12 (neP n13 (neP n14 (neP n15 (neP n16 (neP n17 (neP n18 n19))))))))))))))))))) P))))))))))))))))))) (qzf (qzs (qzs (qzs (qzs (qzs (qzs (qzs (qzs (qzs (qzs (qzs (qzs (qzs (qzs (qzs (qzs (qzs (qzs (qz20 (neP n0 (neP n1 (neP n2 (neP n3 (neP n4 (neP n5 (neP n6 (neP n7 (neP n8 (neP n9 (neP n10 (neP n11 (neP n12 (neP n13 (neP n14 (neP n15 (neP n16 (neP n17 (neP n18 n19))))))))))))))))))) P)))))))))))))))))))) (qzs (qzs (qzs (qzs (qzs (qzs (qzs (qzs (qzs (qzs (qzs (qzs (qzs (qzs (qzs (qzs (qzs (qzs (qzs (qz20 (neP n0 (neP n1 (neP n2 (neP n3 (neP n4 (neP n5 (neP n6 (neP n7 (neP n8 (neP n9 (neP n10 (neP n11 (neP n12 (neP n13 (neP n14 (neP n15 (neP n16 (neP n17 (neP n18 n19))))))))))))))))))) P))))))))))))))))))))) : ∀ x0 x1 x2 x3 x4 x5 x6 x7 x8 x9 x10 x11 x12 x13 x14 x15 x16 x17 x18 x19, P x0 x1 x2 x3 x4 x5 x6 x7 x8 x9 x10 x11 x12 x13 x14 x15 x16 x17 x18 x19 := by
  intro x0 x1 x2 x3 x4 x5 x6 x7 x8 x9 x10 x11 x12 x13 x14 x15 x16 x17 x18 x19
  with_unfolding_all exact eps1 (P := fun t : α0 × α1 × α2 × α3 × α4 × α5 × α6 × α7 × α8 × α9 × α10 × α11 × α12 × α13 × α14 × α15 × α16 × α17 × α18 × α19 => P (qzf t) (qzf (qzs t)) (qzf (qzs (qzs t))) (qzf (qzs (qzs (qzs t)))) (qzf (qzs (qzs (qzs (qzs t))))) (qzf (qzs (qzs (qzs (qzs (qzs t)))))) (qzf (qzs (qzs (qzs (qzs (qzs (qzs t))))))) (qzf (qzs (qzs (qzs (qzs (qzs (qzs (qzs t)))))))) (qzf (qzs (qzs (qzs (qzs (qzs (qzs (qzs (qzs t))))))))) (qzf (qzs (qzs (qzs (qzs (qzs (qzs (qzs (qzs (qzs t)))))))))) (qzf (qzs (qzs (qzs (qzs (qzs (qzs (qzs (qzs (qzs (qzs t))))))))))) (qzf (qzs (qzs (qzs (qzs (qzs (qzs (qzs (qzs (qzs (qzs (qzs t)))))))))))) (qzf (qzs (qzs (qzs (qzs (qzs (qzs (qzs (qzs (qzs (qzs (qzs (qzs t))))))))))))) (qzf (qzs (qzs (qzs (qzs (qzs (qzs (qzs (qzs (qzs (qzs (qzs (qzs (qzs t)))))))))))))) (qzf (qzs (qzs (qzs (qzs (qzs (qzs (qzs (qzs (qzs (qzs (qzs (qzs (qzs (qzs t))))))))))))))) (qzf (qzs (qzs (qzs (qzs (qzs (qzs (qzs (qzs (qzs (qzs (qzs (qzs (qzs (qzs (qzs t)))))))))))))))) (qzf (qzs (qzs (qzs (qzs (qzs (qzs (qzs (qzs (qzs (qzs (qzs (qzs (qzs (qzs (qzs (qzs t))))))))))))))))) (qzf (qzs (qzs (qzs (qzs (qzs (qzs (qzs (qzs (qzs (qzs (qzs (qzs (qzs (qzs (qzs (qzs (qzs t)))))))))))))))))) (qzf (qzs (qzs (qzs (qzs (qzs (qzs (qzs (qzs (qzs (qzs (qzs (qzs (qzs (qzs (qzs (qzs (qzs (qzs t))))))))))))))))))) (qzs (qzs (qzs (qzs (qzs (qzs (qzs (qzs (qzs (qzs (qzs (qzs (qzs (qzs (qzs (qzs (qzs (qzs (qzs t)))))))))))))))))))) c (neP n0 (neP n1 (neP n2 (neP n3 (neP n4 (neP n5 (neP n6 (neP n7 (neP n8 (neP n9 (neP n10 (neP n11 (neP n12 (neP n13 (neP n14 (neP n15 (neP n16 (neP n17 (neP n18 n19))))))))))))))))))) h (x0, x1, x2, x3, x4, x5, x6, x7, x8, x9, x10, x11, x12, x13, x14, x15, x16, x17, x18, x19)
@[irreducible] noncomputable def qz24 {α0 α1 α2 α3 α4 α5 α6 α7 α8 α9 α10 α11 α12 α13 α14 α15 α16 α17 α18 α19 α20 α21 α22 α23 : Type} (n : Nonempty (α0 × α1 × α2 × α3 × α4 × α5 × α6 × α7 × α8 × α9 × α10 × α11 × α12 × α13 × α14 × α15 × α16 × α17 × α18 × α19 × α20 × α21 × α22 × α23)) (P : α0 → α1 → α2 → α3 → α4 → α5 → α6 → α7 → α8 → α9 → α10 → α11 → α12 → α13 → α14 → α15 → α16 → α17 → α18 → α19 → α20 → α21 → α22 → α23 → Prop) : α0 × α1 × α2 × α3 × α4 × α5 × α6 × α7 × α8 × α9 × α10 × α11 × α12 × α13 × α14 × α15 × α16 × α17 × α18 × α19 × α20 × α21 × α22 × α23 := qz n fun t => P (qzf t) (qzf (qzs t)) (qzf (qzs (qzs t))) (qzf (qzs (qzs (qzs t)))) (qzf (qzs (qzs (qzs (qzs t))))) (qzf (qzs (qzs (qzs (qzs (qzs t)))))) (qzf (qzs (qzs (qzs (qzs (qzs (qzs t))))))) (qzf (qzs (qzs (qzs (qzs (qzs (qzs (qzs t)))))))) (qzf (qzs (qzs (qzs (qzs (qzs (qzs (qzs (qzs t))))))))) (qzf (qzs (qzs (qzs (qzs (qzs (qzs (qzs (qzs (qzs t)))))))))) (qzf (qzs (qzs (qzs (qzs (qzs (qzs (qzs (qzs (qzs (qzs t))))))))))) (qzf (qzs (qzs (qzs (qzs (qzs (qzs (qzs (qzs (qzs (qzs (qzs t)))))))))))) (qzf (qzs (qzs (qzs (qzs (qzs (qzs (qzs (qzs (qzs (qzs (qzs (qzs t))))))))))))) (qzf (qzs (qzs (qzs (qzs (qzs (qzs (qzs (qzs (qzs (qzs (qzs (qzs (qzs t)))))))))))))) (qzf (qzs (qzs (qzs (qzs (qzs (qzs (qzs (qzs (qzs (qzs (qzs (qzs (qzs (qzs t))))))))))))))) (qzf (qzs (qzs (qzs (qzs (qzs (qzs (qzs (qzs (qzs (qzs (qzs (qzs (qzs (qzs (qzs t)))))))))))))))) (qzf (qzs (qzs (qzs (qzs (qzs (qzs (qzs (qzs (qzs (qzs (qzs (qzs (qzs (qzs (qzs (qzs t))))))))))))))))) (qzf (qzs (qzs (qzs (qzs (qzs (qzs (qzs (qzs (qzs (qzs (qzs (qzs (qzs (qzs (qzs (qzs (qzs t)))))))))))))))))) (qzf (qzs (qzs (qzs (qzs (qzs (qzs (qzs (qzs (qzs (qzs (qzs (qzs (qzs (qzs (qzs (qzs (qzs (qzs t))))))))))))))))))) (qzf (qzs (qzs (qzs (qzs (qzs (qzs (qzs (qzs (qzs (qzs (qzs (qzs (qzs (qzs (qzs (qzs (qzs (qzs (qzs t)))))))))))))))))))) (qzf (qzs (qzs (qzs (qzs (qzs (qzs (qzs (qzs (qzs (qzs (qzs (qzs (qzs (qzs (qzs (qzs (qzs (qzs (qzs (qzs t))))))))))))))))))))) (qzf (qzs (qzs (qzs (qzs (qzs (qzs (qzs (qzs (qzs (qzs (qzs (qzs (qzs (qzs (qzs (qzs (qzs (qzs (qzs (qzs (qzs t)))))))))))))))))))))) (qzf (qzs (qzs (qzs (qzs (qzs (qzs (qzs (qzs (qzs (qzs (qzs (qzs (qzs (qzs (qzs (qzs (qzs (qzs (qzs (qzs (qzs (qzs t))))))))))))))))))))))) (qzs (qzs (qzs (qzs (qzs (qzs (qzs (qzs (qzs (qzs (qzs (qzs (qzs (qzs (qzs (qzs (qzs (qzs (qzs (qzs (qzs (qzs (qzs t)))))))))))))))))))))))
theorem eps24 {α0 α1 α2 α3 α4 α5 α6 α7 α8 α9 α10 α11 α12 α13 α14 α15 α16 α17 α18 α19 α20 α21 α22 α23 : Type} (c : Closing) (n0 : Nonempty α0) (n1 : Nonempty α1) (n2 : Nonempty α2) (n3 : Nonempty α3) (n4 : Nonempty α4) (n5 : Nonempty α5) (n6 : Nonempty α6) (n7 : Nonempty α7) (n8 : Nonempty α8) (n9 : Nonempty α9) (n10 : Nonempty α10) (n11 : Nonempty α11) (n12 : Nonempty α12) (n13 : Nonempty α13) (n14 : Nonempty α14) (n15 : Nonempty α15) (n16 : Nonempty α16) (n17 : Nonempty α17) (n18 : Nonempty α18) (n19 : Nonempty α19) (n20 : Nonempty α20) (n21 : Nonempty α21) (n22 : Nonempty α22) (n23 : Nonempty α23) {P : α0 → α1 → α2 → α3 → α4 → α5 → α6 → α7 → α8 → α9 → α10 → α11 → α12 → α13 → α14 → α15 → α16 → α17 → α18 → α19 → α20 → α21 → α22 → α23 → Prop} (h : P (qzf (qz24 (neP n0 (neP n1 (neP n2 (neP n3 (neP n4 (neP n5 (neP n6 (neP n7 (neP n8 (neP n9 (neP n10 (neP n11 (neP n12 (neP n13 (neP n14 (neP n15 (neP n16 (neP n17 (neP n18 (neP n19 (neP n20 (neP n21 (neP n22 n23))))))))))))))))))))))) P)) (qzf (qzs (qz24 (neP n0 (neP n1 (neP n2 (neP n3 (neP n4 (neP n5 (neP n6 (neP n7 (neP n8 (neP n9 (neP n10 (neP n11 (neP n12 (neP n13 (neP n14 (neP n15 (neP n16 (neP n17 (neP n18 (neP n19 (neP n20 (neP n21 (neP n22 n23))))))))))))))))))))))) P))) (qzf (qzs (qzs (qz24 (neP n0 (neP n1 (neP n2 (neP n3 (neP n4 (neP n5 (neP n6 (neP n7 (neP n8 (neP n9 (neP n10 (neP n11 (neP n12 (neP n13 (neP n14 (neP n15 (neP n16 (neP n17 (neP n18 (neP n19 (neP n20 (neP n21 (neP n22 n23))))))))))))))))))))))) P)))) (qzf (qzs (qzs (qzs (qz24 (neP n0 (neP n1 (neP n2 (neP n3 (neP n4 (neP n5 (neP n6 (neP n7 (neP n8 (neP n9 (neP n10 (neP n11 (neP n12 (neP n13 (neP n14 (neP n15 (neP n16 (neP n17 (neP n18 (neP n19 (neP n20 (neP n21 (neP n22 n23))))))))))))))))))))))) P))))) (qzf (qzs (qzs (qzs (qzs (qz24 (neP n0 (neP n1 (neP n2 (neP n3 (neP n4 (neP n5 (neP n6 (neP n7 (neP n8 (neP n9 (neP n10 (neP n11 (neP n12 (neP n13 (neP n14 (neP n15 (neP n16 (neP n17 (neP n18 (neP n19 (neP n20 (neP n21 (neP n22 n23))))))))))))))))))))))) P)))))) (qzf (qzs (qzs (qzs (qzs (qzs (qz24 (neP n0 (neP n1 (neP n2 (neP n3 (neP n4 (neP n5 (neP n6 (neP n7 (neP n8 (neP n9 (neP n10 (neP n11 (neP n12 (neP n13 (neP n14 (neP n15 (neP n16 (neP n17 (neP n18 (neP n19 (neP n20 (neP n21 (neP n22 n23))))))))))))))))))))))) P))))))) (qzf (qzs (qzs (qzs (qzs (qzs (qzs (qz24 (neP n0 (neP n1 (neP n2 (neP n3 (neP n4 (neP n5 (neP n6 (neP n7 (neP n8 (neP n9 (neP n10 (neP n11 (neP n12 (neP n13 (neP n14 (neP n15 (neP n16 (neP n17 (neP n18 (neP n19 (neP n20 (neP n21 (neP n22 n23))))))))))))))))))))))) P)))))))) (qzf (qzs (qzs (qzs (qzs (qzs (qzs (qzs (qz24 (neP n0 (neP n1 (neP n2 (neP n3 (neP n4 (neP n5 (neP n6 (neP n7 (neP n8 (neP n9 (neP n10 (neP n11 (neP n12 (neP n13 (neP n14 (neP n15 (neP n16 (neP n17 (neP n18 (neP n19 (neP n20 (neP n21 (neP n22 n23))))))))))))))))))))))) P))))))))) (qzf (qzs (qzs (qzs (qzs (qzs (qzs (qzs (qzs (qz24 (neP n0 (neP n1 (neP n2 (neP n3 (neP n4 (neP n5 (neP n6 (neP n7 (neP n8 (neP n9 (neP n10 (neP n11 (neP n12 (neP n13 (neP n14 (neP n15 (neP n16 (neP n17 (neP n18 (neP n19 (neP n20 (neP n21 (neP n22 n23))))))))))))))))))))))) P)))))))))) (qzf (qzs (qzs (qzs (qzs (qzs (qzs (qzs (qzs (qzs (qz24 (neP n0 (neP n1 (neP n2 (neP n3 (neP n4 (neP n5 (neP n6 (neP n7 (neP n8 (neP n9 (neP n10 (neP n11 (neP n12 (neP n13 (neP n14 (neP n15 (neP n16 (neP n17 (neP n18 (neP n19 (neP n20 (neP n21 (neP n22 n23))))))))))))))))))))))) P))))))))))) (qzf (qzs (qzs (qzs (qzs (qzs (qzs (qzs (qzs (qzs (qzs (qz24 (neP n0 (neP n1 (neP n2 (neP n3 (neP n4 (neP n5 (neP n6 (neP n7 (neP n8 (neP n9 (neP n10 (neP n11 (neP n12 (neP n13 (neP n14 (neP n15 (neP n16 (neP n17 (neP n18 (neP n19 (neP n20 (neP n21 (neP n22 n23))))))))))))))))))))))) P)))))))))))) (qzf (qzs (qzs (qzs (qzs (qzs (qzs (qzs (qzs (qzs (qzs (qzs (qz24 (neP n0 (neP n1 (neP n2 (neP n3 (neP n4 (neP n5 (neP n6 (neP n7 (neP n8 (neP n9 (neP n10 (neP n11 (neP n12 (neP n13 (neP n14 (neP n15 (neP n16 (neP n17 (neP n18 (neP n19 (neP n20 (neP n21 (neP n22 n23))))))))))))))))))))))) P))))))))))))) (qzf (qzs (qzs (qzs (qzs (qzs (qzs (qzs (qzs (qzs (qzs (qzs (qzs (qz24 (neP n0 (neP n1 (neP n2 (neP n3 (neP n4 (neP n5 (neP n6 (neP n7 (neP n8 (neP n9 (neP n10 (neP n11 (neP n12 (neP n13 (neP n14 (neP n15 (neP n16 (neP n17 (neP n18 (neP n19 (neP n20 (neP n21 (neP n22 n23))))))))))))))))))))))) P)))))))))))))) (qzf (qzs (qzs (qzs (qzs (qzs (qzs (qzs (qzs (qzs (qzs (qzs (qzs (qzs (qz24 (neP n0 (neP n1 (neP n2 (neP n3 (neP n4 (neP n5 (neP n6 (neP n7 (neP n8 (neP n9 (neP n10 (neP n11 (neP n12 (neP n13 (neP n14 (neP n15 (neP n16 (neP n17 (neP n18 (neP n19 (neP n20 (neP n21 (neP n22 n23))))))))))))))))))))))) P))))))))))))))) (qzf (qzs (qzs (qzs (qzs (qzs (qzs (qzs (qzs (qzs (qzs (qzs (qzs (qzs (qzs (qz24 (neP n0 (neP n1 (neP n2 (neP n3 (neP n4 (neP n5 (neP n6 (neP n7 (neP n8 (neP n9 (neP n10 (neP n11 (neP n12 (neP n13 (neP n14 (neP n15 (neP n16 (neP n17 (neP n18 (neP n19 (neP n20 (neP n21 (neP n22 n23))))))))))))))))))))))) P)))))))))))))))) (qzf (qzs (qzs (qzs (qzs (qzs (qzs (qzs (qzs (qzs (qzs (qzs (qzs (qzs (qzs (qzs (qz24 (neP n0 (neP n1 (neP n2 (neP n3 (neP n4 (neP n5 (neP n6 (neP n7 (neP n8 (neP n9 (neP n10 (neP n11 (neP n12 (neP n13 (neP n14 (neP n15 (neP n16 (neP n17 (neP n18 (neP n19 (neP n20 (neP n21 (neP n22 n23))))))))))))))))))))))) P))))))))))))))))) (qzf (qzs (qzs (qzs (qzs (qzs (qzs (qzs (qzs (qzs (qzs (qzs (qzs (qzs (qzs (qzs (qzs (qz24 (neP n0 (neP n1 (neP n2 (neP n3 (neP n4 (neP n5 (neP n6 (neP n7 (neP n8 (neP n9 (neP n10 (neP n11 (neP n12 (neP n13 (neP n14 (neP n15 (neP n16 (neP n17 (neP n18 (neP n19 (neP n20 (neP n21 (neP n22 n23))))))))))))))))))))))) P)))))))))))))))))) (qzf (qzs (qzs (qzs (qzs (qzs (qzs (qzs (qzs (qzs (qzs (qzs (qzs (qzs (qzs (qzs (qzs (qzs (qz24 (neP n0 (neP n1 (neP n2 (neP n3 (neP n4 (neP n5 (neP n6 (neP n7 (neP n8 (neP n9 (neP n10 (neP n11 (neP n12 (neP n13 (neP n14 (neP n15 (neP n16 (neP n17 (neP n18 (neP n19 (neP n20 (neP n21 (neP n22 n23))))))))))))))))))))))) P))))))))))))))))))) (qzf (qzs (qzs (qzs (qzs (qzs (qzs (qzs (qzs (qzs (qzs (qzs (qzs (qzs (qzs (qzs (qzs (qzs (qzs (qz24 (neP n0 (neP n1 (neP n2 (neP n3 (neP n4 (neP n5 (neP n6 (neP n7 (neP n8 (neP n9 (neP n10 (neP n11 (neP n12 (neP n13 (neP n14 (neP n15 (neP n16 (neP n17 (neP n18 (neP n19 (neP n20 (neP n21 (neP n22 n23))))))))))))))))))))))) P)))))))))))))))))))) (qzf (qzs (qzs (qzs (qzs (qzs (qzs (qzs (qzs (qzs (qzs (qzs (qzs (qzs (qzs (qzs (qzs (qzs (qzs (qzs (qz24 (neP n0 (neP n1 (neP n2 (neP n3 (neP n4 (neP n5 (neP n6 (neP n7 (neP n8 (neP n9 (neP n10 (neP n11 (neP n12 (neP n13 (neP n14 (neP n15 (neP n16 (neP n17 (neP n18 (neP n19 (neP n20 (neP n21 (neP n22 n23))))))))))))))))))))))) P))))))))))))))))))))) (qzf (qzs (qzs (qzs (qzs (qzs (qzs (qzs (qzs (qzs (qzs (qzs (qzs (qzs (qzs (qzs (qzs (qzs (qzs (qzs (qzs (qz24 (neP n0 (neP n1 (neP n2 (neP n3 (neP n4 (neP n5 (neP n6 (neP n7 (neP n8 (neP n9 (neP n10 (neP n11 (neP n12 (neP n13 (neP n14 (neP n15 (neP n16 (neP n17 (neP n18 (neP n19 (neP n20 (neP n21 (neP n22 n23))))))))))))))))))))))) P)))))))))))))))))))))) (qzf (qzs (qzs (qzs (qzs (qzs (qzs (qzs (qzs (qzs (qzs (qzs (qzs (qzs (qzs (qzs (qzs (qzs (qzs (qzs (qzs (qzs (qz24 (neP n0 (neP n1 (neP n2 (neP n3 (neP n4 (neP n5 (neP n6 (neP n7 (neP n8 (neP n9 (neP n10 (neP n11 (neP n12 (neP n13 (neP n14 (neP n15 (neP n16 (neP n17 (neP n18 (neP n19 (neP n20 (neP n21 (neP n22 n23))))))))))))))))))))))) P))))))))))))))))))))))) (qzf (qzs (qzs (qzs (qzs (qzs (qzs (qzs (qzs (qzs (qzs (qzs (qzs (qzs (qzs (qzs (qzs (qzs (qzs (qzs (qzs (qzs (qzs (qz24 (neP n0 (neP n1 (neP n2 (neP n3 (neP n4 (neP n5 (neP n6 (neP n7 (neP n8 (neP n9 (neP n10 (neP n11 (neP n12 (neP n13 (neP n14 (neP n15 (neP n16 (neP n17 (neP n18 (neP n19 (neP n20 (neP n21 (neP n22 n23))))))))))))))))))))))) P)))))))))))))))))))))))) (qzs (qzs (qzs (qzs (qzs (qzs (qzs (qzs (qzs (qzs (qzs (qzs (qzs (qzs (qzs (qzs (qzs (qzs (qzs (qzs (qzs (qzs (qzs (qz24 (neP n0 (neP n1 (neP n2 (neP n3 (neP n4 (neP n5 (neP n6 (neP n7 (neP n8 (neP n9 (neP n10 (neP n11 (neP n12 (neP n13 (neP n14 (neP n15 (neP n16 (neP n17 (neP n18 (neP n19 (neP n20 (neP n21 (neP n22 n23))))))))))))))))))))))) P))))))))))))))))))))))))) : ∀ x0 x1 x2 x3 x4 x5 x6 x7 x8 x9 x10 x11 x12 x13 x14 x15 x16 x17 x18 x19 x20 x21 x22 x23, P x0 x1 x2 x3 x4 x5 x6 x7 x8 x9 x10 x11 x12 x13 x14 x15 x16 x17 x18 x19 x20 x21 x22 x23 := by
  intro x0 x1 x2 x3 x4 x5 x6 x7 x8 x9 x10 x11 x12 x13 x14 x15 x16 x17 x18 x19 x20 x21 x22 x23
  with_unfolding_all exact eps1 (P := fun t : α0 × α1 × α2 × α3 × α4 × α5 × α6 × α7 × α8 × α9 × α10 × α11 × α12 × α13 × α14 × α15 × α16 × α17 × α18 × α19 × α20 × α21 × α22 × α23 => P (qzf t) (qzf (qzs t)) (qzf (qzs (qzs t))) (qzf (qzs (qzs (qzs t)))) (qzf (qzs (qzs (qzs (qzs t))))) (qzf (qzs (qzs (qzs (qzs (qzs t)))))) (qzf (qzs (qzs (qzs (qzs (qzs (qzs t))))))) (qzf (qzs (qzs (qzs (qzs (qzs (qzs (qzs t)))))))) (qzf (qzs (qzs (qzs (qzs (qzs (qzs (qzs (qzs t))))))))) (qzf (qzs (qzs (qzs (qzs (qzs (qzs (qzs (qzs (qzs t)))))))))) (qzf (qzs (qzs (qzs (qzs (qzs (qzs (qzs (qzs (qzs (qzs t))))))))))) (qzf (qzs (qzs (qzs (qzs (qzs (qzs (qzs (qzs (qzs (qzs (qzs t)))))))))))) (qzf (qzs (qzs (qzs (qzs (qzs (qzs (qzs (qzs (qzs (qzs (qzs (qzs t))))))))))))) (qzf (qzs (qzs (qzs (qzs (qzs (qzs (qzs (qzs (qzs (qzs (qzs (qzs (qzs t)))))))))))))) (qzf (qzs (qzs (qzs (qzs (qzs (qzs (qzs (qzs (qzs (qzs (qzs (qzs (qzs (qzs t))))))))))))))) (qzf (qzs (qzs (qzs (qzs (qzs (qzs (qzs (qzs (qzs (qzs (qzs (qzs (qzs (qzs (qzs t)))))))))))))))) (qzf (qzs (qzs (qzs (qzs (qzs (qzs (qzs (qzs (qzs (qzs (qzs (qzs (qzs (qzs (qzs (qzs t))))))))))))))))) (qzf (qzs (qzs (qzs (qzs (qzs (qzs (qzs (qzs (qzs (qzs (qzs (qzs (qzs (qzs (qzs (qzs (qzs t)))))))))))))))))) (qzf (qzs (qzs (qzs (qzs (qzs (qzs (qzs (qzs (qzs (qzs (qzs (qzs (qzs (qzs (qzs (qzs (qzs (qzs t))))))))))))))))))) (qzf (qzs (qzs (qzs (qzs (qzs (qzs (qzs (qzs (qzs (qzs (qzs (qzs (qzs (qzs (qzs (qzs (qzs (qzs (qzs t)))))))))))))))))))) (qzf (qzs (qzs (qzs (qzs (qzs (qzs (qzs (qzs (qzs (qzs (qzs (qzs (qzs (qzs (qzs (qzs (qzs (qzs (qzs (qzs t))))))))))))))))))))) (qzf (qzs (qzs (qzs (qzs (qzs (qzs (qzs (qzs (qzs (qzs (qzs (qzs (qzs (qzs (qzs (qzs (qzs (qzs (qzs (qzs (qzs t)))))))))))))))))))))) (qzf (qzs (qzs (qzs (qzs (qzs (qzs (qzs (qzs (qzs (qzs (qzs (qzs (qzs (qzs (qzs (qzs (qzs (qzs (qzs (qzs (qzs (qzs t))))))))))))))))))))))) (qzs (qzs (qzs (qzs (qzs (qzs (qzs (qzs (qzs (qzs (qzs (qzs (qzs (qzs (qzs (qzs (qzs (qzs (qzs (qzs (qzs (qzs (qzs t)))))))))))))))))))))))) c (neP n0 (neP n1 (neP n2 (neP n3 (neP n4 (neP n5 (neP n6 (neP n7 (neP n8 (neP n9 (neP n10 (neP n11 (neP n12 (neP n13 (neP n14 (neP n15 (neP n16 (neP n17 (neP n18 (neP n19 (neP n20 (neP n21 (neP n22 n23))))))))))))))))))))))) h (x0, x1, x2, x3, x4, x5, x6, x7, x8, x9, x10, x11, x12, x13, x14, x15, x16, x17, x18, x19, x20, x21, x22, x23)
theorem neWp : Nonempty Params := ⟨{ strHash := fun _ => 0, shareClass := fun _ => 0, mergeTok := fun t => t, idOf := fun _ => 0, idOfShared := fun _ _ => 0, followText := fun _ => true, idOfImm := fun _ => 0 }⟩
theorem neW : Nonempty World := by
  obtain ⟨p⟩ := neWp; exact ⟨⟨fun _ _ => 0, p⟩⟩
theorem neDr : Nonempty Drawn := ⟨{ }⟩
theorem neA : Nonempty Around := ⟨{ }⟩
theorem neS : Nonempty Shared := ⟨⟨default, #[], { }, 0, default⟩⟩
theorem neM : Nonempty Model := by
  obtain ⟨w⟩ := neW; exact ⟨⟨fun _ => .raise .none, default, w⟩⟩
theorem exI {α : Sort u} {p : α → Prop} {R : Prop} (_ : Closing) (h : ∀ x, p x → R) : (∃ x, p x) → R := fun ⟨x, q⟩ => h x q
theorem andI {A B R : Prop} (_ : Closing) (h : A → B → R) : A ∧ B → R := fun ⟨a, b⟩ => h a b
theorem prodI {α β : Type} {P : α × β → Prop} (_ : Closing) (h : ∀ a b, P (a, b)) : ∀ p, P p := fun ⟨a, b⟩ => h a b
theorem impI {A R : Prop} (_ : Closing) (a : A) (h : A → R) : R := h a
theorem clI {R : Prop} (_ : Closing) (h : R) : R := h
theorem shI {P : Shared → Prop} (_ : Closing) (h : ∀ a b c d e, P ⟨a, b, c, d, e⟩) : ∀ s, P s := fun ⟨a, b, c, d, e⟩ => h a b c d e
end Mine
end
section
namespace Mine
theorem and2 {A0 A1 R : Prop} (h : A0 ∧ A1) (k : A0 → A1 → R) : R := by
  obtain ⟨h0, h1⟩ := h
  exact k h0 h1
theorem and3 {A0 A1 A2 R : Prop} (h : A0 ∧ A1 ∧ A2) (k : A0 → A1 → A2 → R) : R := by
  obtain ⟨h0, h1, h2⟩ := h
  exact k h0 h1 h2
theorem and5 {A0 A1 A2 A3 A4 R : Prop} (h : A0 ∧ A1 ∧ A2 ∧ A3 ∧ A4) (k : A0 → A1 → A2 → A3 → A4 → R) : R := by
  obtain ⟨h0, h1, h2, h3, h4⟩ := h
  exact k h0 h1 h2 h3 h4
theorem and6 {A0 A1 A2 A3 A4 A5 R : Prop} (h : A0 ∧ A1 ∧ A2 ∧ A3 ∧ A4 ∧ A5) (k : A0 → A1 → A2 → A3 → A4 → A5 → R) : R := by
  obtain ⟨h0, h1, h2, h3, h4, h5⟩ := h
  exact k h0 h1 h2 h3 h4 h5
theorem and7 {A0 A1 A2 A3 A4 A5 A6 R : Prop} (h : A0 ∧ A1 ∧ A2 ∧ A3 ∧ A4 ∧ A5 ∧ A6) (k : A0 → A1 → A2 → A3 → A4 → A5 → A6 → R) : R := by
  obtain ⟨h0, h1, h2, h3, h4, h5, h6⟩ := h
  exact k h0 h1 h2 h3 h4 h5 h6
theorem and8 {A0 A1 A2 A3 A4 A5 A6 A7 R : Prop} (h : A0 ∧ A1 ∧ A2 ∧ A3 ∧ A4 ∧ A5 ∧ A6 ∧ A7) (k : A0 → A1 → A2 → A3 → A4 → A5 → A6 → A7 → R) : R := by
  obtain ⟨h0, h1, h2, h3, h4, h5, h6, h7⟩ := h
  exact k h0 h1 h2 h3 h4 h5 h6 h7
theorem ex2.{u0, u1} {A0 : Sort u0} {A1 : Sort u1} {p : A0 → A1 → Prop} {R : Prop} (h : ∃ x0 x1, p x0 x1) (k : ∀ x0 x1, p x0 x1 → R) : R := by
  obtain ⟨x0, x1, h⟩ := h
  exact k x0 x1 h
theorem ex3.{u0, u1, u2} {A0 : Sort u0} {A1 : Sort u1} {A2 : Sort u2} {p : A0 → A1 → A2 → Prop} {R : Prop} (h : ∃ x0 x1 x2, p x0 x1 x2) (k : ∀ x0 x1 x2, p x0 x1 x2 → R) : R := by
  obtain ⟨x0, x1, x2, h⟩ := h
  exact k x0 x1 x2 h
theorem ex4.{u0, u1, u2, u3} {A0 : Sort u0} {A1 : Sort u1} {A2 : Sort u2} {A3 : Sort u3} {p : A0 → A1 → A2 → A3 → Prop} {R : Prop} (h : ∃ x0 x1 x2 x3, p x0 x1 x2 x3) (k : ∀ x0 x1 x2 x3, p x0 x1 x2 x3 → R) : R := by
  obtain ⟨x0, x1, x2, x3, h⟩ := h
  exact k x0 x1 x2 x3 h
theorem ex6.{u0, u1, u2, u3, u4, u5} {A0 : Sort u0} {A1 : Sort u1} {A2 : Sort u2} {A3 : Sort u3} {A4 : Sort u4} {A5 : Sort u5} {p : A0 → A1 → A2 → A3 → A4 → A5 → Prop} {R : Prop} (h : ∃ x0 x1 x2 x3 x4 x5, p x0 x1 x2 x3 x4 x5) (k : ∀ x0 x1 x2 x3 x4 x5, p x0 x1 x2 x3 x4 x5 → R) : R := by
  obtain ⟨x0, x1, x2, x3, x4, x5, h⟩ := h
  exact k x0 x1 x2 x3 x4 x5 h
theorem ex8.{u0, u1, u2, u3, u4, u5, u6, u7} {A0 : Sort u0} {A1 : Sort u1} {A2 : Sort u2} {A3 : Sort u3} {A4 : Sort u4} {A5 : Sort u5} {A6 : Sort u6} {A7 : Sort u7} {p : A0 → A1 → A2 → A3 → A4 → A5 → A6 → A7 → Prop} {R : Prop} (h : ∃ x0 x1 x2 x3 x4 x5 x6 x7, p x0 x1 x2 x3 x4 x5 x6 x7) (k : ∀ x0 x1 x2 x3 x4 x5 x6 x7, p x0 x1 x2 x3 x4 x5 x6 x7 → R) : R := by
  obtain ⟨x0, x1, x2, x3, x4, x5, x6, x7, h⟩ := h
  exact k x0 x1 x2 x3 x4 x5 x6 x7 h
theorem ex9.{u0, u1, u2, u3, u4, u5, u6, u7, u8} {A0 : Sort u0} {A1 : Sort u1} {A2 : Sort u2} {A3 : Sort u3} {A4 : Sort u4} {A5 : Sort u5} {A6 : Sort u6} {A7 : Sort u7} {A8 : Sort u8} {p : A0 → A1 → A2 → A3 → A4 → A5 → A6 → A7 → A8 → Prop} {R : Prop} (h : ∃ x0 x1 x2 x3 x4 x5 x6 x7 x8, p x0 x1 x2 x3 x4 x5 x6 x7 x8) (k : ∀ x0 x1 x2 x3 x4 x5 x6 x7 x8, p x0 x1 x2 x3 x4 x5 x6 x7 x8 → R) : R := by
  obtain ⟨x0, x1, x2, x3, x4, x5, x6, x7, x8, h⟩ := h
  exact k x0 x1 x2 x3 x4 x5 x6 x7 x8 h
theorem ex13.{u0, u1, u2, u3, u4, u5, u6, u7, u8, u9, u10, u11, u12} {A0 : Sort u0} {A1 : Sort u1} {A2 : Sort u2} {A3 : Sort u3} {A4 : Sort u4} {A5 : Sort u5} {A6 : Sort u6} {A7 : Sort u7} {A8 : Sort u8} {A9 : Sort u9} {A10 : Sort u10} {A11 : Sort u11} {A12 : Sort u12} {p : A0 → A1 → A2 → A3 → A4 → A5 → A6 → A7 → A8 → A9 → A10 → A11 → A12 → Prop} {R : Prop} (h : ∃ x0 x1 x2 x3 x4 x5 x6 x7 x8 x9 x10 x11 x12, p x0 x1 x2 x3 x4 x5 x6 x7 x8 x9 x10 x11 x12) (k : ∀ x0 x1 x2 x3 x4 x5 x6 x7 x8 x9 x10 x11 x12, p x0 x1 x2 x3 x4 x5 x6 x7 x8 x9 x10 x11 x12 → R) : R := by
  obtain ⟨x0, x1, x2, x3, x4, x5, x6, x7, x8, x9, x10, x11, x12, h⟩ := h
  exact k x0 x1 x2 x3 x4 x5 x6 x7 x8 x9 x10 x11 x12 h
open PySem in
theorem gQ {α : Type} {M : Model} {A : Around} {t : Sem α} {Q : α → Shared → Prop} {E : Value → Shared → Prop} {s : Shared} (h : ∀ Q' : α → Shared → Prop, (∀ v s, Q v s → Q' v s) → wpAny M A t Q' E s) : wpAny M A t Q E s := h Q fun _ _ h => h
open PySem in
theorem gQE {α : Type} {M : Model} {A : Around} {t : Sem α} {Q : α → Shared → Prop} {E : Value → Shared → Prop} {s : Shared} (h : ∀ (Q' : α → Shared → Prop) (E' : Value → Shared → Prop), (∀ v s, Q v s → Q' v s) → (∀ v s, E v s → E' v s) → wpAny M A t Q' E' s) : wpAny M A t Q E s := h Q E (fun _ _ h => h) fun _ _ h => h
theorem exm4 {α0 α1 α2 α3 : Type} {p q : α0 → α1 → α2 → α3 → Prop} (f : ∀ x0 x1 x2 x3, p x0 x1 x2 x3 → q x0 x1 x2 x3) : (∃ x0 x1 x2 x3, p x0 x1 x2 x3) → ∃ x0 x1 x2 x3, q x0 x1 x2 x3 := by
  rintro ⟨x0, x1, x2, x3, h⟩
  exact ⟨x0, x1, x2, x3, f _ _ _ _ h⟩
theorem exm9 {α0 α1 α2 α3 α4 α5 α6 α7 α8 : Type} {p q : α0 → α1 → α2 → α3 → α4 → α5 → α6 → α7 → α8 → Prop} (f : ∀ x0 x1 x2 x3 x4 x5 x6 x7 x8, p x0 x1 x2 x3 x4 x5 x6 x7 x8 → q x0 x1 x2 x3 x4 x5 x6 x7 x8) : (∃ x0 x1 x2 x3 x4 x5 x6 x7 x8, p x0 x1 x2 x3 x4 x5 x6 x7 x8) → ∃ x0 x1 x2 x3 x4 x5 x6 x7 x8, q x0 x1 x2 x3 x4 x5 x6 x7 x8 := by
  rintro ⟨x0, x1, x2, x3, x4, x5, x6, x7, x8, h⟩
  exact ⟨x0, x1, x2, x3, x4, x5, x6, x7, x8, f _ _ _ _ _ _ _ _ _ h⟩
end Mine
end
section
open PySem PySem.W PyProof.Rows PySem.Calls Mine
open Lean in
local macro_rules
  | `(tactic| intro $ts:term*) => do
    let n := ts.size
    if n = 0 then Macro.throwUnsupported
    let y9 ← `(y9)
    if ts.any fun t => !(t.raw.isIdent || t.raw.isOfKind ``Parser.Term.hole) then Macro.throwUnsupported
    let xs : Array (TSyntax `ident) := ts.map fun t => if t.raw.isIdent then ⟨t.raw⟩ else ⟨y9.raw⟩
    let cl := mkIdent `hCl
    let ne : TSyntax `term ← `((by first | infer_instance | exact Mine.neW | exact Mine.neA | exact Mine.neS | exact Mine.neM | exact Mine.neDr | exact $(mkIdent `Mine.neNd) | exact $(mkIdent `Mine.neSk) | exact $(mkIdent `Mine.neFP)))
    let x0 := xs[0]!
    let zs : Array (TSyntax `term) := (xs.extract 1 n).map fun i => ⟨i.raw⟩
    let m1 ← if zs.size = 0 then `(tactic| skip) else `(tactic| intro $zs*)
    let a0 ← `(tacticSeq| (fail_if_success (refine no_implicit_lambda% (@Mine.eps1 _ $cl $ne _ ?_))); intros $x0:ident; $m1:tactic)
    let ks := (List.range n).reverse.map (· + 1) |>.filter fun k => k ≤ 12 || k = 14 || k = 16 || k = 20 || k = 24
    let plan := [true, false].flatMap fun md => ks.flatMap fun k => (md, k, false) :: (if n ≥ 13 || k = 1 then [(md, k, true)] else [])
    let mut as := #[a0]
    for (md, k, kb) in plan do
      let hs : Array (TSyntax `term) := Array.replicate k (← `(_))
      let g ← if kb then `(?_) else `(((?ff : type_of% ?gg) $hs*))
      let r ← `(tactic| refine no_implicit_lambda% (@$(mkIdent (Name.mkStr2 "Mine" s!"eps{k}")) $hs* $cl $(Array.replicate k ne)* _ $g))
      let r ← if md then `(tactic| with_reducible $r:tactic) else pure r
      let ys := xs.extract 0 k
      let zs : Array (TSyntax `term) := (xs.extract k n).map fun i => ⟨i.raw⟩
      let mk ← if zs.size = 0 then `(tactic| skip) else `(tactic| intro $zs*)
      let x ← if kb then
          let t0 ← `($(mkIdent (Name.mkStr2 "Mine" (if k = 1 then "qz" else s!"qz{k}"))) _ _)
          let es := ((List.range k).foldl (fun (p : Array (TSyntax `term) × TSyntax `term) i => (p.1.push (if i + 1 = k then p.2 else Syntax.mkCApp `Mine.qzf #[p.2]), Syntax.mkCApp `Mine.qzs #[p.2])) (#[], t0)).1
          `(tacticSeq| $r:tactic; generalize $[$es:term = $ys:ident],*; revert $[$ys:ident]*; k_whole; intros $[$ys:ident]*; $mk:tactic)
        else `(tacticSeq| refine ?gg; $r:tactic; intros $[$ys:ident]*; $mk:tactic)
      as := as.push x
    let alts := as.push (← `(tacticSeq| intros $x0:ident; $m1:tactic))
    `(tactic| first $[| $alts:tacticSeq]*)
open Lean in
local macro_rules
  | `(tactic| rintro $ps*) => do
    let n := ps.size
    if n = 0 then Macro.throwUnsupported
    let cl := mkIdent `hCl
    let one (p : TSyntax `rintroPat) : Option (TSyntax `rcasesPat) := if p.raw.isOfKind ``Parser.Tactic.rintroPat.one then some ⟨p.raw[0]⟩ else none
    -- the run of names in front
    let mut run : Array (TSyntax `term) := #[]
    for p in ps do
      match one p with
      | some q =>
        if q.raw.isOfKind ``Parser.Tactic.rcasesPat.one && !(q.raw[0].getId == `rfl) then run := run.push ⟨q.raw[0]⟩
        else if q.raw.isOfKind ``Parser.Tactic.rcasesPat.ignore then run := run.push (← `(_))
        else break
      | none => break
    let k := run.size
    let tailOf (qs : Array (TSyntax `rintroPat)) : MacroM (TSyntax `tactic) := if qs.size = 0 then `(tactic| skip) else `(tactic| rintro $qs*)
    if k > 0 then
      let t ← tailOf (ps.extract k n)
      return ← `(tactic| (intro $run*; $t:tactic))
    let some q := one ps[0]! | Macro.throwUnsupported
    let rest := ps.extract 1 n
    let t ← tailOf rest
    if q.raw.isOfKind ``Parser.Tactic.rcasesPat.one then
      return ← `(tactic| (intros e9; subst e9; $t:tactic))
    let core ← `(tacticSeq| intros x9; (rcases x9 with $q:rcasesPat) <;> ($t:tactic))
    match q with
    | `(rcasesPat| ⟨$ms,*⟩) =>
      let ms := ms.getElems
      let mut qs : Array (TSyntax `rcasesPat) := #[]
      for m in ms do
        -- rcasesPatLo: rcasesPatMed, optional type
        if m.raw[1].getNumArgs ≠ 0 then return ← `(tactic| ($core))
        let alts := m.raw[0][0].getSepArgs
        if alts.size = 1 then qs := qs.push ⟨alts[0]!⟩
        else qs := qs.push (← `(rcasesPat| ($m:rcasesPatLo)))
      if qs.size < 2 then return ← `(tactic| ($core))
      let lo (q : TSyntax `rcasesPat) : MacroM (TSyntax ``Parser.Tactic.rcasesPatLo) := `(Parser.Tactic.rcasesPatLo| $q:rcasesPat)
      let q1 : TSyntax `rcasesPat ← (if qs.size = 2 then pure qs[1]! else do
        let los ← (qs.extract 1 qs.size).mapM lo
        `(rcasesPat| ⟨$los,*⟩))
      let two : Array (TSyntax `rintroPat) := #[← `(rintroPat| $(qs[0]!):rcasesPat), ← `(rintroPat| $q1:rcasesPat)] ++ rest
      let all : Array (TSyntax `rintroPat) := (← qs.mapM fun q => `(rintroPat| $q:rcasesPat)) ++ rest
      `(tactic| first
        | (refine no_implicit_lambda% (@Mine.exI _ _ _ $cl ?_)); rintro $two*
        | (refine no_implicit_lambda% (@Mine.andI _ _ _ $cl ?_)); rintro $two*
        | (refine no_implicit_lambda% (@Mine.prodI _ _ _ $cl ?_)); rintro $two*
        | (refine no_implicit_lambda% (@$(mkIdent `Mine.ndI) _ $cl ?_)); rintro $all*
        | (refine no_implicit_lambda% (@Mine.shI _ $cl ?_)); rintro $all*
        | ($core))
    | _ => `(tactic| ($core))
  | `(tactic| obtain $p:rcasesPatMed := $t:term) => do
    let alts := p.raw[0].getSepArgs
    if alts.size ≠ 1 then Macro.throwUnsupported
    let q : TSyntax `rcasesPat := ⟨alts[0]!⟩
    let cl := mkIdent `hCl
    if t.raw.isIdent then
      `(tactic| first | (refine no_implicit_lambda% (Mine.impI $cl $t ?_); (try clear $t:term); rintro $q:rcasesPat) | rcases $t:term with $q:rcasesPat)
    else `(tactic| first | (refine no_implicit_lambda% (Mine.impI $cl $t ?_); rintro $q:rcasesPat) | rcases $t:term with $q:rcasesPat)
  | `(tactic| obtain $p:rcasesPatMed : $ty:term := $t:term) => do
    let alts := p.raw[0].getSepArgs
    if alts.size ≠ 1 then Macro.throwUnsupported
    let q : TSyntax `rcasesPat := ⟨alts[0]!⟩
    let cl := mkIdent `hCl
    `(tactic| first | (refine no_implicit_lambda% (Mine.impI (A := $ty) $cl $t ?_); rintro $q:rcasesPat) | rcases ($t : $ty) with $q:rcasesPat)
local macro_rules | `(tactic| k_fold) => `(tactic| (fail_if_success (fail_if_success (refine Mine.clI $(Lean.mkIdent `hCl) ?_))))
section
open PySem PySem.W PyProof.Rows
set_option maxRecDepth 100000
namespace Mine

theorem fr_but {h₀ h h' : Heap} {L I : Addr} {m : Str → Option Value} (F : Fr h₀ L h m) (hk : ∀ b o, b ≠ I → h.get? b = some o → h'.get? b = some o) (hL : L ≠ I) (h0 : h₀.get? I = none) : Fr h₀ L h' m :=
  ⟨F.ns.at' fun o e => hk L o hL e, fun b o e => hk b o (fun q => by rw [q, h0] at e; cases e) (F.keep b o e), F.above⟩

theorem news_but {h₀ h h' : Heap} {L I : Addr} {news : List (Addr × Obj)} (N : News h₀ L h news) (hk : ∀ b o, b ≠ I → h.get? b = some o → h'.get? b = some o) (hn : ∀ p ∈ news, p.1 ≠ I) : News h₀ L h' news :=
  fun p hp => ⟨hk _ _ (hn p hp) (N p hp).1, (N p hp).2⟩

theorem news_sub {h₀ h : Heap} {L : Addr} {l l' : List (Addr × Obj)} (N : News h₀ L h l) (hs : ∀ p ∈ l', p ∈ l) : News h₀ L h l' := fun p hp => N p (hs p hp)

/-- a source of items: an iterator at I, its container in the ledger -/
structure Src (prog : Program) (w : World) (A : Around) (I : Addr) (n : Nat) (P : Nat → Value → Prop) (C : List (Addr × Obj)) (rel : Nat → Obj → Prop) : Prop where
  item : ∀ i (s : Shared) (oI : Obj) (Q : Option Value → Shared → Prop) (E : Value → Shared → Prop), i < n → rel i oI → s.heap.get? I = some oI → (∀ p ∈ C, s.heap.get? p.1 = some p.2) →
    (∀ v oI' h' tk, P i v → rel (i + 1) oI' → h'.get? I = some oI' → (∀ b o, b ≠ I → s.heap.get? b = some o → h'.get? b = some o) → Q (some v) { s with heap := h', toks := tk }) → wpAny (model prog w) A (pyNext (.ref I)) Q E s
  done : ∀ (s : Shared) (oI : Obj) (Q : Option Value → Shared → Prop) (E : Value → Shared → Prop), rel n oI → s.heap.get? I = some oI → (∀ p ∈ C, s.heap.get? p.1 = some p.2) →
    (∀ h' tk, (∀ b o, b ≠ I → s.heap.get? b = some o → h'.get? b = some o) → Q none { s with heap := h', toks := tk }) → wpAny (model prog w) A (pyNext (.ref I)) Q E s
  self : ∀ i (s : Shared) (oI : Obj) (Q : Value → Shared → Prop) (E : Value → Shared → Prop), rel i oI → s.heap.get? I = some oI → (∀ p ∈ C, s.heap.get? p.1 = some p.2) → Q (.ref I) s → wpAny (model prog w) A (pyIter (.ref I)) Q E s

noncomputable abbrev tupO (vs : Array Value) (n : Nat) : Obj := { cls := .type "tuple", data := .seq vs n }
noncomputable abbrev listIt (l : Addr) (i : Nat) : Obj := { cls := .type "list_iterator", data := .fields #[.ref l, .int i 0] }

section
variable {prog : Program} {w : World} {A : Around}
theorem Src.list (hh : A.handled = none) {I l : Addr} (hne : l ≠ I) (vs : List Value) (k : Nat) :
    Src prog w A I vs.length (fun i v => vs[i]? = some v) [(l, listOf vs.toArray k)] (fun i o => o.cls = .type "list_iterator" ∧ o.data = .fields #[.ref l, .int i 0]) where
  item := fun i s oI Q E hi r hI hC hQ => by
    have W := Walks.list (prog := prog) (w := w) hh I l hne vs.toArray
    refine W.item i s Q E (by simpa using hi) ⟨⟨oI, hI, r⟩, ⟨_, hC _ (.head _), rfl, k, rfl⟩⟩ ?_
    rintro v h' tk hp hst hk
    obtain ⟨⟨o', e, r'⟩, _⟩ := hst
    exact hQ v o' h' tk (by simpa using hp) r' e fun b o hb => hk b o (by simpa using hb)
  done := fun s oI Q E r hI hC hQ => by
    have W := Walks.list (prog := prog) (w := w) hh I l hne vs.toArray
    refine W.done s Q E ⟨⟨oI, hI, by simpa using r⟩, ⟨_, hC _ (.head _), rfl, k, rfl⟩⟩ ?_
    rintro h' tk hk
    exact hQ h' tk fun b o hb => hk b o (by simpa using hb)
  self := fun i s oI Q E r hI hC hQ => by
    have W := Walks.list (prog := prog) (w := w) hh I l hne vs.toArray
    exact W.self i s Q E ⟨⟨oI, hI, r⟩, ⟨_, hC _ (.head _), rfl, k, rfl⟩⟩ hQ

theorem Src.tuple (hh : A.handled = none) {I l : Addr} (hne : l ≠ I) (vs : List Value) (k : Nat) :
    Src prog w A I vs.length (fun i v => vs[i]? = some v) [(l, tupO vs.toArray k)] (fun i o => o.cls = .type "tuple_iterator" ∧ o.data = .fields #[.ref l, .int i 0]) where
  item := fun i s oI Q E hi r hI hC hQ => by
    have W := Walks.tuple (prog := prog) (w := w) hh I l hne vs.toArray
    refine W.item i s Q E (by simpa using hi) ⟨⟨oI, hI, r⟩, ⟨_, hC _ (.head _), rfl, k, rfl⟩⟩ ?_
    rintro v h' tk hp hst hk
    obtain ⟨⟨o', e, r'⟩, _⟩ := hst
    exact hQ v o' h' tk (by simpa using hp) r' e fun b o hb => hk b o (by simpa using hb)
  done := fun s oI Q E r hI hC hQ => by
    have W := Walks.tuple (prog := prog) (w := w) hh I l hne vs.toArray
    refine W.done s Q E ⟨⟨oI, hI, by simpa using r⟩, ⟨_, hC _ (.head _), rfl, k, rfl⟩⟩ ?_
    rintro h' tk hk
    exact hQ h' tk fun b o hb => hk b o (by simpa using hb)
  self := fun i s oI Q E r hI hC hQ => by
    have W := Walks.tuple (prog := prog) (w := w) hh I l hne vs.toArray
    exact W.self i s Q E ⟨⟨oI, hI, r⟩, ⟨_, hC _ (.head _), rfl, k, rfl⟩⟩ hQ

theorem Src.range (hh : A.handled = none) {I : Addr} (n : Nat) :
    Src prog w A I n (fun i v => ∃ t, v = .int i t) [] (fun i o => o = { cls := .type "range_iterator", data := .fields #[rawInt (0 + (i : Int) * 1), rawInt ((n : Int) - (i : Int)), rawInt 1] }) where
  item := fun i s oI Q E hi r hI hC hQ => by
    have W := Walks.range (prog := prog) (w := w) hh I 0 1 n
    refine W.item i s Q E hi (by rw [r] at hI; exact hI) ?_
    rintro v h' tk hp hst hk
    obtain ⟨t, rfl⟩ := hp
    exact hQ _ _ h' tk ⟨t, by rw [Int.mul_one, Int.zero_add]⟩ rfl hst fun b o hb => hk b o (by simpa using hb)
  done := fun s oI Q E r hI hC hQ => by
    have W := Walks.range (prog := prog) (w := w) hh I 0 1 n
    refine W.done s Q E (by rw [r] at hI; exact hI) ?_
    rintro h' tk hk
    exact hQ h' tk fun b o hb => hk b o (by simpa using hb)
  self := fun i s oI Q E r hI hC hQ => by
    have W := Walks.range (prog := prog) (w := w) hh I 0 1 n
    exact W.self i s Q E (by rw [r] at hI; exact hI) hQ

/-- what a turn of a for must leave -/
noncomputable def TurnEnd (h₀ : Heap) (L I : Addr) (oI : Obj) (C : List (Addr × Obj)) (J : (Str → Option Value) → List (Addr × Obj) → Prop) (s s₂ : Shared) : Prop :=
  ∃ h' tk' m' nx', s₂ = { s with heap := h', toks := tk' } ∧ Fr h₀ L h' m' ∧ News h₀ L h' ((I, oI) :: nx') ∧ (∀ p ∈ C, p ∈ nx') ∧ (∀ p ∈ nx', p.1 ≠ I) ∧ J m' nx'
noncomputable def TurnPost (h₀ : Heap) (L I : Addr) (oI : Obj) (C : List (Addr × Obj)) (J : (Str → Option Value) → List (Addr × Obj) → Prop) (s : Shared) (Q : Flow → Shared → Prop) (f : Flow) (s₂ : Shared) : Prop :=
  match f with
  | .ret v => Q (.ret v) s₂
  | .brk => Q .next s₂
  | _ => TurnEnd h₀ L I oI C J s s₂

theorem for_src {E : Value → Shared → Prop} {s : Shared} {env : Env} {x : Str} {px : Pos} {body : List Stmt} {I L : Addr} {n : Nat} {P : Nat → Value → Prop} {C news : List (Addr × Obj)} {rel : Nat → Obj → Prop} {Q : Flow → Shared → Prop} {h₀ : Heap} {m₀ : Str → Option Value} {oI : Obj}
    (S : Src prog w A I n P C rel) (J : Nat → (Str → Option Value) → List (Addr × Obj) → Prop)
    (hL : env.locals = L) (hx : env.kindOf x = some .local) (hp : (env.scope.kind == .class || (env.scope.kind == .module && env.locals != env.globals)) = false)
    (F : Fr h₀ L s.heap m₀) (N : News h₀ L s.heap ((I, oI) :: news)) (r0 : rel 0 oI) (hC : ∀ p ∈ C, p ∈ news) (hI : ∀ p ∈ news, p.1 ≠ I) (j0 : J 0 m₀ news)
    (turn : ∀ i v m₁ nx oI h tk E', i < n → P i v → J i m₁ nx → (∀ p ∈ C, p ∈ nx) → (∀ p ∈ nx, p.1 ≠ I) → rel (i + 1) oI → Fr h₀ L h (fun y => if y = x then some v else m₁ y) → News h₀ L h ((I, oI) :: nx) →
      wpAny (model prog w) A (execs body env) (TurnPost h₀ L I oI C (J (i + 1)) s Q) E' { s with heap := h, toks := tk })
    (done : ∀ m₁ nx h tk, J n m₁ nx → (∀ p ∈ nx, p.1 ≠ I) → Fr h₀ L h m₁ → News h₀ L h nx → Q .next { s with heap := h, toks := tk })
    (ht : ∀ v, letOwnedTupleGo (.Name x px) (.ref I) v = pure () := by intro _; rfl) :
    codeAny (model prog w) A (.forLoop (.Name x px) (.ref I) body [] env) (fun r s' => match r with | .ok f => Q f s' | .error e => cameBackBy (model prog w) A env E e s') s := by
  generalize Mine.clo = hCl
  revert prog w A E s env x px body I L n P C news rel Q h₀ m₀ oI J
  intro prog w A E s env x px body I L n P C news rel Q h₀ m₀ oI S J hL hx hp F N r0 hC hI j0 turn done ht
  subst hL
  refine codeAny_forLoop (fun k s' => ∃ i h tk m₁ nx oI, k = n + 1 - i ∧ i ≤ n ∧ s' = { s with heap := h, toks := tk } ∧ J i m₁ nx ∧ (∀ p ∈ C, p ∈ nx) ∧ (∀ p ∈ nx, p.1 ≠ I) ∧ rel i oI ∧ Fr h₀ env.locals h m₁ ∧ News h₀ env.locals h ((I, oI) :: nx)) ?_ (n + 1)
    ⟨0, s.heap, s.toks, m₀, news, oI, rfl, Nat.zero_le _, rfl, j0, hC, hI, r0, F, N⟩ ht
  rintro k s' ⟨i, h, tk, m₁, nx, oI, rfl, hi, rfl, hj, hC, hI, r, F, N⟩
  have hIget := (N (I, oI) (.head _)).1
  have hIL : env.locals ≠ I := fun q => (N (I, oI) (.head _)).2.1 q.symm
  have hI0 := (N (I, oI) (.head _)).2.2
  have Nx : News h₀ env.locals h nx := fun p hp => N p (.tail _ hp)
  have hCget : ∀ p ∈ C, h.get? p.1 = some p.2 := fun p hp => (Nx p (hC p hp)).1
  by_cases hlt : i < n
  · refine S.item i _ oI _ _ hlt r hIget hCget ?_
    rintro v oI' h' tk' hP r' hI' hk
    have F' := fr_but F hk hIL hI0
    have N' : News h₀ env.locals h' ((I, oI') :: nx) := fun p hp => by
      rcases List.mem_cons.mp hp with rfl | hp
      · exact ⟨hI', Ne.symm hIL, hI0⟩
      · exact news_but Nx hk hI p hp
    dsimp only
    refine wpAny_assign_Name (wpAny_storeName_local hx F'.ns ?_ hp)
    rintro h₂ hn hs
    refine wpAny_mono (turn i v m₁ nx oI' h₂ _ _ hlt hP hj hC hI r' (F'.set hn hs) (N'.set hs)) ?_ fun _ _ e => e
    rintro f s₂ hf
    have fin : TurnEnd h₀ env.locals I oI' C (J (i + 1)) s s₂ → ∃ m, m < n + 1 - i ∧ ∃ i h tk m₁ nx oI, m = n + 1 - i ∧ i ≤ n ∧ s₂ = { s with heap := h, toks := tk } ∧ J i m₁ nx ∧ (∀ p ∈ C, p ∈ nx) ∧ (∀ p ∈ nx, p.1 ≠ I) ∧ rel i oI ∧ Fr h₀ env.locals h m₁ ∧ News h₀ env.locals h ((I, oI) :: nx) := by
      rintro ⟨h', tk', m', nx', rfl, F', N', hC', hI', hj'⟩
      exact ⟨n + 1 - (i + 1), by lia, i + 1, h', tk', m', nx', oI', rfl, hlt, rfl, hj', hC', hI', r', F', N'⟩
    cases f with
    | next => exact fin hf
    | cont => exact fin hf
    | brk => exact hf
    | ret v => exact hf
  · have hin : i = n := by lia
    subst hin
    refine S.done _ oI _ _ r hIget hCget ?_
    rintro h' tk' hk
    dsimp only
    refine wpAny_execs_nil ?_
    exact done m₁ nx h' tk' hj hI (fr_but F hk hIL hI0) (news_but Nx hk hI)
end
end Mine
end
example (h : False) {prog : PySem.Program} {w : PySem.World} {A : PySem.Around} {Q E : PySem.Value → PySem.Shared → Prop} {s : PySem.Shared} {env : PySem.Env} {at0 : PySem.Pos} : PySem.wpAny (PySem.model prog w) A (PySem.eval (.Constant .none 0 at0) env) Q E s := by
  w_top off
  first | (walk1; fail) | exact h.elim
section
open PySem PySem.W PyProof.Rows
set_option maxRecDepth 100000
namespace Mine

/-- an object that holds names -/
noncomputable def NsO (o : Obj) (m : Str → Option Value) : Prop := ∃ es ep, o.data = .dict es ep ∧ StrKeys es ∧ ∀ name, nsFind es name = m name
theorem NsO.ns {h : Heap} {a : Addr} {o : Obj} {m : Str → Option Value} (x : NsO o m) (e : h.get? a = some o) : h.Ns a m :=
  let ⟨es, ep, a1, a2, a3⟩ := x; ⟨o, es, ep, e, a1, a2, a3⟩
theorem ns_obj {h : Heap} {a : Addr} {m : Str → Option Value} (x : h.Ns a m) : ∃ o, h.get? a = some o ∧ NsO o m :=
  let ⟨o, es, ep, e, a1, a2, a3⟩ := x; ⟨o, e, es, ep, a1, a2, a3⟩

section
variable {prog : Program} {w : World} {A : Around}

/-- what a comprehension's turn must leave -/
noncomputable def CompEnd (h₀ : Heap) (L : Addr) (m : Str → Option Value) (own : List (Addr × Obj)) (C : List (Addr × Obj)) (J : List (Addr × Obj) → Prop) (s s₂ : Shared) : Prop :=
  ∃ h' tk' nx', s₂ = { s with heap := h', toks := tk' } ∧ Fr h₀ L h' m ∧ News h₀ L h' (own ++ nx') ∧ (∀ p ∈ C, p ∈ nx') ∧ (∀ q ∈ own, ∀ p ∈ nx', p.1 ≠ q.1) ∧ J nx'

theorem comp_core {E : Value → Shared → Prop} {s₂ : Shared} {elt iter : Expr} {x : Str} {px : Pos} {ifs : List Expr} {scope : Scope} {cl : List (Str × Addr)} {pos : Pos} {env : Env}
    {I L : Addr} {n : Nat} {P : Nat → Value → Prop} {C news : List (Addr × Obj)} {rel : Nat → Obj → Prop} {h₀ : Heap} {m : Str → Option Value} {oI : Obj} {RR : Value → Addr → Result → Shared → Prop}
    (S : Src prog w A I n P C rel) (hsz : n ≤ sizeLine) (J : Nat → List Value → List (Addr × Obj) → Prop)
    (hcell : ∀ y ∈ scope.names, y.2 ≠ .cell) (hkind : scope.kind = .function) (hx : scope.names.lookup x = some .local)
    (F : Fr h₀ L s₂.heap m) (N : News h₀ L s₂.heap ((I, oI) :: news)) (r0 : rel 0 oI) (hC : ∀ p ∈ C, p ∈ news) (hI : ∀ p ∈ news, p.1 ≠ I) (j0 : J 0 [] news)
    (turn : ∀ i v ys nx oI oC D c k m₂ h tk E', i < n → P i v → J i ys nx → (∀ p ∈ C, p ∈ nx) → NsO oC m₂ → m₂ x = some v → Fr h₀ L h m → News h₀ L h ((c, oC) :: (D, listOf ys.toArray k) :: (I, oI) :: nx) → @LT.lt Nat _ I D → @LT.lt Nat _ D c → @Eq Nat D s₂.heap.objs.size → @Eq Nat c (s₂.heap.objs.size + 1) →
      (∀ p ∈ nx, p.1 ≠ c) → (∀ p ∈ nx, p.1 ≠ D) → (∀ p ∈ nx, p.1 ≠ I) → ys.length ≤ i →
      wpAny (model prog w) A (forIn ifs true fun c' r => if r = true then do let ok ← isTrue c' (compEnvC scope cl c env) (eval c' (compEnvC scope cl c env)); pure (ForInStep.yield ok) else pure (ForInStep.yield r))
        (fun ok s₃ => if ok = true then wpAny (model prog w) A (eval elt (compEnvC scope cl c env)) (fun y s₄ => CompEnd h₀ L m [(c, oC), (D, listOf ys.toArray k), (I, oI)] C (J (i + 1) (ys ++ [y])) s₂ s₄) E' s₃
          else CompEnd h₀ L m [(c, oC), (D, listOf ys.toArray k), (I, oI)] C (J (i + 1) ys) s₂ s₃) E' { s₂ with heap := h, toks := tk })
    (hRR : ∀ ys nx D c oC m₂ k h tk, J n ys nx → Fr h₀ L h m → NsO oC m₂ → News h₀ L h ((c, oC) :: (D, listOf ys.toArray k) :: nx) → @LT.lt Nat _ D c → @Eq Nat D s₂.heap.objs.size → (∀ p ∈ nx, p.1 ≠ c) → (∀ p ∈ nx, p.1 ≠ D) → (∀ p ∈ nx, p.1 ≠ I) → ys.length ≤ n →
      RR (.ref D) c (.ok .next) { s₂ with heap := h, toks := tk }) :
    wpAny (model prog w) A (newList []) (fun acc s₃ => wpAny (model prog w) A (newFunctionEnv scope env.globals cl [] env.qual none .none (some env)) (fun cenv s₄ =>
      codeAny (model prog w) A (.compStart (.ListComp elt [⟨.Name x px, iter, ifs, 0⟩] scope pos) 0 (.ref I) acc { cenv with scope := relabel scope env }) (RR acc cenv.locals) s₄) E s₃) E s₂ := by
  generalize Mine.clo = hCl
  revert prog w A E s₂ elt iter x px ifs scope cl pos env I L n P C news rel h₀ m oI RR J
  intro prog w A E s₂ elt iter x px ifs scope cl pos env I L n P C news rel h₀ m oI RR S hsz J hcell hkind hx F N r0 hC hI j0 turn hRR
  have hIsz : @LT.lt Nat _ I s₂.heap.objs.size := Heap.lt_size (N (I, oI) (.head _)).1
  refine wpAny_newObj_type (wpAny_newFunctionEnv hcell (by intro y hy; simp at hy) ?_ hkind)
  rintro h₁ hns₁ hsb₁
  dsimp only at hns₁ hsb₁ ⊢
  generalize hH2 : s₂.heap.push { cls := .type "list", dict := none, data := .seq ([] : List Value).toArray } = H2 at hns₁ hsb₁ ⊢
  have hCsz : H2.objs.size = s₂.heap.objs.size + 1 := by rw [← hH2, Heap.size_push]
  have old : ∀ b o, s₂.heap.get? b = some o → h₁.get? b = some o := fun b o e => by
    have := ltN (Heap.lt_size e)
    exact hsb₁.extBut b o (neN (by lia)) (Heap.get?_push_of_some _ (hH2 ▸ Heap.get?_push_of_some _ e))
  have hDget : h₁.get? s₂.heap.objs.size = some (listOf ([] : List Value).toArray 0) := hsb₁.extBut _ _ (neN (by lia)) (Heap.get?_push_of_some _ (hH2 ▸ Heap.get?_push_size _ rfl))
  obtain ⟨oC, hoC, nC⟩ := ns_obj hns₁
  have hLsz : @LT.lt Nat _ L s₂.heap.objs.size := F.ns.lt
  have h0none : ∀ a, s₂.heap.objs.size ≤ a → h₀.get? a = none := fun a ha => Heap.get?_none_of_le (Nat.le_trans F.above (Nat.le_of_lt (Nat.lt_of_lt_of_le hLsz ha)))
  have F₁ : Fr h₀ L h₁ m := F.kept old
  have N₁ : News h₀ L h₁ ((H2.objs.size, oC) :: (s₂.heap.objs.size, listOf ([] : List Value).toArray 0) :: (I, oI) :: news) := fun p hp => by
    rcases List.mem_cons.mp hp with rfl | hp
    · exact ⟨hoC, neN (by lia), h0none H2.objs.size (by rw [hCsz]; exact Nat.le_succ _)⟩
    · rcases List.mem_cons.mp hp with rfl | hp
      · exact ⟨hDget, neN (by lia), h0none _ (Nat.le_refl _)⟩
      · exact ⟨old _ _ (N p hp).1, (N p hp).2⟩
  have loop : ∀ s₃ : Shared, s₃ = { s₂ with heap := h₁, toks := s₂.toks + ([] : List (Str × Value)).length } →
      codeAny (model prog w) A (.compLoop (.ListComp elt [⟨.Name x px, iter, ifs, 0⟩] scope pos) 0 (.ref I) (.ref s₂.heap.objs.size) (compEnvC scope cl H2.objs.size env))
        (RR (.ref s₂.heap.objs.size) H2.objs.size) s₃ := by
    rintro s₃ rfl
    refine codeAny_compLoop_tests
      (fun k s' => ∃ i h tk ys nx oI oC m₂ kD, k = n + 1 - i ∧ i ≤ n ∧ s' = { s₂ with heap := h, toks := tk } ∧ J i ys nx ∧ ys.length ≤ i ∧ (∀ p ∈ C, p ∈ nx) ∧ rel i oI ∧ NsO oC m₂ ∧ Fr h₀ L h m ∧
        News h₀ L h ((H2.objs.size, oC) :: (s₂.heap.objs.size, listOf ys.toArray kD) :: (I, oI) :: nx) ∧ (∀ p ∈ nx, p.1 ≠ H2.objs.size) ∧ (∀ p ∈ nx, p.1 ≠ s₂.heap.objs.size) ∧ (∀ p ∈ nx, p.1 ≠ I)) ?_ (n + 1)
      ⟨0, h₁, _, [], news, oI, oC, _, 0, rfl, Nat.zero_le _, rfl, j0, Nat.le_refl _, hC, r0, nC, F₁, N₁, (fun p hp => ?_), (fun p hp => ?_), hI⟩
    · rintro k s' ⟨i, h, tk, ys, nx, oI, oC, m₂, kD, rfl, hi, rfl, hj, hyl, hC, r, nO, F, N, o1, o2, o3⟩
      have gC := N (H2.objs.size, oC) (.head _)
      have gD := N (s₂.heap.objs.size, listOf ys.toArray kD) (.tail _ (.head _))
      have gI := N (I, oI) (.tail _ (.tail _ (.head _)))
      have Nx : News h₀ L h nx := fun p hp => N p (.tail _ (.tail _ (.tail _ hp)))
      have hCget : ∀ p ∈ C, h.get? p.1 = some p.2 := fun p hp => (Nx p (hC p hp)).1
      by_cases hlt : i < n
      · refine S.item i _ oI _ _ hlt r gI.1 hCget ?_
        rintro v oI' h' tk' hP r' hI' hk
        dsimp only
        have F' := fr_but F hk (Ne.symm gI.2.1) gI.2.2
        have gC' : h'.get? H2.objs.size = some oC := hk _ _ (neN (by lia)) gC.1
        refine wpAny_assign_Name (wpAny_storeName_local (env := compEnvC scope cl H2.objs.size env) (m := m₂) (lookup_relabel_local hx) (nO.ns gC') ?_ (by simp [compEnvC, relabel, hkind]))
        rintro h₂ hn hs
        obtain ⟨oC', hoC', nO'⟩ := ns_obj hn
        have hs' : Heap.SameBut H2.objs.size h' h₂ := hs
        have F₂ : Fr h₀ L h₂ m := F'.change hs' (neN (by lia)) (h0none _ (by rw [hCsz]; exact Nat.le_succ _))
        have N₂ : News h₀ L h₂ ((H2.objs.size, oC') :: (s₂.heap.objs.size, listOf ys.toArray kD) :: (I, oI') :: nx) := fun p hp => by
          rcases List.mem_cons.mp hp with rfl | hp
          · exact ⟨hoC', gC.2⟩
          · rcases List.mem_cons.mp hp with rfl | hp
            · exact ⟨(hs'.2 _ (neN (by lia))).trans (hk _ _ (neN (by lia)) gD.1), gD.2⟩
            · rcases List.mem_cons.mp hp with rfl | hp
              · exact ⟨(hs'.2 _ (neN (by lia))).trans hI', gI.2⟩
              · exact ⟨(hs'.2 _ (o1 p hp)).trans (hk _ _ (o3 p hp) (Nx p hp).1), (Nx p hp).2⟩
        refine wpAny_mono (turn i v ys nx oI' oC' s₂.heap.objs.size H2.objs.size kD _ h₂ _ _ hlt hP hj hC nO' (by simp) F₂ N₂ hIsz (ltN (by lia)) rfl hCsz o1 o2 o3 hyl) ?_ fun _ _ e => e
        rintro ok s₃ h₃
        cases ok with
        | false =>
          simp only [Bool.false_eq_true, if_false] at h₃ ⊢
          obtain ⟨h₄, tk₄, nx', rfl, F₄, N₄, hC₄, off, hj₄⟩ := h₃
          exact ⟨n + 1 - (i + 1), by lia, i + 1, h₄, tk₄, ys, nx', oI', oC', _, kD, rfl, hlt, rfl, hj₄, Nat.le_succ_of_le hyl, hC₄, r', nO', F₄, N₄, fun p hp => off _ (.head _) p hp, fun p hp => off _ (.tail _ (.head _)) p hp, fun p hp => off _ (.tail _ (.tail _ (.head _))) p hp⟩
        | true =>
          simp only [if_true] at h₃ ⊢
          refine wpAny_mono h₃ ?_ fun _ _ e => e
          rintro y s₄ h₄
          obtain ⟨h₄, tk₄, nx', rfl, F₄, N₄, hC₄, off, hj₄⟩ := h₄
          have q1 := fun p hp => off _ (.head _) p hp
          have q2 := fun p hp => off _ (.tail _ (.head _)) p hp
          have q3 := fun p hp => off _ (.tail _ (.tail _ (.head _))) p hp
          have gD₄ := N₄ (s₂.heap.objs.size, listOf ys.toArray kD) (.tail _ (.head _))
          refine append_at (hsz := by rw [List.size_toArray]; lia) gD₄.1 ?_
          rintro h₅ hs₅ hD₅
          refine ⟨n + 1 - (i + 1), by lia, i + 1, h₅, tk₄, ys ++ [y], nx', oI', oC', _, kD + 1, rfl, hlt, rfl, hj₄, by rw [List.length_append, List.length_singleton]; lia, hC₄, r', nO', F₄.change hs₅ gD₄.2.1 gD₄.2.2, fun p hp => ?_, q1, q2, q3⟩
          rcases List.mem_cons.mp hp with rfl | hp
          · exact ⟨(hs₅.2 _ (neN (by lia))).trans (N₄ _ (.head _)).1, (N₄ _ (.head _)).2⟩
          · rcases List.mem_cons.mp hp with rfl | hp
            · refine ⟨?_, gD₄.2⟩
              rw [hD₅]
              simp
            · rcases List.mem_cons.mp hp with rfl | hp
              · exact ⟨(hs₅.2 _ (neN (by lia))).trans (N₄ _ (.tail _ (.tail _ (.head _)))).1, (N₄ _ (.tail _ (.tail _ (.head _)))).2⟩
              · exact ⟨(hs₅.2 _ (q2 p hp)).trans (N₄ _ (.tail _ (.tail _ (.tail _ hp)))).1, (N₄ _ (.tail _ (.tail _ (.tail _ hp)))).2⟩
      · have hin : i = n := by lia
        subst hin
        refine S.done _ oI _ _ r gI.1 hCget ?_
        rintro h' tk' hk
        dsimp only
        refine hRR ys nx _ _ oC _ kD h' tk' hj (fr_but F hk (Ne.symm gI.2.1) gI.2.2) nO ?_ (ltN (by lia)) rfl o1 o2 o3 hyl
        rintro p hp
        rcases List.mem_cons.mp hp with rfl | hp
        · exact ⟨hk _ _ (neN (by lia)) gC.1, gC.2⟩
        · rcases List.mem_cons.mp hp with rfl | hp
          · exact ⟨hk _ _ (neN (by lia)) gD.1, gD.2⟩
          · exact ⟨hk _ _ (o3 p hp) (Nx p hp).1, (Nx p hp).2⟩
    · have := ltN (Heap.lt_size (N p (.tail _ hp)).1); exact neN (by lia)
    · have := ltN (Heap.lt_size (N p (.tail _ hp)).1); exact neN (by lia)
  have hI₁ : h₁.get? I = some oI := old _ _ (N (I, oI) (.head _)).1
  have hC₁ : ∀ p ∈ C, h₁.get? p.1 = some p.2 := fun p hp => old _ _ (N p (.tail _ (hC p hp))).1
  exact codeAny_compStart_list (loop _ rfl) (S.self 0 _ oI _ _ r0 hI₁ hC₁ (loop _ rfl))

theorem comp_eval {E : Value → Shared → Prop} {s : Shared} {elt iter : Expr} {x : Str} {px : Pos} {ifs : List Expr} {scope : Scope} {cl : List (Str × Addr)} {pos : Pos} {env : Env} {L : Addr} {h₀ : Heap} {Q : Value → Shared → Prop}
    (hclos : closureFor scope env = pure cl) (hcell : ∀ y ∈ scope.names, y.2 ≠ .cell) (hkind : scope.kind = .function)
    (hnames : ∀ y ∈ scope.names, y.2 = .local → scope.names.lookup y.1 = some .local) (hx : scope.names.lookup x = some .local)
    (h : wpAny (model prog w) A (eval iter env) (fun xv s₁ => wpAny (model prog w) A (pyIter xv) (fun it s₂ => ∃ I oI n P C rel news m, ∃ J : Nat → List Value → List (Addr × Obj) → Prop, it = .ref I ∧ Src prog w A I n P C rel ∧ n ≤ sizeLine ∧
      Fr h₀ L s₂.heap m ∧ News h₀ L s₂.heap ((I, oI) :: news) ∧ rel 0 oI ∧ (∀ p ∈ C, p ∈ news) ∧ (∀ p ∈ news, p.1 ≠ I) ∧ J 0 [] news ∧
      (∀ i v ys nx oI oC D c k m₂ h tk E', i < n → P i v → J i ys nx → (∀ p ∈ C, p ∈ nx) → NsO oC m₂ → m₂ x = some v → Fr h₀ L h m → News h₀ L h ((c, oC) :: (D, listOf ys.toArray k) :: (I, oI) :: nx) → @LT.lt Nat _ I D → @LT.lt Nat _ D c → @Eq Nat D s₂.heap.objs.size → @Eq Nat c (s₂.heap.objs.size + 1) →
        (∀ p ∈ nx, p.1 ≠ c) → (∀ p ∈ nx, p.1 ≠ D) → (∀ p ∈ nx, p.1 ≠ I) → ys.length ≤ i →
        wpAny (model prog w) A (forIn ifs true fun c' r => if r = true then do let ok ← isTrue c' (compEnvC scope cl c env) (eval c' (compEnvC scope cl c env)); pure (ForInStep.yield ok) else pure (ForInStep.yield r))
          (fun ok s₃ => if ok = true then wpAny (model prog w) A (eval elt (compEnvC scope cl c env)) (fun y s₄ => CompEnd h₀ L m [(c, oC), (D, listOf ys.toArray k), (I, oI)] C (J (i + 1) (ys ++ [y])) s₂ s₄) E' s₃
            else CompEnd h₀ L m [(c, oC), (D, listOf ys.toArray k), (I, oI)] C (J (i + 1) ys) s₂ s₃) E' { s₂ with heap := h, toks := tk }) ∧
      (∀ ys nx D k h tk, J n ys nx → Fr h₀ L h m → News h₀ L h ((D, listOf ys.toArray k) :: nx) → (∀ p ∈ nx, p.1 ≠ D) → @Eq Nat D s₂.heap.objs.size → ys.length ≤ n → Q (.ref D) { s₂ with heap := h, toks := tk })) E s₁) E s)
    (hs : ∀ x, foldedSetIterable iter env x = pure x := by intro _; rfl) :
    wpAny (model prog w) A (eval (.ListComp elt [⟨.Name x px, iter, ifs, 0⟩] scope pos) env) Q E s := by
  generalize Mine.clo = hCl
  revert prog w A E s elt iter x px ifs scope cl pos env L h₀ Q
  intro prog w A E s elt iter x px ifs scope cl pos env L h₀ Q hclos hcell hkind hnames hx h hs
  rw [eval_ListComp]
  refine wpAny_comprehension_free (use := none) rfl hs hclos hkind hnames (wpAny_mono h ?_ fun _ _ e => e)
  rintro xv s₁ h₁
  refine wpAny_mono h₁ ?_ fun _ _ e => e
  rintro it s₂ h₂
  obtain ⟨I, oI, n, P, C, rel, news, m, J, rfl, S, hsz, F, N, r0, hC, hI, j0, turn, done⟩ := h₂
  refine comp_core (RR := fun acc c => compPost (model prog w) A E none Q acc c) S hsz J hcell hkind hx F N r0 hC hI j0 turn ?_
  intro ys nx D c oC m₂ k h tk hj F' nO N' hDc eD o1 o2 o3 hyl
  refine ⟨m₂, nO.ns (N' _ (.head _)).1, fun h' hs' => ?_⟩
  have gC := N' _ (.head _)
  refine done ys nx D k h' tk hj (F'.change hs' gC.2.1 gC.2.2) ?_ o2 eD hyl
  rintro p hp
  rcases List.mem_cons.mp hp with rfl | hp
  · exact ⟨(hs'.2 _ (neN (by lia))).trans (N' _ (.tail _ (.head _))).1, (N' _ (.tail _ (.head _))).2⟩
  · exact ⟨(hs'.2 _ (o1 p hp)).trans (N' _ (.tail _ (.tail _ hp))).1, (N' _ (.tail _ (.tail _ hp))).2⟩

theorem comp_assign {E : Value → Shared → Prop} {s : Shared} {elt iter : Expr} {x y : Str} {px py : Pos} {ifs : List Expr} {scope : Scope} {cl : List (Str × Addr)} {pos spos : Pos} {env : Env} {L : Addr} {h₀ : Heap} {Q : Flow → Shared → Prop}
    (hsw : swapsWith (.ListComp elt [⟨.Name x px, iter, ifs, 0⟩] scope pos) (some (.Name y py)) spos.line env = pure true) (hL : env.locals = L)
    (hclos : closureFor scope env = pure cl) (hcell : ∀ z ∈ scope.names, z.2 ≠ .cell) (hkind : scope.kind = .function)
    (hnames : ∀ z ∈ scope.names, z.2 = .local → scope.names.lookup z.1 = some .local) (hx : scope.names.lookup x = some .local)
    (hy : env.kindOf y = some .local) (hp : (env.scope.kind == .class || (env.scope.kind == .module && env.locals != env.globals)) = false)
    (h : wpAny (model prog w) A (eval iter env) (fun xv s₁ => wpAny (model prog w) A (pyIter xv) (fun it s₂ => ∃ I oI n P C rel news m, ∃ J : Nat → List Value → List (Addr × Obj) → Prop, it = .ref I ∧ Src prog w A I n P C rel ∧ n ≤ sizeLine ∧
      Fr h₀ L s₂.heap m ∧ News h₀ L s₂.heap ((I, oI) :: news) ∧ rel 0 oI ∧ (∀ p ∈ C, p ∈ news) ∧ (∀ p ∈ news, p.1 ≠ I) ∧ J 0 [] news ∧
      (∀ i v ys nx oI oC D c k m₂ h tk E', i < n → P i v → J i ys nx → (∀ p ∈ C, p ∈ nx) → NsO oC m₂ → m₂ x = some v → Fr h₀ L h m → News h₀ L h ((c, oC) :: (D, listOf ys.toArray k) :: (I, oI) :: nx) → @LT.lt Nat _ I D → @LT.lt Nat _ D c → @Eq Nat D s₂.heap.objs.size → @Eq Nat c (s₂.heap.objs.size + 1) →
        (∀ p ∈ nx, p.1 ≠ c) → (∀ p ∈ nx, p.1 ≠ D) → (∀ p ∈ nx, p.1 ≠ I) → ys.length ≤ i →
        wpAny (model prog w) A (forIn ifs true fun c' r => if r = true then do let ok ← isTrue c' (compEnvC scope cl c env) (eval c' (compEnvC scope cl c env)); pure (ForInStep.yield ok) else pure (ForInStep.yield r))
          (fun ok s₃ => if ok = true then wpAny (model prog w) A (eval elt (compEnvC scope cl c env)) (fun y s₄ => CompEnd h₀ L m [(c, oC), (D, listOf ys.toArray k), (I, oI)] C (J (i + 1) (ys ++ [y])) s₂ s₄) E' s₃
            else CompEnd h₀ L m [(c, oC), (D, listOf ys.toArray k), (I, oI)] C (J (i + 1) ys) s₂ s₃) E' { s₂ with heap := h, toks := tk }) ∧
      (∀ ys nx D k h tk, J n ys nx → Fr h₀ L h (fun z => if z = y then some (.ref D) else m z) → News h₀ L h ((D, listOf ys.toArray k) :: nx) → (∀ p ∈ nx, p.1 ≠ D) → @Eq Nat D s₂.heap.objs.size → ys.length ≤ n → Q .next { s₂ with heap := h, toks := tk })) E s₁) E s)
    (hs : ∀ x, foldedSetIterable iter env x = pure x := by intro _; rfl) :
    wpAny (model prog w) A (exec (.Assign [.Name y py] (.ListComp elt [⟨.Name x px, iter, ifs, 0⟩] scope pos) spos) env) Q E s := by
  generalize Mine.clo = hCl
  revert prog w A E s elt iter x y px py ifs scope cl pos spos env L h₀ Q
  intro prog w A E s elt iter x y px py ifs scope cl pos spos env L h₀ Q hsw hL hclos hcell hkind hnames hx hy hp h hs
  subst hL
  rw [exec_Assign_Name_used _ _ _ _ hsw]
  refine wpAny_bind (wpAny_standAt (wpAny_bind ?_))
  show wpAny _ A (do let _ ← comprehension (.ListComp elt [⟨.Name x px, iter, ifs, 0⟩] scope pos) scope env _ (newList []) false (eval iter env) (some (assign (.Name y py) env))) _ _ s
  refine wpAny_bind (wpAny_mono (wpAny_comprehension_free (use := some (assign (.Name y py) env)) (Q := fun _ s' => Q .next s') rfl hs hclos hkind hnames
    (wpAny_mono h ?_ fun _ _ e => e)) (fun _ s' hq => wpAny_pure (wpAny_pure hq)) fun _ _ e => e)
  rintro xv s₁ h₁
  refine wpAny_mono h₁ ?_ fun _ _ e => e
  rintro it s₂ h₂
  obtain ⟨I, oI, n, P, C, rel, news, m, J, rfl, S, hsz, F, N, r0, hC, hI, j0, turn, done⟩ := h₂
  refine comp_core (RR := fun acc c => compPost (model prog w) A E (some (assign (.Name y py) env)) (fun _ s' => Q .next s') acc c) S hsz J hcell hkind hx F N r0 hC hI j0 turn ?_
  intro ys nx D c oC m₂ k h tk hj F' nO N' hDc eD o1 o2 o3 hyl
  have gC := N' _ (.head _)
  show wpAny _ A (assign (.Name y py) env (.ref D)) _ _ _
  refine wpAny_assign_Name (wpAny_storeName_local hy F'.ns ?_ hp)
  rintro h₂ hn₂ hs₂
  have N₂ := N'.set hs₂
  refine ⟨m₂, nO.ns (N₂ _ (.head _)).1, fun h' hs' => ?_⟩
  refine done ys nx D k h' _ hj ((F'.set hn₂ hs₂).change hs' gC.2.1 gC.2.2) ?_ o2 eD hyl
  rintro p hp
  rcases List.mem_cons.mp hp with rfl | hp
  · exact ⟨(hs'.2 _ (neN (by lia))).trans (N₂ _ (.tail _ (.head _))).1, (N₂ _ (.tail _ (.head _))).2⟩
  · exact ⟨(hs'.2 _ (o1 p hp)).trans (N₂ _ (.tail _ (.tail _ hp))).1, (N₂ _ (.tail _ (.tail _ hp))).2⟩
end
end Mine
end
example (h : False) {prog : PySem.Program} {w : PySem.World} {A : PySem.Around} {Q E : PySem.Value → PySem.Shared → Prop} {s : PySem.Shared} {env : PySem.Env} {at0 : PySem.Pos} : PySem.wpAny (PySem.model prog w) A (PySem.eval (.Constant .none 0 at0) env) Q E s := by
  w_top off
  first | (walk1; fail) | exact h.elim
section
open PySem PySem.W PyProof.Rows
set_option maxRecDepth 100000
namespace Mine
theorem fill : PySem.Challenge.rw_ik0212_01 = PySem.Challenge.rw_ik0212_01 ∧ mkK.heap_1 = mkK.heap_1 := by
  k_fill
  exact ⟨rfl, rfl⟩

inductive IsOpt : Value → Option Str → Prop
  | none : IsOpt .none none
  | some (x : Str) (t : Tok) : IsOpt (.str x t) (some x)

theorem optX {v : Value} {l : Option Str} (h : IsOpt v l) : (v = .none ∧ l = none) ∨ (∃ x t, v = .str x t ∧ l = some x) := by
  cases h with
  | none => exact .inl ⟨rfl, rfl⟩
  | some x t => exact .inr ⟨x, t, rfl, rfl⟩
noncomputable def nm0 (l : Option Str) : Str := l.getD "C"
noncomputable def nm1 (l e : Option Str) : Str := match e with
  | none => nm0 l
  | some e => nm0 l ++ "." ++ e

section
variable {prog : Program} {w : World} {dp un : Nat} {gd : Option (List Code)} {cn : Str} {cs : Scope} {a : Addr} {ccd : Value} {cl : List (Str × Addr)} {outer : List Env} {A₀ : Around} {base h₀ : Heap} {L : Addr} {m : Str → Option Value} {news : List (Addr × Obj)} {s : Shared} {Q E : Value → Shared → Prop} {p : Program} {loose : List Str} {mean : ExcName → Option Value} {mg mb : Str → Option Value}
variable (B : Below A₀ base outer h₀) (F : Fr h₀ L s.heap m) (X : (mkK.heap_1 w.params).In h₀) (N : News h₀ L s.heap news) (T : Top p loose mean mg mb h₀) (hk : cs.kind = .function) (hd' : dp + 4 < recursionLimit) (hu : un + 40 < cLine)
include B F X N T hk hd' hu

set_option maxHeartbeats 4000000 in
theorem build_tup {x : Addr} {n : Nat} {l e : Option Str} {lv ev : Value} (hlv : IsOpt lv l) (hev : IsOpt ev e) (hl : (nm0 l).length ≤ 64) (he : (e.getD "").length ≤ 64)
  (hx : (x, tupO #[lv, ev] n) ∈ news)
  (hret : ∀ t h' tk', Fr h₀ L h' m → News h₀ L h' news → Q (.str (nm1 l e) t) { s with heap := h', toks := tk' }) :
  wpAny (model prog w) (ktrTop dp un gd cn cs L a ccd cl outer) (call (.ref 49) [.ref x]) Q E s := by
  generalize Mine.clo = hCl
  revert prog w dp un gd cn cs a ccd cl outer A₀ base h₀ L m news s Q E p loose mean mg mb x n l e lv ev
  intro prog w dp un gd cn cs a ccd cl outer A₀ base h₀ L m news s Q E p loose mean mg mb B F X N T hk hd' hu x n l e lv ev hlv hev hl he hx hret
  (rcases optX hlv with h9 | h9 <;> first | obtain ⟨rfl, rfl⟩ := h9 | obtain ⟨_, _, rfl, rfl⟩ := h9) <;> (rcases optX hev with h9 | h9 <;> first | obtain ⟨rfl, rfl⟩ := h9 | obtain ⟨_, _, rfl, rfl⟩ := h9) <;> dsimp only [nm1, nm0, Option.getD] at hl he hret <;> (refine wpAny_call ?_; k_dflt ktr_enter; (k_steps); exact hret _ _ _ (by k_asm) (by k_asm))

set_option maxHeartbeats 4000000 in
theorem build_lst {x : Addr} {n : Nat} {l : Option Str} {lv : Value} (hlv : IsOpt lv l) (hl : (nm0 l).length ≤ 64)
  (hx : (x, listOf #[lv, .none] n) ∈ news)
  (hret : ∀ t h' tk', Fr h₀ L h' m → News h₀ L h' news → Q (.str (nm0 l) t) { s with heap := h', toks := tk' }) :
  wpAny (model prog w) (ktrTop dp un gd cn cs L a ccd cl outer) (call (.ref 49) [.ref x]) Q E s := by
  generalize Mine.clo = hCl
  revert prog w dp un gd cn cs a ccd cl outer A₀ base h₀ L m news s Q E p loose mean mg mb x n l lv
  intro prog w dp un gd cn cs a ccd cl outer A₀ base h₀ L m news s Q E p loose mean mg mb B F X N T hk hd' hu x n l lv hlv hl hx hret
  (rcases optX hlv with h9 | h9 <;> first | obtain ⟨rfl, rfl⟩ := h9 | obtain ⟨_, _, rfl, rfl⟩ := h9) <;> dsimp only [nm0, Option.getD] at hl hret <;> (refine wpAny_call ?_; k_dflt ktr_enter; (k_steps); exact hret _ _ _ (by k_asm) (by k_asm))
end
end Mine
end
example (h : False) {prog : PySem.Program} {w : PySem.World} {A : PySem.Around} {Q E : PySem.Value → PySem.Shared → Prop} {s : PySem.Shared} {env : PySem.Env} {at0 : PySem.Pos} : PySem.wpAny (PySem.model prog w) A (PySem.eval (.Constant .none 0 at0) env) Q E s := by
  w_top off
  first | (walk1; fail) | exact h.elim
section
open PySem PySem.W PyProof.Rows
set_option maxRecDepth 100000
set_option linter.unusedSectionVars false
namespace Mine
theorem fill2 : PySem.Challenge.rw_ik0212_01 = PySem.Challenge.rw_ik0212_01 ∧ mkK.heap_1 = mkK.heap_1 := by
  k_fill
  exact ⟨rfl, rfl⟩

theorem news_keep1 {h₀ h : Heap} {L : Addr} {x y : Addr × Obj} {news : List (Addr × Obj)} (N : News h₀ L h (x :: y :: news)) : News h₀ L h (x :: news) :=
  fun p hp => N p ((List.mem_cons.mp hp).elim (fun e => e ▸ .head _) fun h => .tail _ (.tail _ h))
theorem news_keep2 {h₀ h : Heap} {L : Addr} {x y z : Addr × Obj} {news : List (Addr × Obj)} (N : News h₀ L h (x :: y :: z :: news)) : News h₀ L h (x :: news) :=
  fun p hp => N p ((List.mem_cons.mp hp).elim (fun e => e ▸ .head _) fun h => .tail _ (.tail _ (.tail _ h)))

noncomputable def appF (code md : Str) : Str :=
  if (md == "euro") = true then
    (if (Builtin.Str.occurrences code "." 0 code.length 1).isEmpty = true then code ++ ".ISO8859-15"
     else if (([Str.ofString "ISO8859-15", Str.ofString "UTF-8"].any fun x => x == (Txt.partition code ".").2.2) = true) then code else code ++ "@" ++ md)
  else code ++ "@" ++ md
noncomputable def nm2 (l e mo : Option Str) : Str := match mo with
  | none => nm1 l e
  | some md => appF (nm1 l e) md

section
variable {h₀ h' : Heap} {L : Addr} {m : Str → Option Value} {news news' : List (Addr × Obj)} {s : Shared} {Q : Value → Shared → Prop} {t : Tok} {tk' : Nat}
theorem fin_str {x y : Str} (hret : ∀ t h' tk', Fr h₀ L h' m → News h₀ L h' news → Q (.str x t) { s with heap := h', toks := tk' }) (e : y = x) (F : Fr h₀ L h' m) (N : News h₀ L h' news') (hs : ∀ p ∈ news, p ∈ news') : Q (.str y t) { s with heap := h', toks := tk' } := by
  subst e
  exact hret t h' tk' F (news_sub N hs)
end

section
variable {prog : Program} {w : World} {dp un : Nat} {gd : Option (List Code)} {cn : Str} {cs : Scope} {a : Addr} {ccd : Value} {cl : List (Str × Addr)} {outer : List Env} {A₀ : Around} {base h₀ : Heap} {L : Addr} {m : Str → Option Value} {news : List (Addr × Obj)} {s : Shared} {Q E : Value → Shared → Prop} {p : Program} {loose : List Str} {mean : ExcName → Option Value} {mg mb : Str → Option Value}
variable (B : Below A₀ base outer h₀) (F : Fr h₀ L s.heap m) (X : (mkK.heap_1 w.params).In h₀) (N : News h₀ L s.heap news) (T : Top p loose mean mg mb h₀) (hk : cs.kind = .function) (hd' : dp + 4 < recursionLimit) (hu : un + 40 < cLine)
include B F X N T hk hd' hu

set_option maxHeartbeats 4000000 in
theorem app_ok {code md : Str} {t1 t2 : Tok} (hne : ((Txt.partition code ".").2.2 == "ISO8859-1") = false) (hl : code.length ≤ 200) (he : md.length ≤ 64)
  (hret : ∀ t h' tk', Fr h₀ L h' m → News h₀ L h' news → Q (.str (appF code md) t) { s with heap := h', toks := tk' }) :
  wpAny (model prog w) (ktrTop dp un gd cn cs L a ccd cl outer) (call (.ref 42) [.str code t1, .str md t2]) Q E s := by
  generalize Mine.clo = hCl
  revert prog w dp un gd cn cs a ccd cl outer A₀ base h₀ L m news s Q E p loose mean mg mb code md t1 t2
  intro prog w dp un gd cn cs a ccd cl outer A₀ base h₀ L m news s Q E p loose mean mg mb B F X N T hk hd' hu code md t1 t2 hne hl he hret
  refine wpAny_call ?_; k_dflt ktr_enter; (k_steps)
  all_goals first
    | (exfalso; simp_all; done)
    | (refine fin_str hret (by simp_all [appF]) (by k_asm) (by k_asm) (fun p hp => by first | exact hp | simp [hp]))

local macro_rules | `(tactic| walk_at "call ref") => `(tactic| (k_here; (with_reducible show wpAny _ _ (call (Value.ref 49) [Value.ref _]) _ _ _); k_dflt (first
  | (refine' build_tup ?B ?F ?X ?N ?T ?hk ?hd ?hu ?hlv ?hev ?hl ?he ?hx ?_; (case B => k_asm); (case F => k_asm); (case X => k_asm); (case N => k_asm); (case T => k_asm); (case hk => exact rfl); (case hd => ktr_room); (case hu => ktr_units); (case hx => k_mem); (case hlv => assumption); (case hev => assumption); (case hl => assumption); (case he => assumption))
  | (refine' build_lst ?B ?F ?X ?N ?T ?hk ?hd ?hu ?hlv ?hl ?hx ?_; (case B => k_asm); (case F => k_asm); (case X => k_asm); (case N => k_asm); (case T => k_asm); (case hk => exact rfl); (case hd => ktr_room); (case hu => ktr_units); (case hx => k_mem); (case hlv => assumption); (case hl => assumption))); intro t9 h9 tk9 F9 N9; (try k_sweep)))
local macro_rules | `(tactic| walk_at "call ref") => `(tactic| (k_here; (with_reducible show wpAny _ _ (call (Value.ref 42) [Value.str _ _, Value.str _ _]) _ _ _); k_dflt (
  (refine' app_ok ?B ?F ?X ?N ?T ?hk ?hd ?hu ?hne ?hl ?he ?_; (case B => k_asm); (case F => k_asm); (case X => k_asm); (case N => k_asm); (case T => k_asm); (case hk => exact rfl); (case hd => ktr_room); (case hu => ktr_units); (case hne => assumption); (case hl => assumption); (case he => assumption))); intro t9 h9 tk9 F9 N9; (try k_sweep)))

set_option maxHeartbeats 4000000 in
theorem made_ok {x : Addr} {n : Nat} {l e mo : Option Str} {lv ev mv : Value} (hd2 : dp + 8 < recursionLimit) (hu2 : un + 60 < cLine) (hlv : IsOpt lv l) (hev : IsOpt ev e) (hmv : IsOpt mv mo) (hl : (nm0 l).length ≤ 64) (he : (e.getD "").length ≤ 64) (hle : (nm1 l e).length ≤ 200) (hm : (mo.getD "").length ≤ 64)
  (hne : ((Txt.partition (nm1 l e) ".").2.2 == "ISO8859-1") = false)
  (hx : (x, tupO #[lv, ev, mv] n) ∈ news)
  (hret : ∀ r t1 t2 t3 h' tk', Fr h₀ L h' m → News h₀ L h' ((r, listOf #[.str (nm0 l) t1, .str (nm1 l e) t2, .str (nm2 l e mo) t3] 0) :: news) → AllLt r news → Q (.ref r) { s with heap := h', toks := tk' }) :
  wpAny (model prog w) (ktrTop dp un gd cn cs L a ccd cl outer) (call (.ref 387) [.ref x]) Q E s := by
  generalize Mine.clo = hCl
  revert prog w dp un gd cn cs a ccd cl outer A₀ base h₀ L m news s Q E p loose mean mg mb x n l e mo lv ev mv
  intro prog w dp un gd cn cs a ccd cl outer A₀ base h₀ L m news s Q E p loose mean mg mb B F X N T hk hd' hu x n l e mo lv ev mv hd2 hu2 hlv hev hmv hl he hle hm hne hx hret
  (rcases optX hmv with h9 | h9 <;> first | obtain ⟨rfl, rfl⟩ := h9 | obtain ⟨_, _, rfl, rfl⟩ := h9) <;> (try dsimp only [Option.getD] at hm) <;> dsimp only [nm2] at hret <;> (refine wpAny_call ?_; k_dflt ktr_enter; k_steps)
  all_goals exact hret _ _ _ _ _ _ (by k_asm) (by first | k_asm | exact news_keep1 (by k_asm) | exact news_keep2 (by k_asm)) (by first | assumption | exact allLt_of (by assumption) | exact And.right (by assumption) | exact And.right (And.right (by assumption)) | exact And.right (And.right (And.right (by assumption))))

end
end Mine
end
example (h : False) {prog : PySem.Program} {w : PySem.World} {A : PySem.Around} {Q E : PySem.Value → PySem.Shared → Prop} {s : PySem.Shared} {env : PySem.Env} {at0 : PySem.Pos} : PySem.wpAny (PySem.model prog w) A (PySem.eval (.Constant .none 0 at0) env) Q E s := by
  w_top off
  first | (walk1; fail) | exact h.elim
section
open PySem PySem.W PyProof.Rows
set_option maxRecDepth 100000
set_option linter.unusedSectionVars false
namespace Mine
theorem fill3 : PySem.Challenge.rw_ik0212_01 = PySem.Challenge.rw_ik0212_01 ∧ mkK.heap_1 = mkK.heap_1 := by
  k_fill
  exact ⟨rfl, rfl⟩

theorem join_str {M : Model} {A : Around} {E : Value → Shared → Prop} {s : Shared} (x : Str) {t : Sem Value} {Q : Value → Shared → Prop} (hb : ∀ Q' : Value → Shared → Prop, (∀ tk tk2, Q' (.str x tk) { s with toks := tk2 }) → wpAny M A t Q' E s) (hQ : ∀ tk tk2, Q (.str x tk) { s with toks := tk2 }) : wpAny M A t Q E s := hb Q hQ

noncomputable def optD : Option Str → Dat
  | none => .none
  | some x => .str x
theorem IsOpt.dat {v : Value} {o : Option Str} (h : IsOpt v o) (news : List (Addr × Obj)) : DatIn news v (optD o) := by cases h <;> constructor
theorem optD_ok {o : Option Str} (h : PyData.strOk (o.getD "") = true) : kqdOk 8 (optD o) = true := by cases o <;> simpa [optD, kqdOk] using h
open Classical in
theorem opt_in {prog : Program} {w : World} {A : Around} {E : Value → Shared → Prop} {s : Shared} {h₀ : Heap} {L l : Addr} {news : List (Addr × Obj)} {v : Value} {o : Option Str} {a b : Str} {t1 t2 : Tok} {n : Nat} {Q : Value → Shared → Prop}
    (N : News h₀ L s.heap news) (hm : (l, listOf #[.none, .str a t1, .str b t2] n) ∈ news) (ho : IsOpt v o) (hok : PyData.strOk (o.getD "") = true) (ha : PyData.strOk a = true) (hb : PyData.strOk b = true) (hu : A.units + 64 < cLine) (h : Q (.bool (decide (o = none ∨ o = some a ∨ o = some b))) s) :
    wpAny (model prog w) A (compareOp .In v (.ref l)) Q E s := by
  have D : DatAll news [Value.none, .str a t1, .str b t2] [Dat.none, .str a, .str b] := .cons .none (.cons (.str _ _) (.cons (.str _ _) .nil))
  refine kqd_isIn N hm rfl (xs := [Value.none, .str a t1, .str b t2]) rfl D (fun _ h => h) (ho.dat news) (fun _ h => h) (by intro d hd; simp at hd; rcases hd with rfl | rfl | rfl <;> simp [kqdOk, ha, hb]) (optD_ok hok) hu ?_
  have e : decide (optD o ∈ [Dat.none, .str a, .str b]) = decide (o = none ∨ o = some a ∨ o = some b) := by
    rw [decide_eq_decide]
    cases o <;> simp [optD]
  rw [e]
  exact (by simpa using h)

noncomputable def bh1 : Option Str → Str
  | none => ".ISO8859-15"
  | some _ => ""
theorem bh1_len (e : Option Str) : (bh1 e).length ≤ 64 := by
  cases e with
  | none => show (Str.ofString ".ISO8859-15").length ≤ 64; decide +kernel
  | some _ => show (Str.ofString "").length ≤ 64; decide +kernel
noncomputable def bh0 (mo : Option Str) : Str := match mo with
  | none => ""
  | some md => "@" ++ md
/-- what the law adds behind the whole name -/
noncomputable def bh (e mo : Option Str) : Str :=
  if mo = some "euro" ∧ (e = none ∨ e = some "UTF-8" ∨ e = some "ISO8859-15") then bh1 e else bh0 mo


section
variable {prog : Program} {w : World} {dp un : Nat} {gd : Option (List Code)} {cn : Str} {cs : Scope} {a : Addr} {ccd : Value} {cl : List (Str × Addr)} {outer : List Env} {A₀ : Around} {base h₀ : Heap} {L : Addr} {m : Str → Option Value} {news : List (Addr × Obj)} {s : Shared} {Q E : Value → Shared → Prop} {p : Program} {loose : List Str} {mean : ExcName → Option Value} {mg mb : Str → Option Value}
variable (B : Below A₀ base outer h₀) (F : Fr h₀ L s.heap m) (X : (mkK.heap_1 w.params).In h₀) (N : News h₀ L s.heap news) (T : Top p loose mean mg mb h₀) (hk : cs.kind = .function) (hd' : dp + 4 < recursionLimit) (hu : un + 80 < cLine)
include B F X N T hk hd' hu

local macro_rules | `(tactic| walk_at "compareOp In") => `(tactic| (k_here; (with_reducible show wpAny _ _ (compareOp CmpOp.In _ (Value.ref _)) _ _ _); k_dflt (refine' opt_in ?N ?a ?o ?k1 ?k2 ?k3 ?u ?_; (case N => k_asm); (case a => k_mem); (case o => assumption); (case k1 => assumption); (case k2 => decide +kernel); (case k3 => decide +kernel); (case u => ktr_units))))

set_option maxHeartbeats 4000000 in
theorem told_ok {x : Addr} {n : Nat} {l e mo : Option Str} {lv ev mv : Value} (hlv : IsOpt lv l) (hev : IsOpt ev e) (hmv : IsOpt mv mo) (hl : (nm0 l).length ≤ 64) (he : (e.getD "").length ≤ 64) (hes : PyData.strOk (e.getD "") = true) (hle : (nm1 l e).length ≤ 200) (hm : (bh0 mo).length ≤ 65) (hm2 : (mo.getD "").length ≤ 64)
  (hx : (x, tupO #[lv, ev, mv] n) ∈ news)
  (hret : ∀ r t1 t2 t3 h' tk', Fr h₀ L h' m → News h₀ L h' ((r, listOf #[.str (nm0 l) t1, .str (nm1 l e) t2, .str (nm1 l e ++ bh e mo) t3] 0) :: news) → AllLt r news → Q (.ref r) { s with heap := h', toks := tk' }) :
  wpAny (model prog w) (ktrTop dp un gd cn cs L a ccd cl outer) (call (.ref 394) [.ref x]) Q E s := by
  generalize Mine.clo = hCl
  revert prog w dp un gd cn cs a ccd cl outer A₀ base h₀ L m news s Q E p loose mean mg mb x n l e mo lv ev mv
  intro prog w dp un gd cn cs a ccd cl outer A₀ base h₀ L m news s Q E p loose mean mg mb B F X N T hk hd' hu x n l e mo lv ev mv hlv hev hmv hl he hes hle hm hm2 hx hret
  refine wpAny_call ?_; k_dflt ktr_enter
  (repeat' (first | ((fail_if_success (with_reducible show wpAny _ _ (eval (Expr.IfExp _ _ _ _) _) _ _ _)); (first | (k_unfold; (try dsimp only)) | (k_end; wrow_close) | walk1 | (dsimp only; walk1) | (leave1; walk_say "STEP leave1"; try dsimp only) | fail "no step"))))
  refine join_str (nm0 l) (fun Q' hQ' => ?_) (?cv1)
  case' cv1 => rintro tk1 tk2
  rotate_left
  · cases hlv <;> ((k_steps); exact hQ' _ _)
  (try k_unfold); (try dsimp only)
  (repeat' (first | ((fail_if_success (with_reducible show wpAny _ _ (eval (Expr.IfExp _ _ _ _) _) _ _ _)); (first | (k_unfold; (try dsimp only)) | (k_end; wrow_close) | walk1 | (dsimp only; walk1) | (leave1; walk_say "STEP leave1"; try dsimp only) | fail "no step"))))
  refine join_str (nm1 l e) (fun Q' hQ' => ?_) (?cv2)
  case' cv2 => rintro tk3 tk4
  rotate_left
  · cases hev <;> dsimp only [Option.getD] at he <;> ((k_steps); exact hQ' _ _)
  (try k_unfold); (try dsimp only)
  (repeat' (first | ((fail_if_success (with_reducible show wpAny _ _ (eval (Expr.IfExp _ _ _ _) _) _ _ _)); (first | (k_unfold; (try dsimp only)) | (k_end; wrow_close) | walk1 | (dsimp only; walk1) | (leave1; walk_say "STEP leave1"; try dsimp only) | fail "no step"))))
  refine join_str (bh0 mo) (fun Q' hQ' => ?_) (?cv3)
  case' cv3 => rintro tk5 tk6
  rotate_left
  · cases hmv <;> dsimp only [Option.getD] at hm2 <;> ((k_steps); exact hQ' _ _)
  (try k_unfold); (try dsimp only)
  (repeat' (first | ((fail_if_success (with_reducible show wpAny _ _ (eval (Expr.IfExp _ _ _ _) _) _ _ _)); (first | (k_unfold; (try dsimp only)) | (k_end; wrow_close) | walk1 | (dsimp only; walk1) | (leave1; walk_say "STEP leave1"; try dsimp only) | fail "no step"))))
  rcases optX hmv with h9 | h9
  · obtain ⟨rfl, rfl⟩ := h9
    (k_steps)
    have eb : bh e none = bh0 none := by simp [bh]
    rw [eb] at hret
    exact hret _ _ _ _ _ _ (by k_asm) (by k_asm) (by first | assumption | exact allLt_of (by assumption))
  · obtain ⟨x, t, rfl, rfl⟩ := h9
    (repeat' (first | ((fail_if_success (with_reducible show wpAny _ _ (eval (Expr.IfExp _ _ _ _) _) _ _ _)); (first | (k_unfold; (try dsimp only)) | (k_end; wrow_close) | walk1 | (dsimp only; walk1) | (leave1; walk_say "STEP leave1"; try dsimp only) | fail "no step"))))
    · refine join_str (bh1 e) (fun Q' hQ' => ?_) (?cv4)
      case' cv4 => rintro tk7 tk8
      rotate_left
      · cases hev <;> ((k_steps); exact hQ' _ _)
      (try k_unfold); (try dsimp only)
      have hb2 := bh1_len e
      (k_steps)
      have hx : (x == Str.ofString "euro") = true := by assumption
      have he2 : e = none ∨ e = some (Str.ofString "UTF-8") ∨ e = some (Str.ofString "ISO8859-15") := by assumption
      have eb : bh e (some x) = bh1 e := by
        have hx := eq_of_beq hx
        subst hx
        unfold bh
        exact if_pos ⟨rfl, he2⟩
      rw [eb] at hret
      exact hret _ _ _ _ _ _ (by k_asm) (by first | k_asm | exact news_keep1 (by k_asm)) (by first | assumption | exact allLt_of (by assumption) | exact And.right (by assumption))
    · have he2 : ¬ (e = none ∨ e = some (Str.ofString "UTF-8") ∨ e = some (Str.ofString "ISO8859-15")) := by assumption
      have eb : bh e (some x) = bh0 (some x) := if_neg fun h => he2 h.2
      rw [eb] at hret
      exact hret _ _ _ _ _ _ (by k_asm) (by first | k_asm | exact news_keep1 (by k_asm)) (by first | assumption | exact allLt_of (by assumption) | exact And.right (by assumption))
    · have hx : (x == Str.ofString "euro") = false := by assumption
      have eb : bh e (some x) = bh0 (some x) := if_neg fun h => by
        obtain ⟨h1, _⟩ := h
        cases h1
        simp at hx
      rw [eb] at hret
      exact hret _ _ _ _ _ _ (by k_asm) (by first | k_asm | exact news_keep1 (by k_asm)) (by first | assumption | exact allLt_of (by assumption) | exact And.right (by assumption))
end
end Mine
end
example (h : False) {prog : PySem.Program} {w : PySem.World} {A : PySem.Around} {Q E : PySem.Value → PySem.Shared → Prop} {s : PySem.Shared} {env : PySem.Env} {at0 : PySem.Pos} : PySem.wpAny (PySem.model prog w) A (PySem.eval (.Constant .none 0 at0) env) Q E s := by
  w_top off
  first | (walk1; fail) | exact h.elim
section
open PySem PySem.W PyProof.Rows
set_option maxRecDepth 100000
namespace Mine

theorem off_lt {b d : Nat} {l : List (Addr × Obj)} (h : ∀ p ∈ l, p.1 < b) (hd : b ≤ d) : ∀ p ∈ l, p.1 ≠ d := fun p hp => Nat.ne_of_lt (Nat.lt_of_lt_of_le (h p hp) hd)
theorem off_all {b d : Nat} {l : List (Addr × Obj)} (h : AllLt b l) (hd : b ≤ d) : ∀ p ∈ l, p.1 ≠ d := off_lt (ktn_ltOf h) hd

/-- one turn of a comprehension -/
noncomputable def CompTurn (prog : Program) (w : World) (A : Around) (h₀ : Heap) (L : Addr) (m : Str → Option Value) (env : Env) (scope : Scope) (cl : List (Str × Addr)) (x : Str) (ifs : List Expr) (elt : Expr) (P : Nat → Value → Prop) (C : List (Addr × Obj)) (s₂ : Shared) (J : Nat → List Value → List (Addr × Obj) → Prop) : Prop :=
  ∀ I i v ys nx oI oC D c k m₂ h tk E', P i v → J i ys nx → (∀ p ∈ C, p ∈ nx) → NsO oC m₂ → m₂ x = some v → Fr h₀ L h m → News h₀ L h ((c, oC) :: (D, listOf ys.toArray k) :: (I, oI) :: nx) → @LT.lt Nat _ I D → @LT.lt Nat _ D c → @Eq Nat I s₂.heap.objs.size → @Eq Nat c (s₂.heap.objs.size + 2) →
    (∀ p ∈ nx, p.1 ≠ c) → (∀ p ∈ nx, p.1 ≠ D) → (∀ p ∈ nx, p.1 ≠ I) → ys.length ≤ i →
    wpAny (model prog w) A (forIn ifs true fun c' r => if r = true then do let ok ← isTrue c' (compEnvC scope cl c env) (eval c' (compEnvC scope cl c env)); pure (ForInStep.yield ok) else pure (ForInStep.yield r))
      (fun ok s₃ => if ok = true then wpAny (model prog w) A (eval elt (compEnvC scope cl c env)) (fun y s₄ => CompEnd h₀ L m [(c, oC), (D, listOf ys.toArray k), (I, oI)] C (J (i + 1) (ys ++ [y])) s₂ s₄) E' s₃
        else CompEnd h₀ L m [(c, oC), (D, listOf ys.toArray k), (I, oI)] C (J (i + 1) ys) s₂ s₃) E' { s₂ with heap := h, toks := tk }

section
variable {prog : Program} {w : World} {A : Around} {E : Value → Shared → Prop} {s : Shared} {elt iter : Expr} {x : Str} {px : Pos} {ifs : List Expr} {scope : Scope} {cl : List (Str × Addr)} {pos : Pos} {env : Env} {L : Addr} {h₀ : Heap}

theorem new_none {h : Heap} {m : Str → Option Value} (F : Fr h₀ L h m) : h₀.get? h.objs.size = none := next_is_new F
theorem push_news {h : Heap} {m : Str → Option Value} {news : List (Addr × Obj)} (F : Fr h₀ L h m) (N : News h₀ L h news) (o : Obj) (hf : o.isFreed = false := by rfl) : News h₀ L (h.push o) ((h.objs.size, o) :: news) := N.push F o hf
theorem news_old {h : Heap} {news : List (Addr × Obj)} (N : News h₀ L h news) : ∀ p ∈ news, p.1 ≠ h.objs.size := fun p hp => Nat.ne_of_lt (Heap.lt_size (N p hp).1)

/-- a comprehension over a list of the ledger -/
theorem comp_list {Q : Value → Shared → Prop} (hh : A.handled = none)
    (hclos : closureFor scope env = pure cl) (hcell : ∀ y ∈ scope.names, y.2 ≠ .cell) (hkind : scope.kind = .function)
    (hnames : ∀ y ∈ scope.names, y.2 = .local → scope.names.lookup y.1 = some .local) (hx : scope.names.lookup x = some .local)
    (h : wpAny (model prog w) A (eval iter env) (fun xv s₁ => ∃ l, ∃ vs : List Value, ∃ k m, ∃ news : List (Addr × Obj), ∃ J : Nat → List Value → List (Addr × Obj) → Prop, xv = .ref l ∧ Fr h₀ L s₁.heap m ∧ News h₀ L s₁.heap news ∧ (l, listOf vs.toArray k) ∈ news ∧ vs.length ≤ sizeLine ∧ J 0 [] news ∧
      CompTurn prog w A h₀ L m env scope cl x ifs elt (fun i v => vs[i]? = some v) [(l, listOf vs.toArray k)] s₁ J ∧
      (∀ ys nx D k h tk, J vs.length ys nx → Fr h₀ L h m → News h₀ L h ((D, listOf ys.toArray k) :: nx) → (∀ p ∈ nx, p.1 ≠ D) → @Eq Nat D (s₁.heap.objs.size + 1) → ys.length ≤ vs.length → Q (.ref D) { s₁ with heap := h, toks := tk })) E s)
    (hs : ∀ x, foldedSetIterable iter env x = pure x := by intro _; rfl) :
    wpAny (model prog w) A (eval (.ListComp elt [⟨.Name x px, iter, ifs, 0⟩] scope pos) env) Q E s := by
  generalize Mine.clo = hCl
  revert prog w A E s elt iter x px ifs scope cl pos env L h₀ Q
  intro prog w A E s elt iter x px ifs scope cl pos env L h₀ Q hh hclos hcell hkind hnames hx h hs
  refine comp_eval (L := L) (h₀ := h₀) hclos hcell hkind hnames hx (wpAny_mono h ?_ fun _ _ e => e) hs
  rintro xv s₁ h₁
  obtain ⟨l, vs, k, m, news, J, rfl, F, N, hm, hsz, j0, turn, done⟩ := h₁
  have hl : s₁.heap.IsList l vs.toArray := ⟨_, (N _ hm).1, rfl, k, rfl⟩
  have hne : l ≠ s₁.heap.objs.size := news_old N _ hm
  refine wpAny_pyIter_list hl ⟨_, _, vs.length, _, _, _, news, m, J, rfl, Src.list hh hne vs k, hsz, F.push _, push_news F N _, ⟨rfl, rfl⟩, ?_, news_old N, j0, ?_, ?_⟩
  · intro p hp; rw [List.mem_singleton.mp hp]; exact hm
  · intro i v ys nx oI oC D c k m₂ h₂ tk₂ E' _ a1 a2 a3 a4 a5 a6 a7 a8 a9 e1 e2 a10 a11 a12 a13
    exact turn _ i v ys nx oI oC D c k m₂ h₂ tk₂ E' a1 a2 a3 a4 a5 a6 a7 a8 a9 rfl (by simpa [Heap.size_push] using e2) a10 a11 a12 a13
  · intro ys nx D k h' tk a1 a2 a3 a4 e1 a5
    exact done ys nx D k h' tk a1 a2 a3 a4 (by simpa [Heap.size_push] using e1) a5

theorem comp_list_as {y : Str} {py spos : Pos} {Q : Flow → Shared → Prop} (hh : A.handled = none)
    (hsw : swapsWith (.ListComp elt [⟨.Name x px, iter, ifs, 0⟩] scope pos) (some (.Name y py)) spos.line env = pure true) (hL : env.locals = L)
    (hclos : closureFor scope env = pure cl) (hcell : ∀ z ∈ scope.names, z.2 ≠ .cell) (hkind : scope.kind = .function)
    (hnames : ∀ z ∈ scope.names, z.2 = .local → scope.names.lookup z.1 = some .local) (hx : scope.names.lookup x = some .local)
    (hy : env.kindOf y = some .local) (hp : (env.scope.kind == .class || (env.scope.kind == .module && env.locals != env.globals)) = false)
    (h : wpAny (model prog w) A (eval iter env) (fun xv s₁ => ∃ l, ∃ vs : List Value, ∃ k m, ∃ news : List (Addr × Obj), ∃ J : Nat → List Value → List (Addr × Obj) → Prop, xv = .ref l ∧ Fr h₀ L s₁.heap m ∧ News h₀ L s₁.heap news ∧ (l, listOf vs.toArray k) ∈ news ∧ vs.length ≤ sizeLine ∧ J 0 [] news ∧
      CompTurn prog w A h₀ L m env scope cl x ifs elt (fun i v => vs[i]? = some v) [(l, listOf vs.toArray k)] s₁ J ∧
      (∀ ys nx D k h tk, J vs.length ys nx → Fr h₀ L h (fun z => if z = y then some (.ref D) else m z) → News h₀ L h ((D, listOf ys.toArray k) :: nx) → (∀ p ∈ nx, p.1 ≠ D) → @Eq Nat D (s₁.heap.objs.size + 1) → ys.length ≤ vs.length → Q .next { s₁ with heap := h, toks := tk })) E s)
    (hs : ∀ x, foldedSetIterable iter env x = pure x := by intro _; rfl) :
    wpAny (model prog w) A (exec (.Assign [.Name y py] (.ListComp elt [⟨.Name x px, iter, ifs, 0⟩] scope pos) spos) env) Q E s := by
  generalize Mine.clo = hCl
  revert prog w A E s elt iter x px ifs scope cl pos env L h₀ y py spos Q
  intro prog w A E s elt iter x px ifs scope cl pos env L h₀ y py spos Q hh hsw hL hclos hcell hkind hnames hx hy hp h hs
  refine comp_assign (L := L) (h₀ := h₀) hsw hL hclos hcell hkind hnames hx hy hp (wpAny_mono h ?_ fun _ _ e => e) hs
  rintro xv s₁ h₁
  obtain ⟨l, vs, k, m, news, J, rfl, F, N, hm, hsz, j0, turn, done⟩ := h₁
  have hl : s₁.heap.IsList l vs.toArray := ⟨_, (N _ hm).1, rfl, k, rfl⟩
  have hne : l ≠ s₁.heap.objs.size := news_old N _ hm
  refine wpAny_pyIter_list hl ⟨_, _, vs.length, _, _, _, news, m, J, rfl, Src.list hh hne vs k, hsz, F.push _, push_news F N _, ⟨rfl, rfl⟩, ?_, news_old N, j0, ?_, ?_⟩
  · intro p hp; rw [List.mem_singleton.mp hp]; exact hm
  · intro i v ys nx oI oC D c k m₂ h₂ tk₂ E' _ a1 a2 a3 a4 a5 a6 a7 a8 a9 e1 e2 a10 a11 a12 a13
    exact turn _ i v ys nx oI oC D c k m₂ h₂ tk₂ E' a1 a2 a3 a4 a5 a6 a7 a8 a9 rfl (by simpa [Heap.size_push] using e2) a10 a11 a12 a13
  · intro ys nx D k h' tk a1 a2 a3 a4 e1 a5
    exact done ys nx D k h' tk a1 a2 a3 a4 (by simpa [Heap.size_push] using e1) a5

theorem fitsL {i : Int} (h0 : -(2 ^ 62) ≤ i) (h1 : i < 2 ^ 62) : Builtin.Range.rangeFitsLong i = true := by
  unfold Builtin.Range.rangeFitsLong
  rw [Bool.and_eq_true]
  exact ⟨decide_eq_true (by lia), decide_eq_true (by lia)⟩
/-- a comprehension over range(n) -/
theorem comp_range {Q : Value → Shared → Prop} (hh : A.handled = none)
    (hclos : closureFor scope env = pure cl) (hcell : ∀ y ∈ scope.names, y.2 ≠ .cell) (hkind : scope.kind = .function)
    (hnames : ∀ y ∈ scope.names, y.2 = .local → scope.names.lookup y.1 = some .local) (hx : scope.names.lookup x = some .local)
    (h : wpAny (model prog w) A (eval iter env) (fun xv s₁ => ∃ r t1 t2 t3 m, ∃ n : Nat, ∃ news : List (Addr × Obj), ∃ J : Nat → List Value → List (Addr × Obj) → Prop, xv = .ref r ∧ Fr h₀ L s₁.heap m ∧ News h₀ L s₁.heap news ∧ IsRange s₁.heap r 0 n 1 t1 t2 t3 ∧ n < 2 ^ 20 ∧ J 0 [] news ∧
      CompTurn prog w A h₀ L m env scope cl x ifs elt (fun i v => i < n ∧ ∃ t, v = .int i t) [] s₁ J ∧
      (∀ ys nx D k h tk, J n ys nx → Fr h₀ L h m → News h₀ L h ((D, listOf ys.toArray k) :: nx) → (∀ p ∈ nx, p.1 ≠ D) → @Eq Nat D (s₁.heap.objs.size + 1) → ys.length ≤ n → Q (.ref D) { s₁ with heap := h, toks := tk })) E s)
    (hs : ∀ x, foldedSetIterable iter env x = pure x := by intro _; rfl) :
    wpAny (model prog w) A (eval (.ListComp elt [⟨.Name x px, iter, ifs, 0⟩] scope pos) env) Q E s := by
  generalize Mine.clo = hCl
  revert prog w A E s elt iter x px ifs scope cl pos env L h₀ Q
  intro prog w A E s elt iter x px ifs scope cl pos env L h₀ Q hh hclos hcell hkind hnames hx h hs
  refine comp_eval (L := L) (h₀ := h₀) hclos hcell hkind hnames hx (wpAny_mono h ?_ fun _ _ e => e) hs
  rintro xv s₁ h₁
  obtain ⟨r, t1, t2, t3, m, n, news, J, rfl, F, N, hr, hsz, j0, turn, done⟩ := h₁
  have hn : Builtin.Range.rangeSize 0 n 1 = (n : Int) := by unfold Builtin.Range.rangeSize; (repeat' split) <;> lia
  have hsm : Builtin.Range.small 0 n 1 = true := by
    unfold Builtin.Range.small
    rw [show Builtin.Range.rangeSize 0 (n : Int) 1 = (n : Int) from hn, if_pos (show (1 : Int) > 0 from by decide), fitsL (i := 0) (by decide) (by decide), fitsL (i := n) (by lia) (by lia), fitsL (i := 1) (by decide) (by decide), fitsL (i := (n : Int) + (1 - 1)) (by lia) (by lia), Bool.or_true]
    rfl
  refine wpAny_pyIter_range hr hsm ⟨_, _, n, _, _, _, news, m, J, rfl, Src.range hh n, (by rw [sizeLine_eq]; lia), F.push _, push_news F N _, ?_, fun p hp => (nomatch hp), news_old N, j0, ?_, ?_⟩
  · rw [hn]; simp
  · intro i v ys nx oI oC D c k m₂ h₂ tk₂ E' hi a1 a2 a3 a4 a5 a6 a7 a8 a9 e1 e2 a10 a11 a12 a13
    exact turn _ i v ys nx oI oC D c k m₂ h₂ tk₂ E' ⟨hi, a1⟩ a2 a3 a4 a5 a6 a7 a8 a9 rfl (by simpa [Heap.size_push] using e2) a10 a11 a12 a13
  · intro ys nx D k h' tk a1 a2 a3 a4 e1 a5
    exact done ys nx D k h' tk a1 a2 a3 a4 (by simpa [Heap.size_push] using e1) a5

theorem comp_end {m : Str → Option Value} {own C nx' l : List (Addr × Obj)} {J : List (Addr × Obj) → Prop} {h' : Heap} {tk' : Nat} (nx'' : List (Addr × Obj)) (F : Fr h₀ L h' m) (N : News h₀ L h' l) (hs : ∀ p ∈ own ++ nx'', p ∈ l) (hC : ∀ p ∈ C, p ∈ nx'') (off : ∀ q ∈ own, ∀ p ∈ nx'', p.1 ≠ q.1) (hj : J nx'') :
    CompEnd h₀ L m own C J s { s with heap := h', toks := tk' } := ⟨h', tk', nx'', rfl, F, fun p hp => N p (hs p hp), hC, off, hj⟩
end

/-- what the element of a growing comprehension leaves: the ledger with some new objects tl' -/
noncomputable def EndG (h₀ : Heap) (L : Addr) (m : Str → Option Value) (c : Nat) (own tl news : List (Addr × Obj)) (K : List (Addr × Obj) → Prop) (s s₂ : Shared) : Prop :=
  ∃ h' tk' tl', s₂ = { s with heap := h', toks := tk' } ∧ Fr h₀ L h' m ∧ News h₀ L h' (own ++ (tl' ++ (tl ++ news))) ∧ (∀ p ∈ tl', @LT.lt Nat _ c p.1) ∧ K (tl' ++ tl)
theorem EndG.intro {h₀ : Heap} {L : Addr} {m : Str → Option Value} {c : Nat} {own tl news l : List (Addr × Obj)} {K : List (Addr × Obj) → Prop} {s : Shared} {h' : Heap} {tk' : Nat} (tl' : List (Addr × Obj)) (F : Fr h₀ L h' m) (N : News h₀ L h' l)
    (hs : ∀ p ∈ own ++ (tl' ++ (tl ++ news)), p ∈ l) (hlt : ∀ p ∈ tl', @LT.lt Nat _ c p.1) (hK : K (tl' ++ tl)) : EndG h₀ L m c own tl news K s { s with heap := h', toks := tk' } := ⟨h', tk', tl', rfl, F, fun p hp => N p (hs p hp), hlt, hK⟩

noncomputable def TurnG (prog : Program) (w : World) (A : Around) (h₀ : Heap) (L : Addr) (m : Str → Option Value) (env : Env) (scope : Scope) (cl : List (Str × Addr)) (x : Str) (ifs : List Expr) (elt : Expr) (P : Nat → Value → Prop) (news : List (Addr × Obj)) (s₂ : Shared) (K : Nat → List Value → List (Addr × Obj) → Prop) : Prop :=
  ∀ I i v ys tl oI oC D c k m₂ h tk E', P i v → K i ys tl → NsO oC m₂ → m₂ x = some v → Fr h₀ L h m → News h₀ L h ((c, oC) :: (D, listOf ys.toArray k) :: (I, oI) :: (tl ++ news)) → @LT.lt Nat _ I D → @LT.lt Nat _ D c → AllLt I news →
    (∀ p ∈ tl, @LT.lt Nat _ c p.1) → ys.length ≤ i →
    wpAny (model prog w) A (forIn ifs true fun c' r => if r = true then do let ok ← isTrue c' (compEnvC scope cl c env) (eval c' (compEnvC scope cl c env)); pure (ForInStep.yield ok) else pure (ForInStep.yield r))
      (fun ok s₃ => if ok = true then wpAny (model prog w) A (eval elt (compEnvC scope cl c env)) (fun y s₄ => EndG h₀ L m c [(c, oC), (D, listOf ys.toArray k), (I, oI)] tl news (K (i + 1) (ys ++ [y])) s₂ s₄) E' s₃
        else EndG h₀ L m c [(c, oC), (D, listOf ys.toArray k), (I, oI)] tl news (K (i + 1) ys) s₂ s₃) E' { s₂ with heap := h, toks := tk }

theorem turnG {prog : Program} {w : World} {A : Around} {h₀ : Heap} {L : Addr} {m : Str → Option Value} {env : Env} {scope : Scope} {cl : List (Str × Addr)} {x : Str} {ifs : List Expr} {elt : Expr} {P : Nat → Value → Prop} {C news : List (Addr × Obj)} {s₂ : Shared} {K : Nat → List Value → List (Addr × Obj) → Prop}
    (hC : ∀ p ∈ C, p ∈ news) (N₀ : News h₀ L s₂.heap news) (t : TurnG prog w A h₀ L m env scope cl x ifs elt P news s₂ K) : CompTurn prog w A h₀ L m env scope cl x ifs elt P C s₂ (fun i ys nx => ∃ tl, nx = tl ++ news ∧ (∀ p ∈ tl, @LT.lt Nat _ (s₂.heap.objs.size + 2) p.1) ∧ K i ys tl) := by
  generalize Mine.clo = hCl
  revert prog w A h₀ L m env scope cl x ifs elt P C news s₂ K
  intro prog w A h₀ L m env scope cl x ifs elt P C news s₂ K hC N₀ t
  intro I i v ys nx oI oC D c k m₂ h tk E' hP hJ _ nO hv F N hID hDc eI ec o1 o2 o3 hyl
  obtain ⟨tl, rfl, htl, hK⟩ := hJ
  have hnews : ∀ p ∈ news, @LT.lt Nat _ p.1 I := fun p hp => by rw [eI]; exact Heap.lt_size (N₀ p hp).1
  have fin : ∀ (K' : List (Addr × Obj) → Prop) (s' : Shared), EndG h₀ L m c [(c, oC), (D, listOf ys.toArray k), (I, oI)] tl news K' s₂ s' →
      CompEnd h₀ L m [(c, oC), (D, listOf ys.toArray k), (I, oI)] C (fun nx => ∃ tl, nx = tl ++ news ∧ (∀ p ∈ tl, @LT.lt Nat _ (s₂.heap.objs.size + 2) p.1) ∧ K' tl) s₂ s' := by
    rintro K' s' ⟨h', tk', tl', rfl, F', N', hlt, hK'⟩
    have all : ∀ p ∈ tl' ++ tl, @LT.lt Nat _ (s₂.heap.objs.size + 2) p.1 := fun p hp => (List.mem_append.mp hp).elim (fun h => by rw [← ec]; exact hlt p h) (htl p)
    refine ⟨h', tk', (tl' ++ tl) ++ news, rfl, F', by rw [List.append_assoc]; exact N', fun p hp => List.mem_append_right _ (hC p hp), fun q hq p hp => ?_, _, rfl, all, hK'⟩
    have hq' : @LE.le Nat _ I q.1 ∧ @LE.le Nat _ q.1 c := by
      rcases List.mem_cons.mp hq with rfl | hq
      · exact ⟨by show @LE.le Nat _ I c; lia, Nat.le_refl _⟩
      · rcases List.mem_cons.mp hq with rfl | hq
        · exact ⟨by show @LE.le Nat _ I D; lia, by show @LE.le Nat _ D c; lia⟩
        · rw [List.mem_singleton.mp hq]; exact ⟨Nat.le_refl _, by show @LE.le Nat _ I c; lia⟩
    rcases List.mem_append.mp hp with hp | hp
    · have := all p hp; exact neN (by lia)
    · have := hnews p hp; exact neN (by lia)
  refine wpAny_mono (t I i v ys tl oI oC D c k m₂ h tk E' hP hK nO hv F N hID hDc (allLt_of hnews) (fun p hp => by rw [ec]; exact htl p hp) hyl) ?_ fun _ _ e => e
  rintro ok s₃ h₃
  cases ok with
  | false => exact fin _ _ h₃
  | true => exact wpAny_mono h₃ (fun y s₄ h₄ => fin _ _ h₄) fun _ _ e => e

section
variable {prog : Program} {w : World} {A : Around} {E : Value → Shared → Prop} {s : Shared} {elt iter : Expr} {x : Str} {px : Pos} {ifs : List Expr} {scope : Scope} {cl : List (Str × Addr)} {pos : Pos} {env : Env} {L : Addr} {h₀ : Heap}

theorem comp_listG {Q : Value → Shared → Prop} (hh : A.handled = none)
    (hclos : closureFor scope env = pure cl) (hcell : ∀ y ∈ scope.names, y.2 ≠ .cell) (hkind : scope.kind = .function)
    (hnames : ∀ y ∈ scope.names, y.2 = .local → scope.names.lookup y.1 = some .local) (hx : scope.names.lookup x = some .local)
    (h : wpAny (model prog w) A (eval iter env) (fun xv s₁ => ∃ l, ∃ vs : List Value, ∃ k m, ∃ news : List (Addr × Obj), ∃ K : Nat → List Value → List (Addr × Obj) → Prop, xv = .ref l ∧ Fr h₀ L s₁.heap m ∧ News h₀ L s₁.heap news ∧ (l, listOf vs.toArray k) ∈ news ∧ vs.length ≤ sizeLine ∧ K 0 [] [] ∧
      TurnG prog w A h₀ L m env scope cl x ifs elt (fun i v => vs[i]? = some v) news s₁ K ∧
      (∀ ys tl D k h tk, K vs.length ys tl → Fr h₀ L h m → News h₀ L h ((D, listOf ys.toArray k) :: (tl ++ news)) → AllLt D news → (∀ p ∈ tl, @LT.lt Nat _ D p.1) → ys.length ≤ vs.length → Q (.ref D) { s₁ with heap := h, toks := tk })) E s)
    (hs : ∀ x, foldedSetIterable iter env x = pure x := by intro _; rfl) :
    wpAny (model prog w) A (eval (.ListComp elt [⟨.Name x px, iter, ifs, 0⟩] scope pos) env) Q E s := by
  generalize Mine.clo = hCl
  revert prog w A E s elt iter x px ifs scope cl pos env L h₀ Q
  intro prog w A E s elt iter x px ifs scope cl pos env L h₀ Q hh hclos hcell hkind hnames hx h hs
  refine comp_list (L := L) (h₀ := h₀) hh hclos hcell hkind hnames hx (wpAny_mono h ?_ fun _ _ e => e) hs
  rintro xv s₁ h₁
  obtain ⟨l, vs, k, m, news, K, rfl, F, N, hm, hsz, k0, turn, done⟩ := h₁
  refine ⟨l, vs, k, m, news, _, rfl, F, N, hm, hsz, ⟨[], rfl, (fun p hp => nomatch hp), k0⟩, turnG (fun p hp => by rw [List.mem_singleton.mp hp]; exact hm) N turn, ?_⟩
  intro ys nx D k' h' tk hJ F' N' o eD hyl
  obtain ⟨tl, rfl, htl, hK⟩ := hJ
  exact done ys tl D k' h' tk hK F' N' (allLt_of fun p hp => by have := ltN (Heap.lt_size (N p hp).1); rw [eD]; exact ltN (by lia)) (fun p hp => by have := htl p hp; rw [eD]; exact ltN (by lia)) hyl

theorem comp_listG_as {y : Str} {py spos : Pos} {Q : Flow → Shared → Prop} (hh : A.handled = none)
    (hsw : swapsWith (.ListComp elt [⟨.Name x px, iter, ifs, 0⟩] scope pos) (some (.Name y py)) spos.line env = pure true) (hL : env.locals = L)
    (hclos : closureFor scope env = pure cl) (hcell : ∀ z ∈ scope.names, z.2 ≠ .cell) (hkind : scope.kind = .function)
    (hnames : ∀ z ∈ scope.names, z.2 = .local → scope.names.lookup z.1 = some .local) (hx : scope.names.lookup x = some .local)
    (hy : env.kindOf y = some .local) (hp : (env.scope.kind == .class || (env.scope.kind == .module && env.locals != env.globals)) = false)
    (h : wpAny (model prog w) A (eval iter env) (fun xv s₁ => ∃ l, ∃ vs : List Value, ∃ k m, ∃ news : List (Addr × Obj), ∃ K : Nat → List Value → List (Addr × Obj) → Prop, xv = .ref l ∧ Fr h₀ L s₁.heap m ∧ News h₀ L s₁.heap news ∧ (l, listOf vs.toArray k) ∈ news ∧ vs.length ≤ sizeLine ∧ K 0 [] [] ∧
      TurnG prog w A h₀ L m env scope cl x ifs elt (fun i v => vs[i]? = some v) news s₁ K ∧
      (∀ ys tl D k h tk, K vs.length ys tl → Fr h₀ L h (fun z => if z = y then some (.ref D) else m z) → News h₀ L h ((D, listOf ys.toArray k) :: (tl ++ news)) → AllLt D news → (∀ p ∈ tl, @LT.lt Nat _ D p.1) → ys.length ≤ vs.length → Q .next { s₁ with heap := h, toks := tk })) E s)
    (hs : ∀ x, foldedSetIterable iter env x = pure x := by intro _; rfl) :
    wpAny (model prog w) A (exec (.Assign [.Name y py] (.ListComp elt [⟨.Name x px, iter, ifs, 0⟩] scope pos) spos) env) Q E s := by
  generalize Mine.clo = hCl
  revert prog w A E s elt iter x px ifs scope cl pos env L h₀ y py spos Q
  intro prog w A E s elt iter x px ifs scope cl pos env L h₀ y py spos Q hh hsw hL hclos hcell hkind hnames hx hy hp h hs
  refine comp_list_as (L := L) (h₀ := h₀) hh hsw hL hclos hcell hkind hnames hx hy hp (wpAny_mono h ?_ fun _ _ e => e) hs
  rintro xv s₁ h₁
  obtain ⟨l, vs, k, m, news, K, rfl, F, N, hm, hsz, k0, turn, done⟩ := h₁
  refine ⟨l, vs, k, m, news, _, rfl, F, N, hm, hsz, ⟨[], rfl, (fun p hp => nomatch hp), k0⟩, turnG (fun p hp => by rw [List.mem_singleton.mp hp]; exact hm) N turn, ?_⟩
  intro ys nx D k' h' tk hJ F' N' o eD hyl
  obtain ⟨tl, rfl, htl, hK⟩ := hJ
  exact done ys tl D k' h' tk hK F' N' (allLt_of fun p hp => by have := ltN (Heap.lt_size (N p hp).1); rw [eD]; exact ltN (by lia)) (fun p hp => by have := htl p hp; rw [eD]; exact ltN (by lia)) hyl

theorem comp_rangeG {Q : Value → Shared → Prop} (hh : A.handled = none)
    (hclos : closureFor scope env = pure cl) (hcell : ∀ y ∈ scope.names, y.2 ≠ .cell) (hkind : scope.kind = .function)
    (hnames : ∀ y ∈ scope.names, y.2 = .local → scope.names.lookup y.1 = some .local) (hx : scope.names.lookup x = some .local)
    (h : wpAny (model prog w) A (eval iter env) (fun xv s₁ => ∃ r t1 t2 t3 m, ∃ n : Nat, ∃ news : List (Addr × Obj), ∃ K : Nat → List Value → List (Addr × Obj) → Prop, xv = .ref r ∧ Fr h₀ L s₁.heap m ∧ News h₀ L s₁.heap news ∧ IsRange s₁.heap r 0 n 1 t1 t2 t3 ∧ n < 2 ^ 20 ∧ K 0 [] [] ∧
      TurnG prog w A h₀ L m env scope cl x ifs elt (fun i v => i < n ∧ ∃ t, v = .int i t) news s₁ K ∧
      (∀ ys tl D k h tk, K n ys tl → Fr h₀ L h m → News h₀ L h ((D, listOf ys.toArray k) :: (tl ++ news)) → AllLt D news → (∀ p ∈ tl, @LT.lt Nat _ D p.1) → ys.length ≤ n → Q (.ref D) { s₁ with heap := h, toks := tk })) E s)
    (hs : ∀ x, foldedSetIterable iter env x = pure x := by intro _; rfl) :
    wpAny (model prog w) A (eval (.ListComp elt [⟨.Name x px, iter, ifs, 0⟩] scope pos) env) Q E s := by
  generalize Mine.clo = hCl
  revert prog w A E s elt iter x px ifs scope cl pos env L h₀ Q
  intro prog w A E s elt iter x px ifs scope cl pos env L h₀ Q hh hclos hcell hkind hnames hx h hs
  refine comp_range (L := L) (h₀ := h₀) hh hclos hcell hkind hnames hx (wpAny_mono h ?_ fun _ _ e => e) hs
  rintro xv s₁ h₁
  obtain ⟨r, t1, t2, t3, m, n, news, K, rfl, F, N, hr, hsz, k0, turn, done⟩ := h₁
  refine ⟨r, t1, t2, t3, m, n, news, _, rfl, F, N, hr, hsz, ⟨[], rfl, (fun p hp => nomatch hp), k0⟩, turnG (fun p hp => nomatch hp) N turn, ?_⟩
  intro ys nx D k' h' tk hJ F' N' o eD hyl
  obtain ⟨tl, rfl, htl, hK⟩ := hJ
  exact done ys tl D k' h' tk hK F' N' (allLt_of fun p hp => by have := ltN (Heap.lt_size (N p hp).1); rw [eD]; exact ltN (by lia)) (fun p hp => by have := htl p hp; rw [eD]; exact ltN (by lia)) hyl

end
section
variable {M : Model} {A : Around} {E : Value → Shared → Prop} {s : Shared} {env : Env} {x : Str} {pos : Pos} {v : Value} {Q : Value → Shared → Prop} {h₀ : Heap} {L c : Addr} {news : List (Addr × Obj)} {o : Obj} {m₂ : Str → Option Value}
theorem nm_loc (N : News h₀ L s.heap news) (hc : env.locals = c) (hm : (c, o) ∈ news) (nO : NsO o m₂) (hv : m₂ x = some v) (hk : env.scope.kind = .function) (hx : env.kindOf x = some .local) (hd : (x == ("__debug__" : Str)) = false) (h : Q v s) : wpAny M A (eval (.Name x pos) env) Q E s := by
  subst hc
  exact wpAny_Name (wpAny_loadName_local hk hx (nO.ns (N.get hm)) hv h) hd
theorem nm_cell (N : News h₀ L s.heap news) (hc : env.cells.lookup x = some c) (hm : (c, o) ∈ news) (ho : o.data = .cell (some v)) (hk : env.scope.kind = .function) (hx : env.kindOf x = some .cell) (hd : (x == ("__debug__" : Str)) = false) (h : Q v s) : wpAny M A (eval (.Name x pos) env) Q E s :=
  wpAny_Name (wpAny_loadName_cell hk hx hc ⟨o, N.get hm, ho⟩ h) hd
theorem nm_free (N : News h₀ L s.heap news) (hc : env.cells.lookup x = some c) (hm : (c, o) ∈ news) (ho : o.data = .cell (some v)) (hk : env.scope.kind = .function) (hx : env.kindOf x = some .free) (hd : (x == ("__debug__" : Str)) = false) (hn : (x == ("__classdict__" : Str)) = false) (h : Q v s) : wpAny M A (eval (.Name x pos) env) Q E s :=
  wpAny_Name (wpAny_loadName_free hk hx hc ⟨o, N.get hm, ho⟩ h hn) hd
end
end Mine
end
example (h : False) {prog : PySem.Program} {w : PySem.World} {A : PySem.Around} {Q E : PySem.Value → PySem.Shared → Prop} {s : PySem.Shared} {env : PySem.Env} {at0 : PySem.Pos} : PySem.wpAny (PySem.model prog w) A (PySem.eval (.Constant .none 0 at0) env) Q E s := by
  w_top off
  first | (walk1; fail) | exact h.elim
section
open PySem PySem.W PyProof.Rows
set_option maxRecDepth 100000
namespace Mine

section
variable {prog : Program} {w : World} {A : Around} {E : Value → Shared → Prop} {s : Shared} {elt iter : Expr} {x : Str} {px : Pos} {ifs : List Expr} {scope : Scope} {cl : List (Str × Addr)} {pos : Pos} {env : Env} {L : Addr} {h₀ : Heap} {m : Str → Option Value} {news : List (Addr × Obj)}

theorem nm_fr {M : Model} {x : Str} {v : Value} {Q : Value → Shared → Prop} (F : Fr h₀ L s.heap m) (hc : env.locals = L) (hv : m x = some v) (hk : env.scope.kind = .function) (hx : env.kindOf x = some .local) (hd : (x == ("__debug__" : Str)) = false) (h : Q v s) : wpAny M A (eval (.Name x pos) env) Q E s := by
  subst hc
  exact wpAny_Name (wpAny_loadName_local hk hx F.ns hv h) hd

theorem comp_nm {Q : Value → Shared → Prop} {z : Str} {pz : Pos} {l : Addr} {vs : List Value} {k : Nat} (K : Nat → List Value → List (Addr × Obj) → Prop) (F : Fr h₀ L s.heap m) (N : News h₀ L s.heap news) (hm : (l, listOf vs.toArray k) ∈ news) (hh : A.handled = none)
    (hc : env.locals = L) (hv : m z = some (.ref l)) (hkf : env.scope.kind = .function) (hz : env.kindOf z = some .local) (hd : (z == ("__debug__" : Str)) = false)
    (hclos : closureFor scope env = pure cl) (hcell : ∀ y ∈ scope.names, y.2 ≠ .cell) (hkind : scope.kind = .function)
    (hnames : ∀ y ∈ scope.names, y.2 = .local → scope.names.lookup y.1 = some .local) (hx : scope.names.lookup x = some .local)
    (hsz : vs.length ≤ sizeLine) (k0 : K 0 [] [])
    (turn : TurnG prog w A h₀ L m env scope cl x ifs elt (fun i v => vs[i]? = some v) news s K)
    (done : ∀ ys tl D k h tk, K vs.length ys tl → Fr h₀ L h m → News h₀ L h ((D, listOf ys.toArray k) :: (tl ++ news)) → AllLt D news → (∀ p ∈ tl, @LT.lt Nat _ D p.1) → ys.length ≤ vs.length → Q (.ref D) { s with heap := h, toks := tk })
    (hs : ∀ x, foldedSetIterable (.Name z pz) env x = pure x := by intro _; rfl) :
    wpAny (model prog w) A (eval (.ListComp elt [⟨.Name x px, .Name z pz, ifs, 0⟩] scope pos) env) Q E s :=
  comp_listG (L := L) (h₀ := h₀) hh hclos hcell hkind hnames hx (nm_fr F hc hv hkf hz hd ⟨l, vs, k, m, news, K, rfl, F, N, hm, hsz, k0, turn, done⟩) hs

theorem comp_nm_as {y : Str} {py spos : Pos} {Q : Flow → Shared → Prop} {z : Str} {pz : Pos} {l : Addr} {vs : List Value} {k : Nat} (K : Nat → List Value → List (Addr × Obj) → Prop) (F : Fr h₀ L s.heap m) (N : News h₀ L s.heap news) (hm : (l, listOf vs.toArray k) ∈ news) (hh : A.handled = none)
    (hc : env.locals = L) (hv : m z = some (.ref l)) (hkf : env.scope.kind = .function) (hz : env.kindOf z = some .local) (hd : (z == ("__debug__" : Str)) = false)
    (hsw : swapsWith (.ListComp elt [⟨.Name x px, .Name z pz, ifs, 0⟩] scope pos) (some (.Name y py)) spos.line env = pure true)
    (hclos : closureFor scope env = pure cl) (hcell : ∀ y ∈ scope.names, y.2 ≠ .cell) (hkind : scope.kind = .function)
    (hnames : ∀ y ∈ scope.names, y.2 = .local → scope.names.lookup y.1 = some .local) (hx : scope.names.lookup x = some .local)
    (hy : env.kindOf y = some .local) (hp : (env.scope.kind == .class || (env.scope.kind == .module && env.locals != env.globals)) = false)
    (hsz : vs.length ≤ sizeLine) (k0 : K 0 [] [])
    (turn : TurnG prog w A h₀ L m env scope cl x ifs elt (fun i v => vs[i]? = some v) news s K)
    (done : ∀ ys tl D k h tk, K vs.length ys tl → Fr h₀ L h (fun z => if z = y then some (.ref D) else m z) → News h₀ L h ((D, listOf ys.toArray k) :: (tl ++ news)) → AllLt D news → (∀ p ∈ tl, @LT.lt Nat _ D p.1) → ys.length ≤ vs.length → Q .next { s with heap := h, toks := tk })
    (hs : ∀ x, foldedSetIterable (.Name z pz) env x = pure x := by intro _; rfl) :
    wpAny (model prog w) A (exec (.Assign [.Name y py] (.ListComp elt [⟨.Name x px, .Name z pz, ifs, 0⟩] scope pos) spos) env) Q E s :=
  comp_listG_as (L := L) (h₀ := h₀) hh hsw hc hclos hcell hkind hnames hx hy hp (nm_fr F hc hv hkf hz hd ⟨l, vs, k, m, news, K, rfl, F, N, hm, hsz, k0, turn, done⟩) hs
end
end Mine
end
example (h : False) {prog : PySem.Program} {w : PySem.World} {A : PySem.Around} {Q E : PySem.Value → PySem.Shared → Prop} {s : PySem.Shared} {env : PySem.Env} {at0 : PySem.Pos} : PySem.wpAny (PySem.model prog w) A (PySem.eval (.Constant .none 0 at0) env) Q E s := by
  w_top off
  first | (walk1; fail) | exact h.elim
section
open PySem PySem.W PyProof.Rows
set_option maxRecDepth 100000
set_option linter.unusedSectionVars false
namespace Mine
theorem fill4 : PySem.Challenge.rw_ik0212_01 = PySem.Challenge.rw_ik0212_01 ∧ mkK.heap_1 = mkK.heap_1 := by
  k_fill
  exact ⟨rfl, rfl⟩


noncomputable abbrev Trip := Option Str × Option Str × Option Str
noncomputable def langs : List (Option Str) := [some "de", some "de_AT", some "fr", none]
noncomputable def encs : List (Option Str) := [none, some "UTF-8", some "ISO8859-15", some "KOI8-R"]
noncomputable def mods : List (Option Str) := [none, some "euro", some "latin", some "phone@book"]
noncomputable def itemOf (x : Int) : Trip := (langs.getD (Int.fmod x 4).toNat none, encs.getD (Int.fmod (Int.fdiv x 4) 4).toNat none, mods.getD (Int.fmod (Int.fdiv x 16) 4).toNat none)
inductive IsTrip (S : List (Addr × Obj)) : Value → Trip → Prop
  | mk {a : Addr} {lv ev mv : Value} {n : Nat} {l e mo : Option Str} (h : (a, tupO #[lv, ev, mv] n) ∈ S) (h1 : IsOpt lv l) (h2 : IsOpt ev e) (h3 : IsOpt mv mo) : IsTrip S (.ref a) (l, e, mo)
theorem tripX {S : List (Addr × Obj)} {v : Value} {t : Trip} (h : IsTrip S v t) : ∃ a lv ev mv n l e mo, v = .ref a ∧ t = (l, e, mo) ∧ (a, tupO #[lv, ev, mv] n) ∈ S ∧ IsOpt lv l ∧ IsOpt ev e ∧ IsOpt mv mo := by
  cases h with
  | mk h1 h2 h3 h4 => exact ⟨_, _, _, _, _, _, _, _, rfl, rfl, h1, h2, h3, h4⟩
inductive Trips (S : List (Addr × Obj)) : List Value → List Trip → Prop
  | nil : Trips S [] []
  | cons {v : Value} {t : Trip} {vs : List Value} {ts : List Trip} (h : IsTrip S v t) (r : Trips S vs ts) : Trips S (v :: vs) (t :: ts)
theorem IsTrip.mono {S S' : List (Addr × Obj)} {v : Value} {t : Trip} (h : IsTrip S v t) (hs : ∀ p ∈ S, p ∈ S') : IsTrip S' v t := by
  cases h with
  | mk h h1 h2 h3 => exact .mk (hs _ h) h1 h2 h3
theorem Trips.mono {S S' : List (Addr × Obj)} {vs : List Value} {ts : List Trip} (h : Trips S vs ts) (hs : ∀ p ∈ S, p ∈ S') : Trips S' vs ts := by
  induction h with
  | nil => exact .nil
  | cons h _ ih => exact .cons (h.mono hs) ih
theorem Trips.app {S : List (Addr × Obj)} {vs ws : List Value} {ts us : List Trip} (h : Trips S vs ts) (g : Trips S ws us) : Trips S (vs ++ ws) (ts ++ us) := by
  induction h with
  | nil => exact g
  | cons h _ ih => exact .cons h ih
theorem Trips.length {S : List (Addr × Obj)} {vs : List Value} {ts : List Trip} (h : Trips S vs ts) : vs.length = ts.length := by
  induction h with
  | nil => rfl
  | cons h _ ih => simp [ih]
theorem Trips.get {S : List (Addr × Obj)} {vs : List Value} {ts : List Trip} (h : Trips S vs ts) : ∀ {i : Nat} {v : Value}, vs[i]? = some v → ∃ t, ts[i]? = some t ∧ IsTrip S v t := by
  induction h with
  | nil => intro i v e; simp at e
  | cons h _ ih =>
    intro i v e
    cases i with
    | zero => simp at e; subst e; exact ⟨_, rfl, h⟩
    | succ i => simpa using ih (by simpa using e)

theorem own3 {α : Type} {x a b c : α} {r : List α} : ∀ p ∈ [a, b, c] ++ ([x] ++ r), p ∈ x :: a :: b :: c :: r := by
  intro p hp
  simp only [List.mem_append, List.mem_cons, List.not_mem_nil, or_false] at hp ⊢
  rcases hp with (h | h | h) | h | h <;> simp [h]
noncomputable def fixed : List Trip := [(some "de_AT", some "UTF-8", some "latin"), (none, none, some "euro"), (some "de", some "KOI8-R", some "euro"), (some "de", some "UTF-8", some "euro"), (some "fr", none, some "phone@book")]
theorem items_sub2 {α : Type} {D l a b c d e : α} {tl rest news : List α} (h : ∀ p ∈ news, p ∈ rest) : ∀ p ∈ (tl ++ [a, b, c, d, e]) ++ news, p ∈ D :: (tl ++ (l :: a :: b :: c :: d :: e :: rest)) := by
  intro p hp
  simp only [List.mem_append, List.mem_cons, List.not_mem_nil, or_false] at hp ⊢
  rcases hp with (hp | hp | hp | hp | hp | hp) | hp
  · simp [hp]
  · simp [hp]
  · simp [hp]
  · simp [hp]
  · simp [hp]
  · simp [hp]
  · simp [h p hp]
theorem items_sub {α : Type} {r D l a b c d e : α} {tl rest news : List α} (h : ∀ p ∈ news, p ∈ rest) : ∀ p ∈ r :: ((tl ++ [a, b, c, d, e]) ++ news), p ∈ r :: D :: (tl ++ (l :: a :: b :: c :: d :: e :: rest)) := by
  intro p hp
  rcases List.mem_cons.mp hp with hp | hp
  · simp [hp]
  · exact .tail _ (items_sub2 h p hp)
theorem take_snoc {α : Type} {l : List α} {i : Nat} {x : α} (h : l[i]? = some x) : l.take (i + 1) = l.take i ++ [x] := by
  rw [List.take_add_one, h]; rfl

section
variable {prog : Program} {w : World} {A : Around} {E : Value → Shared → Prop} {s : Shared} {h₀ : Heap} {L : Addr} {news : List (Addr × Obj)}
theorem menu_item {value slice : Expr} {l : Addr} {v0 v1 v2 v3 : Value} {n : Nat} {a0 a1 a2 a3 : Option Str} {y : Int} {u : Tok} {Q : Value → Shared → Prop} (N : News h₀ L s.heap news) (hm : (l, listOf #[v0, v1, v2, v3] n) ∈ news)
    (h0 : IsOpt v0 a0) (h1 : IsOpt v1 a1) (h2 : IsOpt v2 a2) (h3 : IsOpt v3 a3) (h : ∀ v, IsOpt v ([a0, a1, a2, a3].getD (Int.fmod y 4).toNat none) → Q v s)
    (hs : subscripted slice false (.ref l) (.int (Int.fmod y 4) u) = operate [.ref l, .int (Int.fmod y 4) u] (getItem (.ref l) (.int (Int.fmod y 4) u)) := by with_unfolding_all rfl) :
    wpAny (model prog w) A (subscriptTail value slice (.ref l) (.int (Int.fmod y 4) u)) Q E s := by
  have hl : s.heap.IsList l #[v0, v1, v2, v3] := ⟨_, (N _ hm).1, rfl, n, rfl⟩
  have k0 : 0 ≤ Int.fmod y 4 := Int.fmod_nonneg_of_pos y (by decide)
  have k4 : Int.fmod y 4 < 4 := Int.fmod_lt_of_pos y (by decide)
  generalize Int.fmod y 4 = k at *
  have : k = 0 ∨ k = 1 ∨ k = 2 ∨ k = 3 := by lia
  rcases this with rfl | rfl | rfl | rfl
  · exact tail_any hl.typeIs slot_list_getitem.lookup (wpAny_getItem_list hl (by decide) (by decide) (by rfl) (h _ h0)) hs
  · exact tail_any hl.typeIs slot_list_getitem.lookup (wpAny_getItem_list hl (by decide) (by decide) (by rfl) (h _ h1)) hs
  · exact tail_any hl.typeIs slot_list_getitem.lookup (wpAny_getItem_list hl (by decide) (by decide) (by rfl) (h _ h2)) hs
  · exact tail_any hl.typeIs slot_list_getitem.lookup (wpAny_getItem_list hl (by decide) (by decide) (by rfl) (h _ h3)) hs
end


local macro_rules | `(tactic| k_all) => `(tactic| first | with_reducible assumption | exact off_lt (by assumption) (by lia) | exact off_all (by assumption) (by lia))
section
variable {prog : Program} {w : World} {dp un : Nat} {gd : Option (List Code)} {cn : Str} {cs : Scope} {a : Addr} {ccd : Value} {cl : List (Str × Addr)} {outer : List Env} {A₀ : Around} {base h₀ : Heap} {L : Addr} {m : Str → Option Value} {news : List (Addr × Obj)} {s : Shared} {Q E : Value → Shared → Prop} {p : Program} {loose : List Str} {mean : ExcName → Option Value} {mg mb : Str → Option Value}
variable (B : Below A₀ base outer h₀) (F : Fr h₀ L s.heap m) (X : (mkK.heap_1 w.params).In h₀) (N : News h₀ L s.heap news) (T : Top p loose mean mg mb h₀) (hk : cs.kind = .function) (hd' : dp + 4 < recursionLimit) (hu : un + 80 < cLine)
include B F X N T hk hd' hu

local macro_rules | `(tactic| k_mem) => `(tactic| (refine List.Mem.tail _ (List.Mem.tail _ (List.Mem.tail _ (List.mem_append_right _ ?_))); k_mem))
local macro_rules | `(tactic| walk_at "subscriptTail") => `(tactic| (k_here; (with_reducible show wpAny _ _ (subscriptTail _ _ (Value.ref _) (Value.int (Int.fmod _ _) _)) _ _ _); k_dflt (refine' menu_item ?N ?hm ?i0 ?i1 ?i2 ?i3 ?_; (case N => k_asm); (case hm => k_mem); (case i0 => constructor); (case i1 => constructor); (case i2 => constructor); (case i3 => constructor); intro v9 o9)))

set_option maxHeartbeats 4000000 in
theorem items_ok {x : Addr} {vs : List Value} {k : Nat} {ns : List Int} (hx : (x, listOf vs.toArray k) ∈ news) (hi : IntsAre vs ns) (h7 : ns.length ≤ 7)
  (hret : ∀ r tl ws h' tk', Fr h₀ L h' m → News h₀ L h' ((r, listOf (List.toArray ws) 0) :: (tl ++ news)) → Trips tl ws (fixed ++ ns.map itemOf) → (∀ p ∈ tl ++ news, p.1 < r) → Q (.ref r) { s with heap := h', toks := tk' }) :
  wpAny (model prog w) (ktrTop dp un gd cn cs L a ccd cl outer) (call (.ref 380) [.ref x]) Q E s := by
  generalize Mine.clo = hCl
  revert prog w dp un gd cn cs a ccd cl outer A₀ base h₀ L m news s Q E p loose mean mg mb x vs k ns
  intro prog w dp un gd cn cs a ccd cl outer A₀ base h₀ L m news s Q E p loose mean mg mb B F X N T hk hd' hu x vs k ns hx hi h7 hret
  refine wpAny_call ?_; (k_dflt ((refine' code_defC ?k1 ?k2 ?k3 ?k4 ?k5 ?kA ?kF ?kK ?k6 ?k7 ?k8 ?k9 ?kB ?kD ?_ ?c2 ?c3 ?c4; (case kA => exact rfl); (case kF => exact rfl); (case kK => first | assumption | exact rfl); (case k1 => k_asm); (case k2 => k_asm); (case k3 => k_asm); (case k4 => k_asm); (case k5 => k_asm); (case k6 => k_is); (case k7 => k_is); (case k8 => ktr_room); (case k9 => exact BindsTo.of_eq rfl); (case kB => exact rfl); (case kD => decide +kernel); (case c2 => exact rfl); (case c3 => exact rfl); (case c4 => exact rfl); k_whole; intro g' L' h' tk' cells' FG' F' N' Y' B' X' T' l1; (try k_lt l1); k_cells Y'; (try simp only [List.cons_append, List.nil_append] at N'); (try dsimp only); (try k_lift B'))))
  (repeat' (first | ((fail_if_success (with_reducible show wpAny _ _ (eval (Expr.ListComp _ _ _ _) _) _ _ _)); (first | (k_unfold; (try dsimp only)) | (k_end; wrow_close) | walk1 | (dsimp only; walk1) | (leave1; walk_say "STEP leave1"; try dsimp only) | fail "no step"))))

  · (skip)
    (try k_unfold)
    (refine' comp_nm (vs := vs) (k := k) (fun i ys tl => Trips tl ys ((ns.take i).map itemOf)) ?F ?N ?hm ?hh ?hc ?hv ?hkf ?hz ?hd ?hclos ?hcell ?hkind ?hnames ?hxx ?hsz ?k0 ?turn ?done)
    case k0 => (exact .nil)
    case F => (k_asm)
    case N => (k_asm)
    case hh => (exact rfl)
    case hc => (exact rfl)
    case hv => (rfl)
    case hm => (first | k_mem | (repeat' (first | assumption | apply List.Mem.tail | apply List.mem_append_right)))
    case hkf => (exact rfl)
    case hz => (exact rfl)
    case hd => (decide +kernel)
    case hclos => (with_unfolding_all rfl)
    case hcell => (decide)
    case hkind => (rfl)
    case hnames => (decide)
    case hxx => (decide)
    case hsz => (have := hi.length; rw [sizeLine_eq]; lia)
    case turn =>
      intro I i v ys tl oI oC D c k m₂ h tk E' hP hK nO hv F' N' l1 l2 l3 l4 hyl
      obtain ⟨n, t, rfl, hn⟩ := hi.at _ _ hP
      (refine wpAny_tests_nil ?_)
      (try k_unfold)
      (try dsimp only)
      (repeat' (first | ((fail_if_success (with_reducible show EndG _ _ _ _ _ _ _ _ _ _)); (first | (k_unfold; (try dsimp only)) | (k_end; wrow_close) | walk1 | (dsimp only; walk1) | (leave1; walk_say "STEP leave1"; try dsimp only) | fail "no step"))))
      refine EndG.intro [_] (by k_asm) (by k_asm) own3 ?_ ?_
      · intro p hp; rw [List.mem_singleton.mp hp]; exact And.left (by assumption)
      · rw [take_snoc hn, List.map_append]
        exact (hK.mono fun p hp => List.mem_append_right _ hp).app (.cons (.mk (.head _) (by assumption) (by assumption) (by assumption)) .nil)
    case done =>
      intro ys tl D k h tk hK F' N' l1 l2 hyl
      (try dsimp only)
      (repeat' (first | ((fail_if_success (with_reducible show wpAny _ _ (binaryOp Operator.Add (Value.ref _) (Value.ref _)) _ _ _)); (first | (k_unfold; (try dsimp only)) | (k_end; wrow_close) | walk1 | (dsimp only; walk1) | (leave1; walk_say "STEP leave1"; try dsimp only) | fail "no step"))))
      refine kmk_add_lit (its := (List.toArray _)) (its2 := ys.toArray) F' N' ⟨_, N'.get (.tail _ (List.mem_append_right _ (.head _))), rfl, _, rfl⟩ ⟨_, N'.get (.head _), rfl, _, rfl⟩ rfl ?_ ?_
      · intro D2 h2 F2 N2 l5
        (try dsimp only)
        k_steps
        rename News h₀ L _ (_ :: _) => kN
        refine hret D2 (tl ++ [_, _, _, _, _]) ([_, _, _, _, _] ++ ys) _ _ (by k_asm) (fun p hp => kN p (items_sub (fun q hq => ?sb) p hp)) ?tr (fun p hp => l5 p (items_sub2 (fun q hq => ?sb2) p hp))
        case sb => repeat (first | exact hq | refine List.Mem.tail _ ?_)
        case sb2 => repeat (first | exact hq | refine List.Mem.tail _ ?_)
        case tr =>
          rw [hi.length, List.take_length] at hK
          refine Trips.app (.cons (.mk (List.mem_append_right _ (.tail _ (.tail _ (.tail _ (.tail _ (.head _)))))) ?_ ?_ ?_) (.cons (.mk (List.mem_append_right _ (.tail _ (.tail _ (.tail _ (.head _))))) ?_ ?_ ?_) (.cons (.mk (List.mem_append_right _ (.tail _ (.tail _ (.head _)))) ?_ ?_ ?_) (.cons (.mk (List.mem_append_right _ (.tail _ (.head _))) ?_ ?_ ?_) (.cons (.mk (List.mem_append_right _ (.head _)) ?_ ?_ ?_) .nil))))) (hK.mono fun p hp => List.mem_append_left _ hp)
          all_goals constructor
      · have := hi.length
        show 5 + ys.length ≤ sizeLine
        rw [sizeLine_eq]; lia
end
end Mine
end
example (h : False) {prog : PySem.Program} {w : PySem.World} {A : PySem.Around} {Q E : PySem.Value → PySem.Shared → Prop} {s : PySem.Shared} {env : PySem.Env} {at0 : PySem.Pos} : PySem.wpAny (PySem.model prog w) A (PySem.eval (.Constant .none 0 at0) env) Q E s := by
  w_top off
  first | (walk1; fail) | exact h.elim
section
open PySem PySem.W PyProof.Rows PySem.Calls PySem.Spec
set_option maxRecDepth 100000
set_option linter.unusedSectionVars false
namespace Mine
section
variable {prog : Program} {w : World} {A₀ : Around} {E : Value → Shared → Prop} {s' : Shared} {base g g₀ h : Heap} {outer : List Env} {L a e : Addr} {m : Str → Option Value} {name : Str} {scope : Scope} {cd : Value}
  {b₀ : Stmt} {suite : List Stmt} {pos np : Pos} {rest : List ExceptHandler} {Q : Flow → Shared → Prop} {news : List (Addr × Obj)} {KF : Frag}
  {p : Program} {loose : List Str} {mean : ExcName → Option Value} {mg mb : Str → Option Value} {x : Str} {X T' : String}
/-- an exception that a built-in raised in the frame's own try -/
theorem caughtOwn (hxx : Heap.NewExc h s'.heap e X) (F : Fr g L h m) (N : News g L h news) (K : Below A₀ base outer g) (XB : KF.In base) (TB : Top p loose mean mg mb base)
    (D : KtsDicts (outer.filterMap (·.frame)) g) (T0 : KtsTurn (outer.filterMap (·.frame)) g₀ g)
    (ex : nsIn KF mainGlobals x = some none) (hv : bootBuiltins x = some (.type T')) (hn' : x ≠ "__name__")
    (hexc : isSubtype (.type T') (.type "BaseException") = pure true) (hnt : isSubtype (.type ((Manifest.find? T').elim "type" fun y => y.metatype)) (.type "tuple") = pure false) (hsub : isSubtype (.type X) (.type T') = pure true)
    (k : ∀ h' g', KtsTurn (outer.filterMap (·.frame)) g₀ g' → Fr g' L h' m → News g' L h' news → Below A₀ base outer g' → KF.In g' → Top p loose mean mg mb g' → KtsDicts (outer.filterMap (·.frame)) g' →
      wpAny (model prog w) ((A₀.deeper (envOf name scope L a cd)).mark (some (.ref e))) (execs (b₀ :: suite) (envOf name scope L a cd)) Q E { s' with heap := h' })
    (hk : scope.kind = .function := by rfl) (hx : (envOf name scope L a cd).kindOf x = some .globalImplicit := by rfl) (hd : (x == ("__debug__" : Str)) = false := by decide)
    (hE : PassesOwnAt (model prog w) ((A₀.deeper (envOf name scope L a cd)).mark (some (.ref e))) (A₀.deeper (envOf name scope L a cd)) (envOf name scope L a cd) E := by passes_own) :
    wpAny (model prog w) (A₀.deeper (envOf name scope L a cd)) (noteFrame (.ref e) (envOf name scope L a cd))
      (fun _ s₂ => wpAny (model prog w) (A₀.deeper (envOf name scope L a cd)) (setFlight (.ref e) none) (fun _ s₃ =>
        wpAny (model prog w) (A₀.deeper (envOf name scope L a cd)) (handleBy (.ref e) (envOf name scope L a cd) (.ExceptHandler (some (.Name x np)) none (b₀ :: suite) pos :: rest)) Q E s₃) E s₂) E s' := by
  generalize Mine.clo = hCl
  revert prog w A₀ E s' base g g₀ h outer L a e m name scope cd b₀ suite pos np rest Q news KF p loose mean mg mb x X T'
  intro prog w A₀ E s' base g g₀ h outer L a e m name scope cd b₀ suite pos np rest Q news KF p loose mean mg mb x X T' hxx F N K XB TB D T0 ex hv hn' hexc hnt hsub k hk hx hd hE
  have K' := K.push (name := name) (a := a) (cd := cd) F hk
  have hin : ∀ env ∈ (envOf name scope L a cd :: outer), ∀ b, env.frame = some b → b ∈ (envOf name scope L a cd :: outer).filterMap (·.frame) := fun env he b hb => List.mem_filterMap.mpr ⟨env, he, hb⟩
  have st : base.StaysIn (hideAll h ((envOf name scope L a cd :: outer).filterMap (·.frame))) := fun b o q => hideAll_get _ (K'.stays b o q) fun hm => by
    rw [(K'.frames.mem hm).1] at q; cases q
  have hBG : ∀ b o, h.get? b = some o → b ∉ (envOf name scope L a cd :: outer).filterMap (·.frame) → (hideAll h ((envOf name scope L a cd :: outer).filterMap (·.frame))).get? b = some o := fun b o q nm => hideAll_get _ q nm
  have hl : ∀ q ∈ news, (hideAll h ((envOf name scope L a cd :: outer).filterMap (·.frame))).get? q.1 = some q.2 ∧ g.get? q.1 = none ∧ q.1 ≠ L := fun q hq => by
    refine ⟨hideAll_get _ (N q hq).1 fun hm => ?_, (N q hq).2.2, (N q hq).2.1⟩
    obtain ⟨env, he, hf⟩ := List.mem_filterMap.mp hm
    rcases List.mem_cons.mp he with rfl | he
    · exact (N q hq).2.1 (Option.some.inj hf).symm
    · obtain ⟨o, ho, _⟩ := (K.frames.mem (List.mem_filterMap.mpr ⟨env, he, hf⟩)).2
      rw [(N q hq).2.2] at ho; cases ho
  obtain ⟨ob, tp, he, hcls, hd2⟩ := hxx.there
  have hen : (hideAll h ((envOf name scope L a cd :: outer).filterMap (·.frame))).get? e = none := by
    cases q : (hideAll h ((envOf name scope L a cd :: outer).filterMap (·.frame))).get? e with
    | none => rfl
    | some o => have := of_hideAll _ q; rw [hxx.new] at this; cases this
  have up0 : h.UpToSlots s'.heap := Heap.UpToSlots.of_keeps hxx.keeps
  refine (show wpAny (model prog w) (A₀.deeper (envOf name scope L a cd)) (noteFrame (.ref e) (envOf name scope L a cd)) _ _ _ from ?_)
  unfold noteFrame
  simp only [show (envOf name scope L a cd).frame = some L from rfl]
  refine wpAny_bind (wpAny_field he hd2 (x := .none) rfl ?_)
  rw [if_neg (by decide)]
  refine wpAny_entryW (a0 := tp) (Around.frames_deeper K.stack) ((funFrames_hide K'.frames hin).of_keeps fun b o hb _ => ⟨o, hxx.keeps b o hb, rfl⟩) rfl he (fun b o hb => hxx.keeps b o (of_hideAll _ hb)) hen hd2 (by show 1 < 6; decide) rfl ?_
  rintro h₄ hN
  obtain ⟨k1, k2, k3, k4⟩ := hN
  have hheld₄ : Heap.HeldW (hideAll h ((envOf name scope L a cd :: outer).filterMap (·.frame))) (envOf name scope L a cd :: outer) e (.type X) tp L h₄ := ⟨k1, hen, k2, by rw [← hcls]; exact k3⟩
  have hsm₄ : s'.heap.UpToSlots h₄ := k4
  refine wpAny_landsW hheld₄ ?_
  rintro h₅ hheld hsm₅'
  have hsm₅ := hsm₄.trans hsm₅'
  obtain ⟨g₅, T₅, F₅, K₅⟩ := kts_ground K F hBG hheld.1 (up0.trans hsm₅)
  have X₅ : KF.In g₅ := XB.keeps K₅.stays
  have P₅ : TopRead p loose mg mb g₅ := topRead_of (TB.keeps K₅.stays)
  obtain ⟨ob', hob, hobc⟩ := hheld.there
  refine wpAny_handleBy_builtin (X := X) (T := T') (b := true) hexc hnt hsub (name_B F₅ X₅ P₅ ex hv hn' ⟨rfl, ⟨ob', hob, hobc⟩, ?_⟩ hk hx hd)
  refine lands_againW hheld ?_
  rintro h₆ hfl₆ hsm₆
  obtain ⟨g₆, T₆, F₆, K₆⟩ := kts_ground K F hBG hfl₆.1 ((up0.trans hsm₅).trans hsm₆)
  have Nl : News g₆ L h₆ news := fun q hq => ⟨hfl₆.1 _ _ (hl q hq).1, (hl q hq).2.2, T₆.none_ _ (hl q hq).2.1⟩
  have X₆ : KF.In g₆ := XB.keeps K₆.stays
  have P₆ : Top p loose mean mg mb g₆ := TB.keeps K₆.stays
  have D₆ : KtsDicts (outer.filterMap (·.frame)) g₆ := D.turn T₆
  exact wpAny_passesOwnAt hE (k h₆ g₆ (T0.trans T₆) F₆ Nl K₆ X₆ P₆ D₆)
end
end Mine
end
example (h : False) {prog : PySem.Program} {w : PySem.World} {A : PySem.Around} {Q E : PySem.Value → PySem.Shared → Prop} {s : PySem.Shared} {env : PySem.Env} {at0 : PySem.Pos} : PySem.wpAny (PySem.model prog w) A (PySem.eval (.Constant .none 0 at0) env) Q E s := by
  w_top off
  first | (walk1; fail) | exact h.elim
section
open PySem PySem.W PyProof.Rows PySem.Calls
set_option maxRecDepth 100000
namespace Mine
noncomputable def kes (k : Nat → Int) (u : Nat → Tok) (sl fI fL fG fE fLe fGe st : Addr) : Array DictEntry := #[⟨k 0, .str (Str.ofString "__module__") (u 0), .str (Str.ofString "cpy313.functools") (u 1)⟩, ⟨k 1, .str (Str.ofString "__qualname__") (u 2), .str (Str.ofString "cmp_to_key.<locals>.K") (u 3)⟩,
  ⟨k 2, .str (Str.ofString "__firstlineno__") (u 4), .int 53 (u 5)⟩, ⟨k 3, .str (Str.ofString "__slots__") (u 6), .ref sl⟩, ⟨k 4, .str (Str.ofString "__init__") (u 7), .ref fI⟩, ⟨k 5, .str (Str.ofString "__lt__") (u 8), .ref fL⟩,
  ⟨k 6, .str (Str.ofString "__gt__") (u 9), .ref fG⟩, ⟨k 7, .str (Str.ofString "__eq__") (u 10), .ref fE⟩, ⟨k 8, .str (Str.ofString "__le__") (u 11), .ref fLe⟩, ⟨k 9, .str (Str.ofString "__ge__") (u 12), .ref fGe⟩, ⟨k 10, .str (Str.ofString "__hash__") (u 13), .none⟩,
  ⟨k 11, .str (Str.ofString "__static_attributes__") (u 14), .ref st⟩]

noncomputable def kes1 (k : Nat → Int) (u : Nat → Tok) (sl fI fL fG fE fLe fGe st : Addr) : Array DictEntry := #[⟨k 0, .str (Str.ofString "__module__") (u 0), .str (Str.ofString "cpy313.functools") (u 1)⟩,
  ⟨k 2, .str (Str.ofString "__firstlineno__") (u 4), .int 53 (u 5)⟩, ⟨k 3, .str (Str.ofString "__slots__") (u 6), .ref sl⟩, ⟨k 4, .str (Str.ofString "__init__") (u 7), .ref fI⟩, ⟨k 5, .str (Str.ofString "__lt__") (u 8), .ref fL⟩,
  ⟨k 6, .str (Str.ofString "__gt__") (u 9), .ref fG⟩, ⟨k 7, .str (Str.ofString "__eq__") (u 10), .ref fE⟩, ⟨k 8, .str (Str.ofString "__le__") (u 11), .ref fLe⟩, ⟨k 9, .str (Str.ofString "__ge__") (u 12), .ref fGe⟩, ⟨k 10, .str (Str.ofString "__hash__") (u 13), .none⟩,
  ⟨k 11, .str (Str.ofString "__static_attributes__") (u 14), .ref st⟩]
noncomputable def kes2 (k : Nat → Int) (u : Nat → Tok) (sl fI fL fG fE fLe fGe st : Addr) (i1 : Int) (t1 : Tok) (md : Addr) : Array DictEntry := #[⟨k 0, .str (Str.ofString "__module__") (u 0), .str (Str.ofString "cpy313.functools") (u 1)⟩,
  ⟨k 2, .str (Str.ofString "__firstlineno__") (u 4), .int 53 (u 5)⟩, ⟨k 3, .str (Str.ofString "__slots__") (u 6), .ref sl⟩, ⟨k 4, .str (Str.ofString "__init__") (u 7), .ref fI⟩, ⟨k 5, .str (Str.ofString "__lt__") (u 8), .ref fL⟩,
  ⟨k 6, .str (Str.ofString "__gt__") (u 9), .ref fG⟩, ⟨k 7, .str (Str.ofString "__eq__") (u 10), .ref fE⟩, ⟨k 8, .str (Str.ofString "__le__") (u 11), .ref fLe⟩, ⟨k 9, .str (Str.ofString "__ge__") (u 12), .ref fGe⟩, ⟨k 10, .str (Str.ofString "__hash__") (u 13), .none⟩,
  ⟨k 11, .str (Str.ofString "__static_attributes__") (u 14), .ref st⟩, ⟨i1, .str (Str.ofString "obj") t1, .ref md⟩]
noncomputable def kes3 (k : Nat → Int) (u : Nat → Tok) (sl fI fL fG fE fLe fGe st : Addr) (i1 : Int) (t1 : Tok) (md : Addr) (i2 : Int) (t2 : Tok) : Array DictEntry := #[⟨k 0, .str (Str.ofString "__module__") (u 0), .str (Str.ofString "cpy313.functools") (u 1)⟩,
  ⟨k 2, .str (Str.ofString "__firstlineno__") (u 4), .int 53 (u 5)⟩, ⟨k 3, .str (Str.ofString "__slots__") (u 6), .ref sl⟩, ⟨k 4, .str (Str.ofString "__init__") (u 7), .ref fI⟩, ⟨k 5, .str (Str.ofString "__lt__") (u 8), .ref fL⟩,
  ⟨k 6, .str (Str.ofString "__gt__") (u 9), .ref fG⟩, ⟨k 7, .str (Str.ofString "__eq__") (u 10), .ref fE⟩, ⟨k 8, .str (Str.ofString "__le__") (u 11), .ref fLe⟩, ⟨k 9, .str (Str.ofString "__ge__") (u 12), .ref fGe⟩, ⟨k 10, .str (Str.ofString "__hash__") (u 13), .none⟩,
  ⟨k 11, .str (Str.ofString "__static_attributes__") (u 14), .ref st⟩, ⟨i1, .str (Str.ofString "obj") t1, .ref md⟩, ⟨i2, .str (Str.ofString "__doc__") t2, .none⟩]
/-- the class K, as it is made -/
noncomputable def clK (C ns : Addr) (q : Bool) (mro : List Value) (sn : List Str) (slots : Array (Option Value)) : Obj := ⟨.type "type", none, .cls ⟨Str.ofString "K", [.type "object"], mro, ns, Str.ofString "cmp_to_key.<locals>.K", q, sn, [], false, none, false⟩, slots⟩
noncomputable def clSl (bT : Addr) (tn tq : Tok) : Array (Option Value) := #[some (.ref bT), none, some (.str (Str.ofString "K") tn), some (.str (Str.ofString "cmp_to_key.<locals>.K") tq), some (.builtin "object.__new__"), some (.bool false)]
noncomputable def mdK (C : Addr) (t1 : Tok) : Obj := ⟨.type "member_descriptor", none, .fields #[.str (Str.ofString "obj") t1, .ref C, .builtin "proto.slot", .builtin "proto.slot#set", .int 0 0], #[]⟩

noncomputable def KpN (n : Nat) (h h' : Heap) : Prop := ∀ b o, @LT.lt Nat _ b n → h.get? b = some o → h'.get? b = some o
theorem KpN.rfl' {n : Nat} {h : Heap} : KpN n h h := fun _ _ _ e => e
theorem KpN.all {n : Nat} {h h₁ h₂ : Heap} (x : KpN n h h₁) (k : ∀ b o, h₁.get? b = some o → h₂.get? b = some o) : KpN n h h₂ := fun b o l e => k b o (x b o l e)
theorem KpN.but {n : Nat} {h h₁ h₂ : Heap} {a : Addr} (x : KpN n h h₁) (ha : @LE.le Nat _ n a) (k : ∀ b o, b ≠ a → h₁.get? b = some o → h₂.get? b = some o) : KpN n h h₂ := fun b o l e => k b o (Nat.ne_of_lt (Nat.lt_of_lt_of_le l ha)) (x b o l e)

section
variable {M : Model} {h : Heap}
theorem pk {α : Type} {t : Sem α} {r : α} (e : peek [] ⟨M.prog, M.w.params⟩ t = some r) : Looks M h t r := Looks.of_peek (K := []) (fun _ _ e => by cases e) e
variable {A : Around} {E : Value → Shared → Prop} {g : Array GenState} {d : Drawn} {t : Nat} {os : OsState}
theorem al {o : Obj} {Q : Addr → Shared → Prop} (hf : o.isFreed = false) (hq : ∀ a h', (∀ b x, h.get? b = some x → h'.get? b = some x) → h'.get? a = some o → a = h.objs.size → h'.objs.size = h.objs.size + 1 → Q a ⟨h', g, d, t, os⟩) : wpAny M A (alloc o) Q E ⟨h, g, d, t, os⟩ :=
  wpAny_alloc (hq _ _ (fun b x e => Heap.get?_push_of_some _ e) (Heap.get?_push_size _ hf) rfl (Heap.size_push _ _))
theorem al2 {T : String} {data : Data} {Q : Value → Shared → Prop} (hf : (⟨.type T, none, data, #[]⟩ : Obj).isFreed = false) (hd : sizeOk data) (hq : ∀ a h', (∀ b x, h.get? b = some x → h'.get? b = some x) → h'.get? a = some ⟨.type T, none, data, #[]⟩ → a = h.objs.size → h'.objs.size = h.objs.size + 1 → Q (.ref a) ⟨h', g, d, t, os⟩) : wpAny M A (newObj (.type T) data) Q E ⟨h, g, d, t, os⟩ :=
  wpAny_newObj_type (hq _ _ (fun b x e => Heap.get?_push_of_some _ e) (Heap.get?_push_size _ hf) rfl (Heap.size_push _ _)) hd
theorem up {a : Addr} {p : Option Value} {f : Obj → Obj} {o o' : Obj} {Q : Unit → Shared → Prop} (ho : h.get? a = some o) (ef : f o = o') (nf : o'.isFreed = false)
    (hq : ∀ h', (∀ b x, b ≠ a → h.get? b = some x → h'.get? b = some x) → h'.get? a = some o' → h'.objs.size = h.objs.size → Q () ⟨h', g, d, t, os⟩) : wpAny M A (updatePart a p f) Q E ⟨h, g, d, t, os⟩ := by
  have hs : Heap.SameBut a h (h.update a f) := Heap.SameBut.update ..
  refine wpAny_updatePart ho (hq _ (fun b x hb e => (hs.2 b hb).trans e) ?_ hs.1)
  have : (h.update a f).get? a = some (f o) := by first | exact Heap.get?_update_self f ho (by rw [ef]; exact nf) | exact Heap.get?_update_self _ ho (by rw [ef]; exact nf)
  rw [this, ef]
theorem upW {a : Addr} {f : Obj → Obj} {o o' : Obj} {Q : Unit → Shared → Prop} (ho : h.get? a = some o) (ef : f o = o') (nf : o'.isFreed = false)
    (hq : ∀ h', (∀ b x, b ≠ a → h.get? b = some x → h'.get? b = some x) → h'.get? a = some o' → h'.objs.size = h.objs.size → Q () ⟨h', g, d, t, os⟩) : wpAny M A (update a f) Q E ⟨h, g, d, t, os⟩ := by
  have hs : Heap.SameBut a h (h.update a f) := Heap.SameBut.update ..
  refine wpAny_update ho (hq _ (fun b x hb e => (hs.2 b hb).trans e) ?_ hs.1)
  have : (h.update a f).get? a = some (f o) := by first | exact Heap.get?_update_self f ho (by rw [ef]; exact nf) | exact Heap.get?_update_self _ ho (by rw [ef]; exact nf)
  rw [this, ef]
theorem bf {α : Type} {b : Bool} {x y : Sem α} {s : Shared} {Q : α → Shared → Prop} (e : b = false) (q : wpAny M A y Q E s) : wpAny M A (if b = true then x else y) Q E s := by rw [e]; exact q
theorem bt {α : Type} {b : Bool} {x y : Sem α} {s : Shared} {Q : α → Shared → Prop} (e : b = true) (q : wpAny M A x Q E s) : wpAny M A (if b = true then x else y) Q E s := by rw [e]; exact q
/-- a namespace written out -/
theorem ng {a : Addr} {o : Obj} {name : Str} {r : Option Value} {Q : Option Value → Shared → Prop} (ho : h.get? a = some o) (e : nsLook name o = pure r) (hq : Q r ⟨h, g, d, t, os⟩) : wpAny M A (nsGet a name) Q E ⟨h, g, d, t, os⟩ := by
  unfold nsGet
  exact wpAny_bind (wpAny_loadPart ho (by rw [e]; exact wpAny_pure hq))
theorem ns {a : Addr} {es : Array DictEntry} {n : Nat} {dd : Option Addr} {sl : Array (Option Value)} {c : Value} {name : Str} {v : Value} {F : Int → Tok → Obj} {Q : Unit → Shared → Prop} (ho : h.get? a = some ⟨c, dd, .dict es n, sl⟩) (e : aRefKeyMayBeTheName name es = false)
    (ef : ∀ i t, Obj.putName name i (.str name t) v ⟨c, dd, .dict es n, sl⟩ = F i t) (nf : ∀ i t, (F i t).isFreed = false)
    (hq : ∀ h' i, (∀ b x, b ≠ a → h.get? b = some x → h'.get? b = some x) → h'.get? a = some (F i t) → h'.objs.size = h.objs.size → Q () ⟨h', g, d, t + 1, os⟩) : wpAny M A (nsSet a name v) Q E ⟨h, g, d, t, os⟩ := by
  unfold nsSet strHash
  refine wpAny_bind (wpAny_bind (wpAny_askSetting (wpAny_pure (wpAny_bind (wpAny_mkText (wpAny_bind (wpAny_loadPart ho ?_)))))))
  dsimp only
  rw [e]
  exact up ho (ef _ _) (nf _ _) fun h' k e' z => hq h' _ k e' z
theorem loop_skip {M : Model} {A : Around} {E : Value → Shared → Prop} {s : Shared} {α β : Type} {es : Array α} {b : β} {body : α → β → Sem (ForInStep β)} {Q : β → Shared → Prop}
    (hb : ∀ e ∈ es.toList, ∀ Q' : ForInStep β → Shared → Prop, Q' (.yield b) s → wpAny M A (body e b) Q' E s) (hq : Q b s) : wpAny M A (forIn es b body) Q E s := by
  rw [← Array.forIn_toList]
  revert hb
  generalize es.toList = l
  intro hb
  induction l with
  | nil => rw [List.forIn_nil]; exact wpAny_pure hq
  | cons e r ih =>
    rw [List.forIn_cons]
    exact wpAny_bind (hb e (.head _) _ (ih fun e' he' => hb e' (.tail _ he')))
noncomputable def ClsAt (h : Heap) (a : Addr) (T : String) : Prop := ∃ o, h.get? a = some o ∧ o.cls = .type T
theorem ClsAt.keeps {h h' : Heap} {a : Addr} {T : String} (x : ClsAt h a T) (k : ∀ b o, h.get? b = some o → h'.get? b = some o) : ClsAt h' a T := let ⟨o, e, c⟩ := x; ⟨o, k _ _ e, c⟩
theorem ClsAt.special {M : Model} {h : Heap} {a : Addr} {T : String} {name : Str} {r : Option Value} (x : ClsAt h a T) (e : typeLookup (.type T) name = pure r) : Looks M h (specialOf (.ref a) name) r := by
  obtain ⟨o, ho, hc⟩ := x
  refine Looks.andThen (f := fun t => typeLookup t name) (a := .type T) ?_ (Looks.of_pure e)
  refine (Looks.ld ho).andThen ?_
  rw [hc]
  exact .now
/-- a name that the class K itself has not -/
theorem clk_up {M : Model} {h : Heap} {C nsA : Addr} {b : Bool} {sn : List Str} {sl : Array (Option Value)} {o : Obj} {name : Str} {r : Option Value} (hC : h.get? C = some (clK C nsA b [.ref C, .type "object"] sn sl)) (hN : h.get? nsA = some o)
    (e : nsLook name o = pure none) (e2 : classOwn (.type "object") name = pure r) : Looks M h (typeLookup (.ref C) name) r := by
  intro A Q E s k q
  rw [typeLookup_eq]
  refine wpAny_bind (wpAny_bind (wpAny_bind (wpAny_load (k _ _ hC) (wpAny_pure (wpAny_pure ?_)))))
  show wpAny M A (lookupAlong [.ref C, .type "object"] name) Q E s
  rw [lookupAlong_cons]
  refine wpAny_bind (wpAny_bind (wpAny_bind (wpAny_load (k _ _ hC) (wpAny_pure ?_))))
  show wpAny M A (nsGet nsA name) _ _ _
  unfold nsGet
  refine wpAny_bind (wpAny_loadPart (k _ _ hN) ?_)
  rw [e]
  refine wpAny_pure ?_
  dsimp only
  rw [lookupAlong_cons, e2]
  refine wpAny_bind (wpAny_pure ?_)
  cases r with
  | none => exact wpAny_pure q
  | some v => exact wpAny_pure q
/-- a name that the class K itself has -/
theorem clk_own {M : Model} {h : Heap} {C nsA : Addr} {b : Bool} {mro : List Value} {sn : List Str} {sl : Array (Option Value)} {o : Obj} {name : Str} {v : Value} (hC : h.get? C = some (clK C nsA b (.ref C :: mro) sn sl)) (hN : h.get? nsA = some o)
    (e : nsLook name o = pure (some v)) : Looks M h (typeLookup (.ref C) name) (some v) := by
  intro A Q E s k q
  rw [typeLookup_eq]
  refine wpAny_bind (wpAny_bind (wpAny_bind (wpAny_load (k _ _ hC) (wpAny_pure (wpAny_pure ?_)))))
  show wpAny M A (lookupAlong (.ref C :: mro) name) Q E s
  rw [lookupAlong_cons]
  refine wpAny_bind (wpAny_bind (wpAny_bind (wpAny_load (k _ _ hC) (wpAny_pure ?_))))
  show wpAny M A (nsGet nsA name) _ _ _
  unfold nsGet
  refine wpAny_bind (wpAny_loadPart (k _ _ hN) ?_)
  rw [e]
  exact wpAny_pure (wpAny_pure q)
end
end Mine
end
example (h : False) {prog : PySem.Program} {w : PySem.World} {A : PySem.Around} {Q E : PySem.Value → PySem.Shared → Prop} {s : PySem.Shared} {env : PySem.Env} {at0 : PySem.Pos} : PySem.wpAny (PySem.model prog w) A (PySem.eval (.Constant .none 0 at0) env) Q E s := by
  w_top off
  first | (walk1; fail) | exact h.elim
local macro_rules | `(tactic| walk_at "cs") => `(tactic| first
  | with_reducible (first | refine wpAny_pure ?_ | refine wpAny_bind ?_ | refine wpAny_holding ?_ | refine wpAny_standAt ?_ | refine wpAny_point ?_ | refine wpAny_rule ?_ | refine wpAny_letGo ?_ | refine wpAny_attempt ?_ | refine wpAny_fresh' ?_ | refine wpAny_tryCatch ?_ | refine nd_pure ?_ | refine wpAny_onRaise ?_)
  | with_reducible refine Looks.at (by assumption) ?_
  | with_reducible refine wpAny_of_eq (by assumption) ?_
  | wp_delta
  | ((with_reducible apply wpAny_load'); focus (assumption; done))
  | ((with_reducible apply wpAny_loadPart'); focus (assumption; done))
  | ((with_reducible refine bf (by first | assumption | rfl) ?_))
  | ((with_reducible refine bt (by first | assumption | rfl) ?_))
  | ((with_reducible apply wpAny_ite_false); focus rfl)
  | ((with_reducible apply wpAny_ite_true); focus rfl)
  | dsimp only)
section
open PySem PySem.W PyProof.Rows PySem.Calls
set_option maxRecDepth 100000
namespace Mine
open PySem.Builtin
section
variable {prog : Program} {w : World} {A : Around} {E : Value → Shared → Prop} {h : Heap} {g : Array GenState} {d : Drawn} {t : Nat} {os : OsState}
noncomputable def planK : Slots.Plan := { names := [Str.ofString "obj"], dict := false, weak := false, inherited := [] }
set_option maxHeartbeats 4000000 in
theorem slots_read {sl fI fL fG fE fLe fGe st : Addr} {k : Nat → Int} {u : Nat → Tok} {u1 : Tok} {n1 : Nat} {Q : Slots.Plan → Shared → Prop} (hs : h.get? sl = some ⟨.type "list", none, .seq #[.str (Str.ofString "obj") u1] n1, #[]⟩)
   (hq : ∀ h', (∀ b o, h.get? b = some o → h'.get? b = some o) → Q planK ⟨h', g, d, t, os⟩) :
  wpAny (model prog w) A (Slots.read (Str.ofString "K") [.type "object"] (kes k u sl fI fL fG fE fLe fGe st)) Q E ⟨h, g, d, t, os⟩ := by
  generalize Mine.clo = hCl
  revert prog w A E h g d t os sl fI fL fG fE fLe fGe st k u u1 n1 Q
  intro prog w A E h g d t os sl fI fL fG fE fLe fGe st k u u1 n1 Q hs hq
  have q1 : Looks (model prog w) h (Slots.bestBase [.type "object"]) (.type "object") := pk (by kernel_rfl)
  have q2 : Looks (model prog w) h (Slots.slotNamesOf (.type "object")) [] := pk (by kernel_rfl)
  have q3 : Looks (model prog w) h (Slots.givesDict (.type "object")) false := pk (by kernel_rfl)
  have q4 : Looks (model prog w) h (Slots.givesWeak (.type "object")) false := pk (by kernel_rfl)
  have q5 : Looks (model prog w) h (Slots.varSize (.type "object")) false := pk (by kernel_rfl)
  have e0 : (kes k u sl fI fL fG fE fLe fGe st).find? (fun x => x.key.isStr (Str.ofString "__slots__")) = some ⟨k 3, .str (Str.ofString "__slots__") (u 6), .ref sl⟩ := by kernel_rfl
  unfold Slots.read
  (repeat ((fail_if_success (with_reducible show wpAny _ _ (collect _) _ _ _)); (first | rw [e0] | walk_at "cs")))
  refine wpAny_collect_seq sl (.inl rfl) hs rfl rfl ?_
  intro h' K'
  have hq := hq h' K'
  have r1 := q1.keeps K'
  have r2 := q2.keeps K'
  have r3 := q3.keeps K'
  have r4 := q4.keeps K'
  have r5 := q5.keeps K'
  clear q1 q2 q3 q4 q5
  have e1 : Slots.isIdentifier (Str.ofString "obj") = some true := by decide +kernel
  have e2 : (Str.ofString "obj" == Str.ofString "__dict__") = false := by decide +kernel
  have e3 : (Str.ofString "obj" == Str.ofString "__weakref__") = false := by decide +kernel
  have e4 : (Str.ofString "obj" == Str.ofString "__del__") = false := by decide +kernel
  have e5 : Slots.mangle (Str.ofString "K") (Str.ofString "obj") = Str.ofString "obj" := by decide +kernel
  have e6 : ((kes k u sl fI fL fG fE fLe fGe st).any fun x => x.key.isStr (Str.ofString "obj")) = false := by kernel_rfl
  (repeat (first | walk_at "cs" | rw [e1] | rw [e2] | rw [e3] | rw [e4] | rw [e5] | rw [e6] | ((with_reducible apply wpAny_ite_false); focus (first | (simp [*]; done)))))
  refine Eq.mp (congrArg (fun p => Q p _) (?_ : planK = _)) hq
  kernel_rfl
end
end Mine
end
example (h : False) {prog : PySem.Program} {w : PySem.World} {A : PySem.Around} {Q E : PySem.Value → PySem.Shared → Prop} {s : PySem.Shared} {env : PySem.Env} {at0 : PySem.Pos} : PySem.wpAny (PySem.model prog w) A (PySem.eval (.Constant .none 0 at0) env) Q E s := by
  w_top off
  first | (walk1; fail) | exact h.elim
section
open PySem PySem.W PyProof.Rows PySem.Calls PySem.Builtin
set_option maxRecDepth 100000
namespace Mine
section
variable {prog : Program} {w : World} {A : Around} {E : Value → Shared → Prop} {h : Heap} {g : Array GenState} {d : Drawn} {t : Nat} {os : OsState}
noncomputable def supO (C : Addr) : Obj := { cls := .type "super", dict := none, data := .fields #[.ref C, .ref C, .ref C], slots := #[] }
theorem call_super {C : Addr} {oC : Obj} {cd : ClassData} {Q : Value → Shared → Prop} (hC : h.get? C = some oC) (hd : oC.data = .cls cd) (hsub : Looks (model prog w) h (isSubtype (.ref C) (.ref C)) true)
    (hq : ∀ h', h'.get? h.objs.size = some (supO C) → (∀ y o, h.get? y = some o → h'.get? y = some o) → Q (.ref h.objs.size) ⟨h', g, d, t, os⟩) :
    wpAny (model prog w) A (call (.type "super") [.ref C, .ref C]) Q E ⟨h, g, d, t, os⟩ := by
  refine ks_callType_codesW (Q₁ := fun obj s₁ => obj = .ref h.objs.size ∧ s₁ = ⟨h.push { cls := .type "super", data := .fields #[.none, .none, .none] }, g, d, t, os⟩) F.ks_called_super (ks_wpAny_checkTypeCall_super hC hd) F.ks_entry_super_init
    (ks_code_super_new _ _ ⟨rfl, rfl⟩) fun obj s₁ h₁ => ?_
  obtain ⟨rfl, rfl⟩ := h₁
  have up : ∀ y o, h.get? y = some o → (h.push { cls := .type "super", data := .fields #[.none, .none, .none] }).get? y = some o := fun y o e => Heap.get?_push_of_some _ e
  have hso : (h.push { cls := .type "super", data := .fields #[.none, .none, .none] }).get? h.objs.size = some { cls := .type "super", dict := none, data := .fields #[.none, .none, .none], slots := #[] } := Heap.get?_push_at rfl rfl
  have hC' := up _ _ hC
  have hsub' := hsub.keeps up
  refine ⟨⟨_, hso, rfl⟩, F.ks_initArgs_super _ _ _, ?_⟩
  unfold Builtin.«super.__init__» noKeywords
  repeat (first | (with_reducible refine ks_wpAny_isType_cls hC' hd ?_) | (with_reducible refine Looks.at hsub' ?_) | (with_reducible refine ks_wpAny_super_set3 hso ?_) | wp_step)
  all_goals first
    | (intro h' e k; exact ⟨rfl, hq h' e fun y o ey => k y o (Nat.ne_of_lt (Heap.lt_size ey)) (up y o ey)⟩)
    | (refine ks_wpAny_super_set3 hso ?_; intro h' e k; exact ⟨rfl, hq h' e fun y o ey => k y o (Nat.ne_of_lt (Heap.lt_size ey)) (up y o ey)⟩)
noncomputable def bmO (C : Addr) : Obj := ⟨.type "builtin_function_or_method", none, .fields #[.builtin "object.__init_subclass__", .ref C], #[]⟩
theorem fin_bm {s : Shared} {h : Heap} {chg nw : List (Addr × Obj)} {C b : Addr} {Q : Value → Shared → Prop} {tk : Nat} (D : PySem.W.X.Mem s.heap h chg nw) (hq : ∀ h' b tk', PySem.W.X.Mem s.heap h' [] [(b, bmO C)] → Q (.ref b) { s with heap := h', toks := tk' }) (e1 : chg = []) (e2 : nw = [(b, bmO C)]) : Q (.ref b) { s with heap := h, toks := tk } := by
  subst e1 e2; exact hq h b tk D
local macro_rules | `(tactic| x_close) => `(tactic| (refine' fin_bm ?D ?r ?e1 ?e2; (case D => assumption); (case r => assumption); (case e1 => kernel_rfl); (case e2 => kernel_rfl)))
set_option maxHeartbeats 4000000 in
theorem call_cmget {s : Shared} {C nsA : Addr} {b : Bool} {sn : List Str} {sl : Array (Option Value)} {es : Array DictEntry} {n : Nat} {Q : Value → Shared → Prop} (hd0 : A.depth + 20 < recursionLimit) (hu0 : A.units + 200 < cLine) (hC : s.heap.get? C = some (clK C nsA b [.ref C, .type "object"] sn sl)) (hN : s.heap.get? nsA = some ⟨.type "dict", none, .dict es n, #[]⟩)
    (hq : ∀ h' b tk', PySem.W.X.Mem s.heap h' [] [(b, bmO C)] → Q (.ref b) { s with heap := h', toks := tk' }) :
    wpAny (model prog w) A (call (.builtin "classmethod_descriptor.__get__") [.builtin "object.__init_subclass__", .none, .ref C]) Q E s := by
  unfold clK at hC
  (x_run)
theorem fin_in {s : Shared} {h : Heap} {chg nw : List (Addr × Obj)} {Q : Value → Shared → Prop} {tk : Nat} {v : Value} (D : PySem.W.X.Mem s.heap h chg nw) (hq : ∀ h' nw tk' v, PySem.W.X.Mem s.heap h' [] nw → Q v { s with heap := h', toks := tk' }) (e1 : chg = []) : Q v { s with heap := h, toks := tk } := by
  subst e1; exact hq h nw tk v D
local macro_rules | `(tactic| x_close) => `(tactic| (refine' fin_in ?D ?r ?e1; (case D => first | assumption | exact PySem.W.X.Mem.start _); (case r => assumption); (case e1 => kernel_rfl)))
set_option maxHeartbeats 4000000 in
theorem call_bm {s : Shared} {C nsA b : Addr} {k : Nat → Int} {u : Nat → Tok} {sl fI fL fG fE fLe fGe st : Addr} {i1 i2 : Int} {t1 t2 tq tn : Tok} {md : Addr} {bT : Addr} {Q : Value → Shared → Prop} (hd0 : A.depth + 20 < recursionLimit) (hu0 : A.units + 200 < cLine)
    (hC : s.heap.get? C = some (clK C nsA false [.ref C, .type "object"] [Str.ofString "obj"] #[some (.ref bT), none, some (.str (Str.ofString "K") tn), some (.str (Str.ofString "cmp_to_key.<locals>.K") tq), some (.builtin "object.__new__"), some (.bool false)])) (hN : s.heap.get? nsA = some ⟨.type "dict", none, .dict (kes3 k u sl fI fL fG fE fLe fGe st i1 t1 md i2 t2) 3, #[]⟩)
    (hb : s.heap.get? b = some (bmO C)) (hq : ∀ h' nw tk' v, PySem.W.X.Mem s.heap h' [] nw → Q v { s with heap := h', toks := tk' }) :
    wpAny (model prog w) A (call (.ref b) []) Q E s := by
  unfold clK at hC
  unfold bmO at hb
  unfold kes3 at hN
  (x_run)
theorem co_obj : Looks (model prog w) h (classOwn (.type "object") (Str.ofString "__init_subclass__")) (some (.builtin "object.__init_subclass__")) := Looks.of_pure (by kernel_rfl)
theorem sup_ga {C nsA so : Addr} {b : Bool} {sn : List Str} {sl : Array (Option Value)} {es : Array DictEntry} {n : Nat} {tk : Tok} {Q : Fin → Shared → Prop} (hd0 : A.depth + 20 < recursionLimit) (hu0 : A.units + 200 < cLine)
    (hC : h.get? C = some (clK C nsA b [.ref C, .type "object"] sn sl)) (hN : h.get? nsA = some ⟨.type "dict", none, .dict es n, #[]⟩) (hso : h.get? so = some (supO C))
    (l0 : Looks (model prog w) h anyOpaqueLoaded false) (hq : ∀ h' b tk', PySem.W.X.Mem h h' [] [(b, bmO C)] → Q (.done (.ret (.ref b))) ⟨h', g, d, tk', os⟩) :
    wpAny (model prog w) A (Builtin.«super.__getattribute__» ⟨[.ref so, .str (Str.ofString "__init_subclass__") tk], []⟩) Q E ⟨h, g, d, t, os⟩ := by
  generalize Mine.clo = hCl
  revert prog w A E h g d t os C nsA so b sn sl es n tk Q
  intro prog w A E h g d t os C nsA so b sn sl es n tk Q hd0 hu0 hC hN hso l0 hq
  have l1 : Looks (model prog w) h (mroOf (.ref C)) [.ref C, .type "object"] := (Looks.andThen (f := fun cd : ClassData => pure cd.mro) ((Looks.ld (part := none) hC).andThen .now) .now)
  have l2 : Looks (model prog w) h (opaqueClassAbove (.ref C)) none := by
    intro A Q E s k q
    unfold opaqueClassAbove
    exact wpAny_bind (l0 A _ E s k (wpAny_pure q))
  have e1 : (List.dropWhile (fun x => x != Value.ref C) [.ref C, .type "object"]).drop 1 = [.type "object"] := by simp
  unfold Builtin.«super.__getattribute__»
  (repeat ((fail_if_success (with_reducible show wpAny _ _ (forIn _ _ _) _ _ _)); (first | (with_reducible refine ks_wpAny_notOpaque l2 ?_) | walk_at "cs")))
  show wpAny _ _ (forIn ((List.dropWhile (fun x => x != Value.ref C) [.ref C, .type "object"]).drop 1) _ _) _ _ _
  rw [e1, List.forIn_cons]
  have l3 := co_obj (prog := prog) (w := w) (h := h)
  have l4 : Looks (model prog w) h (typeOf (.builtin "object.__init_subclass__")) (.type "classmethod_descriptor") := pk (by kernel_rfl)
  have l5 : typeLookup (.type "classmethod_descriptor") (Str.ofString "__get__") = pure (some (.builtin "classmethod_descriptor.__get__")) := by rw [typeLookup_type, builtinLookup_eq_fast]; kernel_rfl
  have e2 : (Value.ref C == Value.ref C) = true := by simp
  (repeat ((fail_if_success (with_reducible show wpAny _ _ (call _ _) _ _ _)); (first | walk_at "cs")))
  show wpAny _ _ (call _ [.builtin "object.__init_subclass__", if (Value.ref C == Value.ref C) = true then .none else .ref C, .ref C]) _ _ _
  rw [if_pos e2]
  refine call_cmget hd0 hu0 hC hN ?_
  rintro h' b tk' D
  (repeat (walk_at "cs"))
  exact hq _ _ _ D
theorem ga_sup {C nsA so : Addr} {b : Bool} {sn : List Str} {sl : Array (Option Value)} {es : Array DictEntry} {n : Nat} {Q : Value → Shared → Prop} (hd0 : A.depth + 22 < recursionLimit) (hu0 : A.units + 260 < cLine)
    (hC : h.get? C = some (clK C nsA b [.ref C, .type "object"] sn sl)) (hN : h.get? nsA = some ⟨.type "dict", none, .dict es n, #[]⟩) (hso : h.get? so = some (supO C))
    (l0 : Looks (model prog w) h anyOpaqueLoaded false) (hq : ∀ h' b tk', PySem.W.X.Mem h h' [] [(b, bmO C)] → Q (.ref b) ⟨h', g, d, tk', os⟩) :
    wpAny (model prog w) A (getAttr (.ref so) (Str.ofString "__init_subclass__")) Q E ⟨h, g, d, t, os⟩ := by
  have hlk := F.ks_slot_super_ga.lookup
  have hT : ∀ t', (⟨h, g, d, t', os⟩ : Shared).TypeIs (.ref so) "super" := fun _ => ⟨_, hso, rfl⟩
  unfold getAttr getAttrBy
  refine wpAny_bind (wpAny_mkText (wpAny_holding (wpAny_bind (wpAny_typeOf (hT _) (wpAny_bind (wpAny_of_eq hlk ?_))))))
  show wpAny _ _ (getAttrByItsOwn (.ref so) (.str (Str.ofString "__init_subclass__") t) (.type "super") (.builtin "super.__getattribute__") true false) _ _ _
  unfold getAttrByItsOwn hookBefore callGetattribute boundAndCalled
  refine wpAny_bind (wpAny_of_eq (show (if onTheHeap (.type "super") then typeLookup (.type "super") "__getattr__" else pure none) = pure none from rfl) ?_)
  refine wpAny_bind (wpAny_attempt (wpAny_holding ?_))
  show wpAny _ _ (bindSpecial (.builtin "super.__getattribute__") (.ref so) >>= _) _ _ _
  refine wpAny_bind (wpAny_of_eq (F.ks_slot_super_ga.bind _) ?_)
  refine wpAny_mono (Q := fun v s' => ∃ h' b tk', PySem.W.X.Mem h h' [] [(b, bmO C)] ∧ v = .ref b ∧ s' = ⟨h', g, d, tk', os⟩) (E := fun _ _ => False)
    (wpAny_call_entry F.ks_slot_super_ga (hT _) F.ks_entry_super_ga (sup_ga (by first | exact hd0 | (show A.depth + _ < _; lia) | (simp only [Around.in1]; lia)) (by first | exact hu0 | (show A.units + _ < _; lia) | (simp only [Around.in1]; lia)) hC hN hso l0 fun h' b tk' D => ⟨_, rfl, h', b, tk', D, rfl, rfl⟩) (F.ks_gaArgs_super _ _)) (fun v s' hv => ?_) fun _ _ z => z.elim
  obtain ⟨h', b, tk', D, rfl, rfl⟩ := hv
  exact wpAny_pure (hq h' b tk' D)
end
end Mine
end
example (h : False) {prog : PySem.Program} {w : PySem.World} {A : PySem.Around} {Q E : PySem.Value → PySem.Shared → Prop} {s : PySem.Shared} {env : PySem.Env} {at0 : PySem.Pos} : PySem.wpAny (PySem.model prog w) A (PySem.eval (.Constant .none 0 at0) env) Q E s := by
  w_top off
  first | (walk1; fail) | exact h.elim
section
open PySem PySem.W PyProof.Rows PySem.Calls
set_option maxRecDepth 100000
namespace Mine
open PySem.Builtin
section
variable {prog : Program} {w : World} {A : Around} {E : Value → Shared → Prop} {h : Heap} {g : Array GenState} {d : Drawn} {t : Nat} {os : OsState}
set_option maxHeartbeats 4000000 in
theorem tnew {bT nsA sl fI fL fG fE fLe fGe st : Addr} {k : Nat → Int} {u : Nat → Tok} {t0 u1 : Tok} {n1 : Nat} {P : Fin → Shared → Prop} (hb : h.get? bT = some ⟨.type "tuple", none, .seq #[.type "object"] 0, #[]⟩)
   (hn : h.get? nsA = some ⟨.type "dict", none, .dict (kes k u sl fI fL fG fE fLe fGe st) 12, #[]⟩) (hs : h.get? sl = some ⟨.type "list", none, .seq #[.str (Str.ofString "obj") u1] n1, #[]⟩) (hlo : (nsA == sysModules) = false)
   (hd0 : A.depth + 40 < recursionLimit) (hu0 : A.units + 400 < cLine) (c1 : ClsAt h fI "function") (c2 : ClsAt h fL "function") (c3 : ClsAt h fG "function") (c4 : ClsAt h fE "function") (c5 : ClsAt h fLe "function") (c6 : ClsAt h fGe "function") (c7 : ClsAt h st "tuple") (l0 : Looks (model prog w) h anyOpaqueLoaded false)
   (hq : ∀ h' C ns md i1 t1 i2 t2 tk, (∀ b o, h.get? b = some o → h'.get? b = some o) → h.get? C = none → h.get? ns = none → h.get? md = none → ns ≠ C → md ≠ C → md ≠ ns →
      h'.get? C = some (clK C ns false [.ref C, .type "object"] [Str.ofString "obj"] #[some (.ref bT), none, some (.str (Str.ofString "K") t0), some (.str (Str.ofString "cmp_to_key.<locals>.K") (u 3)), some (.builtin "object.__new__"), some (.bool false)]) →
      h'.get? ns = some ⟨.type "dict", none, .dict (kes3 k u sl fI fL fG fE fLe fGe st i1 t1 md i2 t2) 3, #[]⟩ → h'.get? md = some (mdK C t) → P (.done (.ret (.ref C))) ⟨h', g, d, tk, os⟩) :
  wpAny (model prog w) A (Builtin.«type.__new__» ⟨[.type "type", .str (Str.ofString "K") t0, .ref bT, .ref nsA], []⟩) P E ⟨h, g, d, t, os⟩ := by
  generalize Mine.clo = hCl
  revert prog w A E h g d t os bT nsA sl fI fL fG fE fLe fGe st k u t0 u1 n1 P
  intro prog w A E h g d t os bT nsA sl fI fL fG fE fLe fGe st k u t0 u1 n1 P hb hn hs hlo hd0 hu0 c1 c2 c3 c4 c5 c6 c7 l0 hq
  have l1 : Looks (model prog w) h (isInstance (.ref bT) (.type "tuple")) true := (Looks.andThen (f := fun t => isSubtype t (.type "tuple")) ((Looks.ld hb).andThen .now) (pk (by kernel_rfl)))
  have l2 : Looks (model prog w) h (isInstance (.ref nsA) (.type "dict")) true := (Looks.andThen (f := fun t => isSubtype t (.type "dict")) ((Looks.ld hn).andThen .now) (pk (by kernel_rfl)))
  have l3 : Looks (model prog w) h (seqItems? (.ref bT)) (some #[.type "object"]) := (Looks.ld (part := none) hb).andThen .now
  have l4 : Looks (model prog w) h (isType (.type "object")) true := pk (by kernel_rfl)
  have l5 : Looks (model prog w) h (typeOf (.type "object")) (.type "type") := pk (by kernel_rfl)
  have l6 : Looks (model prog w) h (isSubtype (.type "type") (.type "type")) true := pk (by kernel_rfl)
  have l7 : Looks (model prog w) h (notOverATurnedClass [.type "object"]) () := pk (by kernel_rfl)
  have l8 : Looks (model prog w) h (extendedBase [.type "object"]) (.type "object") := pk (by kernel_rfl)
  have l9 : Looks (model prog w) h (specialOf (.ref nsA) (Str.ofString "__iter__")) (some (.builtin "dict.__iter__")) := (Looks.andThen (f := fun t => typeLookup t (Str.ofString "__iter__")) ((Looks.ld hn).andThen .now) (pk (by kernel_rfl)))
  have l10 : Looks (model prog w) h (dictEntries nsA) (kes k u sl fI fL fG fE fLe fGe st) := (Looks.ld hn).andThen .now
  unfold Builtin.«type.__new__»
  (repeat ((fail_if_success (with_reducible show wpAny _ _ (Slots.read _ _ _) _ _ _)); (first | ((with_reducible show wpAny _ _ (notOverATurnedClass _) _ _ _); refine Looks.at (t := notOverATurnedClass [.type "object"]) l7 ?_) | ((with_reducible show wpAny _ _ (extendedBase _) _ _ _); refine Looks.at (t := extendedBase [.type "object"]) l8 ?_) | walk_at "cs")))
  have eb : (if ((some #[Value.type "object"]).getD #[]).toList.isEmpty = true then [Value.type "object"] else ((some #[Value.type "object"]).getD #[]).toList) = [.type "object"] := rfl
  generalize hbs : (if ((some #[Value.type "object"]).getD #[]).toList.isEmpty = true then [Value.type "object"] else ((some #[Value.type "object"]).getD #[]).toList) = bs
  have ebs : bs = [.type "object"] := hbs.symm.trans eb
  subst ebs
  refine slots_read hs ?_
  rintro h1 K1
  refine wpAny_bind (al2 rfl (by show 12 ≤ sizeLine + 1; rw [sizeLine_eq]; decide) ?_)
  rintro ns h2 K2 hN zN z2
  have K2' : ∀ b o, h.get? b = some o → h2.get? b = some o := fun b o e => K2 b o (K1 b o e)
  clear l1 l2 l3 l4 l5 l6 l7 l8 l9 l10
  have e1 : (!(kes k u sl fI fL fG fE fLe fGe st).any fun x => x.key.isStr (Str.ofString "__module__")) = false := by kernel_rfl
  have e2 : ((Str.ofString "K").cps.any fun c => decide (55296 ≤ c) && decide (c ≤ 57343)) = false := by decide +kernel
  have e3 : (Str.ofString "K").cps.contains 0 = false := by decide +kernel
  (repeat (first | walk_at "cs" | ((with_reducible show wpAny _ _ (nsGet _ _) _ _ _); refine ng hN (by kernel_rfl) ?_)))
  refine al rfl ?_
  rintro C h3 K3 hC zC z3
  have hN := K3 _ _ hN
  have K3' : ∀ b o, h.get? b = some o → h3.get? b = some o := fun b o e => K3 b o (K2' b o e)
  have hCN : ns ≠ C := by rw [zN, zC]; exact Nat.ne_of_lt (by rw [z2]; exact Nat.lt_succ_self _)
  clear e1 e2 e3 K2 K3
  (repeat ((fail_if_success (with_reducible show wpAny _ _ (updatePart _ _ _) _ _ _)); (first | walk_at "cs")))
  refine up (o' := ⟨.type "type", none, .cls ⟨Str.ofString "K", [.type "object"], [], ns, Str.ofString "cmp_to_key.<locals>.K", true, [], [], false, none, false⟩, #[some (.ref bT)]⟩) hC rfl rfl ?_
  rintro h4 K4 hC z4
  have hN := K4 _ _ hCN hN
  (repeat ((fail_if_success (with_reducible show wpAny _ _ (updatePart _ _ _) _ _ _)); (first | walk_at "cs")))
  refine up (o' := ⟨.type "type", none, .cls ⟨Str.ofString "K", [.type "object"], [], ns, Str.ofString "cmp_to_key.<locals>.K", true, [], [], false, none, false⟩, #[some (.ref bT), none, some (.str (Str.ofString "K") t0)]⟩) hC rfl rfl ?_
  rintro h5 K5 hC z5
  have hN := K5 _ _ hCN hN
  (repeat ((fail_if_success (with_reducible show wpAny _ _ (updatePart _ _ _) _ _ _)); (first | walk_at "cs")))
  refine up (o' := ⟨.type "type", none, .cls ⟨Str.ofString "K", [.type "object"], [], ns, Str.ofString "cmp_to_key.<locals>.K", true, [], [], false, none, false⟩, #[some (.ref bT), none, some (.str (Str.ofString "K") t0), some (.str (Str.ofString "cmp_to_key.<locals>.K") (u 3))]⟩) hC rfl rfl ?_
  rintro h6 K6 hC z6
  have hN := K6 _ _ hCN hN
  (repeat ((fail_if_success (with_reducible show wpAny _ _ (updatePart _ _ _) _ _ _)); (first | walk_at "cs")))
  refine up (o' := ⟨.type "dict", none, .dict (kes1 k u sl fI fL fG fE fLe fGe st) 1, #[]⟩) hN (by kernel_rfl) rfl ?_
  rintro h7 K7 hN z7
  have hC := K7 _ _ (Ne.symm hCN) hC
  have nb : ∀ b o, h.get? b = some o → b ≠ C ∧ b ≠ ns := fun b o e => ⟨by rw [zC]; exact Nat.ne_of_lt (Heap.lt_size (K2' b o e)), by rw [zN]; exact Nat.ne_of_lt (Heap.lt_size (K1 b o e))⟩
  have K7' : ∀ b o, h.get? b = some o → h7.get? b = some o := fun b o e => K7 b o (nb b o e).2 (K6 b o (nb b o e).1 (K5 b o (nb b o e).1 (K4 b o (nb b o e).1 (K3' b o e))))
  have m1 : Looks (model prog w) h7 (mroHook? (.type "type")) none := pk (by kernel_rfl)
  have m2 : Looks (model prog w) h7 (linearize [.type "object"] mroOf) [.type "object"] := pk (by kernel_rfl)
  have m3 : ∀ h, Looks (model prog w) h (Bind.madeBy (.type "object")) (some "object.__new__") := fun _ => pk (by kernel_rfl)
  have m4 : ∀ h, Looks (model prog w) h (Slots.givesWeak (.type "object")) false := fun _ => pk (by kernel_rfl)
  have m5 : ∀ h, Looks (model prog w) h (Slots.givesDict (.type "object")) false := fun _ => pk (by kernel_rfl)
  have m6 : ∀ h, Looks (model prog w) h (noteSubclassOfBuiltin "object" C) () := fun _ => pk (by kernel_rfl)
  have m7 : ∀ h, Looks (model prog w) h (classOwn (.type "object") (Str.ofString "__new__")) (some (.builtin "object.__new__")) := fun _ => pk (by kernel_rfl)
  clear K1 K2' K3' K4 K5 K6 K7
  (repeat ((fail_if_success (with_reducible show wpAny _ _ (updatePart _ _ _) _ _ _)); (fail_if_success (with_reducible show wpAny _ _ (update _ _) _ _ _)); (first | ((with_reducible show wpAny _ _ (linearize _ _) _ _ _); refine Looks.at (t := linearize [.type "object"] mroOf) m2 ?_) | walk_at "cs")))
  have ef : List.filter (fun x => x != Value.ref C) [Value.ref C, Value.type "object"] = [Value.type "object"] := by simp
  rw [ef]
  refine Looks.at (h := h7) (r := false) ?_ ?_
  · exact pk (by kernel_rfl)
  (repeat ((fail_if_success (with_reducible show wpAny _ _ (updatePart _ _ _) _ _ _)); (fail_if_success (with_reducible show wpAny _ _ (update _ _) _ _ _)); (first | walk_at "cs")))
  refine upW (o' := clK C ns true [.ref C, .type "object"] [] #[some (.ref bT), none, some (.str (Str.ofString "K") t0), some (.str (Str.ofString "cmp_to_key.<locals>.K") (u 3))]) hC (by kernel_rfl) rfl ?_
  rintro h8 K8 hC z8
  have hN := K8 _ _ hCN hN
  (repeat ((fail_if_success (with_reducible show wpAny _ _ (updatePart _ _ _) _ _ _)); (fail_if_success (with_reducible show wpAny _ _ (update _ _) _ _ _)); (first | with_reducible refine Looks.at (m3 _) ?_ | walk_at "cs")))
  refine up (o' := clK C ns true [.ref C, .type "object"] [] #[some (.ref bT), none, some (.str (Str.ofString "K") t0), some (.str (Str.ofString "cmp_to_key.<locals>.K") (u 3)), some (.builtin "object.__new__")]) hC rfl rfl ?_
  rintro h9 K9 hC z9
  have hN := K9 _ _ hCN hN
  (repeat ((fail_if_success (with_reducible show wpAny _ _ (updatePart _ _ _) _ _ _)); (fail_if_success (with_reducible show wpAny _ _ (update _ _) _ _ _)); (first | with_reducible refine Looks.at (m3 _) ?_ | with_reducible refine Looks.at (m7 _) ?_ | walk_at "cs")))
  refine Looks.at (clk_up (r := some (.builtin "object.__new__")) hC hN (by kernel_rfl) (by kernel_rfl)) ?_
  have f1 : (!"object.__new__".endsWith ".__new__") = false := by decide +kernel
  (repeat ((fail_if_success (with_reducible show wpAny _ _ (updatePart _ _ _) _ _ _)); (fail_if_success (with_reducible show wpAny _ _ (newObj _ _) _ _ _));  (first | with_reducible refine Looks.at (m5 _) ?_ | walk_at "cs")))
  have lC := Heap.lt_size hC
  have lN := Heap.lt_size hN
  have K9' : ∀ b o, h.get? b = some o → h9.get? b = some o := fun b o e => K9 b o (nb b o e).1 (K8 b o (nb b o e).1 (K7' b o e))
  have nm : ∀ o, h.get? h9.objs.size ≠ some o := fun o e => absurd (Heap.lt_size (K9' _ _ e)) (Nat.lt_irrefl _)
  refine al2 rfl (by show 5 ≤ sizeLine + 2; rw [sizeLine_eq]; decide) ?_
  rintro md h10 K10 hM zM z10
  have hN := K10 _ _ hN
  have hC := K10 _ _ hC
  have hM : h10.get? md = some (mdK C t) := hM
  (repeat ((fail_if_success (with_reducible show wpAny _ _ (nsSet _ _ _) _ _ _)); (first | with_reducible refine Looks.at (m5 _) ?_ | walk_at "cs")))
  refine Mine.ns (F := fun i t1 => ⟨.type "dict", none, .dict (kes2 k u sl fI fL fG fE fLe fGe st i t1 md) 2, #[]⟩) hN (by kernel_rfl) (fun _ _ => by kernel_rfl) (fun _ _ => rfl) ?_
  rintro h11 i1 K11 hN z11
  have hC := K11 _ _ (Ne.symm hCN) hC
  have hMN : md ≠ ns := by rw [zM]; exact Nat.ne_of_gt lN
  have hMC : md ≠ C := by rw [zM]; exact Nat.ne_of_gt lC
  have hM := K11 _ _ hMN hM
  (repeat ((fail_if_success (with_reducible show wpAny _ _ (updatePart _ _ _) _ _ _)); (fail_if_success (with_reducible show wpAny _ _ (update _ _) _ _ _)); (first | with_reducible refine Looks.at (m5 _) ?_ | walk_at "cs")))
  refine upW (o' := clK C ns false [.ref C, .type "object"] [Str.ofString "obj"] #[some (.ref bT), none, some (.str (Str.ofString "K") t0), some (.str (Str.ofString "cmp_to_key.<locals>.K") (u 3)), some (.builtin "object.__new__")]) hC (by kernel_rfl) rfl ?_
  rintro h12 K12 hC z12
  have hN := K12 _ _ hCN hN
  have hM := K12 _ _ hMC hM
  (repeat ((fail_if_success (with_reducible show wpAny _ _ (updatePart _ _ _) _ _ _)); (fail_if_success (with_reducible show wpAny _ _ (update _ _) _ _ _)); (first | with_reducible refine Looks.at (m4 _) ?_ | walk_at "cs")))
  refine up (o' := clK C ns false [.ref C, .type "object"] [Str.ofString "obj"] #[some (.ref bT), none, some (.str (Str.ofString "K") t0), some (.str (Str.ofString "cmp_to_key.<locals>.K") (u 3)), some (.builtin "object.__new__"), some (.bool false)]) hC rfl rfl ?_
  rintro h13 K13 hC z13
  have hN := K13 _ _ hCN hN
  have hM := K13 _ _ hMC hM
  (repeat ((fail_if_success (with_reducible show wpAny _ _ (nsSet _ _ _) _ _ _)); (first | with_reducible refine Looks.at (m4 _) ?_ | walk_at "cs")))
  refine Mine.ns (F := fun i t1 => ⟨.type "dict", none, .dict (kes3 k u sl fI fL fG fE fLe fGe st i1 (t + 1) md i t1) 3, #[]⟩) hN (by kernel_rfl) (fun _ _ => by kernel_rfl) (fun _ _ => rfl) ?_
  rintro h14 i2 K14 hN z14
  have hC := K14 _ _ (Ne.symm hCN) hC
  have hM := K14 _ _ hMN hM
  have K14' : ∀ b o, h.get? b = some o → h14.get? b = some o := fun b o e => K14 b o (nb b o e).2 (K13 b o (nb b o e).1 (K12 b o (nb b o e).1 (K11 b o (nb b o e).2 (K10 b o (K9' b o e)))))
  clear hn hb
  replace c1 := ClsAt.special (M := model prog w) (name := Str.ofString "__set_name__") (r := none) (c1.keeps K14') (by rw [typeLookup_type, builtinLookup_eq_fast]; kernel_rfl)
  replace c2 := ClsAt.special (M := model prog w) (name := Str.ofString "__set_name__") (r := none) (c2.keeps K14') (by rw [typeLookup_type, builtinLookup_eq_fast]; kernel_rfl)
  replace c3 := ClsAt.special (M := model prog w) (name := Str.ofString "__set_name__") (r := none) (c3.keeps K14') (by rw [typeLookup_type, builtinLookup_eq_fast]; kernel_rfl)
  replace c4 := ClsAt.special (M := model prog w) (name := Str.ofString "__set_name__") (r := none) (c4.keeps K14') (by rw [typeLookup_type, builtinLookup_eq_fast]; kernel_rfl)
  replace c5 := ClsAt.special (M := model prog w) (name := Str.ofString "__set_name__") (r := none) (c5.keeps K14') (by rw [typeLookup_type, builtinLookup_eq_fast]; kernel_rfl)
  replace c6 := ClsAt.special (M := model prog w) (name := Str.ofString "__set_name__") (r := none) (c6.keeps K14') (by rw [typeLookup_type, builtinLookup_eq_fast]; kernel_rfl)
  replace c7 := ClsAt.special (M := model prog w) (name := Str.ofString "__set_name__") (r := none) (c7.keeps K14') (by rw [typeLookup_type, builtinLookup_eq_fast]; kernel_rfl)
  have c8 := ClsAt.special (M := model prog w) (name := Str.ofString "__set_name__") (r := none) (T := "list") ⟨_, K14' _ _ hs, rfl⟩ (by rw [typeLookup_type, builtinLookup_eq_fast]; kernel_rfl)
  have c9 := ClsAt.special (M := model prog w) (name := Str.ofString "__set_name__") (r := none) (T := "member_descriptor") ⟨_, hM, rfl⟩ (by rw [typeLookup_type, builtinLookup_eq_fast]; kernel_rfl)
  have c10 : ∀ (x : Str) (t : Tok), Looks (model prog w) h14 (specialOf (.str x t) (Str.ofString "__set_name__")) none := fun _ _ => pk (by kernel_rfl)
  have c11 : ∀ (x : Int) (t : Tok), Looks (model prog w) h14 (specialOf (.int x t) (Str.ofString "__set_name__")) none := fun _ _ => pk (by kernel_rfl)
  have c12 : Looks (model prog w) h14 (specialOf .none (Str.ofString "__set_name__")) none := pk (by kernel_rfl)
  (repeat ((fail_if_success (with_reducible show wpAny _ _ (forIn (kes3 _ _ _ _ _ _ _ _ _ _ _ _ _ _ _) _ _) _ _ _)); (first | ((with_reducible show wpAny _ _ (Sem.tryCatch _ _) _ _ _); refine wpAny_tryCatch ?_) | with_reducible refine Looks.at (m6 _) ?_ | with_reducible refine Looks.at (c10 _ _) ?_ | with_reducible refine Looks.at (c11 _ _) ?_ | walk_at "cs")))
  refine loop_skip ?_ ?_
  · rintro e he Q' hQ'
    obtain ⟨x, tx, ex⟩ : ∃ x tx, e.key = .str x tx := by
      revert e
      simp only [kes3, List.forall_mem_cons]
      exact ⟨⟨_, _, rfl⟩, ⟨_, _, rfl⟩, ⟨_, _, rfl⟩, ⟨_, _, rfl⟩, ⟨_, _, rfl⟩, ⟨_, _, rfl⟩, ⟨_, _, rfl⟩, ⟨_, _, rfl⟩, ⟨_, _, rfl⟩, ⟨_, _, rfl⟩, ⟨_, _, rfl⟩, ⟨_, _, rfl⟩, ⟨_, _, rfl⟩, fun _ h => nomatch h⟩
    rw [ex]
    (repeat (walk_at "cs"))
    exact hQ'
  (repeat ((fail_if_success (with_reducible show wpAny _ _ (forIn (kes3 _ _ _ _ _ _ _ _ _ _ _ _ _ _ _) _ _) _ _ _)); (first | ((with_reducible show wpAny _ _ (Sem.tryCatch _ _) _ _ _); refine wpAny_tryCatch ?_) | with_reducible refine Looks.at (m6 _) ?_ | with_reducible refine Looks.at (c10 _ _) ?_ | with_reducible refine Looks.at (c11 _ _) ?_ | walk_at "cs")))
  have cA : ∀ e ∈ (kes3 k u sl fI fL fG fE fLe fGe st i1 (t + 1) md i2 (t + 1 + 1)).toList, laidUnderItsOwnName e.key e.val = false ∧ Looks (model prog w) h14 (specialOf e.val (Str.ofString "__set_name__")) none := by
    simp only [kes3, List.forall_mem_cons]
    exact ⟨⟨by kernel_rfl, c10 _ _⟩, ⟨by kernel_rfl, c11 _ _⟩, ⟨by kernel_rfl, c8⟩, ⟨by kernel_rfl, c1⟩, ⟨by kernel_rfl, c2⟩, ⟨by kernel_rfl, c3⟩, ⟨by kernel_rfl, c4⟩, ⟨by kernel_rfl, c5⟩, ⟨by kernel_rfl, c6⟩, ⟨by kernel_rfl, c12⟩, ⟨by kernel_rfl, c7⟩, ⟨by kernel_rfl, c9⟩, ⟨by kernel_rfl, c12⟩, fun _ h => nomatch h⟩
  refine loop_skip ?_ ?_
  · rintro e he Q' hQ'
    obtain ⟨a1, a2⟩ := cA e he
    (repeat (walk_at "cs"))
    exact hQ'
  clear cA c1 c2 c3 c4 c5 c6 c7 c8 c9 c10 c11 c12
  (repeat ((fail_if_success (with_reducible show wpAny _ _ (call _ _) _ _ _)); (first | walk_at "cs")))
  have hsub : Looks (model prog w) h14 (isSubtype (.ref C) (.ref C)) true := by
    intro A Q E s k q
    unfold isSubtype
    refine wpAny_bind ((Looks.andThen (f := fun cd : ClassData => pure cd.mro) ((Looks.ld (part := none) hC).andThen .now) .now) A _ E s k ?_)
    show wpAny _ _ (if ([Value.ref C, Value.type "object"].isEmpty) = true then _ else pure ([Value.ref C, Value.type "object"].contains (.ref C))) _ _ _
    rw [if_neg (by simp)]
    exact wpAny_pure (by simpa using q)
  refine call_super hC rfl hsub ?_
  rintro h15 hso K15
  have hC := K15 _ _ hC
  have hN := K15 _ _ hN
  have hM := K15 _ _ hM
  refine wpAny_bind (wpAny_holding (ga_sup (by lia) (by lia) hC hN hso (l0.keeps fun b o e => K15 b o (K14' b o e)) ?_))
  rintro h16 bm tk D
  have K16 : ∀ b o, h15.get? b = some o → h16.get? b = some o := fun b o e => D.keep b o e (by simp [PySem.W.X.away])
  have hC := K16 _ _ hC
  have hN := K16 _ _ hN
  have hM := K16 _ _ hM
  refine wpAny_bind (call_bm (s := ⟨h16, g, d, tk, os⟩) (by lia) (by lia) hC hN (D.at 0 _ _ rfl) ?_)
  rintro h17 nw tk2 v D2
  have K17 : ∀ b o, h16.get? b = some o → h17.get? b = some o := fun b o e => D2.keep b o e (by simp [PySem.W.X.away])
  have hC := K17 _ _ hC
  have hN := K17 _ _ hN
  have hM := K17 _ _ hM
  refine wpAny_pure (wpAny_pure ?_)
  refine hq h17 C ns md i1 (t + 1) i2 (t + 1 + 1) tk2 (fun b o e => K17 b o (K16 b o (K15 b o (K14' b o e)))) ?_ ?_ ?_ (Ne.symm hCN |>.symm) hMC hMN hC hN hM
  · cases e : h.get? C with
    | none => rfl
    | some o => exact absurd rfl (nb _ _ e).1
  · cases e : h.get? ns with
    | none => rfl
    | some o => exact absurd rfl (nb _ _ e).2
  · cases e : h.get? md with
    | none => rfl
    | some o => exact absurd (zM ▸ e) (nm o)
end
end Mine
end
example (h : False) {prog : PySem.Program} {w : PySem.World} {A : PySem.Around} {Q E : PySem.Value → PySem.Shared → Prop} {s : PySem.Shared} {env : PySem.Env} {at0 : PySem.Pos} : PySem.wpAny (PySem.model prog w) A (PySem.eval (.Constant .none 0 at0) env) Q E s := by
  w_top off
  first | (walk1; fail) | exact h.elim
section
open PySem PySem.W PyProof.Rows PySem.Calls PySem.Builtin
set_option maxRecDepth 100000
namespace Mine
theorem tn_plain : plainId "type.__new__" = true := by decide +kernel
theorem tn_entry : entryFor table "type.__new__" = some Builtin.«type.__new__» := entryFor_of_tree (by kernel_rfl)
theorem tn_check (a b : Addr) (x : Str) (t : Tok) : checkBuiltinCall "type.__new__" ⟨[.type "type", .str x t, .ref a, .ref b], []⟩ = pure () := by kernel_rfl
theorem ti_slot : Slot "type" "__init__" "type.__init__" := .of (owner := "type") (n := "__init__") (by rw [typeLookup_type, builtinLookup_eq_fast]; kernel_rfl) (by decide +kernel) (by decide +kernel) (by decide +kernel)
  (by first | exact .inl (by decide +kernel) | exact .inr (by decide +kernel)) (by rw [isSubtype_type]; kernel_rfl)
theorem ti_entry : entryFor table "type.__init__" = some Builtin.«type.__init__» := entryFor_of_tree (by kernel_rfl)
theorem ti_args (o a b c : Value) : argsOk "type.__init__" ⟨[o, a, b, c], []⟩ := by unfold argsOk; kernel_rfl
section
variable {prog : Program} {w : World} {A : Around} {E : Value → Shared → Prop} {h : Heap} {g : Array GenState} {d : Drawn} {t : Nat} {os : OsState}
set_option maxHeartbeats 4000000 in
theorem tcall {bT nsA sl fI fL fG fE fLe fGe st : Addr} {k : Nat → Int} {u : Nat → Tok} {t0 u1 : Tok} {n1 : Nat} {Q : Value → Shared → Prop} (hb : h.get? bT = some ⟨.type "tuple", none, .seq #[.type "object"] 0, #[]⟩)
   (hn : h.get? nsA = some ⟨.type "dict", none, .dict (kes k u sl fI fL fG fE fLe fGe st) 12, #[]⟩) (hs : h.get? sl = some ⟨.type "list", none, .seq #[.str (Str.ofString "obj") u1] n1, #[]⟩) (hlo : (nsA == sysModules) = false)
   (hd0 : A.depth + 45 < recursionLimit) (hu0 : A.units + 500 < cLine) (c1 : ClsAt h fI "function") (c2 : ClsAt h fL "function") (c3 : ClsAt h fG "function") (c4 : ClsAt h fE "function") (c5 : ClsAt h fLe "function") (c6 : ClsAt h fGe "function") (c7 : ClsAt h st "tuple") (l0 : Looks (model prog w) h anyOpaqueLoaded false)
   (hq : ∀ h' C ns md i1 t1 i2 t2 tk, (∀ b o, h.get? b = some o → h'.get? b = some o) → h.get? C = none → h.get? ns = none → h.get? md = none → ns ≠ C → md ≠ C → md ≠ ns →
      h'.get? C = some (clK C ns false [.ref C, .type "object"] [Str.ofString "obj"] #[some (.ref bT), none, some (.str (Str.ofString "K") t0), some (.str (Str.ofString "cmp_to_key.<locals>.K") (u 3)), some (.builtin "object.__new__"), some (.bool false)]) →
      h'.get? ns = some ⟨.type "dict", none, .dict (kes3 k u sl fI fL fG fE fLe fGe st i1 t1 md i2 t2) 3, #[]⟩ → h'.get? md = some (mdK C t) → Q (.ref C) ⟨h', g, d, tk, os⟩) :
  wpAny (model prog w) A (call (.type "type") [.str (Str.ofString "K") t0, .ref bT, .ref nsA]) Q E ⟨h, g, d, t, os⟩ := by
  generalize Mine.clo = hCl
  revert prog w A E h g d t os bT nsA sl fI fL fG fE fLe fGe st k u t0 u1 n1 Q
  intro prog w A E h g d t os bT nsA sl fI fL fG fE fLe fGe st k u t0 u1 n1 Q hb hn hs hlo hd0 hu0 c1 c2 c3 c4 c5 c6 c7 l0 hq
  have l1 : Looks (model prog w) h (mroOf (.type "type")) [.type "type", .type "object"] := pk (by kernel_rfl)
  have l2 : Looks (model prog w) h (Bind.madeBy (.type "type")) (some "type.__new__") := pk (by kernel_rfl)
  refine wpAny_call (codeAny_of_tree ?_)
  show wpAny _ _ (callAny (.type "type") _) _ _ _
  refine wpAny_pure ⟨Code.quiet_builtin _ (by decide +kernel), codeAny_builtin F.entry_type_call ?_⟩
  rw [Around.under_plain (weight_type_call_type "type" [.str (Str.ofString "K") t0, .ref bT, .ref nsA] []) rfl]
  unfold Builtin.«type.__call__»
  (repeat ((fail_if_success (with_reducible show wpAny _ _ (call _ _) _ _ _)); (first | walk_at "cs")))
  refine wpAny_call (codeAny_of_tree ?_)
  show wpAny _ _ (do checkBuiltinCall "type.__new__" ⟨[.type "type", .str (Str.ofString "K") t0, .ref bT, .ref nsA], []⟩; again (.builtin "type.__new__" ⟨[.type "type", .str (Str.ofString "K") t0, .ref bT, .ref nsA], []⟩)) _ _ _
  refine wpAny_bind (wpAny_of_eq (tn_check _ _ _ _) (wpAny_pure ⟨plainId_quiet tn_plain _, codeAny_builtin tn_entry ?_⟩))
  rw [Around.under_plainId tn_plain _]
  refine tnew hb hn hs hlo (by simp only [Around.in1]; lia) (by simp only [Around.in1]; lia) c1 c2 c3 c4 c5 c6 c7 l0 ?_
  rintro h' C ns md i1 t1 i2 t2 tk K a1 a2 a3 b1 b2 b3 hC hN hM
  have m1 : Looks (model prog w) h' (isInstance (.ref C) (.type "type")) true := (Looks.andThen (f := fun t => isSubtype t (.type "type")) ((Looks.ld hC).andThen .now) (pk (by kernel_rfl)))
  have m2 : Looks (model prog w) h' (specialOf (.ref C) (Str.ofString "__init__")) (some (.builtin "type.__init__")) := (Looks.andThen (f := fun t => typeLookup t (Str.ofString "__init__")) ((Looks.ld hC).andThen .now) (Looks.of_pure ti_slot.lookup))
  have m3 := ti_slot.bind (.ref C)
  (repeat ((fail_if_success (with_reducible show wpAny _ _ (call _ _) _ _ _)); (first | walk_at "cs")))
  show wpAny _ _ (call (.builtin "type.__init__") [.ref C, .str (Str.ofString "K") t0, .ref bT, .ref nsA]) _ _ _
  refine wpAny_call_entry ti_slot ⟨_, hC, rfl⟩ ti_entry ?_ (ti_args _ _ _ _)
  unfold Builtin.«type.__init__»
  (repeat ((fail_if_success (with_reducible show wpAny _ _ (call _ _) _ _ _)); (first | walk_at "cs")))
  refine ⟨_, rfl, ?_⟩
  (repeat ((fail_if_success (with_reducible show wpAny _ _ (call _ _) _ _ _)); (first | walk_at "cs")))
  exact hq h' C ns md i1 t1 i2 t2 tk K a1 a2 a3 b1 b2 b3 hC hN hM
end
end Mine
end
example (h : False) {prog : PySem.Program} {w : PySem.World} {A : PySem.Around} {Q E : PySem.Value → PySem.Shared → Prop} {s : PySem.Shared} {env : PySem.Env} {at0 : PySem.Pos} : PySem.wpAny (PySem.model prog w) A (PySem.eval (.Constant .none 0 at0) env) Q E s := by
  w_top off
  first | (walk1; fail) | exact h.elim
section
open PySem PySem.W PyProof.Rows PySem.Calls
set_option maxRecDepth 100000
set_option linter.unusedSectionVars false
namespace Mine

noncomputable def CodeO (O : Addr → Prop) (h : Heap) (cv : Value) (q : Str) : Prop := ∃ c o vs t, cv = .ref c ∧ O c ∧ h.get? c = some o ∧ o.cls = .type "code" ∧ o.data = .fields vs ∧ vs[1]? = some (.str q t)
noncomputable def TabO (O : Addr → Prop) (L6 : List (Pos × Str)) (h : Heap) (P : Addr) : Prop := ∃ ps, O P ∧ h.get? P = some (tabObj ps) ∧ TriplesOk ps.toList ∧ ∀ x ∈ L6, ∀ v, codeAmong x.1 ps.toList = some v → CodeO O h v x.2
noncomputable def IsTab (o : Obj) : Prop := ∃ vs, o = tabObj vs ∧ TriplesOk vs.toList
theorem notTab_code {o : Obj} {vs : Array Value} {q : Str} {t : Tok} (hd : o.data = .fields vs) (hv : vs[1]? = some (.str q t)) : ¬ IsTab o := by
  rintro ⟨us, rfl, ht⟩
  have e : us = vs := by cases hd; rfl
  subst e
  obtain ⟨l⟩ := us
  rcases l with _ | ⟨a, _ | ⟨b, r⟩⟩
  · simp at hv
  · simp at hv
  · have hb : b = .str q t := by simpa using hv
    subst hb
    cases a <;> exact ht
theorem notTab_dict {o : Obj} {es : Array DictEntry} {n : Nat} (hd : o.data = .dict es n) : ¬ IsTab o := by rintro ⟨us, rfl, _⟩; cases hd
theorem notTab_cls {o : Obj} {T : String} (hd : o.cls = .type T) : ¬ IsTab o := by rintro ⟨us, rfl, _⟩; cases hd
/-- all but the object at a and the tables of code stays -/
noncomputable def KN (a : Addr) (h h' : Heap) : Prop := (∀ b o, b ≠ a → ¬ IsTab o → h.get? b = some o → h'.get? b = some o) ∧ (∀ b o, h.get? b = some o → ∃ o', h'.get? b = some o')
theorem KN.trans {a : Addr} {h h' h'' : Heap} (x : KN a h h') (y : KN a h' h'') : KN a h h'' := ⟨fun b o hb ht e => y.1 b o hb ht (x.1 b o hb ht e), fun b o e => let ⟨o', e'⟩ := x.2 b o e; y.2 b o' e'⟩
theorem KN.of_all {a : Addr} {h h' : Heap} (k : ∀ b o, h.get? b = some o → h'.get? b = some o) : KN a h h' := ⟨fun b o _ _ e => k b o e, fun b o e => ⟨o, k b o e⟩⟩
theorem KN.fresh {a b : Addr} {h h' : Heap} (x : KN a h h') (e : h'.get? b = none) : h.get? b = none := by
  cases q : h.get? b with
  | none => rfl
  | some o => obtain ⟨o', e'⟩ := x.2 b o q; rw [e] at e'; cases e'
theorem KN.ns {a b : Addr} {h h' : Heap} {m : Str → Option Value} (x : KN a h h') (hb : b ≠ a) (y : h.Ns b m) : h'.Ns b m := by
  obtain ⟨o, es, ep, e, hd, r⟩ := y
  exact ⟨o, es, ep, x.1 b o hb (notTab_dict hd) e, hd, r⟩
theorem CodeO.kn {O : Addr → Prop} {a : Addr} {h h' : Heap} {cv : Value} {q : Str} (k : KN a h h') (x : CodeO O h cv q) (ha : ∃ o, h.get? a = some o ∧ ∃ es n, o.data = .dict es n) : CodeO O h' cv q := by
  obtain ⟨c, o, vs, t, a1, a2, a3, a6, a4, a5⟩ := x
  obtain ⟨oa, ea, es, n, hd⟩ := ha
  refine ⟨c, o, vs, t, a1, a2, k.1 c o ?_ (notTab_code a4 a5) a3, a6, a4, a5⟩
  rintro q
  rw [q, ea] at a3; cases a3; rw [hd] at a4; cases a4

theorem triples_split {pos p0 : Pos} {c : Value} : ∀ (l : List Value), TriplesOk l → codeAmong p0 (l ++ [rawInt pos.line, rawInt pos.col, c]) = match codeAmong p0 l with | some v => some v | none => if (pos.line == p0.line && pos.col == p0.col) = true then some c else none := by
  intro l h
  fun_induction TriplesOk l with
  | case1 =>
    simp only [List.nil_append, codeAmong, rawInt]
    have e1 : ((pos.line : Int) == (p0.line : Int)) = (pos.line == p0.line) := by rw [Bool.eq_iff_iff]; simp only [beq_iff_eq]; lia
    have e2 : ((pos.col : Int) == (p0.col : Int)) = (pos.col == p0.col) := by rw [Bool.eq_iff_iff]; simp only [beq_iff_eq]; lia
    rw [e1, e2]
  | case2 a ta b tb d rest ih =>
    simp only [List.cons_append, codeAmong]
    split
    · rfl
    · exact ih h
  | case3 => exact h.elim

structure Glob (mg mb : Str → Option Value) (h : Heap) : Prop where
  g : h.Ns mainGlobals mg
  b : h.Ns builtinsNs mb
  nl : h.NoLimit
  bm : ∃ bm ob, mg "__builtins__" = some (.ref bm) ∧ bm ≠ builtinsNs ∧ h.get? bm = some ob ∧ ob.cls = .type "module" ∧ ob.dict = some builtinsNs ∧ ob.data = .plain
theorem Glob.kn {mg mb : Str → Option Value} {a : Addr} {h h' : Heap} (G : Glob mg mb h) (k : KN a h h') (ha : ∀ b o, h.get? b = some o → b = a → ∃ es n, o.cls = .type "dict" ∧ o.data = .dict es n) (h3 : a ≠ mainGlobals) (h0 : a ≠ builtinsNs) (h2 : a ≠ cStatics) : Glob mg mb h' where
  g := k.ns (Ne.symm h3) G.g
  b := k.ns (Ne.symm h0) G.b
  nl := let ⟨mc, x, y⟩ := G.nl; ⟨mc, k.ns (Ne.symm h2) x, y⟩
  bm := by
    obtain ⟨bm, ob, a1, a2, a3, a4, a5, a6⟩ := G.bm
    refine ⟨bm, ob, a1, a2, k.1 bm ob ?_ (notTab_cls a4) a3, a4, a5, a6⟩
    rintro q
    obtain ⟨es, n, c1, c2⟩ := ha bm ob a3 q
    rw [a6] at c2; cases c2

noncomputable def fnO (name qual : Str) (params : Arguments) (body : List Stmt) (scope : Scope) (clos : List (Str × Addr)) (doc pm cv ctv : Value) : Obj :=
  { cls := .type "function", data := .func (fnX name qual params body scope clos .none .none doc pm none cv ctv) }

section
variable {M : Model} {A : Around} {E : Value → Shared → Prop} {h : Heap} {g : Array GenState} {d : Drawn} {t : Nat} {os : OsState} {env : Env} {mg mb : Str → Option Value}
theorem cstore {a : Addr} {es : Array DictEntry} {n : Nat} {name : Str} {v : Value} {F : Int → Tok → Obj} {Q : Unit → Shared → Prop} (hl : env.locals = a) (hst : storeName env name v = localSet env name v) (ho : h.get? a = some ⟨.type "dict", none, .dict es n, #[]⟩) (e : aRefKeyMayBeTheName name es = false)
    (ef : ∀ i t, Obj.putName name i (.str name t) v ⟨.type "dict", none, .dict es n, #[]⟩ = F i t) (nf : ∀ i t, (F i t).isFreed = false)
    (hq : ∀ h' i, (∀ b x, b ≠ a → h.get? b = some x → h'.get? b = some x) → h'.get? a = some (F i t) → Q () ⟨h', g, d, t + 1, os⟩) : wpAny M A (storeName env name v) Q E ⟨h, g, d, t, os⟩ := by
  subst hl
  rw [hst]
  unfold localSet
  refine wpAny_bind (wpAny_load ho ?_)
  dsimp only
  refine bt (by rfl) ?_
  exact Mine.ns ho e ef nf fun h' i k e' _ => hq h' i k e'

theorem mkfn {s : Shared} {c P : Addr} {name qual : Str} {params : Arguments} {body : List Stmt} {scope : Scope} {pos : Pos} {firstLine : Nat} {clos : List (Str × Addr)} {ps : Array Value} {Q : Value → Shared → Prop}
    (G : Glob mg mb s.heap) (hcl : closureFor scope env = pure clos) (hge : env.globals = mainGlobals) (hcode : env.code = .ref c) (C : CodeHd s.heap c P) (hP : s.heap.get? P = some (tabObj ps)) (ht : TriplesOk ps.toList) (hnf : codeAmong pos ps.toList = none)
    (hq : ∀ c' ctv doc h' tk, Heap.ExtBut P s.heap h' → s.heap.objs.size ≤ c' → c' < h'.objs.size → (∃ o vs t, h'.get? c' = some o ∧ o.cls = .type "code" ∧ o.data = .fields vs ∧ vs[1]? = some (.str qual t)) → h'.get? P = some (tabObj (ps ++ #[rawInt pos.line, rawInt pos.col, .ref c'])) →
      Q (.ref h'.objs.size) { s with heap := h'.push (fnO name qual params body scope clos doc ((mg "__name__").getD .none) (.ref c') ctv), toks := tk }) :
    wpAny M A (makeFunction name qual params (.stmts body) scope env [] [] [] pos firstLine) Q E s := by
  generalize Mine.clo = hCl
  revert M A E env mg mb s c P name qual params body scope pos firstLine clos ps Q
  intro M A E env mg mb s c P name qual params body scope pos firstLine clos ps Q G hcl hge hcode C hP ht hnf hq
  have gp : mainGlobals ≠ P := fun q => by
    obtain ⟨o, es, ep, e, hd, _⟩ := G.g
    rw [q, hP] at e; cases e; cases hd
  obtain ⟨bm, ob, b1, b2, b3, b4, b5, b6⟩ := G.bm
  have bp : bm ≠ P := fun q => by rw [q, hP] at b3; cases b3; cases b4
  rw [makeFunction_eq]
  simp only [List.zip_nil_right, List.filterMap_nil, List.isEmpty_nil, if_true, pure_bind]
  unfold makeTail
  rw [hcl, hge]
  have key : ∀ (f : Value → Sem Value) (l : List Value), (∀ ctv h1, (∀ b o, s.heap.get? b = some o → h1.get? b = some o) → s.heap.objs.size ≤ h1.objs.size → wpAny M A (f ctv) Q E { s with heap := h1 }) →
      wpAny M A (if clos.isEmpty = true then (do let c ← pure .none; f c) else (do let c ← newTextTuple l; f c)) Q E s := fun f l hf => by
    split
    · exact wpAny_bind (wpAny_pure (hf _ s.heap (fun _ _ e => e) (Nat.le_refl _)))
    · exact wpAny_bind (wpAny_newTextTuple (hf _ _ (fun b o e => Heap.get?_push_of_some _ e) (by rw [Heap.size_push]; exact Nat.le_succ _)))
  refine wpAny_bind (wpAny_pure ?_)
  dsimp only
  refine key _ _ ?_
  rintro ctv h1 k1 z1
  have C1 := C.keeps k1
  refine wpAny_bind (wpAny_functionCodeX hcode (C1.code (k1 _ _ hP) ht) (C1.tab (k1 _ _ hP)) hnf ?_)
  rintro c' h' tk hx hge' hlt _ hrec htb hnew
  have hx' : Heap.ExtBut P s.heap h' := fun b o hb e => hx b o hb (k1 _ _ e)
  have hcd : ∃ o vs t, h'.get? c' = some o ∧ o.cls = .type "code" ∧ o.data = .fields vs ∧ vs[1]? = some (.str qual t) := by
    obtain ⟨P', _, _, ⟨o, vs, e1, e2, e3, _⟩, _⟩ := hnew
    obtain ⟨c2, o2, vs2, t2, f1, f2, f3, f4⟩ := hrec
    cases f1
    rw [e1] at f2; cases f2
    rw [e3] at f3; cases f3
    exact ⟨o, vs, t2, e1, e2, e3, f4⟩
  refine wpAny_bind (wpAny_builtinsFor (G.g.extBut hx' gp) b1 b2 (hx' _ _ bp b3) b4 b5 b6 (wpAny_bind (wpAny_nsGet (G.g.extBut hx' gp) ?_)))
  have fin : ∀ doc tk, wpAny M A (newObj (.type "function") (.func (fnX name qual params body scope clos .none .none doc ((mg "__name__").getD .none) none (.ref c') ctv))) Q E { s with heap := h', toks := tk } := fun doc tk => wpAny_newObj_type (hq c' ctv doc h' tk hx' (Nat.le_trans z1 hge') hlt hcd htb.2) (by size_fits)
  split
  · exact wpAny_bind (wpAny_mkText (fin _ _))
  · exact wpAny_bind (wpAny_pure (fin _ _))
theorem kn_put {a : Addr} {h h' : Heap} {o' : Obj} (k : ∀ b x, b ≠ a → h.get? b = some x → h'.get? b = some x) (e : h'.get? a = some o') : KN a h h' :=
  ⟨fun b o hb _ q => k b o hb q, fun b o q => by
    by_cases hb : b = a
    · exact ⟨o', hb ▸ e⟩
    · exact ⟨o, k b o hb q⟩⟩

set_option maxHeartbeats 1000000 in
theorem cdef {O : Addr → Prop} {L6 : List (Pos × Str)} {a cK PK : Addr} {name qual : Str} {params : Arguments} {body : List Stmt} {scope : Scope} {pos : Pos} {clos : List (Str × Addr)} {es : Array DictEntry} {n : Nat} {F : Value → Int → Tok → Obj} {Q : Flow → Shared → Prop}
    (G : Glob mg mb h) (hO : ∀ b, h.get? b = none → O b) (C : CodeHd h cK PK) (T : TabO O L6 h PK) (hin : (pos, qual) ∈ L6) (hpos : ∀ x ∈ L6, (pos.line == x.1.line && pos.col == x.1.col) = true → x.2 = qual) (hcode : env.code = .ref cK) (hge : env.globals = mainGlobals) (hl : env.locals = a) (hN : h.get? a = some ⟨.type "dict", none, .dict es n, #[]⟩)
    (hd0 : params.defaults = []) (hk0 : params.kw_defaults = []) (ha : annTrees params none env = []) (hcl : closureFor scope env = pure clos) (hqual : qualnameIn env name name = qual) (hst : ∀ v, storeName env name v = localSet env name v)
    (e : aRefKeyMayBeTheName name es = false) (ef : ∀ v i t, Obj.putName name i (.str name t) v ⟨.type "dict", none, .dict es n, #[]⟩ = F v i t) (nf : ∀ v i t, (F v i t).isFreed = false)
    (hq : ∀ h' f cv ctv doc i tt tk, KN a h h' → (∀ b o, b ≠ a → b ≠ PK → h.get? b = some o → h'.get? b = some o) → h.get? f = none → h'.get? f = some (fnO name qual params body scope clos doc ((mg "__name__").getD .none) cv ctv) → CodeO O h' cv qual → TabO O L6 h' PK → h'.get? a = some (F (.ref f) i tt) → Q .next ⟨h', g, d, tk, os⟩) :
    wpAny M A (exec (.FunctionDef name params body [] none [] scope none name pos) env) Q E ⟨h, g, d, t, os⟩ := by
  generalize Mine.clo = hCl
  revert M A E h g d t os env mg mb O L6 a cK PK name qual params body scope pos clos es n F Q
  intro M A E h g d t os env mg mb O L6 a cK PK name qual params body scope pos clos es n F Q G hO C T hin hpos hcode hge hl hN hd0 hk0 ha hcl hqual hst e ef nf hq
  obtain ⟨ps, hOP, hP, htr, hgood⟩ := T
  have haP : a ≠ PK := fun q => by rw [q, hP] at hN; cases hN
  obtain ⟨bm, ob, b1, b2, b3, b4, b5, b6⟩ := G.bm
  have hgP : mainGlobals ≠ PK := fun q => by
    obtain ⟨o, es, ep, e, hd, _⟩ := G.g
    rw [q, hP] at e; cases e; cases hd
  have hbP : bm ≠ PK := fun q => by rw [q, hP] at b3; cases b3; cases b4
  have hbG : bm ≠ mainGlobals := fun q => by
    obtain ⟨o, es, ep, e, hd, _⟩ := G.g
    rw [q, e] at b3; cases b3; rw [hd] at b6; cases b6
  have hB : h.BuiltinsAt mg PK := ⟨bm, ob, b1, b2, hbG, hbP, b3, b4, b5, b6⟩
  refine nestDef_K hd0 hk0 ha ?_
  rw [hqual]
  cases hc : codeAmong pos ps.toList with
  | none =>
    refine mkfn (mg := mg) (mb := mb) G hcl hge hcode C hP htr hc ?_
    rintro c' ctv doc h1 tk hx hge1 hlt hrec htb
    obtain ⟨oc, vs, tq, hoc, hcc, hdc, hv⟩ := hrec
    have hN1 := hx _ _ haP hN
    have kf : ∀ b o, h1.get? b = some o → (h1.push (fnMade name qual params body scope clos doc ((mg "__name__").getD .none) c' ctv)).get? b = some o := fun b o e => Heap.get?_push_of_some _ e
    refine cstore (F := F (.ref h1.objs.size)) hl (hst _) (kf _ _ hN1) e (ef _) (nf _) ?_
    rintro h2 i k2 e2
    have frs : ∀ b : Addr, @LE.le Nat _ h.objs.size b → h.get? b = none := fun b hb => Heap.get?_none_of_le hb
    have knf : KN a h h2 := by
      refine ⟨fun b o hb ht q => k2 b o hb (kf b o (hx b o (fun q2 => by rw [q2, hP] at q; cases q; exact ht ⟨ps, rfl, htr⟩) q)), fun b o q => ?_⟩
      by_cases hb : b = a
      · exact ⟨_, hb ▸ e2⟩
      · by_cases hb2 : b = PK
        · exact ⟨_, hb2 ▸ k2 _ _ (fun q => hb (hb2.trans q)) (kf _ _ htb)⟩
        · exact ⟨o, k2 b o hb (kf b o (hx b o hb2 q))⟩
    have hac : c' ≠ a := fun q => absurd (Heap.lt_size hN) (by rw [← q]; exact Nat.not_lt.mpr hge1)
    have haf : h1.objs.size ≠ a := fun q => absurd (Heap.lt_size hN1) (by rw [← q]; exact Nat.lt_irrefl _)
    have hcO : CodeO O h2 (.ref c') qual := ⟨c', oc, vs, tq, rfl, hO _ (frs _ hge1), k2 _ _ hac (kf _ _ hoc), hcc, hdc, hv⟩
    refine hq h2 h1.objs.size (.ref c') ctv doc i _ _ knf (fun b o hb hb2 q => k2 b o hb (kf b o (hx b o hb2 q))) (frs _ (Nat.le_trans hge1 (Nat.le_of_lt hlt))) (k2 _ _ haf (Heap.get?_push_size _ rfl)) hcO ⟨_, hOP, k2 _ _ (Ne.symm haP) (kf _ _ htb), ?_, ?_⟩ e2
    · rw [Array.toList_append]; exact TriplesOk_snoc _ _ _ _ htr
    · intro x hx6 v hv6
      rw [Array.toList_append, show (#[rawInt pos.line, rawInt pos.col, Value.ref c'] : Array Value).toList = [rawInt pos.line, rawInt pos.col, .ref c'] from rfl, triples_split _ htr] at hv6
      split at hv6
      · rename_i v' hv'
        cases hv6
        exact (hgood x hx6 _ hv').kn knf ⟨_, hN, _, _, rfl⟩
      · split at hv6
        · rename_i hp
          cases hv6
          rw [hpos x hx6 hp]; exact hcO
        · cases hv6
  | some v =>
    refine makeFunction_hit (mg := mg) hcl hge G.g hcode C hP htr hc hB ?_
    rintro ctv doc h1 tk hk hsz
    have hcO : CodeO O h v qual := hgood _ hin _ hc
    have hN1 := hk _ _ hN
    have kf : ∀ b o, h1.get? b = some o → (h1.push (fnO name qual params body scope clos doc ((mg "__name__").getD .none) v ctv)).get? b = some o := fun b o e => Heap.get?_push_of_some _ e
    refine cstore (F := F (.ref h1.objs.size)) hl (hst _) (kf _ _ hN1) e (ef _) (nf _) ?_
    rintro h2 i k2 e2
    have knf : KN a h h2 := (KN.of_all fun b o q => kf b o (hk b o q)).trans (kn_put k2 e2)
    have haf : h1.objs.size ≠ a := fun q => absurd (Heap.lt_size hN1) (by rw [← q]; exact Nat.lt_irrefl _)
    have ha' : ∃ o, h.get? a = some o ∧ ∃ es n, o.data = .dict es n := ⟨_, hN, _, _, rfl⟩
    refine hq h2 h1.objs.size v ctv doc i _ _ knf (fun b o hb _ q => k2 b o hb (kf b o (hk b o q))) (Heap.get?_none_of_le hsz) (k2 _ _ haf (Heap.get?_push_size _ rfl)) (hcO.kn knf ha') ⟨ps, hOP, k2 _ _ (Ne.symm haP) (kf _ _ (hk _ _ hP)), htr, fun x hx6 v6 hv6 => (hgood x hx6 _ hv6).kn knf ha'⟩ e2
/-- the class's code: found, or made and entered -/
theorem ccode {O : Addr → Prop} {L6 : List (Pos × Str)} {Lb : Nat} {c₀ P₀ : Addr} {pos : Pos} {firstLine : Nat} {name qual : Str} {scope : Scope} {ps : Array Value} {Q : Value → Shared → Prop}
    (hO : ∀ b, h.get? b = none → O b) (hL : Lb < h.objs.size) (hc : env.code = .ref c₀) (C : CodeHd h c₀ P₀) (hP : h.get? P₀ = some (tabObj ps)) (ht : TriplesOk ps.toList)
    (hgood : ∀ v, codeAmong pos ps.toList = some v → ∃ c P, v = .ref c ∧ O c ∧ CodeHd h c P ∧ TabO O L6 h P ∧ @LT.lt Nat _ Lb P)
    (hq : ∀ cK PK ps' h' tk, (∀ b o, b ≠ P₀ → h.get? b = some o → h'.get? b = some o) → h'.get? P₀ = some (tabObj ps') → TriplesOk ps'.toList → codeAmong pos ps'.toList = some (.ref cK) → O cK → CodeHd h' cK PK → TabO O L6 h' PK → @LT.lt Nat _ Lb PK → (∀ o, h.get? PK = some o → IsTab o) → Q (.ref cK) ⟨h', g, d, tk, os⟩) :
    wpAny M A (classCode env pos firstLine name qual scope) Q E ⟨h, g, d, t, os⟩ := by
  generalize Mine.clo = hCl
  revert M A E h g d t os env O L6 Lb c₀ P₀ pos firstLine name qual scope ps Q
  intro M A E h g d t os env O L6 Lb c₀ P₀ pos firstLine name qual scope ps Q hO hL hc C hP ht hgood hq
  unfold classCode
  cases hf : codeAmong pos ps.toList with
  | some v =>
    obtain ⟨c, P, rfl, o1, o2, o3, o4⟩ := hgood v hf
    exact wpAny_codeAt_hit hc (C.code hP ht) hf (hq c P ps h t (fun _ _ _ e => e) hP ht hf o1 o2 o3 o4 (fun o e => let ⟨ps, _, x2, x3, _⟩ := o3; by rw [x2] at e; cases e; exact ⟨ps, rfl, x3⟩))
  | none =>
    obtain ⟨o, vs, file, tf, flags, tg, inF, text, tt, op, ho, hd, h11, h2, h7, h9, h10, hop, hpd, htr, hne⟩ := C.code hP ht
    have e1 : op = tabObj ps := Option.some.inj (hop.symm.trans hP)
    subst e1
    unfold codeAt
    rw [hc, if_neg (show ¬ ((Value.ref c₀ == Value.none) = true) from Bool.false_ne_true)]
    refine wpAny_bind (wpAny_fieldsOf ho hd ?_)
    rw [h11]
    refine wpAny_bind (wpAny_fieldsOf hop hpd ?_)
    rw [hf, h2, h7, h9, h10]
    refine wpAny_bind (wpAny_newCodeX ?_)
    rintro c' P' h' tk hk hc' hP' hcode' htab' hrec'
    have hop' := hk _ _ hop
    refine wpAny_bind (wpAny_updateFieldsOfTheText hop' hpd ?_)
    have hnew : (Obj.mapFields (fun vs => if (codeAmong pos vs.toList).isSome = true then vs else vs ++ #[rawInt pos.line, rawInt pos.col, .ref c']) (tabObj ps)) = tabObj (ps ++ #[rawInt pos.line, rawInt pos.col, .ref c']) := by
      simp only [Obj.mapFields, hf]; rfl
    have hget := Heap.get?_update_self (h := h') (fun o => Obj.mapFields (fun vs => if (codeAmong pos vs.toList).isSome = true then vs else
      vs ++ #[rawInt pos.line, rawInt pos.col, .ref c']) o) hop' (by show Obj.isFreed (Obj.mapFields _ (tabObj ps)) = false; rw [hnew]; rfl)
    have hget2 := hget.trans (congrArg some hnew)
    refine wpAny_bind (wpAny_fieldsOf hget2 rfl ?_)
    have hl : (ps ++ #[rawInt pos.line, rawInt pos.col, Value.ref c']).toList = ps.toList ++ [rawInt pos.line, rawInt pos.col, .ref c'] := by simp
    rw [hl, codeAmong_snoc _ htr hf]
    have sb : Heap.SameBut P₀ h' _ := Heap.SameBut.update h' P₀ (fun o => Obj.mapFields (fun vs => if (codeAmong pos vs.toList).isSome = true then vs else vs ++ #[rawInt pos.line, rawInt pos.col, .ref c']) o)
    have hcP : c' ≠ P₀ := Nat.ne_of_gt (Nat.lt_of_lt_of_le (Heap.lt_size hop) hc')
    have hPP : P' ≠ P₀ := Nat.ne_of_gt (Nat.lt_of_lt_of_le (Heap.lt_size hop) hP')
    have frs : ∀ b : Addr, @LE.le Nat _ h.objs.size b → h.get? b = none := fun b hb => Heap.get?_none_of_le hb
    have C' := CodeHd.of hcode' htab'
    obtain ⟨o', vs', file', tf', flags', tg', inF', text', tt', f1, f2⟩ := C'
    refine wpAny_pure (hq c' P' (ps ++ #[rawInt pos.line, rawInt pos.col, Value.ref c']) _ _ (fun b x hb q => (sb.2 b hb).trans (hk b x q)) hget2 (by rw [hl]; exact TriplesOk_snoc _ _ _ _ htr) (by rw [hl, codeAmong_snoc _ htr hf]) (hO _ (frs _ hc')) ⟨o', vs', file', tf', flags', tg', inF', text', tt', (sb.2 _ hcP).trans f1, f2⟩ ⟨#[], hO _ (frs _ hP'), (sb.2 _ hPP).trans htab'.2, trivial, fun x _ v hv => by cases hv⟩ (Nat.lt_of_lt_of_le hL hP') (fun o e => by rw [frs _ hP'] at e; cases e))
end
end Mine
end
example (h : False) {prog : PySem.Program} {w : PySem.World} {A : PySem.Around} {Q E : PySem.Value → PySem.Shared → Prop} {s : PySem.Shared} {env : PySem.Env} {at0 : PySem.Pos} : PySem.wpAny (PySem.model prog w) A (PySem.eval (.Constant .none 0 at0) env) Q E s := by
  w_top off
  first | (walk1; fail) | exact h.elim
section
open PySem PySem.W PyProof.Rows PySem.Calls PySem.Builtin
set_option maxRecDepth 100000
namespace Mine
section
variable {prog : Program} {w : World} {A : Around} {E : Value → Shared → Prop} {h : Heap} {g : Array GenState} {d : Drawn} {t : Nat} {os : OsState}
noncomputable def prO : Obj := ⟨.type "builtin_function_or_method", none, .fields #[.builtin "type.__prepare__", .type "type"], #[]⟩
theorem fin_pr {s : Shared} {h : Heap} {chg nw : List (Addr × Obj)} {b : Addr} {Q : Value → Shared → Prop} {tk : Nat} (D : PySem.W.X.Mem s.heap h chg nw) (hq : ∀ h' b tk', PySem.W.X.Mem s.heap h' [] [(b, prO)] → Q (.ref b) { s with heap := h', toks := tk' }) (e1 : chg = []) (e2 : nw = [(b, prO)]) : Q (.ref b) { s with heap := h, toks := tk } := by
  subst e1 e2; exact hq h b tk D
local macro_rules | `(tactic| x_close) => `(tactic| (refine' fin_pr ?D ?r ?e1 ?e2; (case D => assumption); (case r => assumption); (case e1 => kernel_rfl); (case e2 => kernel_rfl)))
set_option maxHeartbeats 4000000 in
theorem call_tga {s : Shared} {tk : Tok} {Q : Value → Shared → Prop} (hd0 : A.depth + 20 < recursionLimit) (hu0 : A.units + 200 < cLine)
    (hq : ∀ h' b tk', PySem.W.X.Mem s.heap h' [] [(b, prO)] → Q (.ref b) { s with heap := h', toks := tk' }) :
    wpAny (model prog w) A (call (.builtin "type.__getattribute__") [.type "type", .str (Str.ofString "__prepare__") tk]) Q E s := by
  (x_run)
theorem ga_prep {Q : Option Value → Shared → Prop} (hd0 : A.depth + 22 < recursionLimit) (hu0 : A.units + 260 < cLine)
    (hq : ∀ h' b tk', PySem.W.X.Mem h h' [] [(b, prO)] → Q (some (.ref b)) ⟨h', g, d, tk', os⟩) :
    wpAny (model prog w) A (getAttr? (.type "type") (Str.ofString "__prepare__")) Q E ⟨h, g, d, t, os⟩ := by
  have l1 : ∀ h, Looks (model prog w) h (typeOf (.type "type")) (.type "type") := fun _ => pk (by kernel_rfl)
  have l2 : typeLookup (.type "type") (Str.ofString "__getattribute__") = pure (some (.builtin "type.__getattribute__")) := by rw [typeLookup_type, builtinLookup_eq_fast]; kernel_rfl
  have l3 : bindSpecial (.builtin "type.__getattribute__") (.type "type") = pure (.builtin "type.__getattribute__", [.type "type"]) := KF.slot_tga.bind _
  (repeat ((fail_if_success (with_reducible show wpAny _ _ (call _ _) _ _ _)); (first | with_reducible refine Looks.at (l1 _) ?_ | walk_at "cs")))
  refine call_tga (by lia) (by lia) fun h' b tk' D => ?_
  (repeat ((fail_if_success (with_reducible show wpAny _ _ (call _ _) _ _ _)); (first | walk_at "cs")))
  exact hq _ _ _ D
theorem tp_entry : entryFor table "type.__prepare__" = some Builtin.«type.__prepare__» := entryFor_of_tree (by kernel_rfl)
theorem tp_plain : plainId "type.__prepare__" = true := by decide +kernel
theorem tp_check (x : Str) (tk : Tok) (b : Addr) : checkBoundCall "type.__prepare__" ⟨[.type "type", .str x tk, .ref b], []⟩ = pure () := by kernel_rfl
theorem call_prep {p bT : Addr} {tk : Tok} {Q : Value → Shared → Prop} (hp : h.get? p = some prO)
    (hq : ∀ h', (∀ b o, h.get? b = some o → h'.get? b = some o) → h'.get? h.objs.size = some emptyDict → h'.objs.size = h.objs.size + 1 → Q (.ref h.objs.size) ⟨h', g, d, t, os⟩) :
    wpAny (model prog w) A (call (.ref p) [.str (Str.ofString "K") tk, .ref bT]) Q E ⟨h, g, d, t, os⟩ := by
  have e1 := tp_check (Str.ofString "K") tk bT
  refine wpAny_call (codeAny_of_tree ?_)
  show wpAny _ _ (callAny (.ref p) _) _ _ _
  unfold prO at hp
  refine wpAny_bind (wpAny_load hp ?_)
  show wpAny _ _ (checkBoundCall "type.__prepare__" ⟨[.type "type", .str (Str.ofString "K") tk, .ref bT], []⟩ >>= fun _ => again (.builtin "type.__prepare__" ⟨[.type "type", .str (Str.ofString "K") tk, .ref bT], []⟩)) _ _ _
  refine wpAny_bind (wpAny_of_eq e1 (wpAny_pure ⟨plainId_quiet tp_plain _, codeAny_builtin tp_entry ?_⟩))
  rw [Around.under_plainId tp_plain _]
  unfold Builtin.«type.__prepare__»
  refine wpAny_bind ?_
  unfold newDict
  refine al2 rfl (by show 0 ≤ sizeLine + 1; exact Nat.zero_le _) fun a h' K e z zz => ?_
  subst z
  exact wpAny_pure (hq h' K e zz)
end
end Mine
end
example (h : False) {prog : PySem.Program} {w : PySem.World} {A : PySem.Around} {Q E : PySem.Value → PySem.Shared → Prop} {s : PySem.Shared} {env : PySem.Env} {at0 : PySem.Pos} : PySem.wpAny (PySem.model prog w) A (PySem.eval (.Constant .none 0 at0) env) Q E s := by
  w_top off
  first | (walk1; fail) | exact h.elim
section
open PySem PySem.W PyProof.Rows PySem.Calls
set_option maxRecDepth 100000
set_option linter.unusedSectionVars false
namespace Mine
theorem Glob.all {mg mb : Str → Option Value} {h h' : Heap} (G : Glob mg mb h) (k : ∀ b o, h.get? b = some o → h'.get? b = some o) : Glob mg mb h' where
  g := G.g.keeps k
  b := G.b.keeps k
  nl := G.nl.keeps k
  bm := let ⟨bm, ob, a1, a2, a3, r⟩ := G.bm; ⟨bm, ob, a1, a2, k _ _ a3, r⟩
noncomputable def kesB (k : Nat → Int) (u : Nat → Tok) (sl fI fL fG fE fLe fGe : Addr) : Array DictEntry := #[⟨k 0, .str (Str.ofString "__module__") (u 0), .str (Str.ofString "cpy313.functools") (u 1)⟩, ⟨k 1, .str (Str.ofString "__qualname__") (u 2), .str (Str.ofString "cmp_to_key.<locals>.K") (u 3)⟩,
  ⟨k 2, .str (Str.ofString "__firstlineno__") (u 4), .int 53 (u 5)⟩, ⟨k 3, .str (Str.ofString "__slots__") (u 6), .ref sl⟩, ⟨k 4, .str (Str.ofString "__init__") (u 7), .ref fI⟩, ⟨k 5, .str (Str.ofString "__lt__") (u 8), .ref fL⟩,
  ⟨k 6, .str (Str.ofString "__gt__") (u 9), .ref fG⟩, ⟨k 7, .str (Str.ofString "__eq__") (u 10), .ref fE⟩, ⟨k 8, .str (Str.ofString "__le__") (u 11), .ref fLe⟩, ⟨k 9, .str (Str.ofString "__ge__") (u 12), .ref fGe⟩, ⟨k 10, .str (Str.ofString "__hash__") (u 13), .none⟩]
noncomputable def es3 (i0 i1 i2 : Int) (u0 u1 u2 u3 u4 : Tok) (nm : Value) : Array DictEntry := #[⟨i0, .str (Str.ofString "__module__") u0, nm⟩, ⟨i1, .str (Str.ofString "__qualname__") u1, .str (Str.ofString "cmp_to_key.<locals>.K") u2⟩, ⟨i2, .str (Str.ofString "__firstlineno__") u3, .int 53 u4⟩]
/-- a function of the ledger, with its code -/
noncomputable def FnAtO (O : Addr → Prop) (h : Heap) (f : Addr) (name qual : Str) (params : Arguments) (body : List Stmt) (scope : Scope) (clos : List (Str × Addr)) : Prop :=
  O f ∧ ∃ doc pm cv ctv, h.get? f = some (fnO name qual params body scope clos doc pm cv ctv) ∧ CodeO O h cv qual
structure BodyDone (O : Addr → Prop) (L6 : List (Pos × Str)) (PK : Addr) (pI : Arguments) (bI : List Stmt) (sI : Scope) (pL : Arguments) (bL : List Stmt) (sL : Scope) (clos : List (Str × Addr)) (h : Heap) (k : Nat → Int) (u : Nat → Tok) (sl fI fL fG fE fLe fGe : Addr) (u1 : Tok) (n1 : Nat) : Prop where
  sl : h.get? sl = some ⟨.type "list", none, .seq #[.str (Str.ofString "obj") u1] n1, #[]⟩
  fI : FnAtO O h fI (Str.ofString "__init__") (Str.ofString "cmp_to_key.<locals>.K.__init__") pI bI sI []
  fL : FnAtO O h fL (Str.ofString "__lt__") (Str.ofString "cmp_to_key.<locals>.K.__lt__") pL bL sL clos
  c3 : ClsAt h fG "function"
  c4 : ClsAt h fE "function"
  c5 : ClsAt h fLe "function"
  c6 : ClsAt h fGe "function"
  tab : TabO O L6 h PK
section
variable {prog : Program} {w : World} {A : Around} {E : Value → Shared → Prop} {h : Heap} {g : Array GenState} {d : Drawn} {t : Nat} {os : OsState} {env : Env} {mg mb : Str → Option Value}
set_option maxHeartbeats 4000000 in
theorem bclass {O : Addr → Prop} {L6 : List (Pos × Str)} {Lb : Nat} {c₀ P₀ : Addr} {pos : Pos} {qual : Str} {scope : Scope} {body : List Stmt} {statics : List Str} {ps : Array Value} {clos : List (Str × Addr)} {Q : Value → Shared → Prop}
    (dA : A.depth + 50 < recursionLimit) (uA : A.units + 600 < cLine) (G : Glob mg mb h)
    (hO : ∀ b, h.get? b = none → O b) (hL : ∃ o, h.get? Lb = some o) (hPL : @LE.le Nat _ P₀ Lb) (h2z : 2 < h.objs.size) (hc : env.code = .ref c₀) (hg : env.globals = mainGlobals) (hbl : env.builtins = builtinsNs) (C : CodeHd h c₀ P₀) (hP : h.get? P₀ = some (tabObj ps)) (ht : TriplesOk ps.toList)
    (hcl : closureFor scope env = pure clos) (hks : scope.kind = .class) (hst1 : ∀ env : Env, env.scope = scope → ∀ v, storeName env (Str.ofString "__module__") v = localSet env (Str.ofString "__module__") v) (hst2 : ∀ env : Env, env.scope = scope → ∀ v, storeName env (Str.ofString "__qualname__") v = localSet env (Str.ofString "__qualname__") v)
    (hst3 : ∀ env : Env, env.scope = scope → ∀ v, storeName env (Str.ofString "__firstlineno__") v = localSet env (Str.ofString "__firstlineno__") v) (hst4 : ∀ env : Env, env.scope = scope → ∀ v, storeName env (Str.ofString "__static_attributes__") v = localSet env (Str.ofString "__static_attributes__") v)
    (hln : ∀ env : Env, env.scope = scope → loadName env (Str.ofString "__name__") = (localGet env (Str.ofString "__name__") >>= fun r => match r with | some v => pure v | none => loadGlobal env (Str.ofString "__name__"))) {nm : Value} (hnm : mg (Str.ofString "__name__") = some nm) (hqual : qual = Str.ofString "cmp_to_key.<locals>.K") (hstat : statics = [Str.ofString "obj"]) (hn1 : (scope.names.lookup (Str.ofString "__class__") == some NameKind.cell) = false) (hn2 : (scope.names.lookup (Str.ofString "__classdict__") == some NameKind.cell) = false)
    (hgood : ∀ v, codeAmong pos ps.toList = some v → ∃ c P, v = .ref c ∧ O c ∧ CodeHd h c P ∧ TabO O L6 h P ∧ @LT.lt Nat _ Lb P)
    (hop : ∃ mc, h.Ns cStatics mc ∧ mc (Str.ofString "thirdparty.any") = none)
    {pI pL : Arguments} {bI bL : List Stmt} {sI sL : Scope}
    (hbody : ∀ (nsA cK PK fr : Addr) (h5 : Heap) (tk : Nat) (i0 i1 i2 : Int) (u0 u1 u2 u3 u4 : Tok) (ps' : Array Value), (∀ b o, b ≠ P₀ → h.get? b = some o → h5.get? b = some o) → h.get? nsA = none → nsA ≠ P₀ → O cK → CodeHd h5 cK PK → TabO O L6 h5 PK → @LT.lt Nat _ Lb PK →
      h5.get? P₀ = some (tabObj ps') → TriplesOk ps'.toList → codeAmong pos ps'.toList = some (.ref cK) → Glob mg mb h5 → h5.get? nsA = some ⟨.type "dict", none, .dict (es3 i0 i1 i2 u0 u1 u2 u3 u4 nm) 3, #[]⟩ →
      codeAny (model prog w) A (.body body { scope, locals := nsA, globals := mainGlobals, cells := clos, qual := qual ++ Str.ofString ".", code := .ref cK, frame := some fr, builtins := builtinsNs })
        (fun r s' => ∃ f h6 tk6 k u sl fI fL fG fE fLe fGe u1 n1, r = .ok f ∧ s' = ⟨h6, g, d, tk6, os⟩ ∧ (∀ b o, b ≠ nsA → b ≠ PK → h5.get? b = some o → h6.get? b = some o) ∧ h6.get? nsA = some ⟨.type "dict", none, .dict (kesB k u sl fI fL fG fE fLe fGe) 11, #[]⟩ ∧
          BodyDone O L6 PK pI bI sI pL bL sL clos h6 k u sl fI fL fG fE fLe fGe u1 n1) ⟨h5, g, d, tk, os⟩)
    (hq : ∀ (C nsN md : Addr) (h' : Heap) (tk : Nat) (k : Nat → Int) (u : Nat → Tok) (sl fI fL fG fE fLe fGe st : Addr) (i1 : Int) (t1 : Tok) (i2 : Int) (t2 tm : Tok) (cK PK : Addr) (ps' : Array Value) (bT : Addr) (tn tq : Tok),
      (∀ b o, b ≠ P₀ → b ≠ PK → h.get? b = some o → h'.get? b = some o) → O C → O nsN → O md → h'.get? C = some (clK C nsN false [.ref C, .type "object"] [Str.ofString "obj"] (clSl bT tn tq)) →
      h'.get? nsN = some ⟨.type "dict", none, .dict (kes3 k u sl fI fL fG fE fLe fGe st i1 t1 md i2 t2) 3, #[]⟩ → h'.get? md = some (mdK C tm) →
      FnAtO O h' fI (Str.ofString "__init__") (Str.ofString "cmp_to_key.<locals>.K.__init__") pI bI sI [] → FnAtO O h' fL (Str.ofString "__lt__") (Str.ofString "cmp_to_key.<locals>.K.__lt__") pL bL sL clos →
      O cK → CodeHd h' cK PK → TabO O L6 h' PK → @LT.lt Nat _ Lb PK → h'.get? P₀ = some (tabObj ps') → TriplesOk ps'.toList → codeAmong pos ps'.toList = some (.ref cK) → (∀ b, h'.get? b = none → h.get? b = none) → (∀ o, h.get? PK = some o → IsTab o) → Q (.ref C) ⟨h', g, d, tk, os⟩) :
    wpAny (model prog w) A (buildClass (Str.ofString "K") qual [.type "object"] [] body scope statics 53 env pos none) Q E ⟨h, g, d, t, os⟩ := by
  generalize Mine.clo = hCl
  revert prog w A E h g d t os env mg mb O L6 Lb c₀ P₀ pos qual scope body statics ps clos Q nm pI pL bI bL sI sL
  intro prog w A E h g d t os env mg mb O L6 Lb c₀ P₀ pos qual scope body statics ps clos Q dA uA G hO hL hPL h2z hc hg hbl C hP ht hcl hks hst1 hst2 hst3 hst4 hln nm hnm hqual hstat hn1 hn2 hgood hop pI pL bI bL sI sL hbody hq
  unfold buildClass
  refine wpAny_bind ?_
  unfold newTuple
  refine al2 rfl (by show 1 ≤ sizeLine; rw [sizeLine_eq]; decide) ?_
  rintro bT h1 K1 hbT zbT z1
  have G1 := G.all K1
  have l1 : Looks (model prog w) h1 (isType (.type "object")) true := pk (by kernel_rfl)
  have l2 : Looks (model prog w) h1 (isType (.type "type")) true := pk (by kernel_rfl)
  have l3 : Looks (model prog w) h1 (typeOf (.type "object")) (.type "type") := pk (by kernel_rfl)
  have l4 : Looks (model prog w) h1 (isSubtype (.type "type") (.type "type")) true := pk (by kernel_rfl)
  (repeat ((fail_if_success (with_reducible show wpAny _ _ (getAttr? _ _) _ _ _)); (first | walk_at "cs")))
  refine ga_prep (by lia) (by lia) ?_
  rintro h2 pr tk2 D2
  have K2 : ∀ b o, h1.get? b = some o → h2.get? b = some o := fun b o e => D2.keep b o e (by simp [PySem.W.X.away])
  clear l1 l2 l3 l4
  (repeat ((fail_if_success (with_reducible show wpAny _ _ (call _ _ _) _ _ _)); (first | walk_at "cs")))
  have z2 : 1 < h2.objs.size := by
    have := Heap.lt_size (K2 _ _ hbT)
    rw [zbT] at this
    exact Nat.lt_trans (Nat.lt_of_succ_lt h2z) this
  refine call_prep (D2.at 0 _ _ rfl) ?_
  rintro h3 K3 hN zz
  have nN : h2.get? h2.objs.size = none := Heap.get?_none_of_le (Nat.le_refl _)
  have hlo : (h2.objs.size == sysModules) = false := by
    rw [beq_eq_false_iff_ne]
    exact Nat.ne_of_gt z2
  generalize h2.objs.size = nsA at *
  have l1 : Looks (model prog w) h3 (specialOf (.ref nsA) (Str.ofString "__getitem__")) (some (.builtin "dict.__getitem__")) := (Looks.andThen (f := fun t => typeLookup t (Str.ofString "__getitem__")) ((Looks.ld hN).andThen .now) (pk (by kernel_rfl)))
  (repeat ((fail_if_success (with_reducible show wpAny _ _ (classCode _ _ _ _ _ _) _ _ _)); (first | walk_at "cs")))
  have K13 : ∀ b o, h.get? b = some o → h3.get? b = some o := fun b o e => K3 b o (K2 b o (K1 b o e))
  have f3 : ∀ b, h3.get? b = none → h.get? b = none := fun b e => by
    (try clear hCl)
    cases q : h.get? b with
    | none => rfl
    | some o => rw [K13 b o q] at e; cases e
  have knd : ∀ {P}, TabO O L6 h P → TabO O L6 h3 P := fun {P} x => by
    (try clear hCl)
    obtain ⟨ps, x1, x2, x3, x4⟩ := x
    refine ⟨ps, x1, K13 _ _ x2, x3, fun y hy v hv => ?_⟩
    obtain ⟨c, o, vs, t, a1, a2, a3, a4⟩ := x4 y hy v hv
    exact ⟨c, o, vs, t, a1, a2, K13 _ _ a3, a4⟩
  have hL3 : @LT.lt Nat _ Lb h3.objs.size := let ⟨o, e⟩ := hL; Heap.lt_size (K13 _ _ e)
  refine ccode (L6 := L6) (fun b e => hO b (f3 b e)) hL3 hc (C.keeps K13) (K13 _ _ hP) ht (fun v hv => ?_) ?cv15
  case' cv15 => rintro cK PK ps' h4 tk4 K4 hP4 ht4 hf4 oK cK4 tK4 lK iT
  rotate_left
  · (try clear hCl)
    obtain ⟨c, P, x1, x2, x3, x4, x5⟩ := hgood v hv
    exact ⟨c, P, x1, x2, x3.keeps K13, knd x4, x5⟩
  have k14 : ∀ b o, b ≠ P₀ → h.get? b = some o → h4.get? b = some o := fun b o hb e => K4 b o hb (K13 b o e)
  have G4 : Glob mg mb h4 := by
    have G3 := G.all K13
    obtain ⟨a1, a2, a3, a4⟩ := G3
    have tb : ∀ {a : Addr} {m : Str → Option Value}, h3.Ns a m → h4.Ns a m := fun {a m} x => by
      (try clear hCl)
      obtain ⟨o, es, ep, e, hd, r⟩ := x
      refine ⟨o, es, ep, K4 _ _ ?_ e, hd, r⟩
      rintro q
      rw [q, K13 _ _ hP] at e; cases e; cases hd
    refine ⟨tb a1, tb a2, let ⟨mc, x, y⟩ := a3; ⟨mc, tb x, y⟩, ?_⟩
    obtain ⟨bm, ob, b1, b2, b3, b4, b5, b6⟩ := a4
    refine ⟨bm, ob, b1, b2, K4 _ _ ?_ b3, b4, b5, b6⟩
    rintro q
    rw [q, K13 _ _ hP] at b3; cases b3; cases b4
  have hN4 : h4.get? nsA = some emptyDict := K4 _ _ (fun q => by rw [q, K13 _ _ hP] at hN; cases hN) hN
  rw [hg, hbl]
  obtain ⟨bm, ob, b1, b2, b3, b4, b5, b6⟩ := G4.bm
  refine wpAny_bind (wpAny_builtinsFor G4.g b1 b2 b3 b4 b5 b6 ?_)
  unfold newBodyFrame
  refine wpAny_bind (wpAny_bind (wpAny_nsGet G4.g ?_))
  rw [hnm, Option.getD_some]
  refine al rfl ?_
  rintro fr h5 K5 hfr zfr z5
  have G5 := G4.all K5
  have hN5 := K5 _ _ hN4
  rw [hcl]
  refine wpAny_bind (wpAny_pure ?_)
  refine wpAny_holding (wpAny_bind (wpAny_enterFrame G5.nl (by lia) ?_))
  refine wpAny_bind (wpAny_onRaise (wpAny_bind ?_))
  rw [hln _ rfl]
  unfold localGet
  refine wpAny_bind (wpAny_bind (wpAny_load hN5 ?_))
  refine bt (by rfl) ?_
  refine ng hN5 (r := none) (by kernel_rfl) ?_
  dsimp only
  unfold loadGlobal
  refine wpAny_bind (wpAny_nsGet G5.g ?_)
  rw [hnm]
  refine wpAny_pure ?_
  refine wpAny_bind ?_
  refine cstore (n := 0) (es := #[]) (F := fun i tt => ⟨.type "dict", none, .dict #[⟨i, .str (Str.ofString "__module__") tt, nm⟩] 1, #[]⟩) rfl (hst1 _ rfl _) hN5 (by kernel_rfl) (fun _ _ => by kernel_rfl) (fun _ _ => rfl) ?_
  rintro h6 i0 K6 hN6
  refine wpAny_bind (wpAny_mkText (wpAny_bind ?_))
  subst hqual hstat
  refine cstore (n := 1) (es := #[⟨i0, .str (Str.ofString "__module__") tk4, nm⟩]) (F := fun i tt => ⟨.type "dict", none, .dict #[⟨i0, .str (Str.ofString "__module__") tk4, nm⟩, ⟨i, .str (Str.ofString "__qualname__") tt, .str (Str.ofString "cmp_to_key.<locals>.K") (tk4 + 1)⟩] 2, #[]⟩) rfl (hst2 _ rfl _) hN6 (by kernel_rfl) (fun _ _ => by kernel_rfl) (fun _ _ => rfl) ?_
  rintro h7 i1 K7 hN7
  refine wpAny_bind (wpAny_mkInt' (wpAny_bind ?_))
  refine cstore (n := 2) (es := #[⟨i0, .str (Str.ofString "__module__") tk4, nm⟩, ⟨i1, .str (Str.ofString "__qualname__") (tk4 + 1 + 1), .str (Str.ofString "cmp_to_key.<locals>.K") (tk4 + 1)⟩]) (F := fun i tt => ⟨.type "dict", none, .dict (es3 i0 i1 i tk4 (tk4 + 1 + 1) (tk4 + 1) tt (tk4 + 1 + 1 + 1) nm) 3, #[]⟩) rfl (hst3 _ rfl _) hN7 (by kernel_rfl) (fun _ _ => by kernel_rfl) (fun _ _ => rfl) ?_
  rintro h8 i2 K8 hN8
  refine wpAny_pure ?_
  have K48 : ∀ b o, b ≠ nsA → h4.get? b = some o → h8.get? b = some o := fun b o hb e => K8 b o hb (K7 b o hb (K6 b o hb (K5 b o e)))
  have nN0 : h.get? nsA = none := by
    cases q : h.get? nsA with
    | none => rfl
    | some o => rw [K2 _ _ (K1 _ _ q)] at nN; cases nN
  have nNP : nsA ≠ P₀ := fun q => by rw [q, hP] at nN0; cases nN0
  have kn48 : KN nsA h4 h8 := kn_put (o' := _) (fun b o hb e => K48 b o hb e) hN8
  have nns : ∀ {a : Addr} {m : Str → Option Value}, h.Ns a m → nsA ≠ a := fun {a m} x q => by
    (try clear hCl)
    obtain ⟨o, es, ep, e, _⟩ := x
    rw [← q, nN0] at e; cases e
  have G8 : Glob mg mb h8 := G4.kn kn48 (fun b o e q => by subst q; rw [hN4] at e; cases e; exact ⟨_, _, rfl, rfl⟩) (nns G.g) (nns G.b) (let ⟨mc, x, y⟩ := G.nl; nns x)
  refine wpAny_bind (wpAny_run ?_)
  have cK8 : CodeHd h8 cK PK := by
    obtain ⟨o, vs, file, tf, flags, tg, inF, text, tt, x1, x2⟩ := cK4
    exact ⟨o, vs, file, tf, flags, tg, inF, text, tt, K48 _ _ (fun q => by rw [q, hN4] at x1; cases x1; exact absurd x2.1 (by simp [emptyDict])) x1, x2⟩
  have tK8 : TabO O L6 h8 PK := by
    obtain ⟨ps5, x1, x2, x3, x4⟩ := tK4
    exact ⟨ps5, x1, K48 _ _ (fun q => by rw [q, hN4] at x2; cases x2) x2, x3, fun y hy v hv => (x4 y hy v hv).kn kn48 ⟨_, hN4, _, _, rfl⟩⟩
  have hP8 : h8.get? P₀ = some (tabObj ps') := K48 _ _ (Ne.symm nNP) hP4
  have k18 : ∀ b o, b ≠ P₀ → h1.get? b = some o → h8.get? b = some o := fun b o hb e => K48 b o (fun q => by rw [q] at e; rw [K2 _ _ e] at nN; cases nN) (K4 b o hb (K3 b o (K2 b o e)))
  refine codeAny_mono (hbody nsA cK PK fr h8 _ i0 i1 i2 _ _ _ _ _ ps' (fun b o hb e => k18 b o hb (K1 b o e)) nN0 nNP oK cK8 tK8 lK hP8 ht4 hf4 G8 hN8) ?_
  rintro r s' ⟨f, h9, tk9, k, u, sl, fI, fL, fG, fE, fLe, fGe, u1, n1, rfl, rfl, K9, hN9, BD⟩
  dsimp only
  refine wpAny_bind (wpAny_onRaise (wpAny_bind ?_))
  rw [List.mapM_cons]
  refine wpAny_bind (wpAny_mkText (wpAny_bind ?_))
  rw [List.mapM_nil]
  refine wpAny_pure (wpAny_pure (wpAny_bind ?_))
  unfold newTextTuple newObjAsIs
  refine wpAny_bind (al rfl ?_)
  rintro st h10 K10 hst zst z10
  refine wpAny_pure (wpAny_bind ?_)
  refine cstore (n := 11) (es := kesB k u sl fI fL fG fE fLe fGe) (F := fun i tt => ⟨.type "dict", none, .dict (kes (fun j => if j = 11 then i else k j) (fun j => if j = 14 then tt else u j) sl fI fL fG fE fLe fGe st) 12, #[]⟩) rfl (hst4 _ rfl _) (K10 _ _ hN9) (by kernel_rfl) (fun _ _ => by kernel_rfl) (fun _ _ => rfl) ?_
  rintro h11 i3 K11 hN11
  refine wpAny_pure ?_
  refine bf rfl ?_
  refine wpAny_bind ?_
  show wpAny _ _ (call (.type "type") [.str (Str.ofString "K") t, .ref bT, .ref nsA]) _ _ _
  obtain ⟨psK, _, hPK, hPKt, _⟩ := id tK8
  have hN9' := K10 _ _ hN9
  have K911 : ∀ b o, b ≠ nsA → h9.get? b = some o → h11.get? b = some o := fun b o hb e => K11 b o hb (K10 b o e)
  have K811 : ∀ b o, b ≠ nsA → b ≠ PK → h8.get? b = some o → h11.get? b = some o := fun b o hb hb2 e => K911 b o hb (K9 b o hb hb2 e)
  have K11' : ∀ b o, b ≠ P₀ → b ≠ PK → h.get? b = some o → h11.get? b = some o := fun b o hb hb2 e => K811 b o (fun q => by rw [q, nN0] at e; cases e) hb2 (k18 b o hb (K1 b o e))
  have nA : ∀ {a : Addr} {o : Obj}, h9.get? a = some o → (∀ es n, o.data ≠ .dict es n) → a ≠ nsA := fun {a o} e hd q => by rw [q, hN9] at e; cases e; exact hd _ _ rfl
  have kn911 : KN nsA h9 h11 := kn_put (o' := _) (fun b o hb e => K911 b o hb e) hN11
  have hop11 : Looks (model prog w) h11 anyOpaqueLoaded false := by
    obtain ⟨mc, x, y⟩ := hop
    obtain ⟨o, es, ep, e, hd, r⟩ := x
    have e11 := K11' _ o (fun q => by rw [q, hP] at e; cases e; cases hd) (fun q => by
      (try clear hCl)
      have := k18 _ o (fun q => by rw [q, hP] at e; cases e; cases hd) (K1 _ _ e)
      rw [q, hPK] at this; cases this; cases hd) e
    intro A Q E s kk q
    unfold anyOpaqueLoaded
    refine wpAny_bind (wpAny_nsGet (m := mc) ⟨o, es, ep, kk _ _ e11, hd, r⟩ ?_)
    show wpAny _ _ (pure (mc (Str.ofString "thirdparty.any")).isSome) _ _ _
    rw [y]
    exact wpAny_pure q
  have bT11 : h11.get? bT = some ⟨.type "tuple", none, .seq #[.type "object"] 0, #[]⟩ := by
    have e0 := k18 _ _ (fun q => by rw [q, K1 _ _ hP] at hbT; simp [tabObj] at hbT) hbT
    exact K811 _ _ (fun q => by rw [q, hN8] at e0; simp at e0) (fun q => by rw [q, hPK] at e0; simp [tabObj] at e0) e0
  have cl11 : ∀ {a : Addr}, ClsAt h9 a "function" → ClsAt h11 a "function" := fun {a} x => by
    (try clear hCl)
    obtain ⟨o, e, hc⟩ := x
    refine ⟨o, K911 _ _ ?_ e, hc⟩
    rintro q
    rw [q, hN9] at e; cases e; exact absurd hc (by simp)
  have fn11 : ∀ {a : Addr} {n q p b s c}, FnAtO O h9 a n q p b s c → FnAtO O h11 a n q p b s c := fun {a n q p b s c} x => by
    (try clear hCl)
    obtain ⟨y, doc, pm, cv, ctv, e, hc⟩ := x
    refine ⟨y, doc, pm, cv, ctv, K911 _ _ ?_ e, hc.kn kn911 ⟨_, hN9, _, _, rfl⟩⟩
    rintro q
    rw [q, hN9] at e; simp [fnO] at e
  have fnc : ∀ {h : Heap} {a : Addr} {n q p b s c}, FnAtO O h a n q p b s c → ClsAt h a "function" := fun {h a n q p b s c} x => let ⟨_, _, _, _, _, e, _⟩ := x; ⟨_, e, rfl⟩
  refine tcall bT11 hN11 (K911 _ _ (fun q => by have e := BD.sl; rw [q, hN9] at e; simp at e) BD.sl) hlo (by lia) (by lia) (fnc (fn11 BD.fI)) (fnc (fn11 BD.fL)) (cl11 BD.c3) (cl11 BD.c4) (cl11 BD.c5) (cl11 BD.c6) ⟨_, K11 _ _ (fun q => by rw [q, hN9'] at hst; simp at hst) hst, rfl⟩ hop11 ?_
  rintro h12 C nsN md j1 t1 j2 t2 tk12 K12 f1 f2 f3' b1 b2 b3 hC hNN hM
  have fn12 : ∀ {a : Addr} {n q p b s c}, FnAtO O h11 a n q p b s c → FnAtO O h12 a n q p b s c := fun {a n q p b s c} x => by
    (try clear hCl)
    obtain ⟨y, doc, pm, cv, ctv, e, c0, o, vs, t, a1, a2, a3, a4⟩ := x
    exact ⟨y, doc, pm, cv, ctv, K12 _ _ e, c0, o, vs, t, a1, a2, K12 _ _ a3, a4⟩
  have fr11 : ∀ b, h11.get? b = none → h.get? b = none := fun b e => by
    (try clear hCl)
    cases q : h.get? b with
    | none => rfl
    | some o =>
      have e8 : ∃ o, h8.get? b = some o := by
        by_cases hb : b = P₀
        · exact ⟨_, hb ▸ hP8⟩
        · exact ⟨o, k18 b o hb (K1 b o q)⟩
      obtain ⟨o8, e8⟩ := e8
      have e9 : ∃ o, h9.get? b = some o := by
        by_cases hb : b = nsA
        · exact ⟨_, hb ▸ hN9⟩
        · by_cases hb2 : b = PK
          · obtain ⟨ps9, _, x2, _⟩ := BD.tab
            exact ⟨_, hb2 ▸ x2⟩
          · exact ⟨o8, K9 b o8 hb hb2 e8⟩
      obtain ⟨o9, e9⟩ := e9
      obtain ⟨o11, e11⟩ := kn911.2 b o9 e9
      rw [e11] at e; cases e
  have fr12 : ∀ b, h12.get? b = none → h.get? b = none := fun b e => fr11 b (by
    (try clear hCl)
    cases q : h11.get? b with
    | none => rfl
    | some o => rw [K12 b o q] at e; cases e)
  refine wpAny_pure (hq C nsN md h12 tk12 _ _ sl fI fL fG fE fLe fGe st j1 t1 j2 t2 _ cK PK ps' _ _ _ (fun b o hb hb2 e => K12 b o (K11' b o hb hb2 e)) (hO _ (fr11 _ f1)) (hO _ (fr11 _ f2)) (hO _ (fr11 _ f3')) hC hNN hM (fn12 (fn11 BD.fI)) (fn12 (fn11 BD.fL)) oK ?_ ?_ lK ?_ ht4 hf4 fr12 (fun o e => iT o (K13 _ _ e)))
  · obtain ⟨o, vs, file, tf, flags, tg, inF, text, tt, x1, x2⟩ := cK8
    exact ⟨o, vs, file, tf, flags, tg, inF, text, tt, K12 _ _ (K811 _ _ (fun q => by rw [q, hN8] at x1; cases x1; exact absurd x2.1 (by simp)) x2.2.2.2.2.2.2.2.2 x1), x2⟩
  · obtain ⟨ps9, x1, x2, x3, x4⟩ := BD.tab
    refine ⟨ps9, x1, K12 _ _ (K911 _ _ (fun q => by rw [q, hN9] at x2; cases x2) x2), x3, fun y hy v hv => ?_⟩
    obtain ⟨c0, o, vs, t, a1, a2, a3, a4⟩ := (x4 y hy v hv).kn kn911 ⟨_, hN9, _, _, rfl⟩
    exact ⟨c0, o, vs, t, a1, a2, K12 _ _ a3, a4⟩
  · have e9 : h9.get? P₀ = some (tabObj ps') := K9 _ _ (Ne.symm nNP) (fun q => absurd lK (by rw [← q]; exact Nat.not_lt.mpr hPL)) hP8
    exact K12 _ _ (K911 _ _ (Ne.symm nNP) e9)
end
end Mine
end
example (h : False) {prog : PySem.Program} {w : PySem.World} {A : PySem.Around} {Q E : PySem.Value → PySem.Shared → Prop} {s : PySem.Shared} {env : PySem.Env} {at0 : PySem.Pos} : PySem.wpAny (PySem.model prog w) A (PySem.eval (.Constant .none 0 at0) env) Q E s := by
  w_top off
  first | (walk1; fail) | exact h.elim
section
open PySem PySem.W PyProof.Rows PySem.Calls
set_option maxRecDepth 100000
set_option linter.unusedSectionVars false
namespace Mine
/-- the whole ledger: all that g has not, but L -/
noncomputable def fullL (g : Heap) (L : Addr) (h : Heap) : List (Addr × Obj) := (List.range h.objs.size).filterMap fun b => if ((g.get? b).isNone && b != L) = true then (h.get? b).map ((b, ·)) else none
theorem mem_full {g h : Heap} {L b : Addr} {o : Obj} (e : h.get? b = some o) (n : g.get? b = none) (hb : b ≠ L) : (b, o) ∈ fullL g L h := by
  refine List.mem_filterMap.mpr ⟨b, List.mem_range.mpr (Heap.lt_size e), ?_⟩
  rw [if_pos (by simp [n, hb]), e]; rfl
theorem news_full (g h : Heap) (L : Addr) : News g L h (fullL g L h) := by
  intro p hp
  obtain ⟨b, _, e⟩ := List.mem_filterMap.mp hp
  split at e
  · rename_i q
    obtain ⟨o, e1, e2⟩ := Option.map_eq_some_iff.mp e
    subst e2
    simp only [Bool.and_eq_true, Option.isNone_iff_eq_none, bne_iff_ne] at q
    exact ⟨e1, q.2, q.1⟩
  · cases e

noncomputable def isCmpDef : Stmt → Bool
  | .FunctionDef n .. => n == (Str.ofString "cmp_to_key")
  | _ => false
noncomputable def cmpClass : List Stmt := match PySem.Challenge.pw_ik0212_01.main.body.find? isCmpDef with
  | some (.FunctionDef _ _ (.ClassDef _ _ _ body .. :: _) ..) => body
  | _ => []
noncomputable def cmpPos : Pos := match PySem.Challenge.pw_ik0212_01.main.body.find? isCmpDef with
  | some (.FunctionDef _ _ (st :: _) ..) => st.pos
  | _ => ⟨0, 0, 0, 0⟩
noncomputable def methIs (n : Str) : Stmt → Bool
  | .FunctionDef m .. => m == n
  | _ => false
noncomputable def mPar (n : Str) : Arguments := match cmpClass.find? (methIs n) with
  | some (.FunctionDef _ p ..) => p
  | _ => ⟨[], [], none, [], [], none, []⟩
noncomputable def mBody (n : Str) : List Stmt := match cmpClass.find? (methIs n) with
  | some (.FunctionDef _ _ b ..) => b
  | _ => []
noncomputable def mScope (n : Str) : Scope := match cmpClass.find? (methIs n) with
  | some (.FunctionDef _ _ _ _ _ _ sc ..) => sc
  | _ => default
noncomputable def mPos (n : Str) : Pos := match cmpClass.find? (methIs n) with
  | some st => st.pos
  | _ => ⟨0, 0, 0, 0⟩
/-- the methods' places and names -/
noncomputable def meths : List (Pos × Str) := ["__init__", "__lt__", "__gt__", "__eq__", "__le__", "__ge__"].map fun n => (mPos (Str.ofString n), Str.ofString "cmp_to_key.<locals>.K." ++ Str.ofString n)

noncomputable def CodeN (S : List (Addr × Obj)) (cv : Value) (q : Str) : Prop := ∃ c o vs t, cv = .ref c ∧ (c, o) ∈ S ∧ o.cls = .type "code" ∧ o.data = .fields vs ∧ vs[1]? = some (.str q t)
noncomputable def TabN (S : List (Addr × Obj)) (P : Addr) : Prop := ∃ ps, (P, tabObj ps) ∈ S ∧ TriplesOk ps.toList ∧ ∀ x ∈ meths, ∀ v, codeAmong x.1 ps.toList = some v → CodeN S v x.2
noncomputable def HdN (S : List (Addr × Obj)) (c P : Addr) : Prop := ∃ o vs file tf flags tg inF text tt, (c, o) ∈ S ∧ o.cls = .type "code" ∧ o.data = .fields vs ∧ vs[11]? = some (.ref P) ∧ vs.getD 11 .none = .ref P ∧ vs.getD 18 .none = .str file tf ∧
    vs.getD 7 .none = .int flags tg ∧ vs.getD 9 .none = .bool inF ∧ vs.getD 10 .none = .int text tt ∧ c ≠ P
/-- the code table of cmp_to_key, empty or with the class's code -/
noncomputable def CtkTab (Lb : Nat) (S : List (Addr × Obj)) : Prop := ∃ ps, ((nat_lit 241, tabObj ps) : Addr × Obj) ∈ S ∧ TriplesOk ps.toList ∧ ∀ v, codeAmong cmpPos ps.toList = some v → ∃ c P, v = .ref c ∧ HdN S c P ∧ TabN S P ∧ @LT.lt Nat _ Lb P
noncomputable def FnN (S : List (Addr × Obj)) (f : Addr) (n : String) (clos : List (Str × Addr)) : Prop :=
  ∃ doc pm cv ctv, (f, fnO (Str.ofString n) (Str.ofString "cmp_to_key.<locals>.K." ++ Str.ofString n) (mPar (Str.ofString n)) (mBody (Str.ofString n)) (mScope (Str.ofString n)) clos doc pm cv ctv) ∈ S ∧ CodeN S cv (Str.ofString "cmp_to_key.<locals>.K." ++ Str.ofString n)
/-- the class K of the ledger -/
noncomputable def KeyCls (S : List (Addr × Obj)) (C : Addr) : Prop := ∃ (nsN md cell : Addr) (oc : Obj) (k : Nat → Int) (u : Nat → Tok) (sl fI fL fG fE fLe fGe st : Addr) (i1 : Int) (t1 : Tok) (i2 : Int) (t2 tm : Tok) (bT : Addr) (tn tq : Tok),
  (C, clK C nsN false [.ref C, .type "object"] [Str.ofString "obj"] (clSl bT tn tq)) ∈ S ∧ (nsN, (⟨.type "dict", none, .dict (kes3 k u sl fI fL fG fE fLe fGe st i1 t1 md i2 t2) 3, #[]⟩ : Obj)) ∈ S ∧ (md, mdK C tm) ∈ S ∧
  FnN S fI "__init__" [] ∧ FnN S fL "__lt__" [(Str.ofString "mycmp", cell)] ∧ (cell, oc) ∈ S ∧ oc.data = .cell (some (.ref 28))

section
variable {S S' : List (Addr × Obj)}
theorem CodeN.mono {cv : Value} {q : Str} (x : CodeN S cv q) (hs : ∀ p ∈ S, p ∈ S') : CodeN S' cv q := exm4 (fun _ _ _ _ h => ⟨h.1, hs _ h.2.1, h.2.2⟩) x
theorem TabN.mono {P : Addr} (x : TabN S P) (hs : ∀ p ∈ S, p ∈ S') : TabN S' P := let ⟨ps, a1, a2, a3⟩ := x; ⟨ps, hs _ a1, a2, fun y hy v hv => (a3 y hy v hv).mono hs⟩
theorem HdN.mono {c P : Addr} (x : HdN S c P) (hs : ∀ p ∈ S, p ∈ S') : HdN S' c P := exm9 (fun _ _ _ _ _ _ _ _ _ h => ⟨hs _ h.1, h.2⟩) x
theorem CtkTab.mono {Lb : Nat} (x : CtkTab Lb S) (hs : ∀ p ∈ S, p ∈ S') : CtkTab Lb S' := let ⟨ps, a1, a2, a3⟩ := x; ⟨ps, hs _ a1, a2, fun v hv => let ⟨c, P, b1, b2, b3, b4⟩ := a3 v hv; ⟨c, P, b1, b2.mono hs, b3.mono hs, b4⟩⟩
end
section
variable {g h : Heap} {L : Addr} {m : Str → Option Value} {S : List (Addr × Obj)}
noncomputable def OwnA (g : Heap) (L : Addr) (a : Addr) : Prop := g.get? a = none ∧ a ≠ L
theorem CodeN.heap (N : News g L h S) {cv : Value} {q : Str} (x : CodeN S cv q) : CodeO (OwnA g L) h cv q := exm4 (fun _ _ _ _ h => ⟨h.1, ⟨(N _ h.2.1).2.2, (N _ h.2.1).2.1⟩, (N _ h.2.1).1, h.2.2⟩) x
theorem TabN.heap (N : News g L h S) {P : Addr} (x : TabN S P) : TabO (OwnA g L) meths h P := let ⟨ps, a1, a2, a3⟩ := x; ⟨ps, ⟨(N _ a1).2.2, (N _ a1).2.1⟩, (N _ a1).1, a2, fun y hy v hv => (a3 y hy v hv).heap N⟩
theorem HdN.heap (N : News g L h S) {c P : Addr} (x : HdN S c P) : CodeHd h c P ∧ OwnA g L c := ⟨exm9 (fun _ _ _ _ _ _ _ _ _ h => ⟨(N _ h.1).1, h.2⟩) x, ex9 x fun _ _ _ _ _ _ _ _ _ h => ⟨(N _ h.1).2.2, (N _ h.1).2.1⟩⟩
theorem CodeO.full {cv : Value} {q : Str} (x : CodeO (OwnA g L) h cv q) : CodeN (fullL g L h) cv q := exm4 (fun _ _ _ _ h => ⟨h.1, mem_full h.2.2.1 h.2.1.1 h.2.1.2, h.2.2.2⟩) x
theorem TabO.full {P : Addr} (x : TabO (OwnA g L) meths h P) : TabN (fullL g L h) P := let ⟨ps, a1, a2, a3, a4⟩ := x; ⟨ps, mem_full a2 a1.1 a1.2, a3, fun y hy v hv => (a4 y hy v hv).full⟩
theorem hd_full {c P : Addr} (x : CodeHd h c P) (o : OwnA g L c) : HdN (fullL g L h) c P := exm9 (fun _ _ _ _ _ _ _ _ _ h => ⟨mem_full h.1 o.1 o.2, h.2⟩) x
end
end Mine
end
example (h : False) {prog : PySem.Program} {w : PySem.World} {A : PySem.Around} {Q E : PySem.Value → PySem.Shared → Prop} {s : PySem.Shared} {env : PySem.Env} {at0 : PySem.Pos} : PySem.wpAny (PySem.model prog w) A (PySem.eval (.Constant .none 0 at0) env) Q E s := by
  w_top off
  first | (walk1; fail) | exact h.elim
section
open PySem PySem.W PyProof.Rows PySem.Calls
set_option maxRecDepth 100000
set_option linter.unusedSectionVars false
namespace Mine
section
variable {prog : Program} {w : World} {A : Around} {E : Value → Shared → Prop} {s : Shared}
theorem wpAny_raise {α : Type} {M : Model} {A : Around} {t : Sem α} {Q : α → Shared → Prop} {E : Value → Shared → Prop} {s : Shared} (d u : Nat) (hd : A.depth ≤ d) (hu : A.units ≤ u) (h : wpAny M { A with depth := d, units := u } t Q E s) : wpAny M A t Q E s :=
  fun Γ p hΓ => h Γ p ⟨hΓ.1, Nat.le_trans hΓ.2.1 hd, hΓ.2.2.1, hΓ.2.2.2.1, Nat.le_trans hΓ.2.2.2.2 hu⟩
noncomputable def instO (C D : Addr) (v : Value) : Obj := ⟨.ref C, some D, .plain, #[some v]⟩
end
end Mine
end
example (h : False) {prog : PySem.Program} {w : PySem.World} {A : PySem.Around} {Q E : PySem.Value → PySem.Shared → Prop} {s : PySem.Shared} {env : PySem.Env} {at0 : PySem.Pos} : PySem.wpAny (PySem.model prog w) A (PySem.eval (.Constant .none 0 at0) env) Q E s := by
  w_top off
  first | (walk1; fail) | exact h.elim
section
open PySem PySem.W PyProof.Rows PySem.Calls
set_option maxRecDepth 100000
set_option linter.unusedSectionVars false
namespace Mine
theorem fillE2 : PySem.Challenge.rw_ik0212_01 = PySem.Challenge.rw_ik0212_01 ∧ mkK.heap_1 = mkK.heap_1 := by
  k_fill
  exact ⟨rfl, rfl⟩
noncomputable abbrev mwO (I : Addr) : Obj := { cls := .type "method-wrapper", data := .fields #[.builtin "list_iterator.__next__", .ref I] }
theorem fin_mw {s : Shared} {h : Heap} {chg nw : List (Addr × Obj)} {I M : Addr} {Q : Value → Shared → Prop} {tk : Nat} (D : PySem.W.X.Mem s.heap h chg nw)
    (hq : ∀ h' M tk', (∀ b o, s.heap.get? b = some o → h'.get? b = some o) → h'.get? M = some (mwO I) → s.heap.get? M = none → Q (.ref M) { s with heap := h', toks := tk' })
    (e1 : chg = []) (e2 : nw.head? = some (M, mwO I)) : Q (.ref M) { s with heap := h, toks := tk } := by
  subst e1
  rw [List.head?_eq_getElem?] at e2
  exact hq h M tk (fun b o e => D.keep b o e (by simp [PySem.W.X.away])) (D.at 0 _ _ e2) (D.nw _ (List.mem_of_getElem? e2)).2
local macro_rules | `(tactic| x_close) => `(tactic| (refine' fin_mw ?D ?r ?e1 ?e2; (case D => first | assumption | exact PySem.W.X.Mem.start _); (case r => assumption); (case e1 => kernel_rfl); (case e2 => kernel_rfl)))
section
variable {prog : Program} {w : World} {A : Around} {E : Value → Shared → Prop} {s : Shared}
set_option maxHeartbeats 4000000 in
theorem nx_raw {I l : Addr} {t : Tok} {Q : Value → Shared → Prop} (hd0 : A.depth ≤ 900) (hu0 : A.units ≤ 1000)
    (hI : s.heap.get? I = some (listIt l 0))
    (hq : ∀ h' M tk', (∀ b o, s.heap.get? b = some o → h'.get? b = some o) → h'.get? M = some (mwO I) → s.heap.get? M = none → Q (.ref M) { s with heap := h', toks := tk' }) :
    wpAny (model prog w) A (call (.builtin "object.__getattribute__") [.ref I, .str (Str.ofString "__next__") t]) Q E s := by
  refine wpAny_raise 900 1000 hd0 hu0 ?_
  unfold listIt at hI
  (x_run)
end
section
variable {prog : Program} {w : World} {A : Around} {E : Value → Shared → Prop} {h : Heap} {g : Array GenState} {d : Drawn} {t : Nat} {os : OsState}
set_option maxHeartbeats 4000000 in
theorem nx_get {I l : Addr} {nt : Bool} {Q : Value → Shared → Prop} (hd0 : A.depth ≤ 900) (hu0 : A.units ≤ 1000)
    (hI : h.get? I = some (listIt l 0))
    (hq : ∀ h' M tk', (∀ b o, h.get? b = some o → h'.get? b = some o) → h'.get? M = some (mwO I) → h.get? M = none → Q (.ref M) ⟨h', g, d, tk', os⟩) :
    wpAny (model prog w) A (getAttr (.ref I) (Str.ofString "__next__") nt) Q E ⟨h, g, d, t, os⟩ := by
  have l1 : Looks (model prog w) h (typeOf (.ref I)) (.type "list_iterator") := (Looks.ld hI).andThen .now
  have l2 : Looks (model prog w) h (typeLookup (.type "list_iterator") (Str.ofString "__getattribute__")) (some (.builtin "object.__getattribute__")) := by
    rw [typeLookup_type, builtinLookup_eq_fast]; exact Looks.of_pure (by kernel_rfl)
  have l3 : Looks (model prog w) h (bindSpecial (.builtin "object.__getattribute__") (.ref I)) (.builtin "object.__getattribute__", [.ref I]) := pk (by kernel_rfl)
  cases nt <;> (repeat ((fail_if_success (with_reducible show wpAny _ _ (call _ _) _ _ _)); (first | walk_at "cs")))
  all_goals
    refine (show wpAny _ _ (call (.builtin "object.__getattribute__") [.ref I, .str (Str.ofString "__next__") t]) _ _ _ from ?_)
    refine nx_raw (s := ⟨h, g, d, t + 1, os⟩) hd0 hu0 hI fun h' M tk' k1 k2 k3 => ?_
    dsimp only
    (repeat (walk_at "cs"))
    exact hq _ M tk' k1 k2 k3
end
end Mine
end
example (h : False) {prog : PySem.Program} {w : PySem.World} {A : PySem.Around} {Q E : PySem.Value → PySem.Shared → Prop} {s : PySem.Shared} {env : PySem.Env} {at0 : PySem.Pos} : PySem.wpAny (PySem.model prog w) A (PySem.eval (.Constant .none 0 at0) env) Q E s := by
  w_top off
  first | (walk1; fail) | exact h.elim
section
open PySem PySem.W PyProof.Rows PySem.Calls
set_option maxRecDepth 100000
set_option linter.unusedSectionVars false
namespace Mine
section
variable {prog : Program} {w : World} {A : Around} {E : Value → Shared → Prop} {s : Shared}
theorem check_nx {I : Addr} : checkBoundCall "list_iterator.__next__" ⟨[.ref I], []⟩ = pure () := by kernel_rfl
theorem nx_code {M I : Addr} {R : Result → Shared → Prop} (hM : s.heap.get? M = some (mwO I))
    (h : wpAny (model prog w) A.in1 (Builtin.«list_iterator.__next__» ⟨[.ref I], []⟩) (fun fin s' => match fin with | .done f => R (.ok f) s' | .again c' => c'.quiet = true ∧ codeAny (model prog w) A c' R s') (fun e s' => R (.error e) s') s) :
    codeAny (model prog w) A (.call (.ref M) ⟨[], []⟩) R s := by
  refine codeAny_of_tree ?_
  show wpAny _ _ (callAny (.ref M) ⟨[], []⟩) _ _ s
  unfold callAny
  dsimp only
  refine wpAny_bind (wpAny_load hM ?_)
  show wpAny _ _ (if (Value.type "method-wrapper" == Value.type "method" || Value.type "method-wrapper" == Value.type "builtin_function_or_method" || Value.type "method-wrapper" == Value.type "method-wrapper") = true then _ else _) _ _ s
  rw [if_pos (by decide)]
  show wpAny _ _ (if (Value.type "method-wrapper" != Value.type "method") = true then _ else _) _ _ s
  rw [if_pos (by decide)]
  refine wpAny_bind (wpAny_of_eq (a := ()) check_nx ?_)
  refine wpAny_pure ⟨Code.quiet_builtin _ (by decide +kernel), ?_⟩
  exact codeAny_builtin entry_listiter_next h
theorem nx_item {M I l : Addr} {j n : Nat} {vs : List Value} {x : Value} {Q : Value → Shared → Prop} (hM : s.heap.get? M = some (mwO I)) (hI : s.heap.get? I = some (listIt l j)) (hl : s.heap.get? l = some (W.listOf vs.toArray n)) (hx : vs[j]? = some x)
    (hq : ∀ h', h'.get? I = some (listIt l (j + 1)) → Heap.SameBut I s.heap h' → Q x { s with heap := h' }) : wpAny (model prog w) A (call (.ref M) []) Q E s := by
  refine wpAny_call (nx_code hM ?_)
  show wpAny _ _ (field (.ref I) 0 >>= _) _ _ s
  refine wpAny_bind (wpAny_field hI rfl (x := .ref l) rfl ?_)
  show wpAny _ _ (if (Value.ref l == Value.none) = true then _ else _) _ _ s
  rw [if_neg (show ¬ ((Value.ref l == Value.none) = true) from Bool.false_ne_true)]
  show wpAny _ _ (field (.ref I) 1 >>= _) _ _ s
  refine wpAny_bind (wpAny_field hI rfl (x := .int j 0) rfl ?_)
  show wpAny _ _ (seqItems? (.ref l) >>= _) _ _ s
  refine wpAny_bind (wpAny_seqItems hl rfl ?_)
  simp only [Int.toNat_natCast, List.getElem?_toArray, hx]
  refine wpAny_bind (wpAny_setField hI rfl (by simp) (wpAny_pure ?_))
  refine hq _ ?_ (Heap.SameBut.update ..)
  refine (Heap.get?_update_self _ hI rfl).trans ?_
  rfl
theorem nx_end {M I l : Addr} {n : Nat} {vs : List Value} {Q : Value → Shared → Prop} (hh : A.handled = none) (hM : s.heap.get? M = some (mwO I)) (hI : s.heap.get? I = some (listIt l vs.length)) (hl : s.heap.get? l = some (W.listOf vs.toArray n))
    (hq : ∀ h h' e, h.get? I = some { cls := .type "list_iterator", data := .fields #[.none, .int vs.length 0] } → Heap.SameBut I s.heap h → Heap.NewExc h h' e "StopIteration" → E (.ref e) { s with heap := h' }) : wpAny (model prog w) A (call (.ref M) []) Q E s := by
  generalize Mine.clo = hCl
  revert prog w A E s M I l n vs Q
  intro prog w A E s M I l n vs Q hh hM hI hl hq
  refine wpAny_call (nx_code hM ?_)
  show wpAny _ _ (field (.ref I) 0 >>= _) _ _ s
  refine wpAny_bind (wpAny_field hI rfl (x := .ref l) rfl ?_)
  show wpAny _ _ (if (Value.ref l == Value.none) = true then _ else _) _ _ s
  rw [if_neg (show ¬ ((Value.ref l == Value.none) = true) from Bool.false_ne_true)]
  show wpAny _ _ (field (.ref I) 1 >>= _) _ _ s
  refine wpAny_bind (wpAny_field hI rfl (x := .int vs.length 0) rfl ?_)
  show wpAny _ _ (seqItems? (.ref l) >>= _) _ _ s
  refine wpAny_bind (wpAny_seqItems hl rfl ?_)
  simp only [Int.toNat_natCast, List.getElem?_toArray, List.getElem?_eq_none (Nat.le_refl _)]
  refine wpAny_bind (wpAny_rule (wpAny_bind (wpAny_setField hI rfl (by simp) ?_)))
  show wpAny _ _ (newExc (.type "StopIteration") [] >>= _) _ _ _
  refine wpAny_bind ?_
  simp only [newExc, newTuple]
  refine wpAny_bind (wpAny_newObj_type ?_ (by size_fits))
  refine wpAny_bind (m := firstArgMember _ _) (wpAny_of_eq (a := Value.none) (by first | rfl | (simp only [firstArgMember]; rfl)) ?_)
  refine wpAny_newObj_type ?_ (by size_fits)
  simp only [raiseNew]
  refine wpAny_bind (wpAny_handled ?_)
  rw [show A.in1.handled = none from hh]
  refine wpAny_bind (wpAny_pure (wpAny_throw ?_))
  refine hq (s.heap.update I (Obj.mapFields (·.setIfInBounds 0 .none))) _ _ ?_ (Heap.SameBut.update ..) ⟨fun b o e => Heap.get?_push_of_some _ (Heap.get?_push_of_some _ e), Heap.get?_none_of_le (by simp), _, .ref _, Heap.get?_push_size _ rfl, rfl, by rfl⟩
  refine (Heap.get?_update_self _ hI rfl).trans ?_
  rfl
end
end Mine
end
example (h : False) {prog : PySem.Program} {w : PySem.World} {A : PySem.Around} {Q E : PySem.Value → PySem.Shared → Prop} {s : PySem.Shared} {env : PySem.Env} {at0 : PySem.Pos} : PySem.wpAny (PySem.model prog w) A (PySem.eval (.Constant .none 0 at0) env) Q E s := by
  w_top off
  first | (walk1; fail) | exact h.elim
section
open PySem PySem.W PyProof.Rows PySem.Calls PySem.Spec
set_option maxRecDepth 100000
set_option linter.unusedSectionVars false
namespace Mine
/-- leaving a call in which an exception was caught: the outer frames' slots may have changed -/
noncomputable def LeaveT (env : Env) (A₀ : Around) (base : Heap) (outer : List Env) (K : Frag) (p : Program) (loose : List Str) (mean : ExcName → Option Value) (mg mb : Str → Option Value) (h₀ : Heap) (L : Addr) (m : Str → Option Value) (g : Heap) (R : Result → Shared → Prop) (v : Value) (s' : Shared) : Prop :=
  ∃ g' L' m' news', KtsTurn ((env :: outer).filterMap (·.frame)) g g' ∧ Fr g' L' s'.heap m' ∧ News g' L' s'.heap news' ∧ ∀ h₀', KtsTurn (outer.filterMap (·.frame)) h₀ h₀' → Fr h₀' L s'.heap m → News h₀' L s'.heap news' → Below A₀ base outer h₀' → K.In h₀' → Top p loose mean mg mb h₀' →
    KtsDicts (outer.filterMap (·.frame)) h₀' → R (.ok (.ret v)) s'
theorem leaveT_ {env : Env} {A₀ : Around} {base : Heap} {outer : List Env} {K : Frag} {p : Program} {loose : List Str} {mean : ExcName → Option Value} {mg mb : Str → Option Value} {h₀ g g' : Heap} {L L' : Addr} {m m' : Str → Option Value} {news' : List (Addr × Obj)} {R : Result → Shared → Prop} {v : Value} {s' : Shared}
    (F' : Fr g' L' s'.heap m') (N' : News g' L' s'.heap news') (T : KtsTurn ((env :: outer).filterMap (·.frame)) g g')
    (k : ∀ h₀', KtsTurn (outer.filterMap (·.frame)) h₀ h₀' → Fr h₀' L s'.heap m → News h₀' L s'.heap news' → Below A₀ base outer h₀' → K.In h₀' → Top p loose mean mg mb h₀' → KtsDicts (outer.filterMap (·.frame)) h₀' → R (.ok (.ret v)) s') :
    LeaveT env A₀ base outer K p loose mean mg mb h₀ L m g R v s' := ⟨g', L', m', news', T, F', N', k⟩
theorem memE {env : Env} {L b : Addr} {outer : List Env} (hf : env.frame = some L) (hm : b ∈ (env :: outer).filterMap (·.frame)) : b = L ∨ b ∈ outer.filterMap (·.frame) := by
  obtain ⟨e, he, hb⟩ := List.mem_filterMap.mp hm
  rcases List.mem_cons.mp he with rfl | he
  · exact .inl (Option.some.inj (hb.symm.trans hf))
  · exact .inr (List.mem_filterMap.mpr ⟨e, he, hb⟩)
section
variable {prog : Program} {w : World} {A₀ A : Around} {s : Shared} {base h₀ : Heap} {outer : List Env} {L : Addr} {m : Str → Option Value} {env : Env} {news : List (Addr × Obj)} {K : Frag} {p : Program} {loose : List Str} {mean : ExcName → Option Value} {mg mb : Str → Option Value}
    {R : Result → Shared → Prop} {name qual : Str} {params : Arguments} {body : List Stmt} {scope : Scope} {dV kV doc pm cdv ct oc : Value} {an od : Option Addr} {osl : Array (Option Value)} {f : Addr} {args : Args} {binds : List (Str × Value)}
theorem enterE (B : Below A₀ base outer h₀) (F : Fr h₀ L s.heap m) (N : News h₀ L s.heap news) (hA : A.frames = some (env :: outer)) (hf : env.frame = some L) (hke : env.scope.kind = .function) :
    ∃ oL es ep, (hideAll s.heap (news.map (·.1))).get? L = some oL ∧ oL.data = .dict es ep ∧ (∀ h', h'.get? L = some oL → Heap.Ns h' L m) ∧ (∀ (sl : Array (Option Value)) h', h'.get? L = some { oL with slots := sl } → Heap.Ns h' L m) ∧
      h₀.StaysIn (hideAll s.heap (news.map (·.1))) ∧ Below A base (env :: outer) (hideAll s.heap (news.map (·.1))) := by
  have nm : ∀ b o, h₀.get? b = some o → b ∉ news.map (·.1) := fun b o e q => by
    obtain ⟨p, hp, rfl⟩ := List.mem_map.mp q
    rw [(N p hp).2.2] at e; cases e
  have st : h₀.StaysIn (hideAll s.heap (news.map (·.1))) := fun b o e => hideAll_get _ (F.keep b o e) (nm b o e)
  obtain ⟨oL, es, ep, hL, hLd, hLk, hLf⟩ := F.ns
  have nL : L ∉ news.map (·.1) := fun q => by
    obtain ⟨p, hp, e⟩ := List.mem_map.mp q
    exact (N p hp).2.1 e
  have hLg := hideAll_get (news.map (·.1)) hL nL
  have hnew : base.get? L = none := by
    cases hq : base.get? L with
    | none => rfl
    | some o => exact absurd (Nat.lt_of_lt_of_le (Heap.lt_size (B.stays L o hq)) F.above) (Nat.lt_irrefl _)
  have B₁ : Below A base (env :: outer) s.heap := ⟨hA, fun b o e => F.keep b o (B.stays b o e), Heap.FunFrames.cons (by rw [hke]; decide) hf F.ns hnew (B.frames.of_keeps fun b o e _ => ⟨o, F.keep b o e, rfl⟩)⟩
  exact ⟨oL, es, ep, hLg, hLd, fun h' e => ⟨oL, es, ep, e, hLd, hLk, hLf⟩, fun sl h' e => ⟨_, es, ep, e, hLd, hLk, hLf⟩, st, ⟨hA, fun b o e => st b o (B.stays b o e), funFrames_hideAll B₁.frames fun e he b hb hf' => by
    rcases List.mem_cons.mp he with rfl | he
    · exact nL ((Option.some.inj (hf.symm.trans hf') : L = b) ▸ hb)
    · obtain ⟨L₁, o₁, hf₁, ho₁⟩ := funFrames_in B.frames e he
      rw [hf₁] at hf'
      exact nm L₁ o₁ ho₁ ((Option.some.inj hf' : L₁ = b) ▸ hb)⟩⟩
theorem code_defT (B : Below A₀ base outer h₀) (F : Fr h₀ L s.heap m) (X₀ : K.In h₀) (N : News h₀ L s.heap news) (T : Top p loose mean mg mb h₀) (XB : K.In base) (TB : Top p loose mean mg mb base) (D : KtsDicts (outer.filterMap (·.frame)) h₀)
    (hA : A.frames = some (env :: outer)) (hf : env.frame = some L) (hke : env.scope.kind = .function)
    (ho : K.lookup f = some ⟨oc, od, .func (fnOf name qual params body scope dV kV doc pm an cdv ct), osl⟩) (hcd : codeIn K cdv qual = true) (hroom : A.depth < recursionLimit)
    (hbind : BindsTo s (fnOf name qual params body scope dV kV doc pm an cdv ct) args binds) (hloc : ∀ y ∈ binds, scope.names.lookup y.1 = some .local)
    (h : ∀ g L' h₁, Fr h₀ L g m → Fr g L' h₁ (fun y => binds.reverse.lookup y) → News g L' h₁ news → Below A base (env :: outer) g → K.In g → Top p loose mean mg mb g → KtsDicts ((env :: outer).filterMap (·.frame)) g →
      wpAny (model prog w) (A.deeper (envOf qual scope L' f cdv)) (execs body (envOf qual scope L' f cdv))
        (fun fl s' => LeaveT env A₀ base outer K p loose mean mg mb h₀ L m g R (match fl with | .ret v => v | _ => .none) s')
        (fun e s' => wpAny (model prog w) (A.deeper (envOf qual scope L' f cdv)) (leaving (envOf qual scope L' f cdv) e) (fun _ s'' => R (.error e) s'') (fun e' s'' => R (.error e') s'') s')
        { s with heap := h₁, toks := s.toks + binds.length })
    (hco : scope.isCoroutine = false) (hgen : scope.isGenerator = false) (hk : scope.kind = .function)
    (hcell : ∀ x ∈ scope.names, x.2 ≠ .cell) : codeAny (model prog w) A (.call (.ref f) args) R s := by
  have X := X₀.keeps F.keep
  refine codeAny_call_def (fd := fnOf name qual params body scope dV kV doc pm an cdv ct) (body := body) (binds := binds) hroom (X _ _ ho) rfl (T.nolimit.keeps F.keep) (codeRec_of X hcd) rfl hbind hcell hloc (fun h₁ hns hk₁ => ?_) hco hgen hk
  obtain ⟨oL, es, ep, hLg, hLd, hN, hNs, st, B₂⟩ := enterE B F N hA hf hke
  refine wpAny_mono (h _ s.heap.objs.size h₁ ⟨hN _ hLg, st, F.above⟩ ⟨hns, fun b o e => hk₁ b o (of_hideAll _ e), Nat.le_of_eq (hideAll_size _ _)⟩
    (fun p hp => ⟨hk₁ _ _ (N p hp).1, Nat.ne_of_lt (Heap.lt_size (N p hp).1), hideAll_none _ (List.mem_map_of_mem hp)⟩) B₂ (X₀.keeps st) (T.keeps st) (fun b hb => by
      rcases memE hf hb with rfl | hb
      · exact ⟨oL, es, ep, hLg, hLd⟩
      · obtain ⟨o, es', n', ho', hd'⟩ := D b hb
        exact ⟨o, es', n', st b o ho', hd'⟩)) (fun fl s' hl => ?_) fun _ _ y => y
  have nL₀ : h₀.get? L = none := kts_self F
  obtain ⟨g', L', m', news', T', F', N', k⟩ := hl
  obtain ⟨sl, hs⟩ := T'.up hLg
  obtain ⟨T₁, S₁⟩ := kts_turn_at (h := s'.heap) (fs := outer.filterMap (·.frame)) (g := h₀)
    (fun b hb => by
      obtain ⟨_, o, ho', _⟩ := B.frames.mem hb
      exact ⟨o, ho'⟩)
    (fun b o e nmem => F'.keep b o (T'.other b o (st b o e) (fun q => by
      rcases memE hf q with z | z
      · rw [z, nL₀] at e
        cases e
      · exact nmem z)))
    (fun b o e hm => by
      obtain ⟨sl', hs'⟩ := T'.up (st b o e)
      exact ⟨sl', F'.keep _ _ hs'⟩)
  have B₃ : Below A₀ base outer (ktsHeap s'.heap (outer.filterMap (·.frame)) h₀) := ⟨B.stack, fun b o e => T₁.other b o (B.stays b o e) (fun hm => by
    rw [(B.frames.mem hm).1] at e
    cases e), B.frames.of_keeps fun b o e _ => by
    obtain ⟨sl', hs'⟩ := T₁.up e
    exact ⟨_, hs', rfl⟩⟩
  refine k _ T₁ ⟨hNs sl _ (F'.keep _ _ hs), S₁, by rw [T₁.size]; exact F.above⟩ (fun p hp => ⟨(N' p hp).1, fun q => ?_, ?_⟩) B₃ (XB.keeps B₃.stays) (TB.keeps B₃.stays) (D.turn T₁)
  · have := (N' p hp).2.2; rw [q, hs] at this; cases this
  · refine T₁.none_ _ ?_
    cases q : h₀.get? p.1 with
    | none => rfl
    | some o =>
      obtain ⟨sl', hs'⟩ := T'.up (st _ _ q)
      have := (N' p hp).2.2
      rw [hs'] at this
      cases this
/-- a turn where no frame is outer changes nothing -/
theorem turn_nil {h₀' h : Heap} (T : KtsTurn [] h₀ h₀') (F : Fr h₀' L h m) (N : News h₀' L h news) : Fr h₀ L h m ∧ News h₀ L h news := by
  refine ⟨⟨F.ns, fun b o e => F.keep b o (T.other b o e (by simp)), by rw [← T.size]; exact F.above⟩, fun p hp => ⟨(N p hp).1, (N p hp).2.1, ?_⟩⟩
  cases q : h₀.get? p.1 with
  | none => rfl
  | some o => have := T.other _ o q (by simp); rw [(N p hp).2.2] at this; cases this
end
end Mine
end
example (h : False) {prog : PySem.Program} {w : PySem.World} {A : PySem.Around} {Q E : PySem.Value → PySem.Shared → Prop} {s : PySem.Shared} {env : PySem.Env} {at0 : PySem.Pos} : PySem.wpAny (PySem.model prog w) A (PySem.eval (.Constant .none 0 at0) env) Q E s := by
  w_top off
  first | (walk1; fail) | exact h.elim
section
open PySem PySem.W PyProof.Rows PySem.Calls
set_option maxRecDepth 100000
set_option linter.unusedSectionVars false
namespace Mine
/-- one above a ledger's highest address -/
noncomputable def mx : List (Addr × Obj) → Nat
  | [] => 0
  | p :: r => max (p.1 + 1) (mx r)
theorem mx_le {d : Nat} : ∀ {l : List (Addr × Obj)}, mx l ≤ d ↔ ∀ p ∈ l, @LT.lt Nat _ p.1 d
  | [] => ⟨fun _ _ h => (nomatch h), fun _ => Nat.zero_le _⟩
  | p :: r => by
    show max (p.1 + 1) (mx r) ≤ d ↔ _
    rw [Nat.max_le, mx_le]
    refine ⟨fun h q hq => ?_, fun h => ⟨h p (.head _), fun q hq => h q (.tail _ hq)⟩⟩
    rcases List.mem_cons.mp hq with rfl | hq
    · exact h.1
    · exact h.2 q hq
theorem allLt_mx {d : Addr} {l : List (Addr × Obj)} : AllLt d l = (mx l ≤ d) := by
  refine propext ⟨fun h => mx_le.mpr ?_, fun h => allLt_of (mx_le.mp h)⟩
  induction l with
  | nil => exact fun _ h => nomatch h
  | cons p r ih =>
    intro q hq
    rcases List.mem_cons.mp hq with rfl | hq
    · exact h.1
    · exact ih h.2 q hq
theorem ne_mx {a : Nat} {l : List (Addr × Obj)} (h : mx l ≤ a) : ∀ p ∈ l, p.1 ≠ a := fun p hp => Nat.ne_of_lt (mx_le.mp h p hp)
end Mine
end
example (h : False) {prog : PySem.Program} {w : PySem.World} {A : PySem.Around} {Q E : PySem.Value → PySem.Shared → Prop} {s : PySem.Shared} {env : PySem.Env} {at0 : PySem.Pos} : PySem.wpAny (PySem.model prog w) A (PySem.eval (.Constant .none 0 at0) env) Q E s := by
  w_top off
  first | (walk1; fail) | exact h.elim
section
open PySem PySem.W PyProof.Rows PySem.Calls
set_option maxRecDepth 100000
set_option linter.unusedSectionVars false
namespace Mine
section
variable {K : Frag} {C nsN md fI bT : Addr} {tn tq tm : Tok} {es : Array DictEntry} {n : Nat} {oF : Obj}
variable (kC : K.lookup C = some (clK C nsN false [.ref C, .type "object"] [Str.ofString "obj"] (clSl bT tn tq)))
include kC
theorem kf_cls : clsIn K C = some ⟨Str.ofString "K", [.type "object"], [.ref C, .type "object"], nsN, Str.ofString "cmp_to_key.<locals>.K", false, [Str.ofString "obj"], [], false, none, false⟩ := by
  unfold clsIn; rw [kC]; rfl
theorem kf_own {name : Str} {v : Value} (e : nsIn K nsN name = some (some v)) : findIn K (.ref C) name = some (some v) := by
  unfold findIn; dsimp only; rw [kC]
  show alongIn K name [.ref C, .type "object"] = _
  unfold alongIn ownIn; dsimp only; rw [kC]
  show (match nsIn K nsN name with | some (some v) => _ | some none => _ | none => _) = _
  rw [e]
theorem kf_top {name : Str} {r : Option Value} (e : nsIn K nsN name = some none) (e2 : alongIn K name [.type "object"] = some r) : findIn K (.ref C) name = some r := by
  unfold findIn; dsimp only; rw [kC]
  show alongIn K name [.ref C, .type "object"] = _
  unfold alongIn ownIn; dsimp only; rw [kC]
  show (match nsIn K nsN name with | some (some v) => _ | some none => _ | none => _) = _
  rw [e]
  exact e2
theorem kf_makes : makesIn K C = true := by
  have h1 : [Value.ref C, .type "object"].contains (.ref C) = true := by simp
  have h2 : [Value.ref C, .type "object"].contains (.type "object") = true := by simp
  have h0 : typeIn K (.ref C) = some (.type "type") := by unfold typeIn; dsimp only; rw [kC]; rfl
  have h3 : specialIn K (.ref C) "__call__" = some (some (.builtin "type.__call__")) := by unfold specialIn; rw [h0]; kernel_rfl
  have h4 : instIn K (.ref C) (.type "type") = some true := by unfold instIn; rw [h0]; kernel_rfl
  unfold makesIn; rw [kC]
  show (_ && _ && _ && _ && [Value.ref C, .type "object"].contains (.ref C) && [Value.ref C, .type "object"].contains (.type "object") && _ && _) = true
  rw [h1, h2, h3, h4]
  rfl
theorem kf_slot (kM : K.lookup md = some (mdK C tm)) : slotIn K md C = some 0 := by
  have h1 : [Value.ref C, .type "object"].contains (.ref C) = true := by simp
  have h2 : recIn K md "member_descriptor" = some [.str (Str.ofString "obj") tm, .ref C, .builtin "proto.slot", .builtin "proto.slot#set", .int 0 0] := by unfold recIn; rw [kM]; rfl
  unfold slotIn; rw [h2, kf_cls kC]
  show (if (_ && _ && _ && [Value.ref C, .type "object"].contains (.ref C) && _) = true then _ else _) = _
  rw [h1]
  rfl
theorem kf_taker (kM : K.lookup md = some (mdK C tm)) (e : nsIn K nsN (Str.ofString "obj") = some (some (.ref md))) : takerIn K C (Str.ofString "obj") = some (some (.ref md)) := by
  have h0 : typeIn K (.ref md) = some (.type "member_descriptor") := by unfold typeIn; dsimp only; rw [kM]; rfl
  have h1 : takesIn K (.ref md) = some true := by unfold takesIn specialIn; rw [h0]; kernel_rfl
  unfold takerIn; rw [kf_own kC e]
  show (takesIn K (.ref md)).map _ = _
  rw [h1]; rfl
theorem kf_plain : plainOver K C = true := by unfold plainOver; rw [kf_cls kC]; kernel_rfl
end
theorem kfrag {a b c d : Addr} {oa ob oc od : Obj} (h1 : b ≠ a) (h2 : c ≠ a) (h3 : c ≠ b) (h4 : d ≠ a) (h5 : d ≠ b) (h6 : d ≠ c) :
    ∃ K : Frag, (∀ h : Heap, h.get? a = some oa → h.get? b = some ob → h.get? c = some oc → h.get? d = some od → K.In h) ∧ K.lookup a = some oa ∧ K.lookup b = some ob ∧ K.lookup c = some oc ∧ K.lookup d = some od := by
  refine ⟨[(a, oa), (b, ob), (c, oc), (d, od)], ?_, ?_, ?_, ?_, ?_⟩
  · intro h ea eb ec ed x o e
    simp only [List.lookup_cons, List.lookup_nil] at e
    repeat' (split at e)
    all_goals first
      | (rename_i q; rw [beq_iff_eq.mp q]; cases e; assumption)
      | cases e
  all_goals simp only [List.lookup_cons, beq_self_eq_true, beq_false_of_ne h1, beq_false_of_ne h2, beq_false_of_ne h3, beq_false_of_ne h4, beq_false_of_ne h5, beq_false_of_ne h6]
end Mine
end
example (h : False) {prog : PySem.Program} {w : PySem.World} {A : PySem.Around} {Q E : PySem.Value → PySem.Shared → Prop} {s : PySem.Shared} {env : PySem.Env} {at0 : PySem.Pos} : PySem.wpAny (PySem.model prog w) A (PySem.eval (.Constant .none 0 at0) env) Q E s := by
  w_top off
  first | (walk1; fail) | exact h.elim
section
open PySem PySem.W PyProof.Rows PySem.Calls
set_option maxRecDepth 100000
set_option linter.unusedSectionVars false
namespace Mine
theorem fillSC : PySem.Challenge.rw_ik0212_01 = PySem.Challenge.rw_ik0212_01 ∧ mkK.heap_1 = mkK.heap_1 := by
  k_fill
  exact ⟨rfl, rfl⟩
theorem sc_lt (x y : Str) : decide (b2i (decide (y.cps.toList < x.cps.toList)) - b2i (decide (x.cps.toList < y.cps.toList)) < 0) = decide (x.cps.toList < y.cps.toList) := by
  by_cases h : x.cps.toList < y.cps.toList
  · have h2 : ¬ y.cps.toList < x.cps.toList := fun q => List.lt_irrefl _ (List.lt_trans h q)
    rw [decide_eq_true h, decide_eq_false h2]
    rfl
  · rw [decide_eq_false h]
    by_cases h2 : y.cps.toList < x.cps.toList
    · rw [decide_eq_true h2]; rfl
    · rw [decide_eq_false h2]; rfl
section
variable {prog : Program} {w : World} {dp un : Nat} {gd : Option (List Code)} {cn : Str} {cs : Scope} {a : Addr} {ccd : Value} {cl : List (Str × Addr)} {outer : List Env} {A₀ : Around} {base h₀ : Heap} {L : Addr} {m : Str → Option Value} {news : List (Addr × Obj)} {s : Shared} {Q E : Value → Shared → Prop} {p : Program} {loose : List Str} {mean : ExcName → Option Value} {mg mb : Str → Option Value}
variable (B : Below A₀ base outer h₀) (F : Fr h₀ L s.heap m) (X : (mkK.heap_1 w.params).In h₀) (N : News h₀ L s.heap news) (T : Top p loose mean mg mb h₀) (hk : cs.kind = .function) (hd' : dp + 4 < recursionLimit) (hu : un + 80 < cLine)
include B F X N T hk hd' hu
set_option maxHeartbeats 4000000 in
theorem sc_L {x y : Str} {tx ty : Tok}
    (hret : ∀ h' tk' i t, Fr h₀ L h' m → News h₀ L h' news → decide (i < 0) = decide (x.cps.toList < y.cps.toList) → Q (.int i t) { s with heap := h', toks := tk' }) :
    wpAny (model prog w) (ktrTop dp un gd cn cs L a ccd cl outer) (call (.ref 28) [.str x tx, .str y ty]) Q E s := by
  refine wpAny_call ?_; k_dflt ktr_enter
  (repeat (first | (k_unfold; (try dsimp only)) | walk1 | (dsimp only; walk1)))
  exact hret _ _ _ _ (by k_asm) (by k_asm) (sc_lt _ _)
end
end Mine
end
example (h : False) {prog : PySem.Program} {w : PySem.World} {A : PySem.Around} {Q E : PySem.Value → PySem.Shared → Prop} {s : PySem.Shared} {env : PySem.Env} {at0 : PySem.Pos} : PySem.wpAny (PySem.model prog w) A (PySem.eval (.Constant .none 0 at0) env) Q E s := by
  w_top off
  first | (walk1; fail) | exact h.elim
section
open PySem PySem.W PyProof.Rows PySem.Calls
set_option maxRecDepth 100000
set_option linter.unusedSectionVars false
namespace Mine
theorem fillT12 : PySem.Challenge.rw_ik0212_01 = PySem.Challenge.rw_ik0212_01 ∧ mkK.heap_1 = mkK.heap_1 := by
  k_fill
  exact ⟨rfl, rfl⟩
section
variable {prog : Program} {w : World} {A : Around} {E : Value → Shared → Prop} {h : Heap} {g : Array GenState} {d : Drawn} {t : Nat} {os : OsState}
theorem special_fn {v T : Value} {name : Str} {args : List Value} {f : Addr} {Q : Option Value → Shared → Prop} (l1 : Looks (model prog w) h (typeOf v) T) (l2 : Looks (model prog w) h (typeLookup T name) (some (.ref f))) (l3 : Looks (model prog w) h (typeOf (.ref f)) (.type "function"))
    (hq : wpAny (model prog w) A (call (.ref f) (v :: args)) (fun r s' => Q (some r) s') E ⟨h, g, d, t, os⟩) : wpAny (model prog w) A (callSpecialIfBound? v name args) Q E ⟨h, g, d, t, os⟩ := by
  have fin : wpAny (model prog w) A (do let r ← call (.ref f) ([v] ++ args); return (some r)) Q E ⟨h, g, d, t, os⟩ := wpAny_bind (wpAny_mono hq (fun _ _ z => wpAny_pure z) fun _ _ z => z)
  have b1 : ∀ {Q' : Option (Value × List Value) → Shared → Prop} {E : Value → Shared → Prop}, Q' (some (.ref f, [v])) ⟨h, g, d, t, os⟩ → wpAny (model prog w) A (do return some (← bindSpecial (.ref f) v)) Q' E ⟨h, g, d, t, os⟩ := fun {Q' E} z => by
    unfold bindSpecial
    refine wpAny_bind (wpAny_bind (l3.here ?_))
    exact wpAny_pure (wpAny_pure z)
  unfold callSpecialIfBound? bindSpecialIfBound? specialOf
  refine wpAny_holding (wpAny_bind (wpAny_bind (wpAny_bind (l1.here (l2.here (wpAny_bind (wpAny_askSetting ?_)))))))
  dsimp only
  split
  · exact b1 fin
  · exact wpAny_tryCatch (b1 fin)
end
section
variable {prog : Program} {w : World} {A : Around} {E : Value → Shared → Prop} {h₀ : Heap} {L : Addr} {m : Str → Option Value} {s : Shared} {news own : List (Addr × Obj)}
theorem get_objN {nt : Bool} {C I D1 : Addr} {oD : Obj} {x : Str} {tx : Tok} {Q : Value → Shared → Prop} (F : Fr h₀ L s.heap m) (N : News h₀ L s.heap news) (hK : KeyCls own C) (ho : ∀ p ∈ own, p ∈ news) (hI : (I, instO C D1 (.str x tx)) ∈ news) (hD : (D1, oD) ∈ news)
    (hret : ∀ h' tk', Fr h₀ L h' m → News h₀ L h' news → Q (.str x tx) { s with heap := h', toks := tk' }) : wpAny (model prog w) A (getAttr (.ref I) (Str.ofString "obj") nt) Q E s := by
  obtain ⟨nsN, md, cell, oc, k, u, sl, fI, fL, fG, fE, fLe, fGe, st, i1, t1, i2, t2, tm, bT, tn, tq, hC, hN, hM, _⟩ := id hK
  have n := fun p hp => N p (ho p hp)
  have hC' := (n _ hC).1
  have hN' := (n _ hN).1
  have hM' := (n _ hM).1
  have hI' := (N _ hI).1
  obtain ⟨K, kIn, kC, kN, kM, _⟩ := kfrag (a := C) (b := nsN) (c := md) (d := I) (fun z => by rw [z, hC'] at hN'; simp [clK] at hN') (fun z => by rw [z, hC'] at hM'; simp [clK, mdK] at hM') (fun z => by rw [z, hN'] at hM'; simp [mdK] at hM') (fun z => by rw [z, hC'] at hI'; simp [clK, instO] at hI') (fun z => by rw [z, hN'] at hI'; simp [instO] at hI') (fun z => by rw [z, hM'] at hI'; simp [mdK, instO] at hI')
  have kI := kIn _ hC' hN' hM' hI'
  have eO : nsIn K nsN (Str.ofString "obj") = some (some (.ref md)) := by unfold nsIn; rw [kN]; kernel_rfl
  have eG : nsIn K nsN (Str.ofString "__getattribute__") = some none := by unfold nsIn; rw [kN]; kernel_rfl
  have eA : nsIn K nsN (Str.ofString "__getattr__") = some none := by unfold nsIn; rw [kN]; kernel_rfl
  have iA : InstAt s.heap I (instO C D1 (.str x tx)) C (some oD) := ⟨hI', rfl, rfl, (N _ hD).1⟩
  have h0 : typeIn K (.ref md) = some (.type "member_descriptor") := by unfold typeIn; dsimp only; rw [kM]; rfl
  have h1 : takesIn K (.ref md) = some true := by unfold takesIn specialIn; rw [h0]; kernel_rfl
  have h2 : specialIn K (.ref md) "__get__" = some (some (.builtin "member_descriptor.__get__")) := by unfold specialIn; rw [h0]; kernel_rfl
  exact get_bind kI iA (kf_top kC eG (by kernel_rfl)) (findObj_data (by rw [kf_cls kC]; rfl) (kf_own kC eO) h2 h1) (kf_top kC eA (by kernel_rfl)) (wpAny_call (slot_get (s := { s with toks := s.toks + 1 }) kI iA (kf_slot kC kM) rfl (handed_on rfl (hret _ _ F N))))
end
local macro_rules | `(tactic| walk_at "eval Name") => `(tactic| (k_here; (with_reducible show wpAny _ _ (eval (Expr.Name (PySem.Str.ofString "mycmp") _) _) _ _ _); k_dflt (refine' nameX_F ?N ?c ?m ?d ?_ ?a ?b; (case a => rfl); (case b => rfl); (case N => k_asm); (case c => rfl); (case m => assumption); (case d => assumption); k_whole)))
local macro_rules | `(tactic| walk_at "getAttr ref") => `(tactic| (k_here; (with_reducible show wpAny _ _ (getAttr (Value.ref _) (PySem.Str.ofString "obj") _) _ _ _); k_dflt (refine' get_objN ?F ?N ?K ?o ?I ?D ?_; (case F => k_asm); (case N => k_asm); (case K => assumption); (case o => assumption); (case I => assumption); (case D => assumption)); intro h9 tk9 F9 N9; (try k_sweep)))
section
variable {prog : Program} {w : World} {dp un : Nat} {gd : Option (List Code)} {cn : Str} {cs : Scope} {a : Addr} {ccd : Value} {cl : List (Str × Addr)} {outer : List Env} {A₀ : Around} {base h₀ : Heap} {L : Addr} {m : Str → Option Value} {news : List (Addr × Obj)} {s : Shared} {E : Value → Shared → Prop} {p : Program} {loose : List Str} {mean : ExcName → Option Value} {mg mb : Str → Option Value}
variable (B : Below A₀ base outer h₀) (F : Fr h₀ L s.heap m) (X : (mkK.heap_1 w.params).In h₀) (N : News h₀ L s.heap news) (T : Top p loose mean mg mb h₀) (hk : cs.kind = .function) (hd' : dp ≤ 800) (hu : un ≤ 900)
include B F X N T hk hd' hu
set_option maxHeartbeats 4000000 in
theorem kcmp {Q : Bool → Shared → Prop} {own : List (Addr × Obj)} {C I J D1 D2 : Addr} {x y : Str} {tx ty : Tok} {oX oY : Obj} (hK : KeyCls own C) (ho : ∀ p ∈ own, p ∈ news) (hI : (I, instO C D1 (.str x tx)) ∈ news) (hJ : (J, instO C D2 (.str y ty)) ∈ news) (hDI : (D1, oX) ∈ news) (hDJ : (D2, oY) ∈ news)
    (hret : ∀ h' tk, Fr h₀ L h' m → News h₀ L h' news → Q (decide (x.cps.toList < y.cps.toList)) ⟨h', s.gens, s.drawn, tk, s.os⟩) :
  wpAny (model prog w) (ktrTop dp un gd cn cs L a ccd cl outer) (keyLt' oneType' (.ref I) (.ref J)) Q E s := by
  generalize Mine.clo = hCl
  revert prog w dp un gd cn cs a ccd cl outer A₀ base h₀ L m news s E p loose mean mg mb Q own C I J D1 D2 x y tx ty oX oY
  intro prog w dp un gd cn cs a ccd cl outer A₀ base h₀ L m news s E p loose mean mg mb B F X N T hk hd' hu Q own C I J D1 D2 x y tx ty oX oY hK ho hI hJ hDI hDJ hret
  obtain ⟨nsN, md, cell, oc, k, u, sl, fI, fL, fG, fE, fLe, fGe, st, i1, t1, i2, t2, tm, bT, tn, tq, hC, hN, hM, hfI, hfL, hcell, hcd⟩ := id hK
  have n := fun p hp => N p (ho p hp)
  have hC' := (n _ hC).1
  have hN' := (n _ hN).1
  have hI' := (N _ hI).1
  have hJ' := (N _ hJ).1
  obtain ⟨doc, pm, cv, ctv, hf, c, co, vs, tv, rfl, hco, hcc, hcf, hcv⟩ := hfL
  generalize hb : mBody (Str.ofString "__lt__") = body at hf
  generalize hs : mScope (Str.ofString "__lt__") = scope at hf
  generalize hp : mPar (Str.ofString "__lt__") = par at hf
  conv at hb => lhs; whnf
  conv at hs => lhs; whnf
  conv at hp => lhs; whnf
  subst hb hs hp
  have hf' := (n _ hf).1
  rw [keyLt'_oneType, oneLt'_eq]
  simp only [if_true]
  refine wpAny_bind (wpAny_cRoomFor (Nat.lt_of_le_of_lt hu (by decide)) ?_)
  have l1 : Looks (model prog w) s.heap (typeOf (.ref I)) (.ref C) := (Looks.ld hI').andThen .now
  have l2 : Looks (model prog w) s.heap (typeLookup (.ref C) (Str.ofString "__lt__")) (some (.ref fL)) := clk_own hC' hN' (by kernel_rfl)
  have l3 : Looks (model prog w) s.heap (typeOf (.ref fL)) (.type "function") := (Looks.ld hf').andThen .now
  refine wpAny_bind (special_fn l1 l2 l3 ?_)
  refine wpAny_call ?_
  have hroom : dp < recursionLimit := Nat.lt_of_le_of_lt hd' (by decide)
  refine code_nest (K := mkK.heap_1 w.params) (news := news) B F X N T (env := _) (outer := _) rfl rfl hk (ho _ hf) ⟨c, co, vs, tv, rfl, (n _ hco).1, hcf, hcv⟩ hroom (BindsTo.of_eq rfl) (locs rfl) ?_ rfl rfl rfl (by decide)
  intro g' L' h' FG' F' N' B' X' T'
  have hcn := ho _ hcell
  (try dsimp only)
  (try k_lift B')
  skip
  (repeat ((fail_if_success (with_reducible show wpAny _ _ (call (.ref 28) _) _ _ _)); (first | (k_unfold; (try dsimp only)) | walk1 | (dsimp only; walk1))))
  refine' sc_L ?B ?F ?X ?N ?T ?k ?d ?u ?_
  case B => k_asm
  case F => k_asm
  case X => k_asm
  case N => k_asm
  case T => k_asm
  case k => rfl
  case d => exact Nat.lt_of_le_of_lt (Nat.add_le_add_right (Nat.add_le_add_right hd' 1) 4) (by decide)
  case u => exact Nat.lt_of_le_of_lt (Nat.add_le_add_right (Nat.add_le_add_right hu 3) 80) (by decide)
  rintro h9 tk9 i9 t9 F9 N9 e9
  (try k_sweep)
  (repeat (first | (k_unfold; (try dsimp only)) | walk1 | (dsimp only; walk1)))
  refine wpAny_truthy_bool ?_
  rename decide _ = decide _ => e9
  rw [e9]
  exact hret _ _ (by k_asm) (by k_asm)
end
end Mine
end
example (h : False) {prog : PySem.Program} {w : PySem.World} {A : PySem.Around} {Q E : PySem.Value → PySem.Shared → Prop} {s : PySem.Shared} {env : PySem.Env} {at0 : PySem.Pos} : PySem.wpAny (PySem.model prog w) A (PySem.eval (.Constant .none 0 at0) env) Q E s := by
  w_top off
  first | (walk1; fail) | exact h.elim
section
open PySem PySem.W PyProof.Rows PySem.Calls
set_option maxRecDepth 100000
set_option linter.unusedSectionVars false
namespace Mine
theorem fillKN : PySem.Challenge.rw_ik0212_01 = PySem.Challenge.rw_ik0212_01 ∧ mkK.heap_1 = mkK.heap_1 := by
  k_fill
  exact ⟨rfl, rfl⟩
section
variable {prog : Program} {w : World} {dp un : Nat} {gd : Option (List Code)} {cn : Str} {cs : Scope} {a : Addr} {ccd : Value} {cl : List (Str × Addr)} {outer : List Env} {A₀ : Around} {base h₀ : Heap} {L : Addr} {m : Str → Option Value} {news : List (Addr × Obj)} {s : Shared} {E : Value → Shared → Prop} {p : Program} {loose : List Str} {mean : ExcName → Option Value} {mg mb : Str → Option Value}
variable (B : Below A₀ base outer h₀) (F : Fr h₀ L s.heap m) (X : (mkK.heap_1 w.params).In h₀) (N : News h₀ L s.heap news) (T : Top p loose mean mg mb h₀) (hk : cs.kind = .function) (hd' : dp ≤ 800) (hu : un ≤ 900)
include B F X N T hk hd' hu
set_option maxHeartbeats 4000000 in
theorem knewL {Q : Value → Shared → Prop} {own : List (Addr × Obj)} {C : Addr} {x : Str} {tx : Tok} (hK : KeyCls own C) (ho : ∀ p ∈ own, p ∈ news)
    (hret : ∀ h' I D tk', Fr h₀ L h' m → News h₀ L h' ((I, instO C D (.str x tx)) :: (D, emptyDict) :: news) → Q (.ref I) { s with heap := h', toks := tk' }) :
    wpAny (model prog w) (ktrTop dp un gd cn cs L a ccd cl outer) (call (.ref C) [.str x tx]) Q E s := by
  generalize Mine.clo = hCl
  revert prog w dp un gd cn cs a ccd cl outer A₀ base h₀ L m news s E p loose mean mg mb Q own C x tx
  intro prog w dp un gd cn cs a ccd cl outer A₀ base h₀ L m news s E p loose mean mg mb B F X N T hk hd' hu Q own C x tx hK ho hret
  obtain ⟨nsN, md, cell, oc, k, u, sl, fI, fL, fG, fE, fLe, fGe, st, i1, t1, i2, t2, tm, bT, tn, tq, hC, hN, hM, hfI, _⟩ := id hK
  have n := fun p hp => N p (ho p hp)
  obtain ⟨doc, pm, cv, ctv, hf, c, co, vs, tv, rfl, hco, hcc, hcf, hcv⟩ := hfI
  generalize hb : mBody (Str.ofString "__init__") = body at hf
  generalize hs : mScope (Str.ofString "__init__") = scope at hf
  generalize hp : mPar (Str.ofString "__init__") = par at hf
  conv at hb => lhs; whnf
  conv at hs => lhs; whnf
  conv at hp => lhs; whnf
  subst hb hs hp
  have hC' := (n _ hC).1
  have hN' := (n _ hN).1
  have hM' := (n _ hM).1
  have hf' := (n _ hf).1
  obtain ⟨K, kIn, kC, kN, kM, kF⟩ := kfrag (a := C) (b := nsN) (c := md) (d := fI) (fun z => by rw [z, hC'] at hN'; simp [clK] at hN') (fun z => by rw [z, hC'] at hM'; simp [clK, mdK] at hM') (fun z => by rw [z, hN'] at hM'; simp [mdK] at hM') (fun z => by rw [z, hC'] at hf'; simp [clK, fnO] at hf') (fun z => by rw [z, hN'] at hf'; simp [fnO] at hf') (fun z => by rw [z, hM'] at hf'; simp [mdK, fnO] at hf')
  have kI := kIn _ hC' hN' hM' hf'
  have eI : nsIn K nsN (Str.ofString "__init__") = some (some (.ref fI)) := by unfold nsIn; rw [kN]; kernel_rfl
  have eO : nsIn K nsN (Str.ofString "obj") = some (some (.ref md)) := by unfold nsIn; rw [kN]; kernel_rfl
  have eS : nsIn K nsN (Str.ofString "__setattr__") = some none := by unfold nsIn; rw [kN]; kernel_rfl
  have hroom : dp < recursionLimit := Nat.lt_of_le_of_lt hd' (by decide)
  refine wpAny_call (make_K F N kI (kf_makes kC) (kf_own kC eI) (by unfold typeIn; dsimp only; rw [kF]; rfl) ?_)
  rintro I D h1 F1 N1 lt1 lt2
  refine code_nest (K := mkK.heap_1 w.params) B F1 X N1 T (env := _) (outer := _) rfl rfl hk (.tail _ (.tail _ (ho _ hf))) ⟨c, co, vs, tv, rfl, (N1 _ (.tail _ (.tail _ (ho _ hco)))).1, hcf, hcv⟩ ?room (BindsTo.of_eq rfl) (locs rfl) ?_ rfl rfl rfl (by decide)
  case room => exact Nat.lt_of_le_of_lt (Nat.add_le_add_right hd' 1) (by decide)
  intro g' L' h2 FG' F2 N2 B2 X2 T2
  (try dsimp only)
  (repeat ((fail_if_success (with_reducible show wpAny _ _ (setAttr _ _ _) _ _ _)); (first | (k_unfold; (try dsimp only)) | walk1 | (dsimp only; walk1))))
  have kI2 : K.In h2 := kIn _ (N2 _ (.tail _ (.tail _ (ho _ hC)))).1 (N2 _ (.tail _ (.tail _ (ho _ hN)))).1 (N2 _ (.tail _ (.tail _ (ho _ hM)))).1 (N2 _ (.tail _ (.tail _ (ho _ hf)))).1
  have iA : InstAt h2 I (instObj C D) C (some emptyDict) := ⟨(N2 _ (.head _)).1, rfl, rfl, (N2 _ (.tail _ (.head _))).1⟩
  refine set_plain kI2 iA (kf_top kC eS (by kernel_rfl)) ?_
  refine osa_descr KF.slot_mset kI2 iA (kf_plain kC) (kf_taker kC kM eO) (by unfold typeIn; dsimp only; rw [kM]; rfl) ?_
  refine slot_set (pre := []) (ox' := instO C D (.str x tx)) F2 N2 kI2 iA (kf_slot kC kM) (by decide) (fun p hp => nomatch hp) (fun p hp => ?_) rfl rfl ?cv10
  case' cv10 => rintro h3 F3 N3
  rotate_left
  · rcases List.mem_cons.mp hp with rfl | hp
    · exact Nat.ne_of_lt lt2
    · exact Nat.ne_of_lt (Nat.lt_trans (lt1 p hp) lt2)
  (try dsimp only)
  clear F2 N2
  rw [List.nil_append] at N3
  (repeat ((first | (k_unfold; (try dsimp only)) | walk1 | (dsimp only; walk1))))
  exact hret _ _ _ _ (by k_asm) (by k_asm)
end
end Mine
end
example (h : False) {prog : PySem.Program} {w : PySem.World} {A : PySem.Around} {Q E : PySem.Value → PySem.Shared → Prop} {s : PySem.Shared} {env : PySem.Env} {at0 : PySem.Pos} : PySem.wpAny (PySem.model prog w) A (PySem.eval (.Constant .none 0 at0) env) Q E s := by
  w_top off
  first | (walk1; fail) | exact h.elim
section
open PySem PySem.W PyProof.Rows
set_option maxRecDepth 100000
namespace Mine
section
variable {prog : Program} {w : World} {A : Around} {K : Type} [DecidableEq K] {knd : KeyKind prog w K}
theorem Src.keys (hh : A.handled = none) {I d : Addr} (hne : d ≠ I) (kvs : List (K × Value)) (ep : Nat) {o : Obj} (ha : KdkAt knd o kvs ep) :
    Src prog w A I kvs.length (fun i v => ∃ k x, kvs[i]? = some (k, x) ∧ knd.is k v = true) [(d, o)] (fun i oI => KdkIter oI d i kvs.length ep) where
  item := fun i s oI Q E hi r hI hC hQ => by
    have W := Walks.dictKeys (prog := prog) (w := w) (knd := knd) hh I d hne kvs ep
    refine W.item i s Q E hi ⟨r.at hI, ha.dictAt (hC _ (.head _))⟩ fun v h' tk hp hst hk => ?_
    obtain ⟨⟨o', e, r'⟩, _⟩ := hst
    exact hQ v o' h' tk hp r' e fun b o hb => hk b o (by simpa using hb)
  done := fun s oI Q E r hI hC hQ => by
    have W := Walks.dictKeys (prog := prog) (w := w) (knd := knd) hh I d hne kvs ep
    refine W.done s Q E ⟨r.at hI, ha.dictAt (hC _ (.head _))⟩ fun h' tk hk => ?_
    exact hQ h' tk fun b o hb => hk b o (by simpa using hb)
  self := fun i s oI Q E r hI hC hQ => by
    have W := Walks.dictKeys (prog := prog) (w := w) (knd := knd) hh I d hne kvs ep
    exact W.self i s Q E ⟨r.at hI, ha.dictAt (hC _ (.head _))⟩ hQ
end
section
variable {prog : Program} {w : World} {A : Around} {E : Value → Shared → Prop} {s : Shared} {env : Env} {x : Str} {px : Pos} {body : List Stmt} {l L : Addr} {news : List (Addr × Obj)} {Q : Flow → Shared → Prop} {h₀ : Heap} {m₀ : Str → Option Value} {vs : List Value} {n : Nat}
/-- for x in a tuple of the ledger -/
theorem for_tup (hh : A.handled = none) (J : Nat → (Str → Option Value) → List (Addr × Obj) → Prop)
    (hL : env.locals = L) (hx : env.kindOf x = some .local) (hp : (env.scope.kind == .class || (env.scope.kind == .module && env.locals != env.globals)) = false)
    (F : Fr h₀ L s.heap m₀) (N : News h₀ L s.heap news) (hm : (l, tupO vs.toArray n) ∈ news) (j0 : J 0 m₀ news)
    (turn : ∀ i v m₁ nx I oI h tk E', vs[i]? = some v → J i m₁ nx → (l, tupO vs.toArray n) ∈ nx → (∀ p ∈ nx, p.1 ≠ I) → Fr h₀ L h (fun y => if y = x then some v else m₁ y) → News h₀ L h ((I, oI) :: nx) →
      wpAny (model prog w) A (execs body env) (TurnPost h₀ L I oI [(l, tupO vs.toArray n)] (J (i + 1)) s Q) E' { s with heap := h, toks := tk })
    (done : ∀ m₁ nx h tk, J vs.length m₁ nx → Fr h₀ L h m₁ → News h₀ L h nx → Q .next { s with heap := h, toks := tk })
    (ht : ∀ I v, letOwnedTupleGo (.Name x px) (.ref I) v = pure () := by intro _ _; rfl) :
    wpAny (model prog w) A (pyIter (.ref l)) (fun it s₂ => codeAny (model prog w) A (.forLoop (.Name x px) it body [] env) (fun r s' => match r with | .ok f => Q f s' | .error e => cameBackBy (model prog w) A env E e s') s₂) E s := by
  have hl := N _ hm
  have hlt : ∀ p ∈ news, p.1 ≠ s.heap.objs.size := fun p hp => Nat.ne_of_lt (Heap.lt_size (N p hp).1)
  refine wpAny_pyIter_tuple (items := vs.toArray) ⟨_, hl.1, rfl, n, rfl⟩ ?_
  exact for_src (s := { s with heap := s.heap.push { cls := .type "tuple_iterator", data := .fields #[.ref l, .int 0 0] } }) (Q := Q) (news := news) (Src.tuple (prog := prog) (w := w) (A := A) hh (hlt _ hm) vs n) J hL hx hp (F.push _) (News.push F N _ rfl) ⟨rfl, rfl⟩ (fun p hp => by rw [List.mem_singleton.mp hp]; exact hm) hlt j0
    (fun i v m₁ nx oI h tk E' hi hP hJ hC hI hr F' N' => turn i v m₁ nx _ oI h tk E' hP hJ (hC _ (.head _)) hI F' N') (fun m₁ nx h tk hJ _ F' N' => done m₁ nx h tk hJ F' N') (ht _)
/-- for x in a list of the ledger -/
theorem for_list (hh : A.handled = none) (J : Nat → (Str → Option Value) → List (Addr × Obj) → Prop)
    (hL : env.locals = L) (hx : env.kindOf x = some .local) (hp : (env.scope.kind == .class || (env.scope.kind == .module && env.locals != env.globals)) = false)
    (F : Fr h₀ L s.heap m₀) (N : News h₀ L s.heap news) (hm : (l, listOf vs.toArray n) ∈ news) (j0 : J 0 m₀ news)
    (turn : ∀ i v m₁ nx I oI h tk E', vs[i]? = some v → J i m₁ nx → (l, listOf vs.toArray n) ∈ nx → (∀ p ∈ nx, p.1 ≠ I) → Fr h₀ L h (fun y => if y = x then some v else m₁ y) → News h₀ L h ((I, oI) :: nx) →
      wpAny (model prog w) A (execs body env) (TurnPost h₀ L I oI [(l, listOf vs.toArray n)] (J (i + 1)) s Q) E' { s with heap := h, toks := tk })
    (done : ∀ m₁ nx h tk, J vs.length m₁ nx → Fr h₀ L h m₁ → News h₀ L h nx → Q .next { s with heap := h, toks := tk })
    (ht : ∀ I v, letOwnedTupleGo (.Name x px) (.ref I) v = pure () := by intro _ _; rfl) :
    wpAny (model prog w) A (pyIter (.ref l)) (fun it s₂ => codeAny (model prog w) A (.forLoop (.Name x px) it body [] env) (fun r s' => match r with | .ok f => Q f s' | .error e => cameBackBy (model prog w) A env E e s') s₂) E s := by
  have hl := N _ hm
  have hlt : ∀ p ∈ news, p.1 ≠ s.heap.objs.size := fun p hp => Nat.ne_of_lt (Heap.lt_size (N p hp).1)
  refine wpAny_pyIter_list (items := vs.toArray) ⟨_, hl.1, rfl, n, rfl⟩ ?_
  exact for_src (s := { s with heap := s.heap.push { cls := .type "list_iterator", data := .fields #[.ref l, .int 0 0] } }) (Q := Q) (news := news) (Src.list (prog := prog) (w := w) (A := A) hh (hlt _ hm) vs n) J hL hx hp (F.push _) (News.push F N _ rfl) ⟨rfl, rfl⟩ (fun p hp => by rw [List.mem_singleton.mp hp]; exact hm) hlt j0
    (fun i v m₁ nx oI h tk E' hi hP hJ hC hI hr F' N' => turn i v m₁ nx _ oI h tk E' hP hJ (hC _ (.head _)) hI F' N') (fun m₁ nx h tk hJ _ F' N' => done m₁ nx h tk hJ F' N') (ht _)
/-- for x in a list's iterator -/
theorem for_iter {I : Addr} (hh : A.handled = none) (J : Nat → (Str → Option Value) → List (Addr × Obj) → Prop)
    (hL : env.locals = L) (hx : env.kindOf x = some .local) (hp : (env.scope.kind == .class || (env.scope.kind == .module && env.locals != env.globals)) = false)
    (F : Fr h₀ L s.heap m₀) (N : News h₀ L s.heap ((I, listIt l 0) :: news)) (hm : (l, listOf vs.toArray n) ∈ news) (hI : ∀ p ∈ news, p.1 ≠ I) (j0 : J 0 m₀ news)
    (turn : ∀ i v m₁ nx oI h tk E', vs[i]? = some v → J i m₁ nx → (l, listOf vs.toArray n) ∈ nx → (∀ p ∈ nx, p.1 ≠ I) → Fr h₀ L h (fun y => if y = x then some v else m₁ y) → News h₀ L h ((I, oI) :: nx) →
      wpAny (model prog w) A (execs body env) (TurnPost h₀ L I oI [(l, listOf vs.toArray n)] (J (i + 1)) s Q) E' { s with heap := h, toks := tk })
    (done : ∀ m₁ nx h tk, J vs.length m₁ nx → Fr h₀ L h m₁ → News h₀ L h nx → Q .next { s with heap := h, toks := tk })
    (ht : ∀ I v, letOwnedTupleGo (.Name x px) (.ref I) v = pure () := by intro _ _; rfl) :
    wpAny (model prog w) A (pyIter (.ref I)) (fun it s₂ => codeAny (model prog w) A (.forLoop (.Name x px) it body [] env) (fun r s' => match r with | .ok f => Q f s' | .error e => cameBackBy (model prog w) A env E e s') s₂) E s := by
  have S := Src.list (prog := prog) (w := w) (A := A) hh (I := I) (hI _ hm) vs n
  refine S.self 0 s (listIt l 0) _ _ ⟨rfl, rfl⟩ (N _ (.head _)).1 (fun p hp => by rw [List.mem_singleton.mp hp]; exact (N _ (.tail _ hm)).1) ?_
  exact for_src (s := s) (Q := Q) (news := news) S J hL hx hp F N ⟨rfl, rfl⟩ (fun p hp => by rw [List.mem_singleton.mp hp]; exact hm) hI j0
    (fun i v m₁ nx oI h tk E' hi hP hJ hC hI hr F' N' => turn i v m₁ nx oI h tk E' hP hJ (hC _ (.head _)) hI F' N') (fun m₁ nx h tk hJ _ F' N' => done m₁ nx h tk hJ F' N') (ht _)
end
section
variable {prog : Program} {w : World} {A A₀ : Around} {s : Shared} {K : Frag} {L : Addr} {h₀ base : Heap} {m mg mb : Str → Option Value} {news : List (Addr × Obj)} {p : Program} {loose : List Str} {mean : ExcName → Option Value}
/-- a def with a rest of arguments, their number not written -/
theorem rest_enter {env : Env} {outer : List Env} {R : Result → Shared → Prop} {name qual : Str} {params : Arguments} {body : List Stmt} {scope : Scope} {dV kV doc pm cdv ct oc : Value} {an od : Option Addr} {osl : Array (Option Value)} {f : Addr} {args : Args} {vs : List Value} {binds : Value → List (Str × Value)}
    (B : Below A₀ base outer h₀) (F : Fr h₀ L s.heap m) (X : K.In h₀) (N : News h₀ L s.heap news) (T : Top p loose mean mg mb h₀) (hA : A.frames = some (env :: outer)) (hf : env.frame = some L) (hke : env.scope.kind = .function)
    (ho : K.lookup f = some ⟨oc, od, .func (fnOf name qual params body scope dV kV doc pm an cdv ct), osl⟩) (hcd : codeIn K cdv qual = true) (hroom : A.depth < recursionLimit)
    (he : bindArgs (fnOf name qual params body scope dV kV doc pm an cdv ct) args = (newTuple vs >>= fun v => pure (binds v))) (hsz : vs.length ≤ sizeLine) (hloc : ∀ D, ∀ y ∈ binds (.ref D), scope.names.lookup y.1 = some .local)
    (h : ∀ D g L' h₁, (∀ p ∈ news, p.1 < D) → Fr h₀ L g m → Fr g L' h₁ (fun y => (binds (.ref D)).reverse.lookup y) → News g L' h₁ ((D, tupO vs.toArray 0) :: news) → Below A base (env :: outer) g → K.In g → Top p loose mean mg mb g →
      wpAny (model prog w) (A.deeper (envOf qual scope L' f cdv)) (execs body (envOf qual scope L' f cdv))
        (fun fl s' => LeaveK h₀ L m g R (match fl with | .ret v => v | _ => .none) s')
        (fun e s' => wpAny (model prog w) (A.deeper (envOf qual scope L' f cdv)) (leaving (envOf qual scope L' f cdv) e) (fun _ s'' => R (.error e) s'') (fun e' s'' => R (.error e') s'') s')
        { s with heap := h₁, toks := s.toks + (binds (.ref D)).length })
    (hco : scope.isCoroutine = false) (hgen : scope.isGenerator = false) (hk : scope.kind = .function)
    (hcell : ∀ x ∈ scope.names, x.2 ≠ .cell) : codeAny (model prog w) A (.call (.ref f) args) R s := by
  refine codeAny_call_function (fd := fnOf name qual params body scope dV kV doc pm an cdv ct) (body := body) hroom ((X.keeps F.keep) _ _ ho) rfl hco hgen rfl (codeRec_of (X.keeps F.keep) hcd) ?_
  rw [he]
  refine wpAny_bind (wpAny_newTuple (wpAny_pure ?_) hsz)
  exact kp_frame (cl := []) (s := { s with heap := s.heap.push (tupO vs.toArray 0) }) B (F.push _) (News.push F N _ rfl) T.nolimit hA hf hke (hloc s.heap.objs.size)
    (fun g L' h₁ FG FL NG BG st => h s.heap.objs.size g L' h₁ (fun p hp => Heap.lt_size (N p hp).1) FG FL NG BG (X.keeps st) (T.keeps st)) hcell hk
end
section
variable {prog : Program} {w : World} {A : Around} {E : Value → Shared → Prop} {s : Shared} {h₀ : Heap} {L l : Addr} {m : Str → Option Value} {news : List (Addr × Obj)} {vs : List Value} {n : Nat} {Q : Value → Shared → Prop}
/-- iter of a list of the ledger -/
theorem iter_list (F : Fr h₀ L s.heap m) (N : News h₀ L s.heap news) (hm : (l, listOf vs.toArray n) ∈ news)
    (hq : ∀ I h', Fr h₀ L h' m → News h₀ L h' ((I, listIt l 0) :: news) → (∀ p ∈ news, p.1 < I) → Q (.ref I) { s with heap := h' }) : wpAny (model prog w) A (call (.builtin "iter") [.ref l]) Q E s := by
  refine PySem.Calls.call_function_entry (by decide +kernel) (by decide +kernel) kdk_entry_iter (kdk_args_iter _) ?_
  unfold Builtin.«iter»
  refine wpAny_bind (m := someArgs "iter" 1 2 _) (wpAny_of_eq (a := [Value.ref l]) (by first | rfl | kernel_rfl!) ?_)
  show wpAny _ _ (pyIter (.ref l) >>= _) _ _ _
  refine wpAny_bind (wpAny_pyIter_list (items := vs.toArray) ⟨_, (N _ hm).1, rfl, n, rfl⟩ ?_)
  exact wpAny_pure ⟨_, rfl, hq _ _ (F.push _) (News.push F N _ rfl) (fun q hq => Heap.lt_size (N q hq).1)⟩
end
theorem locs2 {m : Str → Option Value} {a b : Str} {v w : Value} (h1 : m a = some v) (h2 : m b = some w) : ∃ mm : Str → Option Value, m = fun y => if y = a then some v else if y = b then some w else mm y := by
  refine ⟨m, funext fun y => ?_⟩
  split
  · rename_i e; rw [e, h1]
  · split
    · rename_i e; rw [e, h2]
    · rfl
end Mine
end
example (h : False) {prog : PySem.Program} {w : PySem.World} {A : PySem.Around} {Q E : PySem.Value → PySem.Shared → Prop} {s : PySem.Shared} {env : PySem.Env} {at0 : PySem.Pos} : PySem.wpAny (PySem.model prog w) A (PySem.eval (.Constant .none 0 at0) env) Q E s := by
  w_top off
  first | (walk1; fail) | exact h.elim
section
open PySem PySem.W PyProof.Rows
set_option maxRecDepth 100000
namespace Mine
section
variable {prog : Program} {w : World} {A : Around}
/-- what a turn of a for must leave -/
noncomputable def TurnEndT (L I : Addr) (oI : Obj) (C : List (Addr × Obj)) (J : Heap → (Str → Option Value) → List (Addr × Obj) → Prop) (s s₂ : Shared) : Prop :=
  ∃ h₀ h' tk' m' nx', s₂ = { s with heap := h', toks := tk' } ∧ Fr h₀ L h' m' ∧ News h₀ L h' ((I, oI) :: nx') ∧ (∀ p ∈ C, p ∈ nx') ∧ (∀ p ∈ nx', p.1 ≠ I) ∧ J h₀ m' nx'
noncomputable def TurnPostT (L I : Addr) (oI : Obj) (C : List (Addr × Obj)) (J : Heap → (Str → Option Value) → List (Addr × Obj) → Prop) (s : Shared) (Q : Flow → Shared → Prop) (f : Flow) (s₂ : Shared) : Prop :=
  match f with
  | .ret v => Q (.ret v) s₂
  | .brk => Q .next s₂
  | _ => TurnEndT L I oI C J s s₂

theorem for_srcT {E : Value → Shared → Prop} {s : Shared} {env : Env} {x : Str} {px : Pos} {body : List Stmt} {I L : Addr} {n : Nat} {P : Nat → Value → Prop} {C news : List (Addr × Obj)} {rel : Nat → Obj → Prop} {Q : Flow → Shared → Prop} {h₀ : Heap} {m₀ : Str → Option Value} {oI : Obj}
    (S : Src prog w A I n P C rel) (J : Nat → Heap → (Str → Option Value) → List (Addr × Obj) → Prop)
    (hL : env.locals = L) (hx : env.kindOf x = some .local) (hp : (env.scope.kind == .class || (env.scope.kind == .module && env.locals != env.globals)) = false)
    (F : Fr h₀ L s.heap m₀) (N : News h₀ L s.heap ((I, oI) :: news)) (r0 : rel 0 oI) (hC : ∀ p ∈ C, p ∈ news) (hI : ∀ p ∈ news, p.1 ≠ I) (j0 : J 0 h₀ m₀ news)
    (turn : ∀ h₀ i v m₁ nx oI h tk E', i < n → P i v → J i h₀ m₁ nx → (∀ p ∈ C, p ∈ nx) → (∀ p ∈ nx, p.1 ≠ I) → rel (i + 1) oI → Fr h₀ L h (fun y => if y = x then some v else m₁ y) → News h₀ L h ((I, oI) :: nx) →
      wpAny (model prog w) A (execs body env) (TurnPostT L I oI C (J (i + 1)) s Q) E' { s with heap := h, toks := tk })
    (done : ∀ h₀ m₁ nx h tk, J n h₀ m₁ nx → (∀ p ∈ nx, p.1 ≠ I) → Fr h₀ L h m₁ → News h₀ L h nx → Q .next { s with heap := h, toks := tk })
    (ht : ∀ v, letOwnedTupleGo (.Name x px) (.ref I) v = pure () := by intro _; rfl) :
    codeAny (model prog w) A (.forLoop (.Name x px) (.ref I) body [] env) (fun r s' => match r with | .ok f => Q f s' | .error e => cameBackBy (model prog w) A env E e s') s := by
  generalize Mine.clo = hCl
  revert prog w A E s env x px body I L n P C news rel Q h₀ m₀ oI J
  intro prog w A E s env x px body I L n P C news rel Q h₀ m₀ oI S J hL hx hp F N r0 hC hI j0 turn done ht
  subst hL
  refine codeAny_forLoop (fun k s' => ∃ h₀ i h tk m₁ nx oI, k = n + 1 - i ∧ i ≤ n ∧ s' = { s with heap := h, toks := tk } ∧ J i h₀ m₁ nx ∧ (∀ p ∈ C, p ∈ nx) ∧ (∀ p ∈ nx, p.1 ≠ I) ∧ rel i oI ∧ Fr h₀ env.locals h m₁ ∧ News h₀ env.locals h ((I, oI) :: nx)) ?_ (n + 1)
    ⟨h₀, 0, s.heap, s.toks, m₀, news, oI, rfl, Nat.zero_le _, rfl, j0, hC, hI, r0, F, N⟩ ht
  rintro k s' ⟨h₀, i, h, tk, m₁, nx, oI, rfl, hi, rfl, hj, hC, hI, r, F, N⟩
  have hIget := (N (I, oI) (.head _)).1
  have hIL : env.locals ≠ I := fun q => (N (I, oI) (.head _)).2.1 q.symm
  have hI0 := (N (I, oI) (.head _)).2.2
  have Nx : News h₀ env.locals h nx := fun p hp => N p (.tail _ hp)
  have hCget : ∀ p ∈ C, h.get? p.1 = some p.2 := fun p hp => (Nx p (hC p hp)).1
  by_cases hlt : i < n
  · refine S.item i _ oI _ _ hlt r hIget hCget ?_
    rintro v oI' h' tk' hP r' hI' hk
    have F' := fr_but F hk hIL hI0
    have N' : News h₀ env.locals h' ((I, oI') :: nx) := fun p hp => by
      rcases List.mem_cons.mp hp with rfl | hp
      · exact ⟨hI', Ne.symm hIL, hI0⟩
      · exact news_but Nx hk hI p hp
    dsimp only
    refine wpAny_assign_Name (wpAny_storeName_local hx F'.ns ?_ hp)
    rintro h₂ hn hs
    refine wpAny_mono (turn h₀ i v m₁ nx oI' h₂ _ _ hlt hP hj hC hI r' (F'.set hn hs) (N'.set hs)) ?_ fun _ _ e => e
    rintro f s₂ hf
    have fin : TurnEndT env.locals I oI' C (J (i + 1)) s s₂ → ∃ m, m < n + 1 - i ∧ ∃ h₀ i h tk m₁ nx oI, m = n + 1 - i ∧ i ≤ n ∧ s₂ = { s with heap := h, toks := tk } ∧ J i h₀ m₁ nx ∧ (∀ p ∈ C, p ∈ nx) ∧ (∀ p ∈ nx, p.1 ≠ I) ∧ rel i oI ∧ Fr h₀ env.locals h m₁ ∧ News h₀ env.locals h ((I, oI) :: nx) := by
      rintro ⟨h₀, h', tk', m', nx', rfl, F', N', hC', hI', hj'⟩
      exact ⟨n + 1 - (i + 1), by lia, h₀, i + 1, h', tk', m', nx', oI', rfl, hlt, rfl, hj', hC', hI', r', F', N'⟩
    cases f with
    | next => exact fin hf
    | cont => exact fin hf
    | brk => exact hf
    | ret v => exact hf
  · have hin : i = n := by lia
    subst hin
    refine S.done _ oI _ _ r hIget hCget ?_
    rintro h' tk' hk
    dsimp only
    refine wpAny_execs_nil ?_
    exact done h₀ m₁ nx h' tk' hj hI (fr_but F hk hIL hI0) (news_but Nx hk hI)
end

section
variable {prog : Program} {w : World} {A : Around} {E : Value → Shared → Prop} {s : Shared} {env : Env} {x : Str} {px : Pos} {body : List Stmt} {l L : Addr} {news : List (Addr × Obj)} {Q : Flow → Shared → Prop} {h₀ : Heap} {m₀ : Str → Option Value} {vs : List Value} {n : Nat}
/-- for x in a dict of the ledger, the ground may turn -/
theorem for_keysT {K : Type} [DecidableEq K] {knd : KeyKind prog w K} {kvs : List (K × Value)} {o : Obj} (hh : A.handled = none) (J : Nat → Heap → (Str → Option Value) → List (Addr × Obj) → Prop)
    (hL : env.locals = L) (hx : env.kindOf x = some .local) (hp : (env.scope.kind == .class || (env.scope.kind == .module && env.locals != env.globals)) = false)
    (F : Fr h₀ L s.heap m₀) (N : News h₀ L s.heap news) (hm : (l, o) ∈ news) (hd : o.IsDictOf knd kvs) (lo : (l == sysModules) = false) (j0 : J 0 h₀ m₀ news)
    (turn : ∀ h₀ i v k y m₁ nx I oI h tk E', kvs[i]? = some (k, y) → knd.is k v = true → J i h₀ m₁ nx → (l, o) ∈ nx → (∀ p ∈ nx, p.1 ≠ I) → Fr h₀ L h (fun y => if y = x then some v else m₁ y) → News h₀ L h ((I, oI) :: nx) →
      wpAny (model prog w) A (execs body env) (TurnPostT L I oI [(l, o)] (J (i + 1)) s Q) E' { s with heap := h, toks := tk })
    (done : ∀ h₀ m₁ nx h tk, J kvs.length h₀ m₁ nx → Fr h₀ L h m₁ → News h₀ L h nx → Q .next { s with heap := h, toks := tk })
    (ht : ∀ I v, letOwnedTupleGo (.Name x px) (.ref I) v = pure () := by intro _ _; rfl) :
    wpAny (model prog w) A (pyIter (.ref l)) (fun it s₂ => codeAny (model prog w) A (.forLoop (.Name x px) it body [] env) (fun r s' => match r with | .ok f => Q f s' | .error e => cameBackBy (model prog w) A env E e s') s₂) E s := by
  have hl := N _ hm
  obtain ⟨ep, ha⟩ := KdkAt.of hd
  have hlt : ∀ p ∈ news, p.1 ≠ s.heap.objs.size := fun p hp => Nat.ne_of_lt (Heap.lt_size (N p hp).1)
  refine wpAny_pyIter_dict lo (ha.dictAt hl.1) ?_
  exact for_srcT (s := { s with heap := s.heap.push { cls := .type "dict_keyiterator", data := .fields #[.ref l, .int 0 0, .int kvs.length 0, .int ep 0] } }) (Q := Q) (news := news) (Src.keys (prog := prog) (w := w) (A := A) hh (hlt _ hm) kvs ep ha) J hL hx hp (F.push _) (News.push F N _ rfl) ⟨rfl, rfl⟩ (fun p hp => by rw [List.mem_singleton.mp hp]; exact hm) hlt j0
    (fun h₀ i v m₁ nx oI h tk E' hi hP hJ hC hI hr F' N' => let ⟨k, y, e1, e2⟩ := hP; turn h₀ i v k y m₁ nx _ oI h tk E' e1 e2 hJ (hC _ (.head _)) hI F' N') (fun h₀ m₁ nx h tk hJ _ F' N' => done h₀ m₁ nx h tk hJ F' N') (ht _)
end
end Mine
end
example (h : False) {prog : PySem.Program} {w : PySem.World} {A : PySem.Around} {Q E : PySem.Value → PySem.Shared → Prop} {s : PySem.Shared} {env : PySem.Env} {at0 : PySem.Pos} : PySem.wpAny (PySem.model prog w) A (PySem.eval (.Constant .none 0 at0) env) Q E s := by
  w_top off
  first | (walk1; fail) | exact h.elim
section
open PySem PySem.W PyProof.Rows PySem.Calls
set_option maxRecDepth 100000
namespace Mine
section
variable {prog : Program} {w : World} {A : Around} {K : Type} [DecidableEq K] {knd : KeyKind prog w K}
theorem Src.values (hh : A.handled = none) {I d : Addr} (hne : d ≠ I) (kvs : List (K × Value)) (ep : Nat) {o : Obj} (ha : KdkAt knd o kvs ep) :
    Src prog w A I kvs.length (fun i v => ∃ k, kvs[i]? = some (k, v)) [(d, o)] (fun i oI => oI.cls = .type "dict_valueiterator" ∧ oI.data = .fields #[.ref d, .int i 0, .int kvs.length 0, .int ep 0]) where
  item := fun i s oI Q E hi r hI hC hQ => by
    have W := Walks.dictValues (prog := prog) (w := w) (knd := knd) hh I d hne kvs ep
    refine W.item i s Q E hi ⟨⟨oI, hI, r⟩, ha.dictAt (hC _ (.head _))⟩ fun v h' tk hp hst hk => ?_
    obtain ⟨⟨o', e, r'⟩, _⟩ := hst
    exact hQ v o' h' tk hp r' e fun b o hb => hk b o (by simpa using hb)
  done := fun s oI Q E r hI hC hQ => by
    have W := Walks.dictValues (prog := prog) (w := w) (knd := knd) hh I d hne kvs ep
    refine W.done s Q E ⟨⟨oI, hI, r⟩, ha.dictAt (hC _ (.head _))⟩ fun h' tk hk => ?_
    exact hQ h' tk fun b o hb => hk b o (by simpa using hb)
  self := fun i s oI Q E r hI hC hQ => by
    have W := Walks.dictValues (prog := prog) (w := w) (knd := knd) hh I d hne kvs ep
    exact W.self i s Q E ⟨⟨oI, hI, r⟩, ha.dictAt (hC _ (.head _))⟩ hQ
end
section
variable {prog : Program} {w : World} {K : Type} [DecidableEq K] {knd : KeyKind prog w K} {A : Around} {E : Value → Shared → Prop} {s : Shared} {h₀ : Heap} {L d : Addr} {m : Str → Option Value} {news : List (Addr × Obj)} {o : Obj} {kvs : List (K × Value)}
theorem val_method {pl : Sem Bool} {Q : Value × List Value → Shared → Prop} (N : News h₀ L s.heap news) (hp : (d, o) ∈ news) (hd : o.IsDictOf knd kvs) (h : Q (.builtin "dict.values", [.ref d]) s) : wpAny (model prog w) A (getMethod (.ref d) "values" pl) Q E s :=
  have hD := kda_dict N hp hd
  getMethod_builtin hD.typeIs PySem.F.plainAttrs_dict PySem.F.slot_dict_values PySem.F.type_dict_values hD.mapOf.noDict h
noncomputable abbrev viewO (d : Addr) : Obj := { cls := .type "dict_values", data := .fields #[.ref d] }
theorem val_call {Q : Value → Shared → Prop} (F : Fr h₀ L s.heap m) (N : News h₀ L s.heap news) (hp : (d, o) ∈ news) (hd : o.IsDictOf knd kvs) (lo : (d == sysModules) = false)
    (h : ∀ V h', Fr h₀ L h' m → News h₀ L h' ((V, viewO d) :: news) → (∀ p ∈ news, p.1 < V) → Q (.ref V) { s with heap := h' }) : wpAny (model prog w) A (call (.builtin "dict.values") [.ref d]) Q E s :=
  have hD := kda_dict N hp hd
  call_meetsIn PySem.F.slot_dict_values hD.typeIs PySem.F.entry_dict_values (PySem.F.args_dict_values_1 _) (meets_dict_values knd d lo) ⟨⟨_, hD⟩, h _ _ (F.push _) (News.push F N _ rfl) fun p hp => Heap.lt_size (N p hp).1⟩
end
end Mine
end
example (h : False) {prog : PySem.Program} {w : PySem.World} {A : PySem.Around} {Q E : PySem.Value → PySem.Shared → Prop} {s : PySem.Shared} {env : PySem.Env} {at0 : PySem.Pos} : PySem.wpAny (PySem.model prog w) A (PySem.eval (.Constant .none 0 at0) env) Q E s := by
  w_top off
  first | (walk1; fail) | exact h.elim
section
open PySem PySem.W PyProof.Rows
set_option maxRecDepth 100000
set_option linter.unusedSectionVars false
namespace Mine
noncomputable abbrev cellO (v : Option Value) : Obj := { cls := .type "cell", data := .cell v }
noncomputable abbrev dictO : Obj := { cls := .type "dict", data := .dict #[] }
theorem dictO_ns : NsO dictO (fun _ => none) := by
  obtain ⟨o, ho, n⟩ := ns_obj (Heap.Ns.new (default : Heap) (.type "dict"))
  have e : o = dictO := Option.some.inj (ho.symm.trans (Heap.get?_push_size _ rfl))
  exact e ▸ n
section
variable {M : Model} {A : Around} {E : Value → Shared → Prop} {s : Shared}
theorem newEnv_one {scope : Scope} {globals : Addr} {cl : List (Str × Addr)} {qual : Str} {env : Env} {x : Str} {Q : Env → Shared → Prop}
    (hpc : ∀ h : Heap, pushCells h scope.names = h.push (cellO none)) (hcf : ∀ n acc, cellsFrom n scope.names acc = (x, n) :: acc)
    (h : Q { scope := scope, locals := s.heap.objs.size, globals := globals, cells := (x, s.heap.objs.size + 1) :: cl, qual := qual, func := none, code := env.code, frame := env.frame, builtins := env.builtins } { s with heap := (s.heap.push dictO).push (cellO none) }) :
    wpAny M A (newFunctionEnv scope globals cl [] qual none .none (some env)) Q E s := by
  simp only [newFunctionEnv, Option.isSome_some, if_true]
  refine wpAny_bind (wpAny_alloc ?_)
  refine wpAny_bind (wpAny_layCells _ (fun name kind cells => by cases hkc : kind == NameKind.cell <;> simp [hkc]) _ _ _ _ ?_)
  rw [hpc, hcf]
  refine wpAny_bind ?_
  rw [List.forIn_nil]
  refine wpAny_pure (wpAny_pure ?_)
  rw [show ({ s with heap := s.heap.push dictO } : Shared).heap.objs.size = s.heap.objs.size + 1 from Heap.size_push ..]
  exact h
end
section
variable {prog : Program} {w : World} {A : Around} {E : Value → Shared → Prop} {s : Shared} {elt iter : Expr} {x : Str} {px : Pos} {scope : Scope} {cl : List (Str × Addr)} {pos : Pos} {env : Env} {L : Addr} {h₀ : Heap}
noncomputable def TurnC (prog : Program) (w : World) (A : Around) (h₀ : Heap) (L : Addr) (m : Str → Option Value) (env : Env) (scope : Scope) (cl : List (Str × Addr)) (x : Str) (elt : Expr) (n : Nat) (news : List (Addr × Obj)) (s₁ : Shared) (K : Nat → List Value → List (Addr × Obj) → Prop) : Prop :=
  ∀ I i t ys tl oI oC oX D c Cx k h tk E', i < n → K i ys tl → oX.data = .cell (some (.int (i : Nat) t)) → Fr h₀ L h m → News h₀ L h ((Cx, oX) :: (c, oC) :: (D, listOf ys.toArray k) :: (I, oI) :: (tl ++ news)) → @LT.lt Nat _ I D → @LT.lt Nat _ D c → @LT.lt Nat _ c Cx → AllLt I news → (∀ p ∈ tl, @LT.lt Nat _ Cx p.1) → ys.length ≤ i →
    wpAny (model prog w) A (eval elt (compEnvC scope ((x, Cx) :: cl) c env)) (fun y s₄ => EndG h₀ L m Cx [(Cx, oX), (c, oC), (D, listOf ys.toArray k), (I, oI)] tl news (K (i + 1) (ys ++ [y])) s₁ s₄) E' { s₁ with heap := h, toks := tk }
theorem comp_rangeC {Q : Value → Shared → Prop} (hh : A.handled = none)
    (hclos : closureFor scope env = pure cl) (hpc : ∀ h : Heap, pushCells h scope.names = h.push (cellO none)) (hcf : ∀ n acc, cellsFrom n scope.names acc = (x, n) :: acc) (hkind : scope.kind = .function)
    (hnames : ∀ y ∈ scope.names, y.2 = .local → scope.names.lookup y.1 = some .local) (hx : (relabel scope env).names.lookup x = some .cell)
    (h : wpAny (model prog w) A (eval iter env) (fun xv s₁ => ∃ r t1 t2 t3 m, ∃ n : Nat, ∃ news : List (Addr × Obj), ∃ K : Nat → List Value → List (Addr × Obj) → Prop, xv = .ref r ∧ Fr h₀ L s₁.heap m ∧ News h₀ L s₁.heap news ∧ IsRange s₁.heap r 0 n 1 t1 t2 t3 ∧ n < 2 ^ 20 ∧ K 0 [] [] ∧
      TurnC prog w A h₀ L m env scope cl x elt n news s₁ K ∧
      (∀ ys tl D k h tk, K n ys tl → Fr h₀ L h m → News h₀ L h ((D, listOf ys.toArray k) :: (tl ++ news)) → AllLt D news → (∀ p ∈ tl, @LT.lt Nat _ D p.1) → ys.length ≤ n → Q (.ref D) { s₁ with heap := h, toks := tk })) E s)
    (hs : ∀ x, foldedSetIterable iter env x = pure x := by intro _; rfl) :
    wpAny (model prog w) A (eval (.ListComp elt [⟨.Name x px, iter, [], 0⟩] scope pos) env) Q E s := by
  generalize Mine.clo = hCl
  revert prog w A E s elt iter x px scope cl pos env L h₀ Q
  intro prog w A E s elt iter x px scope cl pos env L h₀ Q hh hclos hpc hcf hkind hnames hx h hs
  rw [eval_ListComp]
  refine wpAny_comprehension_free (use := none) rfl hs hclos hkind hnames (wpAny_mono h ?_ fun _ _ e => e)
  rintro xv s₁ h₁
  obtain ⟨r, t1, t2, t3, m, n, news, K, rfl, F, N, hr, hsz, k0, turn, done⟩ := h₁
  have hn : Builtin.Range.rangeSize 0 n 1 = (n : Int) := by unfold Builtin.Range.rangeSize; (repeat' split) <;> lia
  have hsm : Builtin.Range.small 0 n 1 = true := by
    unfold Builtin.Range.small
    rw [show Builtin.Range.rangeSize 0 (n : Int) 1 = (n : Int) from hn, if_pos (show (1 : Int) > 0 from by decide), fitsL (i := 0) (by decide) (by decide), fitsL (i := n) (by lia) (by lia), fitsL (i := 1) (by decide) (by decide), fitsL (i := (n : Int) + (1 - 1)) (by lia) (by lia), Bool.or_true]
    rfl
  have hlt0 : ∀ p ∈ news, @LT.lt Nat _ p.1 s₁.heap.objs.size := fun p hp => Heap.lt_size (N p hp).1
  refine wpAny_pyIter_range hr hsm ?_
  refine wpAny_newObj_type ?_
  refine newEnv_one hpc hcf ?_
  rw [hn]
  have F1 := F.push { cls := .type "range_iterator", data := .fields #[rawInt 0, rawInt (n : Int), rawInt 1] }
  have N1 := push_news F N { cls := .type "range_iterator", data := .fields #[rawInt 0, rawInt (n : Int), rawInt 1] }
  have F2 := F1.push (listOf ([] : List Value).toArray 0)
  have N2 := push_news F1 N1 (listOf ([] : List Value).toArray 0)
  have F3 := F2.push dictO
  have N3 := push_news F2 N2 dictO
  have F4 := F3.push (cellO none)
  have N4 := push_news F3 N3 (cellO none)
  simp only [Heap.size_push] at N1 N2 N3 N4 ⊢
  clear F1 F2 F3 N1 N2 N3
  have hI0 : h₀.get? s₁.heap.objs.size = none := new_none F
  have hLa : @LT.lt Nat _ L s₁.heap.objs.size := F.ns.lt
  have hsize : ((((s₁.heap.push { cls := Value.type "range_iterator", data := Data.fields #[rawInt 0, rawInt (n : Int), rawInt 1] }).push (W.listOf #[] 0)).push dictO).push (cellO none)).objs.size = s₁.heap.objs.size + 1 + 1 + 1 + 1 := by simp only [Heap.size_push]
  generalize hH4 : ((((s₁.heap.push { cls := Value.type "range_iterator", data := Data.fields #[rawInt 0, rawInt (n : Int), rawInt 1] }).push (W.listOf #[] 0)).push dictO).push (cellO none)) = H4 at F4 N4 hsize
  clear hH4 h
  generalize ha : s₁.heap.objs.size = a at *
  have S := Src.range (prog := prog) (w := w) (A := A) hh (I := a) n
  have r0 : ({ cls := Value.type "range_iterator", data := Data.fields #[rawInt 0, rawInt (n : Int), rawInt 1] } : Obj) = { cls := .type "range_iterator", data := .fields #[rawInt (0 + ((0 : Nat) : Int) * 1), rawInt ((n : Int) - ((0 : Nat) : Int)), rawInt 1] } := by simp
  have loop : codeAny (model prog w) A (.compLoop (.ListComp elt [⟨.Name x px, iter, [], 0⟩] scope pos) 0 (.ref a) (.ref (a + 1)) (compEnvC scope ((x, a + 1 + 1 + 1) :: cl) (a + 1 + 1) env)) (compPost (model prog w) A E none Q (.ref (a + 1)) (a + 1 + 1)) { s₁ with heap := H4 } := by
    refine codeAny_compLoop_tests
      (fun k s' => ∃ i h tk ys tl oI oX kD, k = n + 1 - i ∧ i ≤ n ∧ s' = { s₁ with heap := h, toks := tk } ∧ K i ys tl ∧ ys.length ≤ i ∧ oI = ({ cls := .type "range_iterator", data := .fields #[rawInt (0 + ((i : Nat) : Int) * 1), rawInt ((n : Int) - ((i : Nat) : Int)), rawInt 1] } : Obj) ∧ (∃ v0, (oX : Obj).data = .cell v0) ∧ Fr h₀ L h m ∧
        News h₀ L h ((a + 1 + 1 + 1, oX) :: (a + 1 + 1, dictO) :: (a + 1, listOf ys.toArray kD) :: (a, oI) :: (tl ++ news)) ∧ (∀ p ∈ tl, @LT.lt Nat _ (a + 1 + 1 + 1) p.1)) ?_ (n + 1)
      ⟨0, H4, s₁.toks, [], [], _, cellO none, 0, rfl, Nat.zero_le _, rfl, k0, Nat.le_refl _, r0, ⟨none, rfl⟩, F4, N4, fun p hp => nomatch hp⟩
    rintro k s' ⟨i, h, tk, ys, tl, oI, oX, kD, rfl, hi, rfl, hj, hyl, r, ⟨v0, hv0⟩, F, N, htl⟩
    have gX := N (a + 1 + 1 + 1, oX) (.head _)
    have gC := N (a + 1 + 1, dictO) (.tail _ (.head _))
    have gD := N (a + 1, listOf ys.toArray kD) (.tail _ (.tail _ (.head _)))
    have gI := N (a, oI) (.tail _ (.tail _ (.tail _ (.head _))))
    have Nx : News h₀ L h (tl ++ news) := fun p hp => N p (.tail _ (.tail _ (.tail _ (.tail _ hp))))
    have off : ∀ p ∈ tl ++ news, p.1 ≠ (a : Nat) ∧ p.1 ≠ (a + 1 : Nat) ∧ p.1 ≠ (a + 1 + 1 : Nat) ∧ p.1 ≠ (a + 1 + 1 + 1 : Nat) := fun p hp => by
      rcases List.mem_append.mp hp with hp | hp
      · have := ltN (htl p hp)
        exact ⟨neN (by lia), neN (by lia), neN (by lia), neN (by lia)⟩
      · have := ltN (hlt0 p hp)
        exact ⟨neN (by lia), neN (by lia), neN (by lia), neN (by lia)⟩
    by_cases hlt : i < n
    · refine S.item i _ oI _ _ hlt r gI.1 (fun p hp => nomatch hp) ?_
      rintro v oI' h' tk' hP r' hI' hk
      obtain ⟨t, rfl⟩ := hP
      dsimp only
      have F' := fr_but F hk (Ne.symm gI.2.1) gI.2.2
      have gX' : h'.get? (a + 1 + 1 + 1) = some oX := hk _ _ (neN (by lia)) gX.1
      refine wpAny_assign_Name (wpAny_storeName_cell (env := compEnvC scope ((x, a + 1 + 1 + 1) :: cl) (a + 1 + 1) env) (by simp [compEnvC, relabel, hkind]) hx (by simp [compEnvC, List.lookup_cons]) ⟨oX, gX', hv0⟩ ?_)
      rintro h₂ hcl hs'
      obtain ⟨oX', hoX', hdX'⟩ := hcl
      have F₂ : Fr h₀ L h₂ m := F'.change hs' gX.2.1 gX.2.2
      have N₂ : News h₀ L h₂ ((a + 1 + 1 + 1, oX') :: (a + 1 + 1, dictO) :: (a + 1, listOf ys.toArray kD) :: (a, oI') :: (tl ++ news)) := fun p hp => by
        rcases List.mem_cons.mp hp with rfl | hp
        · exact ⟨hoX', gX.2⟩
        · rcases List.mem_cons.mp hp with rfl | hp
          · exact ⟨(hs'.2 _ (neN (by lia))).trans (hk _ _ (neN (by lia)) gC.1), gC.2⟩
          · rcases List.mem_cons.mp hp with rfl | hp
            · exact ⟨(hs'.2 _ (neN (by lia))).trans (hk _ _ (neN (by lia)) gD.1), gD.2⟩
            · rcases List.mem_cons.mp hp with rfl | hp
              · exact ⟨(hs'.2 _ (neN (by lia))).trans hI', gI.2⟩
              · exact ⟨(hs'.2 _ (off p hp).2.2.2).trans (hk _ _ (off p hp).1 (Nx p hp).1), (Nx p hp).2⟩
      refine wpAny_tests_nil ?_
      simp only [if_true]
      refine wpAny_mono (turn a i t ys tl oI' dictO oX' (a + 1) (a + 1 + 1) (a + 1 + 1 + 1) kD h₂ _ _ hlt hj hdX' F₂ N₂ (ltN (by lia)) (ltN (by lia)) (ltN (by lia)) (allLt_of hlt0) htl hyl) ?_ fun _ _ e => e
      rintro y s₄ h₄
      obtain ⟨h₄, tk₄, tl', rfl, F₄, N₄, hlt', hj₄⟩ := h₄
      have all : ∀ p ∈ tl' ++ tl, @LT.lt Nat _ (a + 1 + 1 + 1) p.1 := fun p hp => (List.mem_append.mp hp).elim (hlt' p) (htl p)
      have gD₄ := N₄ (a + 1, listOf ys.toArray kD) (.tail _ (.tail _ (.head _)))
      refine append_at (hsz := by rw [List.size_toArray, sizeLine_eq]; lia) gD₄.1 ?_
      rintro h₅ hs₅ hD₅
      refine ⟨n + 1 - (i + 1), by lia, i + 1, h₅, tk₄, ys ++ [y], tl' ++ tl, oI', oX', kD + 1, rfl, hlt, rfl, hj₄, by rw [List.length_append, List.length_singleton]; lia, r', ⟨_, hdX'⟩, F₄.change hs₅ gD₄.2.1 gD₄.2.2, fun p hp => ?_, all⟩
      rcases List.mem_cons.mp hp with rfl | hp
      · exact ⟨(hs₅.2 _ (neN (by lia))).trans (N₄ _ (.head _)).1, (N₄ _ (.head _)).2⟩
      · rcases List.mem_cons.mp hp with rfl | hp
        · exact ⟨(hs₅.2 _ (neN (by lia))).trans (N₄ _ (.tail _ (.head _))).1, (N₄ _ (.tail _ (.head _))).2⟩
        · rcases List.mem_cons.mp hp with rfl | hp
          · refine ⟨?_, gD₄.2⟩
            rw [hD₅]
            simp
          · rcases List.mem_cons.mp hp with rfl | hp
            · exact ⟨(hs₅.2 _ (neN (by lia))).trans (N₄ _ (.tail _ (.tail _ (.tail _ (.head _))))).1, (N₄ _ (.tail _ (.tail _ (.tail _ (.head _))))).2⟩
            · have hp' : p ∈ tl' ++ (tl ++ news) := by rw [← List.append_assoc]; exact hp
              have q2 : p.1 ≠ (a + 1 : Nat) := by
                rcases List.mem_append.mp hp with hq | hq
                · have := ltN (all p hq); exact neN (by lia)
                · have := ltN (hlt0 p hq); exact neN (by lia)
              exact ⟨(hs₅.2 _ q2).trans (N₄ _ (.tail _ (.tail _ (.tail _ (.tail _ hp'))))).1, (N₄ _ (.tail _ (.tail _ (.tail _ (.tail _ hp'))))).2⟩
    · have hin : i = n := by lia
      subst hin
      refine S.done _ oI _ _ r gI.1 (fun p hp => nomatch hp) ?_
      rintro h' tk' hk
      dsimp only
      have F' := fr_but F hk (Ne.symm gI.2.1) gI.2.2
      refine ⟨_, dictO_ns.ns (hk _ _ (neN (by lia)) gC.1), fun h'' hs'' => ?_⟩
      refine done ys tl (a + 1) kD h'' tk' hj (F'.change hs'' gC.2.1 gC.2.2) (fun p hp => ?_) (allLt_of fun p hp => by have := ltN (hlt0 p hp); exact ltN (by lia)) (fun p hp => by have := ltN (htl p hp); exact ltN (by lia)) hyl
      rcases List.mem_cons.mp hp with rfl | hp
      · exact ⟨(hs''.2 _ (neN (by lia))).trans (hk _ _ (neN (by lia)) gD.1), gD.2⟩
      · exact ⟨(hs''.2 _ (off p hp).2.2.1).trans (hk _ _ (off p hp).1 (Nx p hp).1), (Nx p hp).2⟩
  have hI₁ := (N4 (a, _) (.tail _ (.tail _ (.tail _ (.head _))))).1
  exact codeAny_compStart_list loop (S.self 0 _ _ _ _ r0 hI₁ (fun p hp => nomatch hp) loop)
end
end Mine
end
example (h : False) {prog : PySem.Program} {w : PySem.World} {A : PySem.Around} {Q E : PySem.Value → PySem.Shared → Prop} {s : PySem.Shared} {env : PySem.Env} {at0 : PySem.Pos} : PySem.wpAny (PySem.model prog w) A (PySem.eval (.Constant .none 0 at0) env) Q E s := by
  w_top off
  first | (walk1; fail) | exact h.elim
section
open PySem PySem.W PyProof.Rows PySem.Calls
set_option maxRecDepth 100000
set_option linter.unusedSectionVars false
namespace Mine
noncomputable def menu : List Trip := langs.flatMap fun l => encs.flatMap fun e => mods.map fun m => (l, e, m)
theorem langs_get (i : Nat) : langs.getD i none ∈ langs := by
  match i with
  | 0 | 1 | 2 | 3 => decide
  | n + 4 => show none ∈ langs; decide
theorem encs_get (i : Nat) : encs.getD i none ∈ encs := by
  match i with
  | 0 | 1 | 2 | 3 => decide
  | n + 4 => show none ∈ encs; decide
theorem mods_get (i : Nat) : mods.getD i none ∈ mods := by
  match i with
  | 0 | 1 | 2 | 3 => decide
  | n + 4 => show none ∈ mods; decide
theorem item_menu (x : Int) : itemOf x ∈ menu :=
  List.mem_flatMap.mpr ⟨_, langs_get _, List.mem_flatMap.mpr ⟨_, encs_get _, List.mem_map.mpr ⟨_, mods_get _, rfl⟩⟩⟩
theorem drawn_menu (ns : List Int) : ∀ t ∈ fixed ++ ns.map itemOf, t ∈ menu := by
  intro t ht
  rcases List.mem_append.mp ht with h | h
  · exact (by decide +kernel : ∀ t ∈ fixed, t ∈ menu) t h
  · obtain ⟨x, _, rfl⟩ := List.mem_map.mp h
    exact item_menu x
structure TripOk (l e mo : Option Str) : Prop where
  a : (nm0 l).length ≤ 64
  b : (e.getD "").length ≤ 64
  c : (nm1 l e).length ≤ 64
  d : (mo.getD "").length ≤ 64
  f : ((Txt.partition (nm1 l e) ".").2.2 == "ISO8859-1") = false
  g : PyData.strOk (e.getD "") = true
  h : (bh0 mo).length ≤ 65
  i : nm2 l e mo = nm1 l e ++ bh e mo
  j : PyData.strOk (nm0 l) = true ∧ PyData.strOk (nm1 l e) = true ∧ PyData.strOk (nm2 l e mo) = true
  k : (nm2 l e mo).length ≤ 64
theorem menu_ok (t : Trip) (h : t ∈ menu) : TripOk t.1 t.2.1 t.2.2 := by
  have := (by decide +kernel : ∀ t ∈ menu, (nm0 t.1).length ≤ 64 ∧ (t.2.1.getD "").length ≤ 64 ∧ (nm1 t.1 t.2.1).length ≤ 64 ∧ (t.2.2.getD "").length ≤ 64 ∧ ((Txt.partition (nm1 t.1 t.2.1) ".").2.2 == "ISO8859-1") = false ∧
    PyData.strOk (t.2.1.getD "") = true ∧ (bh0 t.2.2).length ≤ 65 ∧ nm2 t.1 t.2.1 t.2.2 = nm1 t.1 t.2.1 ++ bh t.2.1 t.2.2 ∧ (PyData.strOk (nm0 t.1) = true ∧ PyData.strOk (nm1 t.1 t.2.1) = true ∧ PyData.strOk (nm2 t.1 t.2.1 t.2.2) = true) ∧ (nm2 t.1 t.2.1 t.2.2).length ≤ 64) t h
  obtain ⟨a, b, c, d, f, g, h, i, j, k⟩ := this
  exact ⟨a, b, c, d, f, g, h, i, j, k⟩
noncomputable abbrev Row := Str × Str × Str
noncomputable def rowOf (t : Trip) : Row := (nm0 t.1, nm1 t.1 t.2.1, nm2 t.1 t.2.1 t.2.2)
inductive IsRow (S : List (Addr × Obj)) : Value → Row → Prop
  | mk {a : Addr} {x y z : Str} {t1 t2 t3 : Tok} {n : Nat} (h : (a, listOf #[.str x t1, .str y t2, .str z t3] n) ∈ S) : IsRow S (.ref a) (x, y, z)
theorem rowX {S : List (Addr × Obj)} {v : Value} {r : Row} (h : IsRow S v r) : ∃ a x y z t1 t2 t3 n, v = .ref a ∧ r = (x, y, z) ∧ (a, listOf #[.str x t1, .str y t2, .str z t3] n) ∈ S := by
  cases h with
  | mk h => exact ⟨_, _, _, _, _, _, _, _, rfl, rfl, h⟩
inductive RowsL (S : List (Addr × Obj)) : List Value → List Row → Prop
  | nil : RowsL S [] []
  | cons {v : Value} {t : Row} {vs : List Value} {ts : List Row} (h : IsRow S v t) (r : RowsL S vs ts) : RowsL S (v :: vs) (t :: ts)
theorem IsRow.mono {S S' : List (Addr × Obj)} {v : Value} {t : Row} (h : IsRow S v t) (hs : ∀ p ∈ S, p ∈ S') : IsRow S' v t := by
  cases h with
  | mk h => exact .mk (hs _ h)
theorem RowsL.mono {S S' : List (Addr × Obj)} {vs : List Value} {ts : List Row} (h : RowsL S vs ts) (hs : ∀ p ∈ S, p ∈ S') : RowsL S' vs ts := by
  induction h with
  | nil => exact .nil
  | cons h _ ih => exact .cons (h.mono hs) ih
theorem RowsL.app {S : List (Addr × Obj)} {vs ws : List Value} {ts us : List Row} (h : RowsL S vs ts) (g : RowsL S ws us) : RowsL S (vs ++ ws) (ts ++ us) := by
  induction h with
  | nil => exact g
  | cons h _ ih => exact .cons h ih
theorem RowsL.length {S : List (Addr × Obj)} {vs : List Value} {ts : List Row} (h : RowsL S vs ts) : vs.length = ts.length := by
  induction h with
  | nil => rfl
  | cons h _ ih => simp [ih]
theorem RowsL.get {S : List (Addr × Obj)} {vs : List Value} {ts : List Row} (h : RowsL S vs ts) : ∀ {i : Nat} {v : Value}, vs[i]? = some v → ∃ t, ts[i]? = some t ∧ IsRow S v t := by
  induction h with
  | nil => intro i v e; simp at e
  | cons h _ ih =>
    intro i v e
    cases i with
    | zero => simp at e; subst e; exact ⟨_, rfl, h⟩
    | succ i => simpa using ih (by simpa using e)
/-- the row as data -/
noncomputable def rowD (r : Row) : Dat := .list [.str r.1, .str r.2.1, .str r.2.2]
end Mine
end
example (h : False) {prog : PySem.Program} {w : PySem.World} {A : PySem.Around} {Q E : PySem.Value → PySem.Shared → Prop} {s : PySem.Shared} {env : PySem.Env} {at0 : PySem.Pos} : PySem.wpAny (PySem.model prog w) A (PySem.eval (.Constant .none 0 at0) env) Q E s := by
  w_top off
  first | (walk1; fail) | exact h.elim
section
open PySem PySem.W PyProof.Rows PySem.Calls
set_option maxRecDepth 100000
set_option linter.unusedSectionVars false
namespace Mine
theorem RowsL.dat {S : List (Addr × Obj)} {vs : List Value} {rs : List Row} (h : RowsL S vs rs) : DatAll S vs (rs.map rowD) := by
  induction h with
  | nil => exact .nil
  | cons h _ ih =>
    cases h with
    | mk h => exact .cons (.list (vs := [_, _, _]) h (.cons (.str _ _) (.cons (.str _ _) (.cons (.str _ _) .nil)))) ih
theorem rows_ok {T : List Trip} (h : ∀ t ∈ T, t ∈ menu) : ∀ d ∈ (T.map rowOf).map rowD, kqdOk 8 d = true := by
  intro d hd
  rw [List.map_map] at hd
  obtain ⟨t, ht, rfl⟩ := List.mem_map.mp hd
  have hok := (menu_ok t (h t ht)).j
  show ([Dat.str (nm0 t.1), Dat.str (nm1 t.1 t.2.1), Dat.str (nm2 t.1 t.2.1 t.2.2)].all (kqdOk 7)) = true
  simp [kqdOk, hok]
section
variable {prog : Program} {w : World} {A : Around} {E : Value → Shared → Prop} {s : Shared} {h₀ : Heap} {L a b : Addr} {news n₁ n₂ : List (Addr × Obj)} {oa ob : Obj} {xs ys : List Value} {ka kb : Nat} {ds : List Dat} {Q : Value → Shared → Prop}
theorem ne_same (N : News h₀ L s.heap news) (ma : (a, oa) ∈ news) (ca : oa.cls = .type "list") (da : oa.data = .seq xs.toArray ka) (Da : DatAll n₁ xs ds) (sa : ∀ p ∈ n₁, p ∈ news)
    (mb : (b, ob) ∈ news) (cb : ob.cls = .type "list") (db : ob.data = .seq ys.toArray kb) (Db : DatAll n₂ ys ds) (sb : ∀ p ∈ n₂, p ∈ news)
    (ha : ∀ d ∈ ds, kqdOk 8 d = true) (hu : A.units + 64 < cLine) (h : Q (.bool false) s) : wpAny (model prog w) A (compareOp .NotEq (.ref a) (.ref b)) Q E s :=
  kqd_ne N ma ca da Da sa mb cb db Db sb ha ha hu (by simpa using h)
theorem eq_same (N : News h₀ L s.heap news) (ma : (a, oa) ∈ news) (ca : oa.cls = .type "list") (da : oa.data = .seq xs.toArray ka) (Da : DatAll n₁ xs ds) (sa : ∀ p ∈ n₁, p ∈ news)
    (mb : (b, ob) ∈ news) (cb : ob.cls = .type "list") (db : ob.data = .seq ys.toArray kb) (Db : DatAll n₂ ys ds) (sb : ∀ p ∈ n₂, p ∈ news)
    (ha : ∀ d ∈ ds, kqdOk 8 d = true) (hu : A.units + 64 < cLine) (h : Q (.bool true) s) : wpAny (model prog w) A (compareOp .Eq (.ref a) (.ref b)) Q E s :=
  kqd_eq N ma ca da Da sa mb cb db Db sb ha ha hu (by simpa using h)
noncomputable abbrev refB : List Value := [Value.bool true, .bool true, .bool true, .bool true, .bool false]
theorem bools_ne (N : News h₀ L s.heap news) (ma : (a, listOf refB.toArray ka) ∈ news) (mb : (b, listOf refB.toArray kb) ∈ news) (hu : A.units + 64 < cLine) (h : Q (.bool false) s) : wpAny (model prog w) A (compareOp .NotEq (.ref a) (.ref b)) Q E s := by
  have R : ReadsAll s.heap refB [.bool true, .bool true, .bool true, .bool true, .bool false] [] := .cons (.bool _) (.cons (.bool _) (.cons (.bool _) (.cons (.bool _) (.cons (.bool _) .nil))))
  have e : PyData.eqv (.list [.bool true, .bool true, .bool true, .bool true, .bool false]) (.list [.bool true, .bool true, .bool true, .bool true, .bool false]) = true := by decide +kernel
  refine ne_dataH (reads_list_at (N.get ma) rfl rfl R) (reads_list_at (N.get mb) rfl rfl R) (by decide +kernel) (by decide +kernel) hu ?_
  rw [e]
  exact h
end
end Mine
end
example (h : False) {prog : PySem.Program} {w : PySem.World} {A : PySem.Around} {Q E : PySem.Value → PySem.Shared → Prop} {s : PySem.Shared} {env : PySem.Env} {at0 : PySem.Pos} : PySem.wpAny (PySem.model prog w) A (PySem.eval (.Constant .none 0 at0) env) Q E s := by
  w_top off
  first | (walk1; fail) | exact h.elim
section
open PySem PySem.W PyProof.Rows PySem.Calls
set_option maxRecDepth 100000
set_option linter.unusedSectionVars false
namespace Mine
/-- a sort's tree, answered by a relation -/
noncomputable def ans {α : Type} (r : Nat → Nat → Bool) : KasT α → α
  | .ret a => a
  | .ask i j k => ans r (k (r i j))
theorem ans_bind {α β : Type} {r : Nat → Nat → Bool} {f : α → KasT β} : ∀ t : KasT α, ans r (t.bind f) = ans r (f (ans r t))
  | .ret _ => rfl
  | .ask i j k => ans_bind (k (r i j))
/-- its questions are of numbers below n -/
noncomputable def okT {α : Type} (n : Nat) (P : α → Prop) : KasT α → Prop
  | .ret a => P a
  | .ask i j k => i < n ∧ j < n ∧ ∀ b, okT n P (k b)
theorem okT_bind {α β : Type} {n : Nat} {P : α → Prop} {R : β → Prop} {f : α → KasT β} : ∀ {t : KasT α}, okT n P t → (∀ a, P a → okT n R (f a)) → okT n R (t.bind f)
  | .ret _, h, hf => hf _ h
  | .ask _ _ _, h, hf => ⟨h.1, h.2.1, fun b => okT_bind (h.2.2 b) hf⟩
theorem okT_mono {α : Type} {n : Nat} {P R : α → Prop} (hp : ∀ a, P a → R a) : ∀ {t : KasT α}, okT n P t → okT n R t
  | .ret _, h => hp _ h
  | .ask _ _ _, h => ⟨h.1, h.2.1, fun b => okT_mono hp (h.2.2 b)⟩
theorem kas_ans {α : Type} {n : Nat} {r : Nat → Nat → Bool} {cmp : Nat → Nat → (Bool → Shared → Prop) → Shared → Prop} {I : Shared → Prop} (hc : ∀ i j C s, i < n → j < n → I s → (∀ s', I s' → C (r i j) s') → cmp i j C s) {P : α → Prop} {Q : α → Shared → Prop} :
    ∀ (t : KasT α) (s : Shared), okT n P t → I s → (∀ s', I s' → Q (ans r t) s') → t.kasWp cmp Q s
  | .ret _, s, _, hI, hq => hq s hI
  | .ask i j k, s, ho, hI, hq => hc i j _ s ho.1 ho.2.1 hI fun s' hI' => kas_ans hc (k (r i j)) s' (ho.2.2 _) hI' hq
section
variable {n : Nat} {p : Array Nat}
noncomputable def Lo (n : Nat) (p : Array Nat) : Prop := p.size = n ∧ ∀ k, p.getD k 0 < n
theorem getD_q (q : Array Nat) (i : Nat) : q.getD i 0 = (q[i]?).getD 0 := by simp [Array.getD]; split <;> simp_all
theorem getD_in {q : Array Nat} {i : Nat} (h : i < q.size) : q.getD i 0 = q[i] := by rw [getD_q, getElem?_pos q i h]; rfl
theorem getD_out {q : Array Nat} {i : Nat} (h : ¬ i < q.size) : q.getD i 0 = 0 := by rw [getD_q, getElem?_neg q i h]; rfl
theorem lo_perm {q : Array Nat} (h : Lo n p) (hp : q.Perm p) : Lo n q := by
  refine ⟨(hp.size_eq).trans h.1, fun k => ?_⟩
  by_cases hk : k < q.size
  · have hm : q[k] ∈ p := hp.mem_iff.mp (Array.getElem_mem hk)
    obtain ⟨i, hi, e⟩ := Array.mem_iff_getElem.mp hm
    rw [getD_in hk, ← e, ← getD_in hi]
    exact h.2 i
  · have := h.2 (p.size)
    rw [getD_out (Nat.lt_irrefl _)] at this
    rw [getD_out hk]
    exact this
theorem lo_rev (h : Lo n p) (i j : Nat) : Lo n (kas_rev p i j) := lo_perm h (mirror_perm _ _ _ _)
theorem ok_asc (h : Lo n p) : ∀ f a, okT n (fun _ => True) (kas_asc p f a)
  | 0, _ => trivial
  | f + 1, a => ⟨h.2 _, h.2 _, fun b => by cases b; exact ok_asc h f (a + 1); trivial⟩
theorem ok_desc : ∀ f {p : Array Nat} (_ : Lo n p) a q, okT n (fun x => Lo n x.1) (kas_desc f p a q)
  | 0, _, h, _, _ => h
  | f + 1, p, h, a, q => ⟨h.2 _, h.2 _, fun b => by
      cases b
      · exact ⟨h.2 _, h.2 _, fun b => by cases b; exact ok_desc f h _ _; exact h⟩
      · show okT n _ (if q > 0 then _ else _)
        split
        · exact ok_desc f (lo_rev h _ _) _ _
        · exact ok_desc f h _ _⟩
theorem ok_tail3 (h : Lo n p) (a b : Nat) : okT n (fun x => Lo n x.2) (kas_tail3 a b p) := okT_bind (ok_asc (lo_rev h _ _) _ _) fun _ _ => lo_rev h _ _
theorem ok_dp (h : Lo n p) (a b : Nat) : okT n (fun x => Lo n x.2) (kas_descPart a b p) := okT_bind (ok_desc _ h _ _) fun x hx => by
  show okT n _ (if x.2.2 > 0 then _ else _)
  split
  · exact ok_tail3 (lo_rev hx _ _) _ _
  · exact ok_tail3 hx _ _
theorem ok_count (h : Lo n p) (b : Nat) : okT n (fun x => Lo n x.2) (kas_count b p) := okT_bind (ok_asc h _ _) fun a _ => by
  show okT n _ (if (a == b) = true then _ else _)
  split
  · exact h
  · split
    · exact ⟨h.2 _, h.2 _, fun c => by cases c; exact ok_dp (lo_rev h _ _) _ _; exact h⟩
    · exact ok_dp h _ _
theorem ok_place (h : Lo n p) (k : Nat) : ∀ f l r, okT n (fun _ => True) (kas_place p k f l r)
  | 0, _, _ => trivial
  | f + 1, l, r => by
    show okT n _ (if l ≥ r then _ else _)
    split
    · trivial
    · exact ⟨h.2 _, h.2 _, fun c => by cases c; exact ok_place h k f _ _; exact ok_place h k f _ _⟩
theorem ok_bin : ∀ f {p : Array Nat} (_ : Lo n p) k, okT n (fun q => Lo n q) (kas_bin f p k)
  | 0, _, h, _ => h
  | f + 1, _, h, k => okT_bind (ok_place h k _ _ _) fun _ _ => ok_bin f (lo_perm h (bubble_perm _ _ _)) _
theorem lo_range (h : 0 < n) : Lo n (List.toArray (List.range n)) := by
  refine ⟨by simp, fun k => ?_⟩
  by_cases hk : k < (List.toArray (List.range n)).size
  · rw [getD_in hk]; simpa using hk
  · rw [getD_out hk]; exact h
theorem ok_sort (h : 0 < n) : okT n (fun q => Lo n q) (kas_sort n) := okT_bind (ok_count (lo_range h) _) fun x hx => by
  show okT n _ (if x.1 < n then _ else _)
  split
  · exact ok_bin _ hx _
  · exact hx
end
section
variable {n : Nat} {r : Nat → Nat → Bool} (hT : ∀ i j k, r i j = true → r j k = true → r i k = true) (hX : ∀ i j, i < n → j < n → i ≠ j → r i j = true ∨ r j i = true) (hA : ∀ i j, r i j = true → r j i = false)
noncomputable def Va (n : Nat) (p : Array Nat) : Prop := p.Perm (List.toArray (List.range n))
noncomputable def Up (r : Nat → Nat → Bool) (p : Array Nat) (m : Nat) : Prop := ∀ i j, i < j → j < m → r (p.getD i 0) (p.getD j 0) = true
noncomputable def Dn (r : Nat → Nat → Bool) (p : Array Nat) (m : Nat) : Prop := ∀ i j, i < j → j < m → r (p.getD j 0) (p.getD i 0) = true
theorem Va.size {p : Array Nat} (h : Va n p) : p.size = n := by have := h.size_eq; simpa using this
theorem Va.lo {p : Array Nat} (h : Va n p) (hn : 0 < n) : Lo n p := lo_perm (lo_range hn) h
theorem Va.ne {p : Array Nat} (h : Va n p) {i j : Nat} (hi : i < n) (hj : j < n) (ij : i ≠ j) : p.getD i 0 ≠ p.getD j 0 := by
  have hs := h.size
  have nd : p.toList.Nodup := (Array.perm_iff_toList_perm.mp h).nodup_iff.mpr (by simpa using List.nodup_range)
  have hi' : i < p.size := by lia
  have hj' : j < p.size := by lia
  rw [getD_in hi', getD_in hj']
  intro e
  have z := List.pairwise_iff_getElem.mp nd
  rcases Nat.lt_or_gt_of_ne ij with q | q
  · exact z i j (by simpa using hi') (by simpa using hj') q (by simpa using e)
  · exact z j i (by simpa using hj') (by simpa using hi') q (by simpa using e.symm)
theorem getD_rev {p : Array Nat} {j : Nat} (hj : j ≤ p.size) (k : Nat) : (kas_rev p 0 j).getD k 0 = if k < j then p.getD (j - 1 - k) 0 else p.getD k 0 := by
  have e := getElem?_mirror_all (i := 0) hj k
  show (mirror p 0 j ((j - 0) / 2)).getD k 0 = _
  rw [getD_q, getD_q, getD_q, e]
  by_cases h : k < j
  · simp [h]
  · simp [h]
theorem getD_bub {p : Array Nat} {k : Nat} (hk : k < p.size) {d : Nat} (hd : d ≤ k) (i : Nat) : (bubble p k d).getD i 0 = if i = k - d then p.getD k 0 else if k - d < i ∧ i ≤ k then p.getD (i - 1) 0 else p.getD i 0 := by
  have e := getElem?_bubble hk d hd i
  rw [getD_q, getD_q p, getD_q p, getD_q p, e]
  split
  · rfl
  · split <;> rfl
include hT hX hA
theorem asc_ans {p : Array Nat} (h : Va n p) : ∀ f a, 1 ≤ a → a + f = n → Up r p a → a ≤ ans r (kas_asc p f a) ∧ ans r (kas_asc p f a) ≤ n ∧ Up r p (ans r (kas_asc p f a)) ∧ (ans r (kas_asc p f a) = n ∨ r (p.getD (ans r (kas_asc p f a)) 0) (p.getD (ans r (kas_asc p f a) - 1) 0) = true)
  | 0, a, _, e, u => ⟨Nat.le_refl _, by show a ≤ n; lia, u, .inl (by show a = n; lia)⟩
  | f + 1, a, h1, e, u => by
    have hn : 0 < n := by lia
    unfold kas_asc
    simp only [ans]
    cases q : r (p.getD a 0) (p.getD (a - 1) 0) with
    | true => exact ⟨Nat.le_refl _, by show a ≤ n; lia, u, .inr q⟩
    | false =>
      simp only [Bool.false_eq_true, if_false]
      have q2 : r (p.getD (a - 1) 0) (p.getD a 0) = true := by
        rcases hX _ _ ((h.lo hn).2 a) ((h.lo hn).2 (a - 1)) (h.ne (by lia) (by lia) (by lia)) with z | z
        · rw [q] at z; cases z
        · exact z
      have u2 : Up r p (a + 1) := fun i j ij hj => by
        by_cases hj2 : j < a
        · exact u i j ij hj2
        · have : j = a := by lia
          subst this
          by_cases hi : i = j - 1
          · exact hi ▸ q2
          · exact hT _ _ _ (u i (j - 1) (by lia) (by lia)) q2
      have ih := asc_ans h f (a + 1) (by lia) (by lia) u2
      exact ⟨by lia, ih.2⟩
theorem desc_ans {p : Array Nat} (h : Va n p) : ∀ f a, 1 ≤ a → a + f = n → Dn r p a → ∃ m, ans r (kas_desc f p a 0) = (p, m, 0) ∧ a ≤ m ∧ m ≤ n ∧ Dn r p m
  | 0, a, _, e, u => ⟨a, rfl, Nat.le_refl _, by lia, u⟩
  | f + 1, a, h1, e, u => by
    have hn : 0 < n := by lia
    unfold kas_desc
    simp only [ans]
    cases q : r (p.getD a 0) (p.getD (a - 1) 0) with
    | true =>
      simp only [if_true, Nat.lt_irrefl, gt_iff_lt, if_false]
      have u2 : Dn r p (a + 1) := fun i j ij hj => by
        by_cases hj2 : j < a
        · exact u i j ij hj2
        · have : j = a := by lia
          subst this
          by_cases hi : i = j - 1
          · exact hi ▸ q
          · exact hT _ _ _ q (u i (j - 1) (by lia) (by lia))
      obtain ⟨m, e1, e2, e3⟩ := desc_ans h f (a + 1) (by lia) (by lia) u2
      exact ⟨m, e1, by lia, e3⟩
    | false =>
      simp only [Bool.false_eq_true, if_false, ans]
      have q2 : r (p.getD (a - 1) 0) (p.getD a 0) = true := by
        rcases hX _ _ ((h.lo hn).2 a) ((h.lo hn).2 (a - 1)) (h.ne (by lia) (by lia) (by lia)) with z | z
        · rw [q] at z; cases z
        · exact z
      rw [q2]
      simp only [if_true, ans]
      exact ⟨a, rfl, Nat.le_refl _, by lia, u⟩
theorem tail3_ans {p : Array Nat} (h : Va n p) {a : Nat} (h1 : 1 ≤ a) (ha : a ≤ n) (d : Dn r p a) : Va n (ans r (kas_tail3 a n p)).2 ∧ 1 ≤ (ans r (kas_tail3 a n p)).1 ∧ (ans r (kas_tail3 a n p)).1 ≤ n ∧ Up r (ans r (kas_tail3 a n p)).2 (ans r (kas_tail3 a n p)).1 := by
  have hv : Va n (kas_rev p 0 a) := (mirror_perm _ _ _ _).trans h
  have u : Up r (kas_rev p 0 a) a := fun i j ij hj => by
    rw [getD_rev (by rw [h.size]; exact ha), getD_rev (by rw [h.size]; exact ha), if_pos (by lia), if_pos hj]
    exact d _ _ (by lia) (by lia)
  obtain ⟨e1, e2, e3, _⟩ := asc_ans hT hX hA hv (n - a) a h1 (by lia) u
  unfold kas_tail3
  rw [ans_bind]
  simp only [ans]
  exact ⟨hv, by lia, e2, e3⟩
theorem count_ans {p : Array Nat} (h : Va n p) (hn : 1 ≤ n) : Va n (ans r (kas_count n p)).2 ∧ 1 ≤ (ans r (kas_count n p)).1 ∧ (ans r (kas_count n p)).1 ≤ n ∧ Up r (ans r (kas_count n p)).2 (ans r (kas_count n p)).1 := by
  have u1 : Up r p 1 := fun i j ij hj => by lia
  obtain ⟨e1, e2, e3, e4⟩ := asc_ans hT hX hA h (n - 1) 1 (Nat.le_refl _) (by lia) u1
  unfold kas_count
  rw [ans_bind]
  generalize ans r (kas_asc p (n - 1) 1) = a at *
  by_cases q : (a == n) = true
  · rw [if_pos q]
    exact ⟨h, e1, e2, e3⟩
  · rw [if_neg q]
    have q' : a ≠ n := fun z => q (beq_iff_eq.mpr z)
    by_cases q2 : a > 1
    · rw [if_pos q2]
      simp only [ans]
      rw [e3 0 (a - 1) (by lia) (by lia)]
      exact ⟨h, e1, e2, e3⟩
    · rw [if_neg q2]
      have a1 : a = 1 := by lia
      subst a1
      have d2 : Dn r p 2 := fun i j ij hj => by
        have : i = 0 := by lia
        have : j = 1 := by lia
        subst i j
        exact e4.resolve_left q'
      unfold kas_descPart
      rw [ans_bind]
      obtain ⟨m, f1, f2, f3, f4⟩ := desc_ans hT hX hA h (n - (1 + 1)) 2 (by lia) (by lia) d2
      rw [show (1 + 1) = 2 from rfl, f1]
      simp only [Nat.lt_irrefl, gt_iff_lt, if_false]
      exact tail3_ans hT hX hA h (by lia) f3 f4
theorem place_ans {p : Array Nat} (h : Va n p) {k : Nat} (hk : k < n) (u : Up r p k) : ∀ f l e, l ≤ e → e ≤ k → e - l ≤ f → (∀ i, i < l → r (p.getD i 0) (p.getD k 0) = true) → (∀ i, e ≤ i → i < k → r (p.getD k 0) (p.getD i 0) = true) →
    ans r (kas_place p k f l e) ≤ k ∧ (∀ i, i < ans r (kas_place p k f l e) → r (p.getD i 0) (p.getD k 0) = true) ∧ (∀ i, ans r (kas_place p k f l e) ≤ i → i < k → r (p.getD k 0) (p.getD i 0) = true)
  | 0, l, e, le, ek, hf, a, b => by
    have : l = e := by lia
    subst this
    exact ⟨ek, a, b⟩
  | f + 1, l, e, le, ek, hf, a, b => by
    have hn : 0 < n := by lia
    unfold kas_place
    by_cases q : l ≥ e
    · rw [if_pos q]
      have : l = e := by lia
      subst this
      exact ⟨ek, a, b⟩
    · rw [if_neg q]
      simp only [ans]
      cases c : r (p.getD k 0) (p.getD ((l + e) / 2) 0) with
      | true =>
        simp only [if_true]
        refine place_ans h hk u f l ((l + e) / 2) (by lia) (by lia) (by lia) a fun i i1 i2 => ?_
        by_cases z : i = (l + e) / 2
        · exact z ▸ c
        · exact hT _ _ _ c (u _ _ (by lia) i2)
      | false =>
        simp only [Bool.false_eq_true, if_false]
        have c2 : r (p.getD ((l + e) / 2) 0) (p.getD k 0) = true := by
          rcases hX _ _ ((h.lo hn).2 k) ((h.lo hn).2 ((l + e) / 2)) (h.ne (by lia) (by lia) (by lia)) with z | z
          · rw [c] at z; cases z
          · exact z
        refine place_ans h hk u f ((l + e) / 2 + 1) e (by lia) ek (by lia) (fun i i1 => ?_) b
        by_cases z : i = (l + e) / 2
        · exact z ▸ c2
        · exact hT _ _ _ (u i _ (by lia) (by lia)) c2
theorem bin_ans : ∀ f {p : Array Nat} (_ : Va n p) k, k + f = n → Up r p k → Va n (ans r (kas_bin f p k)) ∧ Up r (ans r (kas_bin f p k)) n
  | 0, p, h, k, e, u => ⟨h, by
      have : k = n := e
      subst this
      exact u⟩
  | f + 1, p, h, k, e, u => by
    have hk : k < n := by lia
    obtain ⟨a1, a2, a3⟩ := place_ans hT hX hA h hk u k 0 k (Nat.zero_le _) (Nat.le_refl _) (by lia) (fun i hi => by lia) (fun i h1 h2 => by lia)
    unfold kas_bin
    rw [ans_bind]
    generalize ans r (kas_place p k k 0 k) = l at *
    refine bin_ans f ((bubble_perm _ _ _).trans h) (k + 1) (by lia) fun i j ij hj => ?_
    have hks : k < p.size := by rw [h.size]; exact hk
    rw [getD_bub hks (by lia), getD_bub hks (by lia), show k - (k - l) = l by lia]
    by_cases i1 : i = l
    · subst i1
      rw [if_pos rfl, if_neg (by lia), if_pos (by lia)]
      exact a3 _ (by lia) (by lia)
    · rw [if_neg i1]
      by_cases i2 : l < i ∧ i ≤ k
      · rw [if_pos i2, if_neg (by lia), if_pos (by lia)]
        exact u _ _ (by lia) (by lia)
      · rw [if_neg i2]
        by_cases j1 : j = l
        · rw [if_pos j1]
          exact a2 _ (by lia)
        · rw [if_neg j1]
          by_cases j2 : l < j ∧ j ≤ k
          · rw [if_pos j2]
            by_cases z : i = j - 1
            · lia
            · exact u _ _ (by lia) (by lia)
          · rw [if_neg j2]
            exact u _ _ ij (by lia)
theorem sort_ans (hn : 1 ≤ n) : Va n (ans r (kas_sort n)) ∧ Up r (ans r (kas_sort n)) n := by
  obtain ⟨e1, e2, e3, e4⟩ := count_ans hT hX hA (p := List.toArray (List.range n)) (Array.Perm.refl _) hn
  unfold kas_sort
  rw [ans_bind]
  generalize ans r (kas_count n (List.toArray (List.range n))) = x at *
  by_cases q : x.1 < n
  · rw [if_pos q]
    have : max x.1 1 = x.1 := by lia
    rw [this]
    exact bin_ans hT hX hA (n - x.1) e1 x.1 (by lia) e4
  · rw [if_neg q]
    have : x.1 = n := by lia
    rw [this] at e4
    exact ⟨e1, e4⟩
end
end Mine
end
example (h : False) {prog : PySem.Program} {w : PySem.World} {A : PySem.Around} {Q E : PySem.Value → PySem.Shared → Prop} {s : PySem.Shared} {env : PySem.Env} {at0 : PySem.Pos} : PySem.wpAny (PySem.model prog w) A (PySem.eval (.Constant .none 0 at0) env) Q E s := by
  w_top off
  first | (walk1; fail) | exact h.elim
section
open PySem PySem.W PyProof.Rows PySem.Calls
set_option maxRecDepth 100000
set_option linter.unusedSectionVars false
namespace Mine
noncomputable def kof : Value → List Nat
  | .str x _ => x.cps.toList
  | _ => []
section
variable {prog : Program} {w : World} {A : Around} {E : Value → Shared → Prop} {h₀ : Heap} {L : Addr} {m : Str → Option Value} {s : Shared} {news own : List (Addr × Obj)}
end
section
variable {M : Model} {A : Around} {E : Value → Shared → Prop} {h : Heap} {g : Array GenState} {d : Drawn} {t : Nat} {os : OsState}
theorem lu {a : Addr} {c : String} {xs : Array Value} {n : Nat} {f : Array Value → Array Value} {Q : Unit → Shared → Prop} (ho : h.get? a = some (seqObj c xs n)) (h1 : xs.size ≤ sizeLine) (h2 : (f xs).size ≤ sizeLine + 1)
    (hq : ∀ h' n', (∀ b x, b ≠ a → h.get? b = some x → h'.get? b = some x) → h'.get? a = some (seqObj c (f xs) n') → Q () ⟨h', g, d, t, os⟩) : wpAny M A (Builtin.List.listUpdate (.ref a) f) Q E ⟨h, g, d, t, os⟩ := by
  have hs := Heap.SameBut.update h a (Obj.mapSeq f)
  exact listUpdate_at ho rfl (hq _ _ (fun b x hb e => (hs.2 b hb).trans e) (get?_update_seq ho f)) h1 h2
end
section
variable {prog : Program} {w : World} {dp un : Nat} {gd : Option (List Code)} {cn : Str} {cs : Scope} {a : Addr} {ccd : Value} {cl : List (Str × Addr)} {outer : List Env} {A₀ : Around} {base h₀ : Heap} {L : Addr} {m : Str → Option Value} {news : List (Addr × Obj)} {E : Value → Shared → Prop} {p : Program} {loose : List Str} {mean : ExcName → Option Value} {mg mb : Str → Option Value}
variable {h : Heap} {g : Array GenState} {d : Drawn} {t : Nat} {os : OsState}
variable (B : Below A₀ base outer h₀) (F : Fr h₀ L h m) (X : (mkK.heap_1 w.params).In h₀) (N : News h₀ L h news) (T : Top p loose mean mg mb h₀) (hk : cs.kind = .function) (hd' : dp ≤ 800) (hu : un ≤ 900)
include B F X N T hk hd' hu
/-- the keys are made -/
theorem kkeys {own : List (Addr × Obj)} {C kS : Addr} {vs : List Value} {body : Value → PUnit → Sem (ForInStep PUnit)} {Q : PUnit → Shared → Prop} (hK : KeyCls own C) (ho : ∀ p ∈ own, p ∈ news) (hkS : h.get? kS = some (seqObj "list" #[] 0)) (hn : ∀ p ∈ news, p.1 ≠ kS) (hS : OwnA h₀ L kS) (hv : ∀ v ∈ vs, ∃ x t, v = .str x t) (h64 : vs.length < 64)
    (hb : ∀ x, ∀ {Q' : ForInStep PUnit → Shared → Prop} {s'}, wpAny (model prog w) (ktrTop dp un gd cn cs L a ccd cl outer) (call (.ref C) [x]) (fun k s' => wpAny (model prog w) (ktrTop dp un gd cn cs L a ccd cl outer) (Builtin.List.listUpdate (.ref kS) (·.push k)) (fun _ s' => Q' (.yield ⟨⟩) s') E s') (fun _ _ => False) s' → wpAny (model prog w) (ktrTop dp un gd cn cs L a ccd cl outer) (body x ⟨⟩) Q' E s')
    (hq : ∀ (h' : Heap) (tk : Nat) (kA : Array Value) (e : Nat), Fr h₀ L h' m → (∀ b o, b ≠ kS → b ≠ L → h.get? b = some o → h'.get? b = some o) → h'.get? kS = some (seqObj "list" kA e) → kA.size = vs.length → (∀ (j : Nat) (v : Value), vs[j]? = some v → ∃ I D, kA[j]? = some (Value.ref I) ∧ OwnA h₀ L I ∧ h'.get? I = some (instO C D v) ∧ OwnA h₀ L D ∧ h'.get? D = some emptyDict) → Q ⟨⟩ ⟨h', g, d, tk, os⟩) :
    wpAny (model prog w) (ktrTop dp un gd cn cs L a ccd cl outer) (forIn vs PUnit.unit body) Q E ⟨h, g, d, t, os⟩ := by
  generalize Mine.clo = hCl
  revert prog w dp un gd cn cs a ccd cl outer A₀ base h₀ L m news E p loose mean mg mb h g d t os own C kS vs body Q
  intro prog w dp un gd cn cs a ccd cl outer A₀ base h₀ L m news E p loose mean mg mb h g d t os B F X N T hk hd' hu own C kS vs body Q hK ho hkS hn hS hv h64 hb hq
  refine ksk_fold (fun i s' => ∃ (h' : Heap) (tk : Nat) (kA : Array Value) (e : Nat), s' = ⟨h', g, d, tk, os⟩ ∧ Fr h₀ L h' m ∧ (∀ b o, b ≠ kS → b ≠ L → h.get? b = some o → h'.get? b = some o) ∧ h'.get? kS = some (seqObj "list" kA e) ∧ kA.size = i ∧ ∀ (j : Nat) (v : Value), j < i → vs[j]? = some v → ∃ I D, kA[j]? = some (Value.ref I) ∧ OwnA h₀ L I ∧ h'.get? I = some (instO C D v) ∧ OwnA h₀ L D ∧ h'.get? D = some emptyDict) vs 0 _
    ⟨h, t, #[], 0, rfl, F, fun _ _ _ _ e => e, hkS, rfl, fun j v hj => absurd hj (Nat.not_lt_zero _)⟩ ?step ?done
  case done =>
    rintro s' ⟨h', tk, kA, e, rfl, F1, k1, k2, k3, k4⟩
    simp only [Nat.zero_add] at k3 k4
    exact hq h' tk kA e F1 k1 k2 k3 fun j v hj => k4 j v (List.getElem?_eq_some_iff.mp hj).1 hj
  case step =>
    rintro j x s' hx ⟨h', tk, kA, e, rfl, F1, k1, k2, k3, k4⟩
    simp only [Nat.zero_add] at k3 k4 ⊢
    have hj : j < vs.length := (List.getElem?_eq_some_iff.mp hx).1
    obtain ⟨tx, tt, rfl⟩ := hv x (List.mem_of_getElem? hx)
    have N1 : News h₀ L h' news := fun p hp => ⟨k1 _ _ (hn p hp) (N p hp).2.1 (N p hp).1, (N p hp).2⟩
    refine hb _ (knewL (s := ⟨h', g, d, tk, os⟩) (news := fullL h₀ L h') B F1 X (news_full h₀ h' L) T hk hd' hu hK (fun p hp => mem_full (N1 _ (ho p hp)).1 (N1 _ (ho p hp)).2.2 (N1 _ (ho p hp)).2.1) ?_)
    rintro h2 I D tk2 F2 N2
    have kp : ∀ b o, b ≠ L → h'.get? b = some o → h2.get? b = some o := fun b o hb e => by
      cases q : h₀.get? b with
      | none => exact (N2 _ (.tail _ (.tail _ (mem_full e q hb)))).1
      | some o' =>
        have z := F1.keep _ _ q
        rw [z] at e
        cases e
        exact F2.keep _ _ q
    have hI := (N2 _ (.head _)).1
    have hIo : OwnA h₀ L I := ⟨(N2 _ (.head _)).2.2, (N2 _ (.head _)).2.1⟩
    refine lu (kp _ _ hS.2 k2) (by rw [sizeLine_eq]; lia) (Nat.le_trans (Nat.le_of_eq (Array.size_push ..)) (by rw [sizeLine_eq]; lia)) ?_
    rintro h3 n3 k5 k6
    have hIk : I ≠ kS := fun z => by
      have y := kp _ _ hS.2 k2
      rw [← z, hI] at y
      simp [instO, seqObj] at y
    have hD := (N2 _ (.tail _ (.head _))).1
    have hDo : OwnA h₀ L D := ⟨(N2 _ (.tail _ (.head _))).2.2, (N2 _ (.tail _ (.head _))).2.1⟩
    have hDk : D ≠ kS := fun z => by
      have y := kp _ _ hS.2 k2
      rw [← z, hD] at y
      simp [emptyDict, seqObj] at y
    refine ⟨rfl, h3, tk2, _, n3, rfl, ⟨F2.ns.at fun o q => k5 _ o (Ne.symm hS.2) q, fun b o q => k5 b o (fun z => by rw [z, hS.1] at q; cases q) (F2.keep b o q), F2.above⟩, fun b o hb2 hbL q => k5 b o hb2 (kp b o hbL (k1 b o hb2 hbL q)), k6, by rw [Array.size_push, k3], fun i v hi hvi => ?_⟩
    by_cases hij : i < j
    · obtain ⟨I', D', e1, e2, e3, e4, e5⟩ := k4 i v hij hvi
      refine ⟨I', D', ?_, e2, k5 _ _ (fun z => by rw [z, k2] at e3; cases e3) (kp _ _ e2.2 e3), e4, k5 _ _ (fun z => by rw [z, k2] at e5; simp [emptyDict, seqObj] at e5) (kp _ _ e4.2 e5)⟩
      rw [Array.getElem?_push_lt (by lia)]
      rw [getElem?_pos kA i (by lia)] at e1
      exact e1
    · have : i = j := by lia
      subst this
      rw [hx] at hvi
      cases hvi
      refine ⟨I, D, ?_, hIo, k5 _ _ hIk hI, hDo, k5 _ _ hDk hD⟩
      rw [← k3, Array.getElem?_push_size]
end
section
variable {M : Model} {A : Around} {E : Value → Shared → Prop} {h : Heap} {g : Array GenState} {d : Drawn} {t : Nat} {os : OsState} {h₀ : Heap} {L : Addr} {m : Str → Option Value} {news : List (Addr × Obj)}
theorem collect_tup {prog : Program} {w : World} {l : Addr} {n0 : Nat} {vs : List Value} {Q : List Value → Shared → Prop} (hl : h.get? l = some (seqObj "tuple" vs.toArray n0)) (hsz : vs.length ≤ sizeLine)
    (hq : ∀ h', (∀ b x, h.get? b = some x → h'.get? b = some x) → Q vs ⟨h', g, d, t, os⟩) : wpAny (model prog w) A (collect (.ref l)) Q E ⟨h, g, d, t, os⟩ := by
  unfold collect
  refine wpAny_bind (wpAny_runValue (codeAny_builtin entry_proto_collect' ?_))
  show wpAny _ _ (do again (.builtin "list.__iadd__" ⟨[← newList [], .ref l], []⟩)) _ _ _
  refine wpAny_bind (wpAny_newList (wpAny_pure ⟨Code.quiet_builtin _ (by decide +kernel), codeAny_builtin entry_list_iadd' ?_⟩))
  dsimp only
  generalize hb : h.objs.size = b
  have hl1 : (h.push (seqObj "list" #[] 0)).get? l = some (seqObj "tuple" vs.toArray n0) := Heap.get?_push_of_some _ hl
  have hb1 : (h.push (seqObj "list" #[] 0)).get? b = some (seqObj "list" #[] 0) := by rw [← hb]; exact Heap.get?_push_size _ rfl
  have k1 : ∀ c x, h.get? c = some x → c ≠ b ∧ (h.push (seqObj "list" #[] 0)).get? c = some x := fun c x e => ⟨by rw [← hb]; exact Nat.ne_of_lt (Heap.lt_size e), Heap.get?_push_of_some _ e⟩
  show wpAny _ _ (Builtin.List.listExtendWith (.ref b) (.ref l) (.ref b)) _ _ ⟨h.push (seqObj "list" #[] 0), g, d, t, os⟩
  generalize h.push (seqObj "list" #[] 0) = h1 at hl1 hb1 k1
  unfold Builtin.List.listExtendWith
  refine wpAny_bind (wpAny_typeOf (T := "tuple") ⟨_, hl1, rfl⟩ ?_)
  have ht : (Value.type "tuple" == Value.type "tuple") = true := by rfl
  rw [if_pos (by rw [ht]; simp)]
  refine wpAny_bind (listItems_at hl1 rfl ?_)
  refine wpAny_bind (listItems_at hb1 rfl ?_)
  rw [if_neg (by simp)]
  refine wpAny_bind (lu hb1 (Nat.zero_le _) (by simp only [Array.size_append, List.size_toArray]; show 0 + vs.length ≤ _; lia) ?_)
  rintro h2 n2 k2 f2
  refine wpAny_pure ?_
  show wpAny (model prog w) A (do
      let o ← load b
      match o.data with
      | .seq xs _ => pure xs.toList
      | _ => unsupported "internal:collect") Q E _
  refine wpAny_bind (wpAny_load f2 ?_)
  show wpAny _ _ (pure ((#[] : Array Value) ++ vs.toArray).toList) Q E _
  rw [show ((#[] : Array Value) ++ vs.toArray).toList = vs by simp]
  exact wpAny_pure (hq h2 fun c x e => k2 c x (k1 c x e).1 (k1 c x e).2)
theorem ktail {a kS : Addr} {e1 e : Nat} {kA : Array Value} {st : SortSt} {out : List Value} {P : PySem.Fin → Shared → Prop} (F : Fr h₀ L h m) (N : News h₀ L h news) (hkS : h.get? kS = some (seqObj "list" kA e)) (ha : h.get? a = some (seqObj "list" #[] e1)) (hka : kS ≠ a) (oS : OwnA h₀ L kS) (oa : OwnA h₀ L a)
    (hnS : ∀ p ∈ news, p.1 ≠ kS) (hna : ∀ p ∈ news, p.1 ≠ a) (hz : kA.size < 64) (hf : failedOf st = none) (hout : (arrOf st).map (·.2) = List.toArray out) (h64 : out.length < 64)
    (hq : ∀ (h' : Heap) (c : Nat), Fr h₀ L h' m → News h₀ L h' ((a, seqObj "list" (List.toArray out) c) :: news) → P (.done (.ret .none)) ⟨h', g, d, t, os⟩) :
    wpAny M A (ksk_tail a false e1 (.ref kS) st) P E ⟨h, g, d, t, os⟩ := by
  unfold ksk_tail
  try dsimp only
  refine wpAny_bind (lu hkS (by rw [sizeLine_eq]; lia) (Nat.zero_le _) ?_)
  rintro h1 n1 k1 f1
  refine wpAny_bind (wpAny_letGo ?_)
  have ha1 := k1 _ _ hka.symm ha
  refine wpAny_bind (seqEpoch_at ha1 rfl ?_)
  refine wpAny_bind (lu ha1 (Nat.zero_le _) (by simp only [Bool.false_eq_true, if_false]; rw [hout, List.size_toArray, sizeLine_eq]; lia) ?_)
  rintro h2 n2 k2 f2
  rw [hf]
  simp only [bne_self_eq_false, Bool.false_eq_true, if_false]
  rw [hout] at f2
  simp only [Bool.false_eq_true, if_false] at f2
  refine wpAny_pure (hq h2 n2 ⟨F.ns.at fun o q => k2 _ _ (Ne.symm oa.2) (k1 _ _ (Ne.symm oS.2) q), fun b o q => k2 _ _ (fun z => by rw [z, oa.1] at q; cases q) (k1 _ _ (fun z => by rw [z, oS.1] at q; cases q) (F.keep _ _ q)), F.above⟩ ?_)
  rintro p hp
  rcases List.mem_cons.mp hp with rfl | hp
  · exact ⟨f2, oa.2, oa.1⟩
  · exact ⟨k2 _ _ (hna p hp) (k1 _ _ (hnS p hp) (N p hp).1), (N p hp).2⟩
end
theorem short_pw {α : Type} {R : α → α → Prop} {l : List α} (h : l.length < 2) : l.Pairwise R := by
  rcases l with _ | ⟨x, _ | ⟨y, r⟩⟩
  · exact List.Pairwise.nil
  · exact List.pairwise_singleton ..
  · exact absurd h (by simp)
section
variable {prog : Program} {w : World} {dp un : Nat} {gd : Option (List Code)} {cn : Str} {cs : Scope} {a' : Addr} {ccd : Value} {cl : List (Str × Addr)} {outer : List Env} {A₀ : Around} {base h₀ : Heap} {L : Addr} {m : Str → Option Value} {news : List (Addr × Obj)} {E : Value → Shared → Prop} {p : Program} {loose : List Str} {mean : ExcName → Option Value} {mg mb : Str → Option Value}
variable {h : Heap} {g : Array GenState} {d : Drawn} {t : Nat} {os : OsState}
variable (B : Below A₀ base outer h₀) (F : Fr h₀ L h m) (X : (mkK.heap_1 w.params).In h₀) (N : News h₀ L h news) (T : Top p loose mean mg mb h₀) (hk : cs.kind = .function) (hd' : dp ≤ 800) (hu : un ≤ 900)
theorem pairwise_out {vs : List Value} {p : Array Nat} {r : Nat → Nat → Bool} {R : Value → Value → Prop} (hr : ∀ i j, r i j = true → R (vs.getD i .none) (vs.getD j .none)) (hv : Va vs.length p) (hu : Up r p vs.length) :
    (p.toList.map fun i => vs.getD i Value.none).Perm vs ∧ (p.toList.map fun i => vs.getD i Value.none).Pairwise R := by
  constructor
  · have h1 := (Array.perm_iff_toList_perm.mp hv).map fun i => vs.getD i Value.none
    have h2 : ((List.toArray (List.range vs.length)).toList.map fun i => vs.getD i Value.none) = vs := by
      refine List.ext_getElem? ?_
      rintro i
      simp only [List.getElem?_map, List.toList_toArray]
      by_cases hi : i < vs.length
      · simp [hi]
      · simp [hi, Nat.not_lt.mp hi]
    rw [h2] at h1
    exact h1
  · rw [List.pairwise_map, List.pairwise_iff_getElem]
    intro i j hi hj ij
    refine hr _ _ ?_
    have hs := hv.size
    have := hu i j ij (by rw [← hs]; simpa using hj)
    rw [getD_in (by simpa using hi), getD_in (by simpa using hj)] at this
    simpa using this
include B F X N T hk hd' hu
set_option maxHeartbeats 1000000 in
theorem kend {own : List (Addr × Obj)} {C kS a : Addr} {e1 e : Nat} {kA : Array Value} {vs : List Value} {P : PySem.Fin → Shared → Prop} (hK : KeyCls own C) (ho : ∀ p ∈ own, p ∈ news) (hkS : h.get? kS = some (seqObj "list" kA e)) (ha : h.get? a = some (seqObj "list" #[] e1)) (hka : kS ≠ a) (oS : OwnA h₀ L kS) (oa : OwnA h₀ L a)
    (hnS : ∀ p ∈ news, p.1 ≠ kS) (hna : ∀ p ∈ news, p.1 ≠ a) (hv : ∀ v ∈ vs, ∃ x t, v = .str x t) (h64 : vs.length < 64) (hz : kA.size = vs.length) (hkeys : ∀ (j : Nat) (v : Value), vs[j]? = some v → ∃ I D, kA[j]? = some (Value.ref I) ∧ OwnA h₀ L I ∧ h.get? I = some (instO C D v) ∧ OwnA h₀ L D ∧ h.get? D = some emptyDict) (hdis : (vs.map kof).Nodup)
    (hq : ∀ (h' : Heap) (tk c : Nat) (out : List Value), Fr h₀ L h' m → News h₀ L h' ((a, seqObj "list" (List.toArray out) c) :: news) → out.Perm vs → out.Pairwise (fun x y => kof x < kof y) → P (.done (.ret .none)) ⟨h', g, d, tk, os⟩) :
    wpAny (model prog w) (ktrTop dp un gd cn cs L a' ccd cl outer) (ksk_end a false vs.toArray e1 (.ref kS) kA) P E ⟨h, g, d, t, os⟩ := by
  generalize Mine.clo = hCl
  revert prog w dp un gd cn cs a' ccd cl outer A₀ base h₀ L m news E p loose mean mg mb h g d t os own C kS a e1 e kA vs P
  intro prog w dp un gd cn cs a' ccd cl outer A₀ base h₀ L m news E p loose mean mg mb h g d t os B F X N T hk hd' hu own C kS a e1 e kA vs P hK ho hkS ha hka oS oa hnS hna hv h64 hz hkeys hdis hq
  unfold ksk_end
  simp only [Bool.false_eq_true, if_false]
  by_cases h2 : vs.toArray.size < 2
  · rw [if_pos h2, if_pos h2]
    refine wpAny_bind (wpAny_pure ?_)
    rw [StateT.run_pure]
    refine wpAny_bind (wpAny_pure ?_)
    try dsimp only
    refine ktail (out := vs) F N hkS ha hka oS oa hnS hna (by lia) rfl ?_ h64 fun h' c F' N' => hq h' t c vs F' N' (List.Perm.refl _) ?_
    · show (kA.zip vs.toArray).map (·.2) = _
      apply Array.toList_inj.mp
      rw [Array.toList_map, ksk_zip, List.map_snd_zip (by simp [hz])]
    · rw [List.size_toArray] at h2
      exact short_pw h2
  · rw [if_neg h2, if_neg h2]
    rw [List.size_toArray] at h2
    have hkey : ∀ i, i < vs.length → ∃ I D x tx, kA[i]? = some (Value.ref I) ∧ OwnA h₀ L I ∧ h.get? I = some (instO C D (.str x tx)) ∧ vs.getD i Value.none = .str x tx ∧ OwnA h₀ L D ∧ h.get? D = some emptyDict := fun i hi => by
      obtain ⟨I, D, e1, e2, e3, e5, e6⟩ := hkeys i _ (List.getElem?_eq_getElem hi)
      obtain ⟨x, tx, e4⟩ := hv _ (List.getElem_mem hi)
      rw [e4] at e3
      exact ⟨I, D, x, tx, e1, e2, e3, by simp [hi, e4], e5, e6⟩
    have hT' : ∀ v ∈ kA.toList, Looks (model prog w) h (typeOf v) (.ref C) := fun v hm => by
      obtain ⟨i, hi, rfl⟩ := List.mem_iff_getElem.mp hm
      have hi' : i < vs.length := by rw [Array.length_toList, hz] at hi; exact hi
      obtain ⟨I, D, x, tx, e1, e2, e3, _⟩ := hkey i hi'
      rw [getElem?_pos kA i (by lia)] at e1
      rw [Array.getElem_toList, Option.some.inj e1]
      exact (Looks.ld e3).andThen .now
    have kk := kas_kind (A := ktrTop dp un gd cn cs L a' ccd cl outer) (E := E) (s := ⟨h, g, d, t, os⟩) (vs := kA.toList) (T := .ref C) (Q := fun k s' => k = oneType' ∧ s' = ⟨h, g, d, t, os⟩) (by rw [Array.length_toList]; lia) hT' (by rfl) (by simp) ⟨rfl, rfl⟩
    rw [Array.toArray_toList] at kk
    refine wpAny_bind (wpAny_mono kk ?_ fun _ _ z => z)
    rintro _ _ ⟨rfl, rfl⟩
    have hzs : (kA.zip vs.toArray).size = vs.length := by rw [Array.size_zip, hz, List.size_toArray, Nat.min_self]
    have est : SortSt.mk' oneType' (kA.zip vs.toArray) #[] 7 none = kas_st oneType' (kA.zip vs.toArray) (List.toArray (List.range vs.length)) := by
      have q := kas_range (kA.zip vs.toArray)
      rw [hzs] at q
      show _ = SortSt.mk' oneType' ((List.toArray (List.range vs.length)).map (kas_item (kA.zip vs.toArray))) #[] 7 none
      rw [q]
    have it1 : ∀ i, i < vs.length → (kas_item (kA.zip vs.toArray) i).1 = kA.getD i Value.none := fun i hi => by
      have h1 : i < kA.size := by lia
      have h3 : i < min kA.size vs.length := by lia
      simp [kas_item, Array.getD, h1, h3]
    have it2 : ∀ i, (kas_item (kA.zip vs.toArray) i).2 = vs.getD i Value.none := fun i => by
      by_cases hi : i < vs.length
      · have h3 : i < min kA.size vs.length := by lia
        simp [kas_item, Array.getD, hi, h3]
      · have h3 : ¬ i < min kA.size vs.length := by lia
        simp [kas_item, Array.getD, hi, h3]
    have run := kas_runs (prog := prog) (w := w) (A := ktrTop dp un gd cn cs L a' ccd cl outer) (E := E) (κ := oneType') (it := kA.zip vs.toArray) (n := vs.length) (s := ⟨h, g, d, t, os⟩)
      (G := fun p' s' => p' = ans (fun i j => decide (kof (vs.getD i Value.none) < kof (vs.getD j Value.none))) (kas_sort vs.length) ∧ ∃ h' tk, s' = ⟨h', g, d, tk, os⟩ ∧ Fr h₀ L h' m ∧ News h₀ L h' (fullL h₀ L h))
      (Q := fun _ st' s' => ∃ p', arrOf st' = p'.map (kas_item (kA.zip vs.toArray)) ∧ failedOf st' = none ∧ p' = ans (fun i j => decide (kof (vs.getD i Value.none) < kof (vs.getD j Value.none))) (kas_sort vs.length) ∧ ∃ h' tk, s' = ⟨h', g, d, tk, os⟩ ∧ Fr h₀ L h' m ∧ News h₀ L h' (fullL h₀ L h))
      (by lia) h64 (fun p' st' s' _ a2 a3 a4 => ⟨p', a2, a3, a4⟩)
      (kas_ans (n := vs.length) (I := fun s' => ∃ h' tk, s' = ⟨h', g, d, tk, os⟩ ∧ Fr h₀ L h' m ∧ News h₀ L h' (fullL h₀ L h)) ?cmp _ _ (ok_sort (by lia)) ⟨h, t, rfl, F, news_full h₀ h L⟩ fun s' hs => ⟨rfl, hs⟩)
    case cmp =>
      rintro i j C' s' hi hj ⟨h', tk, rfl, F', N'⟩ hc
      obtain ⟨I, D, x, tx, e1, e2, e3, e4, e5, e6⟩ := hkey i hi
      obtain ⟨J, D2, y, ty, f1, f2, f3, f4, f5, f6⟩ := hkey j hj
      unfold kas_cmp
      rw [it1 i hi, it1 j hj, show kA.getD i Value.none = .ref I by simp [Array.getD_eq_getD_getElem?, e1], show kA.getD j Value.none = .ref J by simp [Array.getD_eq_getD_getElem?, f1]]
      refine kcmp B F' X N' T hk hd' hu hK (fun q hq => mem_full (o := q.2) (N q (ho q hq)).1 (N q (ho q hq)).2.2 (N q (ho q hq)).2.1) (mem_full e3 e2.1 e2.2) (mem_full f3 f2.1 f2.2) (mem_full e6 e5.1 e5.2) (mem_full f6 f5.1 f5.2) ?_
      rintro h2 tk2 F2 N2
      have := hc ⟨h2, g, d, tk2, os⟩ ⟨h2, tk2, rfl, F2, N2⟩
      rw [e4, f4] at this
      exact this
    rw [est]
    refine wpAny_bind (wpAny_mono run ?_ fun _ _ z => z)
    rintro ⟨⟨⟩, st'⟩ s' ⟨p', a1, a2, a3, h', tk, rfl, F', N'⟩
    dsimp only
    obtain ⟨v1, v2⟩ := sort_ans (n := vs.length) (r := fun i j => decide (kof (vs.getD i Value.none) < kof (vs.getD j Value.none)))
      (fun i j k z1 z2 => by simp only [decide_eq_true_eq] at *; exact List.lt_trans z1 z2)
      (fun i j hi hj ij => by
        simp only [decide_eq_true_eq]
        have z := List.pairwise_iff_getElem.mp hdis
        have ne : kof (vs.getD i Value.none) ≠ kof (vs.getD j Value.none) := by
          rcases Nat.lt_or_gt_of_ne ij with q | q
          · simpa [hi, hj] using z i j (by simpa using hi) (by simpa using hj) q
          · simpa [hi, hj] using (z j i (by simpa using hj) (by simpa using hi) q).symm
        by_cases q : kof (vs.getD i Value.none) < kof (vs.getD j Value.none)
        · exact .inl q
        · by_cases q2 : kof (vs.getD j Value.none) < kof (vs.getD i Value.none)
          · exact .inr q2
          · exact absurd (List.le_antisymm (List.not_lt.mp q2) (List.not_lt.mp q)) ne)
      (fun i j z => by
        simp only [decide_eq_true_eq, decide_eq_false_iff_not] at *
        exact fun q => List.lt_irrefl _ (List.lt_trans z q)) (by lia)
    rw [← a3] at v1 v2
    obtain ⟨o1, o2⟩ := pairwise_out (vs := vs) (R := fun x y => kof x < kof y) (fun i j z => by simpa using z) v1 v2
    have kp : ∀ {b o}, h.get? b = some o → OwnA h₀ L b → h'.get? b = some o := fun {b o} q z => (N' _ (mem_full q z.1 z.2)).1
    refine ktail (out := p'.toList.map fun i => vs.getD i Value.none) F' (fun q hq => N' q (mem_full (o := q.2) (N q hq).1 (N q hq).2.2 (N q hq).2.1)) (kp hkS oS) (kp ha oa) hka oS oa hnS hna (by lia) a2 ?_ (by rw [o1.length_eq]; exact h64) fun h2 c F2 N2 => hq h2 tk c _ F2 N2 o1 o2
    rw [a1, Array.map_map]
    apply Array.toList_inj.mp
    rw [Array.toList_map]
    exact List.map_congr_left fun i _ => it2 i
set_option maxHeartbeats 1000000 in
/-- sorted(tuple of texts, key=K) -/
theorem ksorted {own : List (Addr × Obj)} {C l : Addr} {n0 : Nat} {vs : List Value} {Q : Value → Shared → Prop} (hK : KeyCls own C) (ho : ∀ p ∈ own, p ∈ news) (hl : h.get? l = some (seqObj "tuple" vs.toArray n0)) (hv : ∀ v ∈ vs, ∃ x t, v = .str x t) (h64 : vs.length < 64) (hdis : (vs.map kof).Nodup) (hu2 : un + 2 ≤ 900)
    (hq : ∀ (D : Addr) (h' : Heap) (tk c : Nat) (out : List Value), Fr h₀ L h' m → News h₀ L h' ((D, seqObj "list" (List.toArray out) c) :: news) → (∀ q ∈ news, q.1 < D) → out.Perm vs → out.Pairwise (fun x y => kof x < kof y) → Q (.ref D) ⟨h', g, d, tk, os⟩) :
    wpAny (model prog w) (ktrTop dp un gd cn cs L a' ccd cl outer) (call (.builtin "sorted") [.ref l] [(Str.ofString "key", .ref C)]) Q E ⟨h, g, d, t, os⟩ := by
  generalize Mine.clo = hCl
  revert prog w dp un gd cn cs a' ccd cl outer A₀ base h₀ L m news E p loose mean mg mb h g d t os own C l n0 vs Q
  intro prog w dp un gd cn cs a' ccd cl outer A₀ base h₀ L m news E p loose mean mg mb h g d t os B F X N T hk hd' hu own C l n0 vs Q hK ho hl hv h64 hdis hu2 hq
  refine call_function_entry_kw kind_sorted plain_sorted entry_sorted (ksk_s1 _ _) ?_
  unfold Builtin.«sorted»
  refine wpAny_bind (m := checkCount "sorted" 1 1 _) (wpAny_pure ?_)
  refine wpAny_bind (collect_tup hl (by rw [sizeLine_eq]; lia) ?_)
  rintro h1 K1
  refine wpAny_bind (wpAny_newList ?_ (by rw [sizeLine_eq]; lia))
  dsimp only
  have hL : L < h1.objs.size := by
    obtain ⟨o, _, _, e, _⟩ := F.ns
    exact Heap.lt_size (K1 _ _ e)
  have F1 : Fr h₀ L h1 m := F.kept K1
  have N1 : News h₀ L h1 news := N.grown K1
  generalize ha : h1.objs.size = a
  have oa : OwnA h₀ L a := ⟨Heap.get?_none_of_le (by rw [← ha]; exact Nat.le_trans F.above (Nat.le_of_lt hL)), by rw [← ha]; exact Nat.ne_of_gt hL⟩
  have lta : ∀ q ∈ news, q.1 < a := fun q hq => by rw [← ha]; exact Heap.lt_size (N1 q hq).1
  have K2 : ∀ b o, h1.get? b = some o → (h1.push (seqObj "list" vs.toArray 0)).get? b = some o := fun b o e => Heap.get?_push_of_some _ e
  have hla : (h1.push (seqObj "list" vs.toArray 0)).get? a = some (seqObj "list" vs.toArray 0) := by rw [← ha]; exact Heap.get?_push_size _ rfl
  show wpAny _ _ _ _ _ ⟨h1.push (seqObj "list" vs.toArray 0), g, d, t, os⟩
  generalize h1.push (seqObj "list" vs.toArray 0) = h2 at K2 hla
  have F2 : Fr h₀ L h2 m := F1.kept K2
  have N2 : News h₀ L h2 news := N1.grown K2
  refine wpAny_bind (wpAny_holding (wpAny_call_entry_kw slot_list_sort ⟨_, hla, rfl⟩ entry_list_sort ?body (ksk_l1 _ _)))
  case body =>
    show wpAny (model prog w) (ktrTop dp (un + 1 + 1) gd cn cs L a' ccd cl outer) (Builtin.«list.sort» ⟨[.ref a], [(Str.ofString "key", .ref C)]⟩) _ _ _
    rw [ksk_t1]
    unfold ksk_tree
    refine wpAny_bind (listItems_at hla rfl ?_)
    refine wpAny_bind (lu hla (by rw [List.size_toArray, sizeLine_eq]; lia) (Nat.zero_le _) ?_)
    rintro h3 e3 k3 f3
    refine wpAny_bind (seqEpoch_at f3 rfl ?_)
    refine wpAny_bind (wpAny_newTuple ?_ (by show vs.length ≤ _; rw [sizeLine_eq]; lia))
    refine wpAny_bind (wpAny_newList ?_ (Nat.zero_le _))
    refine wpAny_holding ?_
    show wpAny _ _ _ _ _ ⟨(h3.push (seqObj "tuple" vs.toArray 0)).push (seqObj "list" #[] 0), g, d, t, os⟩
    have K4 : ∀ b o, h3.get? b = some o → ((h3.push (seqObj "tuple" vs.toArray 0)).push (seqObj "list" #[] 0)).get? b = some o := fun b o e => Heap.get?_push_of_some _ (Heap.get?_push_of_some _ e)
    have N3 : News h₀ L h3 news := fun p hp => ⟨k3 _ _ (Nat.ne_of_lt (lta p hp)) (N2 p hp).1, (N2 p hp).2⟩
    have F3 : Fr h₀ L h3 m := ⟨F2.ns.at fun o q => k3 _ o (Ne.symm oa.2) q, fun b o q => k3 b o (fun z => by rw [z, oa.1] at q; cases q) (F2.keep b o q), F2.above⟩
    have lt3 : ∀ b o, h3.get? b = some o → b < h3.objs.size := fun b o e => Heap.lt_size e
    have hL3 : L < h3.objs.size := by
      obtain ⟨o, _, _, e, _⟩ := F3.ns
      exact Heap.lt_size e
    have hS : ((h3.push (seqObj "tuple" vs.toArray 0)).push (seqObj "list" #[] 0)).get? (h3.push (seqObj "tuple" vs.toArray 0)).objs.size = some (seqObj "list" #[] 0) := Heap.get?_push_size _ rfl
    have zS : (h3.push (seqObj "tuple" vs.toArray 0)).objs.size = h3.objs.size + 1 := size_push' _ _
    show wpAny _ _ (ksk_rest a (.ref C) false vs.toArray e3 (.ref (h3.push (seqObj "tuple" vs.toArray 0)).objs.size)) _ _ _
    rw [zS] at hS ⊢
    have oS : OwnA h₀ L (h3.objs.size + 1) := ⟨Heap.get?_none_of_le (Nat.le_trans F3.above (Nat.le_succ_of_le (Nat.le_of_lt hL3))), Nat.ne_of_gt (Nat.lt_succ_of_lt hL3)⟩
    have hSa : h3.objs.size + 1 ≠ a := Nat.ne_of_gt (Nat.lt_succ_of_lt (lt3 _ _ f3))
    have hSn : ∀ p ∈ news, p.1 ≠ h3.objs.size + 1 := fun p hp => Nat.ne_of_lt (Nat.lt_succ_of_lt (lt3 _ _ (N3 p hp).1))
    have f4 := K4 _ _ f3
    have F4 := F3.kept K4
    have N4 := N3.grown K4
    generalize (h3.push (seqObj "tuple" vs.toArray 0)).push (seqObj "list" #[] 0) = h4 at hS f4 F4 N4
    generalize h3.objs.size + 1 = kS at hS oS hSa hSn
    unfold ksk_rest
    refine wpAny_bind (wpAny_rule ?_)
    rw [← Array.forIn_toList]
    refine wpAny_bind (kkeys (un := un + 1 + 1) B F4 X N4 T hk hd' hu2 hK ho hS hSn oS hv h64 (fun x Q' s' hx => ?_) ?cv14)
    case' cv14 => rintro h5 tk kA e5 F5 k5 f5 z5 r5
    rotate_left
    · refine wpAny_bind (wpAny_attempt (wpAny_mono hx ?_ fun _ _ z => z.elim))
      rintro k s'' hk'
      exact wpAny_bind (wpAny_mono hk' (fun _ _ z => wpAny_pure z) fun _ _ z => z)
    · skip
      have N5 : News h₀ L h5 news := fun p hp => ⟨k5 _ _ (hSn p hp) (N4 p hp).2.1 (N4 p hp).1, (N4 p hp).2⟩
      refine wpAny_bind (listItems_at f5 rfl ?_)
      refine kend (un := un + 1 + 1) B F5 X N5 T hk hd' hu2 hK ho f5 (k5 _ _ (Ne.symm hSa) oa.2 f4) hSa oS oa hSn (fun p hp => Nat.ne_of_lt (lta p hp)) hv h64 z5 r5 hdis fun h6 tk6 c out F6 N6 o1 o2 => ⟨_, rfl, ?_⟩
      exact wpAny_pure ⟨_, rfl, hq a h6 tk6 c out F6 N6 lta o1 o2⟩
end
end Mine
end
example (h : False) {prog : PySem.Program} {w : PySem.World} {A : PySem.Around} {Q E : PySem.Value → PySem.Shared → Prop} {s : PySem.Shared} {env : PySem.Env} {at0 : PySem.Pos} : PySem.wpAny (PySem.model prog w) A (PySem.eval (.Constant .none 0 at0) env) Q E s := by
  w_top off
  first | (walk1; fail) | exact h.elim
section
open PySem PySem.W PyProof.Rows PySem.Calls
set_option maxRecDepth 100000
set_option linter.unusedSectionVars false
namespace Mine
noncomputable def clScope : Scope := match PySem.Challenge.pw_ik0212_01.main.body.find? isCmpDef with
  | some (.FunctionDef _ _ (.ClassDef _ _ _ _ _ _ sc .. :: _) ..) => sc
  | _ => default
theorem store_cls {env : Env} {name : Str} {v : Value} (e : env.scope = clScope) (hn : clScope.names.lookup name = some .local) : storeName env name v = localSet env name v := by
  obtain ⟨⟩ := env
  subst e
  unfold storeName Env.kindOf
  rw [hn]
  rfl
theorem store_own {env : Env} {name : Str} {v : Value} (e : env.scope = clScope) (hn : clScope.names.lookup name = none) (h2 : compilersOwnNames.contains name = true) : storeName env name v = localSet env name v := by
  obtain ⟨⟩ := env
  subst e
  unfold storeName Env.kindOf
  rw [hn, h2]
  rfl
theorem load_own {env : Env} (e : env.scope = clScope) : loadName env (Str.ofString "__name__") = (localGet env (Str.ofString "__name__") >>= fun r => match r with | some v => pure v | none => loadGlobal env (Str.ofString "__name__")) := by
  generalize Mine.clo = hCl
  revert env
  intro env e
  have e1 : env.blockKind = .class := by unfold Env.blockKind; rw [e]; kernel_rfl
  have e2 : env.kindOf (Str.ofString "__name__") = none := by unfold Env.kindOf; rw [e]; kernel_rfl
  have e3 : env.scope.kind.isAnnotationScope = false := by rw [e]; kernel_rfl
  have e4 : compilersOwnNames.contains (Str.ofString "__name__") = true := by kernel_rfl
  unfold loadName
  rw [e1, e2, e3, e4]
  simp only [Bool.false_and, Bool.false_eq_true, if_false]
  rw [if_neg (by decide)]
  congr 1
  funext r
  cases r <;> rfl
noncomputable def kst (j : String) : Stmt := .FunctionDef (Str.ofString j) (mPar (Str.ofString j)) (mBody (Str.ofString j)) [] none [] (mScope (Str.ofString j)) none (Str.ofString j) (mPos (Str.ofString j))
noncomputable def kbd (p1 p2 p3 p4 p5 p6 p7 p8 p9 p0 : Pos) : List Stmt := [.Assign [.Name (Str.ofString "__module__") p1] (.Constant (.str (Str.ofString "cpy313.functools")) 0 p2) p3, .Assign [.Name (Str.ofString "__slots__") p4] (.List [.Constant (.str (Str.ofString "obj")) 0 p5] p6) p7, kst "__init__", kst "__lt__", kst "__gt__", kst "__eq__", kst "__le__", kst "__ge__", .Assign [.Name (Str.ofString "__hash__") p8] (.Constant .none 0 p9) p0]
section
variable {prog : Program} {w : World} {A : Around} {E : Value → Shared → Prop} {h : Heap} {g : Array GenState} {d : Drawn} {t : Nat} {os : OsState} {mg mb : Str → Option Value}
/-- the class body is done -/
noncomputable def KDone (O : Addr → Prop) (nsA PK cell : Addr) (h : Heap) (g : Array GenState) (d : Drawn) (os : OsState) (s' : Shared) : Prop :=
  ∃ h6 tk6 k u sl fI fL fG fE fLe fGe u1 n1, s' = ⟨h6, g, d, tk6, os⟩ ∧ (∀ b o, b ≠ nsA → b ≠ PK → h.get? b = some o → h6.get? b = some o) ∧ h6.get? nsA = some ⟨.type "dict", none, .dict (kesB k u sl fI fL fG fE fLe fGe) 11, #[]⟩ ∧
          BodyDone O meths PK (mPar (Str.ofString "__init__")) (mBody (Str.ofString "__init__")) (mScope (Str.ofString "__init__")) (mPar (Str.ofString "__lt__")) (mBody (Str.ofString "__lt__")) (mScope (Str.ofString "__lt__")) [(Str.ofString "mycmp", cell)] h6 k u sl fI fL fG fE fLe fGe u1 n1
/-- one method -/
theorem kdef {O : Addr → Prop} {nsA cK PK : Addr} {env : Env} {n : String} {clos : List (Str × Addr)} {es : Array DictEntry} {sz : Nat} {Q : Flow → Shared → Prop} (es' : env.scope = clScope) (el : env.locals = nsA) (ec : env.code = .ref cK) (eg : env.globals = mainGlobals) (eq : qualnameIn env (Str.ofString n) (Str.ofString n) = Str.ofString "cmp_to_key.<locals>.K." ++ Str.ofString n)
    (hO : ∀ b, h.get? b = none → O b) (C : CodeHd h cK PK) (T : TabO O meths h PK) (G : Glob mg mb h) (hN : h.get? nsA = some ⟨.type "dict", none, .dict es sz, #[]⟩) (n0 : nsA ≠ mainGlobals) (n1 : nsA ≠ builtinsNs) (n2 : nsA ≠ cStatics)
    (hin : (mPos (Str.ofString n), Str.ofString "cmp_to_key.<locals>.K." ++ Str.ofString n) ∈ meths) (hpos : ∀ x ∈ meths, ((mPos (Str.ofString n)).line == x.1.line && (mPos (Str.ofString n)).col == x.1.col) = true → x.2 = Str.ofString "cmp_to_key.<locals>.K." ++ Str.ofString n)
    (hd0 : (mPar (Str.ofString n)).defaults = []) (hk0 : (mPar (Str.ofString n)).kw_defaults = []) (ha : annTrees (mPar (Str.ofString n)) none env = []) (hcl : closureFor (mScope (Str.ofString n)) env = pure clos) (hn : clScope.names.lookup (Str.ofString n) = some .local)
    (e : aRefKeyMayBeTheName (Str.ofString n) es = false) (ef : ∀ v i t, Obj.putName (Str.ofString n) i (.str (Str.ofString n) t) v ⟨.type "dict", none, .dict es sz, #[]⟩ = ⟨.type "dict", none, .dict (es.push ⟨i, .str (Str.ofString n) t, v⟩) (sz + 1), #[]⟩)
    (hq : ∀ h' f i tt tk, (∀ b, h'.get? b = none → O b) → CodeHd h' cK PK → TabO O meths h' PK → Glob mg mb h' → KN nsA h h' → (∀ b o, b ≠ nsA → b ≠ PK → h.get? b = some o → h'.get? b = some o) → FnAtO O h' f (Str.ofString n) (Str.ofString "cmp_to_key.<locals>.K." ++ Str.ofString n) (mPar (Str.ofString n)) (mBody (Str.ofString n)) (mScope (Str.ofString n)) clos →
      h'.get? nsA = some ⟨.type "dict", none, .dict (es.push ⟨i, .str (Str.ofString n) tt, .ref f⟩) (sz + 1), #[]⟩ → Q .next ⟨h', g, d, tk, os⟩) :
    wpAny (model prog w) A (exec (kst n) env) Q E ⟨h, g, d, t, os⟩ := by
  generalize Mine.clo = hCl
  revert prog w A E h g d t os mg mb O nsA cK PK env n clos es sz Q
  intro prog w A E h g d t os mg mb O nsA cK PK env n clos es sz Q es' el ec eg eq hO C T G hN n0 n1 n2 hin hpos hd0 hk0 ha hcl hn e ef hq
  unfold kst
  refine cdef (F := fun v i t => ⟨.type "dict", none, .dict (es.push ⟨i, .str (Str.ofString n) t, v⟩) (sz + 1), #[]⟩) G hO C T hin hpos ec eg el hN hd0 hk0 ha hcl eq (fun v => store_cls es' hn) e ef (fun _ _ _ => rfl) ?_
  rintro h' f cv ctv doc i tt tk k1 k2 hf0 hf hcv hT hN'
  obtain ⟨psP, _, hPP, _⟩ := T
  have nP : nsA ≠ PK := fun q => by rw [q, hPP] at hN; cases hN
  refine hq h' f i tt tk (fun b e => hO b (k1.fresh e)) ?_ hT (G.kn k1 (fun b o e q => by subst q; rw [hN] at e; cases e; exact ⟨_, _, rfl, rfl⟩) n0 n1 n2) k1 k2 ⟨hO _ hf0, _, _, _, _, hf, hcv⟩ hN'
  obtain ⟨o, vs, file, tf, flags, tg, inF, text, tt, x1, x2⟩ := C
  exact ⟨o, vs, file, tf, flags, tg, inF, text, tt, k2 _ _ (fun q => by rw [q, hN] at x1; cases x1; exact absurd x2.1 (by simp)) x2.2.2.2.2.2.2.2.2 x1, x2⟩
theorem cpush {a : Addr} {env : Env} {es : Array DictEntry} {n : Nat} {name : Str} {v : Value} {Q : Unit → Shared → Prop} (hl : env.locals = a) (hst : storeName env name v = localSet env name v) (ho : h.get? a = some ⟨.type "dict", none, .dict es n, #[]⟩) (e : aRefKeyMayBeTheName name es = false)
    (ef : ∀ i t, Obj.putName name i (.str name t) v ⟨.type "dict", none, .dict es n, #[]⟩ = ⟨.type "dict", none, .dict (es.push ⟨i, .str name t, v⟩) (n + 1), #[]⟩)
    (hq : ∀ h' i, (∀ b x, b ≠ a → h.get? b = some x → h'.get? b = some x) → h'.get? a = some ⟨.type "dict", none, .dict (es.push ⟨i, .str name t, v⟩) (n + 1), #[]⟩ → Q () ⟨h', g, d, t + 1, os⟩) : wpAny (model prog w) A (storeName env name v) Q E ⟨h, g, d, t, os⟩ :=
  cstore hl hst ho e ef (fun _ _ => rfl) hq
set_option maxHeartbeats 4000000 in
theorem kbody {O : Addr → Prop} {nsA cK PK fr cell : Addr} {i0 i1 i2 : Int} {u0 u1 u2 u3 u4 : Tok} {nm : Value} {p1 p2 p3 p4 p5 p6 p7 p8 p9 p0 : Pos} (hO : ∀ b, h.get? b = none → O b) (C : CodeHd h cK PK) (T : TabO O meths h PK) (G : Glob mg mb h)
    (hN : h.get? nsA = some ⟨.type "dict", none, .dict (es3 i0 i1 i2 u0 u1 u2 u3 u4 nm) 3, #[]⟩) (n0 : nsA ≠ mainGlobals) (n1 : nsA ≠ builtinsNs) (n2 : nsA ≠ cStatics) :
    codeAny (model prog w) A (.body (kbd p1 p2 p3 p4 p5 p6 p7 p8 p9 p0) { scope := clScope, locals := nsA, globals := mainGlobals, cells := [(Str.ofString "mycmp", cell)], qual := Str.ofString "cmp_to_key.<locals>.K" ++ Str.ofString ".", code := .ref cK, frame := some fr, builtins := builtinsNs })
        (fun r s' => ∃ f, r = .ok f ∧ KDone O nsA PK cell h g d os s') ⟨h, g, d, t, os⟩ := by
  generalize Mine.clo = hCl
  revert prog w A h g d t os mg mb O nsA cK PK fr cell i0 i1 i2 u0 u1 u2 u3 u4 nm p1 p2 p3 p4 p5 p6 p7 p8 p9 p0
  intro prog w A h g d t os mg mb O nsA cK PK fr cell i0 i1 i2 u0 u1 u2 u3 u4 nm p1 p2 p3 p4 p5 p6 p7 p8 p9 p0 hO C T G hN n0 n1 n2
  generalize henv : ({ scope := clScope, locals := nsA, globals := mainGlobals, cells := [(Str.ofString "mycmp", cell)], qual := Str.ofString "cmp_to_key.<locals>.K" ++ Str.ofString ".", code := .ref cK, frame := some fr, builtins := builtinsNs } : Env) = env
  have es : env.scope = clScope := by rw [← henv]
  have el : env.locals = nsA := by rw [← henv]
  have ec : env.code = .ref cK := by rw [← henv]
  have eg : env.globals = mainGlobals := by rw [← henv]
  obtain ⟨psP, hPO, hPP, hPt, hPg⟩ := id T
  have nP : nsA ≠ PK := fun q => by rw [q, hPP] at hN; cases hN
  refine codeAny_body rfl rfl (wpAny_mono (Q := fun f s' => KDone O nsA PK cell h g d os s') (E := fun _ _ => False) ?_ (fun f s' x => ⟨f, rfl, x⟩) (fun _ _ z => z.elim))
  generalize A.deeper env = A₁
  unfold kbd
  refine wpAny_execs_cons (wpAny_Assign_Name (Constant_str ?_) rfl)
  refine cstore (n := 3) (es := es3 i0 i1 i2 u0 u1 u2 u3 u4 nm) (F := fun i tt => ⟨.type "dict", none, .dict (es3 i0 i1 i2 u0 u1 u2 u3 u4 (.str (Str.ofString "cpy313.functools") t)) 3, #[]⟩) el (store_cls es (by kernel_rfl)) hN (by kernel_rfl) (fun _ _ => by kernel_rfl) (fun _ _ => rfl) ?_
  rintro h1 i K1 hN1
  refine wpAny_execs_cons (wpAny_Assign_Name (wpAny_List ?_) rfl)
  show wpAny _ _ (do let v ← eval (.Constant (.str (Str.ofString "obj")) 0 p5) env; let here ← (pure [v] : Sem _) ; let r ← holding here (spliced []); return here ++ r) _ _ _
  refine wpAny_bind (Constant_str (wpAny_bind (wpAny_pure (wpAny_bind (wpAny_holding (wpAny_pure (wpAny_pure ⟨by show 1 ≤ sizeLine; rw [sizeLine_eq]; decide, ?_⟩)))))))
  have aN : h1.objs.size ≠ nsA := fun q => absurd (Heap.lt_size hN1) (by rw [← q]; exact Nat.lt_irrefl _)
  have hSl := Heap.get?_push_size h1 (o := ⟨.type "list", none, .seq [Value.str (Str.ofString "obj") (t + 1 + 1)].toArray 0, #[]⟩) rfl
  have K2 : ∀ b o, h1.get? b = some o → (h1.push ⟨.type "list", none, .seq [Value.str (Str.ofString "obj") (t + 1 + 1)].toArray 0, #[]⟩).get? b = some o := fun b o e => Heap.get?_push_of_some _ e
  refine cstore (n := 3) (es := es3 i0 i1 i2 u0 u1 u2 u3 u4 (.str (Str.ofString "cpy313.functools") t)) (F := fun i tt => ⟨.type "dict", none, .dict ((es3 i0 i1 i2 u0 u1 u2 u3 u4 (.str (Str.ofString "cpy313.functools") t)).push ⟨i, .str (Str.ofString "__slots__") tt, .ref h1.objs.size⟩) 4, #[]⟩) el (store_cls es (by kernel_rfl)) (K2 _ _ hN1) (by kernel_rfl) (fun _ _ => by kernel_rfl) (fun _ _ => rfl) ?_
  rintro h2 i3 K3 hN2
  have hSl2 := K3 _ _ aN hSl
  have K02 : ∀ b o, b ≠ nsA → h.get? b = some o → h2.get? b = some o := fun b o hb e => K3 _ _ hb (K2 _ _ (K1 _ _ hb e))
  have kn2 : KN nsA h h2 := kn_put K02 hN2
  have G2 : Glob mg mb h2 := G.kn kn2 (fun b o e q => by subst q; rw [hN] at e; cases e; exact ⟨_, _, rfl, rfl⟩) n0 n1 n2
  have C2 : CodeHd h2 cK PK := by
    obtain ⟨o, vs, file, tf, flags, tg, inF, text, tt, x1, x2⟩ := C
    exact ⟨o, vs, file, tf, flags, tg, inF, text, tt, K02 _ _ (fun q => by rw [q, hN] at x1; cases x1; exact absurd x2.1 (by simp)) x1, x2⟩
  have T2 : TabO O meths h2 PK := ⟨psP, hPO, K02 _ _ (Ne.symm nP) hPP, hPt, fun y hy v hv => (hPg y hy v hv).kn kn2 ⟨_, hN, _, _, rfl⟩⟩
  have hO2 : ∀ b, h2.get? b = none → O b := fun b e => hO b (kn2.fresh e)
  show wpAny _ _ (execs _ env) _ _ ⟨h2, g, d, t + 1 + 1 + 1 + 1, os⟩
  generalize hs : h1.objs.size = sl at *
  refine wpAny_execs_cons (kdef (n := "__init__") (clos := []) es el ec eg (by rw [← henv]; kernel_rfl) hO2 C2 T2 G2 hN2 n0 n1 n2 (by decide +kernel) (by decide +kernel) rfl rfl rfl (by rw [← henv]; kernel_rfl) (by kernel_rfl) (by kernel_rfl) (fun _ _ _ => by kernel_rfl) ?_)
  rintro h3 fI i4 tt4 tk3 hO3 C3 T3 G3 kn3 K4 F3 hN3
  show wpAny _ _ (execs _ env) _ _ ⟨h3, g, d, tk3, os⟩
  refine wpAny_execs_cons (kdef (n := "__lt__") (clos := [(Str.ofString "mycmp", cell)]) es el ec eg (by rw [← henv]; kernel_rfl) hO3 C3 T3 G3 hN3 n0 n1 n2 (by decide +kernel) (by decide +kernel) rfl rfl rfl (by rw [← henv]; kernel_rfl) (by kernel_rfl) (by kernel_rfl) (fun _ _ _ => by kernel_rfl) ?_)
  rintro h4 fL i5 tt5 tk4 hO4 C4 T4 G4 kn4 K5 F4 hN4
  show wpAny _ _ (execs _ env) _ _ ⟨h4, g, d, tk4, os⟩
  refine wpAny_execs_cons (kdef (n := "__gt__") (clos := [(Str.ofString "mycmp", cell)]) es el ec eg (by rw [← henv]; kernel_rfl) hO4 C4 T4 G4 hN4 n0 n1 n2 (by decide +kernel) (by decide +kernel) rfl rfl rfl (by rw [← henv]; kernel_rfl) (by kernel_rfl) (by kernel_rfl) (fun _ _ _ => by kernel_rfl) ?_)
  rintro h5 fG i6 tt6 tk5 hO5 C5 T5 G5 kn5 K6 F5 hN5
  show wpAny _ _ (execs _ env) _ _ ⟨h5, g, d, tk5, os⟩
  refine wpAny_execs_cons (kdef (n := "__eq__") (clos := [(Str.ofString "mycmp", cell)]) es el ec eg (by rw [← henv]; kernel_rfl) hO5 C5 T5 G5 hN5 n0 n1 n2 (by decide +kernel) (by decide +kernel) rfl rfl rfl (by rw [← henv]; kernel_rfl) (by kernel_rfl) (by kernel_rfl) (fun _ _ _ => by kernel_rfl) ?_)
  rintro h6 fE i7 tt7 tk6 hO6 C6 T6 G6 kn6 K7 F6 hN6
  show wpAny _ _ (execs _ env) _ _ ⟨h6, g, d, tk6, os⟩
  refine wpAny_execs_cons (kdef (n := "__le__") (clos := [(Str.ofString "mycmp", cell)]) es el ec eg (by rw [← henv]; kernel_rfl) hO6 C6 T6 G6 hN6 n0 n1 n2 (by decide +kernel) (by decide +kernel) rfl rfl rfl (by rw [← henv]; kernel_rfl) (by kernel_rfl) (by kernel_rfl) (fun _ _ _ => by kernel_rfl) ?_)
  rintro h7 fLe i8 tt8 tk7 hO7 C7 T7 G7 kn7 K8 F7 hN7
  show wpAny _ _ (execs _ env) _ _ ⟨h7, g, d, tk7, os⟩
  refine wpAny_execs_cons (kdef (n := "__ge__") (clos := [(Str.ofString "mycmp", cell)]) es el ec eg (by rw [← henv]; kernel_rfl) hO7 C7 T7 G7 hN7 n0 n1 n2 (by decide +kernel) (by decide +kernel) rfl rfl rfl (by rw [← henv]; kernel_rfl) (by kernel_rfl) (by kernel_rfl) (fun _ _ _ => by kernel_rfl) ?_)
  rintro h8 fGe i9 tt9 tk8 hO8 C8 T8 G8 kn8 K9 F8 hN8
  show wpAny _ _ (execs _ env) _ _ ⟨h8, g, d, tk8, os⟩
  refine wpAny_execs_cons (wpAny_Assign_Name (wpAny_Constant_none ?_) rfl)
  refine cpush el (store_cls es (by kernel_rfl)) hN8 (by kernel_rfl) (fun _ _ => by kernel_rfl) ?_
  rintro h9 i10 K10 hN9
  refine wpAny_execs_nil ?_
  have kn9 : KN nsA h8 h9 := kn_put K10 hN9
  have kd : ∀ {a b : Heap} {f : Addr} {n q p bd sc c}, KN nsA a b → (∃ es n, a.get? nsA = some ⟨.type "dict", none, .dict es n, #[]⟩) → FnAtO O a f n q p bd sc c → FnAtO O b f n q p bd sc c := fun {a b f n q p bd sc c} k e x => by
    obtain ⟨y, doc, pm, cv, ctv, e1, hc⟩ := x
    obtain ⟨es, n, e⟩ := e
    refine ⟨y, doc, pm, cv, ctv, k.1 _ _ ?_ (notTab_cls (T := "function") rfl) e1, hc.kn k ⟨_, e, _, _, rfl⟩⟩
    rintro q
    rw [q, e] at e1; simp [fnO] at e1
  have kc : ∀ {a b : Heap} {f : Addr}, KN nsA a b → (∃ es n, a.get? nsA = some ⟨.type "dict", none, .dict es n, #[]⟩) → ClsAt a f "function" → ClsAt b f "function" := fun {a b f} k e x => by
    obtain ⟨o, e1, hc⟩ := x
    obtain ⟨es, n, e⟩ := e
    refine ⟨o, k.1 _ _ ?_ (notTab_cls hc) e1, hc⟩
    rintro q
    rw [q, e] at e1; cases e1; simp at hc
  have fnc : ∀ {h : Heap} {a : Addr} {n q p b s c}, FnAtO O h a n q p b s c → ClsAt h a "function" := fun {h a n q p b s c} x => let ⟨_, _, _, _, _, e, _⟩ := x; ⟨_, e, rfl⟩
  have aSl : ∀ {a b : Heap}, KN nsA a b → a.get? sl = some ⟨.type "list", none, .seq [Value.str (Str.ofString "obj") (t + 1 + 1)].toArray 0, #[]⟩ → b.get? sl = some ⟨.type "list", none, .seq [Value.str (Str.ofString "obj") (t + 1 + 1)].toArray 0, #[]⟩ := fun {a b} k e => k.1 _ _ aN (notTab_cls (T := "list") rfl) e
  have k29 := kn3.trans (kn4.trans (kn5.trans (kn6.trans (kn7.trans (kn8.trans kn9)))))
  have tabP : ∀ {a : Heap} (_ : TabO O meths a PK), ∃ o, a.get? PK = some o := fun x => let ⟨_, _, y, _⟩ := x; ⟨_, y⟩
  refine ⟨h9, _, fun j => match j with | 0 => i0 | 1 => i1 | 2 => i2 | 3 => i3 | 4 => i4 | 5 => i5 | 6 => i6 | 7 => i7 | 8 => i8 | 9 => i9 | _ => i10,
    fun j => match j with | 0 => u0 | 1 => t | 2 => u1 | 3 => u2 | 4 => u3 | 5 => u4 | 6 => t + 1 + 1 + 1 | 7 => tt4 | 8 => tt5 | 9 => tt6 | 10 => tt7 | 11 => tt8 | 12 => tt9 | _ => tk8, sl, fI, fL, fG, fE, fLe, fGe, t + 1 + 1, 0, rfl, fun b o hb hb2 e => K10 _ _ hb (K9 _ _ hb hb2 (K8 _ _ hb hb2 (K7 _ _ hb hb2 (K6 _ _ hb hb2 (K5 _ _ hb hb2 (K4 _ _ hb hb2 (K02 _ _ hb e))))))), hN9, ?_⟩
  have k89 := kn9
  have k79 := kn8.trans k89
  have k69 := kn7.trans k79
  have k59 := kn6.trans k69
  have k49 := kn5.trans k59
  have k39 := kn4.trans k49
  exact { sl := aSl (kn3.trans k39) hSl2, fI := kd k39 ⟨_, _, hN3⟩ F3, fL := kd k49 ⟨_, _, hN4⟩ F4, c3 := kc k59 ⟨_, _, hN5⟩ (fnc F5), c4 := kc k69 ⟨_, _, hN6⟩ (fnc F6), c5 := kc k79 ⟨_, _, hN7⟩ (fnc F7), c6 := kc k89 ⟨_, _, hN8⟩ (fnc F8), tab := let ⟨ps8, y1, y2, y3, y4⟩ := T8; ⟨ps8, y1, K10 _ _ (Ne.symm nP) y2, y3, fun y hy v hv => (y4 y hy v hv).kn kn9 ⟨_, hN8, _, _, rfl⟩⟩ }
end
end Mine
end
example (h : False) {prog : PySem.Program} {w : PySem.World} {A : PySem.Around} {Q E : PySem.Value → PySem.Shared → Prop} {s : PySem.Shared} {env : PySem.Env} {at0 : PySem.Pos} : PySem.wpAny (PySem.model prog w) A (PySem.eval (.Constant .none 0 at0) env) Q E s := by
  w_top off
  first | (walk1; fail) | exact h.elim
section
open PySem PySem.W PyProof.Rows PySem.Calls
set_option maxRecDepth 100000
set_option linter.unusedSectionVars false
namespace Mine
theorem fillT6 : PySem.Challenge.rw_ik0212_01 = PySem.Challenge.rw_ik0212_01 ∧ mkK.heap_1 = mkK.heap_1 := by
  k_fill
  exact ⟨rfl, rfl⟩
local macro_rules | `(tactic| walk_at "enter cells") => `(tactic| (refine' code_defC ?k1 ?k2 ?k3 ?k4 ?k5 ?kA ?kF ?kK ?k6 ?k7 ?k8 ?k9 ?kB ?kD ?_ ?c2 ?c3 ?c4; (case kA => exact rfl); (case kF => exact rfl); (case kK => first | assumption | exact rfl); (case k1 => k_asm); (case k2 => k_asm); (case k3 => k_asm); (case k4 => k_asm); (case k5 => k_asm); (case k6 => k_is); (case k7 => k_is); (case k8 => ktr_room); (case k9 => exact BindsTo.of_eq rfl); (case kB => exact rfl); (case kD => decide +kernel); (case c2 => exact rfl); (case c3 => exact rfl); (case c4 => exact rfl); k_whole; intro g' L' h' tk' cells' FG' F' N' Y' B' X' T' l1; (try k_lt l1); k_cells Y'; (try simp only [List.cons_append, List.nil_append] at N'); (try dsimp only); (try k_lift B')))
theorem nm_in (w : World) : ∃ nm, nsIn (mkK.heap_1 w.params) mainGlobals (Str.ofString "__name__") = some (some nm) := ⟨match nsIn (mkK.heap_1 w.params) mainGlobals (Str.ofString "__name__") with | some (some v) => v | _ => .none, by kernel_rfl⟩
theorem cmp_kbd : cmpClass = kbd ⟨54, 8, 54, 18⟩ ⟨54, 21, 54, 39⟩ ⟨54, 8, 54, 39⟩ ⟨55, 8, 55, 17⟩ ⟨55, 21, 55, 26⟩ ⟨55, 20, 55, 27⟩ ⟨55, 8, 55, 27⟩ ⟨74, 8, 74, 16⟩ ⟨74, 19, 74, 23⟩ ⟨74, 8, 74, 23⟩ := by kernel_rfl
theorem glob_of {h₀ h : Heap} {L : Addr} {m mg mb : Str → Option Value} {p : Program} {loose : List Str} {mean : ExcName → Option Value} (F : Fr h₀ L h m) (T : Top p loose mean mg mb h₀) : Glob mg mb h := by
  have T := T.keeps F.keep
  exact ⟨T.g, T.b, T.nolimit, T.bmain⟩
section
variable {prog : Program} {w : World} {dp un : Nat} {gd : Option (List Code)} {cn : Str} {cs : Scope} {a : Addr} {ccd : Value} {cl : List (Str × Addr)} {outer : List Env} {A₀ : Around} {base h₀ : Heap} {L : Addr} {m : Str → Option Value} {news : List (Addr × Obj)} {s : Shared} {Q E : Value → Shared → Prop} {p : Program} {loose : List Str} {mean : ExcName → Option Value} {mg mb : Str → Option Value}
variable (B : Below A₀ base outer h₀) (F : Fr h₀ L s.heap m) (X : (mkK.heap_1 w.params).In h₀) (N : News h₀ L s.heap news) (T : Top p loose mean mg mb h₀) (hk : cs.kind = .function) (hd' : dp + 60 < recursionLimit) (hu : un + 700 < cLine)
include B F X N T hk hd' hu
set_option maxHeartbeats 4000000 in
theorem ctk {Lb : Nat} {own0 rest : List (Addr × Obj)} (hC : CodeHd h₀ (nat_lit 245) (nat_lit 241)) (hT0 : CtkTab Lb own0) (ho : ∀ p ∈ own0, p ∈ news) (hr : ∀ p ∈ rest, p ∈ news ∧ p.1 ≠ (nat_lit 241 : Nat) ∧ (¬ IsTab p.2 ∨ @LE.le Nat _ p.1 Lb)) (h241 : 241 ≤ Lb) (hLb : ∃ o, h₀.get? Lb = some o)
    (hret : ∀ own C h' tk, Fr h₀ L h' m → News h₀ L h' own → (∀ p ∈ rest, p ∈ own) → CtkTab Lb own → KeyCls own C → Q (.ref C) ⟨h', s.gens, s.drawn, tk, s.os⟩) :
  wpAny (model prog w) (ktrTop dp un gd cn cs L a ccd cl outer) (call (.ref 246) [.ref 28]) Q E s := by
  generalize Mine.clo = hCl
  revert prog w dp un gd cn cs a ccd cl outer A₀ base h₀ L m news s Q E p loose mean mg mb Lb own0 rest
  intro prog w dp un gd cn cs a ccd cl outer A₀ base h₀ L m news s Q E p loose mean mg mb B F X N T hk hd' hu Lb own0 rest hC hT0 ho hr h241 hLb hret
  refine wpAny_call ?_; (k_dflt (walk_at "enter cells"))
  (repeat (first | (k_unfold; (try dsimp only)) | walk1 | (dsimp only; walk1)))
  rename_i g' L' h' tk' FG' F' B' X' T' l1 oc dc N'
  have G := glob_of F' T'
  rw [arm_exec_ClassDef]
  have bc : mb (Str.ofString "__build_class__") = some (.builtin "__build_class__") := by rw [T'.builtins _ (by decide +kernel)]; decide +kernel
  have bo : mb (Str.ofString "object") = some (.type "object") := by rw [T'.builtins _ (by decide +kernel)]; decide +kernel
  have go : mg (Str.ofString "object") = none := mg_none_of X' T'.g (by k_is)
  have dA : ((ktrTop dp un gd cn cs L a ccd cl outer).deeper (envOfC (Str.ofString "cmp_to_key") { kind := ScopeKind.function, names := [(Str.ofString "mycmp", NameKind.cell), (Str.ofString "K", NameKind.local), (Str.ofString "object", NameKind.globalImplicit)], isGenerator := false, isCoroutine := false } L' 246 (Value.ref 245))).depth + 50 < recursionLimit := by simp only [depth_deeper]; lia
  have uA : ((ktrTop dp un gd cn cs L a ccd cl outer).deeper (envOfC (Str.ofString "cmp_to_key") { kind := ScopeKind.function, names := [(Str.ofString "mycmp", NameKind.cell), (Str.ofString "K", NameKind.local), (Str.ofString "object", NameKind.globalImplicit)], isGenerator := false, isCoroutine := false } L' 246 (Value.ref 245))).units + 600 < cLine := by simp only [Around.deeper]; lia
  have cfr : ∀ {b : Addr}, h'.get? b = none → g'.get? b = none := fun {b} e => by
    cases q : g'.get? b with
    | none => rfl
    | some o => rw [F'.keep b o q] at e; cases e
  have nL : ∃ o es n, h'.get? L' = some o ∧ o.data = .dict es n := by
    obtain ⟨o, es, ep, e, hd, _⟩ := F'.ns
    exact ⟨o, _, _, e, hd⟩
  have hO : ∀ b, h'.get? b = none → OwnA g' L' b := fun b e => ⟨cfr e, fun q => by obtain ⟨o, _, _, e2, _⟩ := nL; rw [q, e2] at e; cases e⟩
  obtain ⟨ps, hm, htr, hgd⟩ := id hT0
  have N2 : News g' L' h' own0 := fun p hp => N' p (.tail _ (ho p hp))
  have hP := (N2 _ hm).1
  have hL : ∃ o, h'.get? Lb = some o := let ⟨o, e⟩ := hLb; ⟨o, F'.keep _ _ (FG'.keep _ _ e)⟩
  have hCd : CodeHd h' (nat_lit 245) (nat_lit 241) := hC.keeps fun b o e => F'.keep _ _ (FG'.keep _ _ e)
  obtain ⟨nm, hnm⟩ : ∃ nm, mg (Str.ofString "__name__") = some nm := let ⟨_, e⟩ := nm_in w; ⟨_, mg_of X' T'.g e⟩
  have hop : ∃ mc, h'.Ns cStatics mc ∧ mc (Str.ofString "thirdparty.any") = none := by
    obtain ⟨mc, x, _⟩ := T'.nolimit
    exact ⟨mc, x.keeps F'.keep, ns_none_of X' x (by k_is)⟩
  have key : wpAny (model prog w) ((ktrTop dp un gd cn cs L a ccd cl outer).deeper (envOfC (Str.ofString "cmp_to_key") { kind := ScopeKind.function, names := [(Str.ofString "mycmp", NameKind.cell), (Str.ofString "K", NameKind.local), (Str.ofString "object", NameKind.globalImplicit)], isGenerator := false, isCoroutine := false } L' 246 (Value.ref 245)))
      (buildClass (Str.ofString "K") (Str.ofString "cmp_to_key.<locals>.K") [.type "object"] [] cmpClass clScope [Str.ofString "obj"] 53 (envOfC (Str.ofString "cmp_to_key") { kind := ScopeKind.function, names := [(Str.ofString "mycmp", NameKind.cell), (Str.ofString "K", NameKind.local), (Str.ofString "object", NameKind.globalImplicit)], isGenerator := false, isCoroutine := false } L' 246 (Value.ref 245)) cmpPos none)
      (fun c s' => ∃ C h9 tk9, c = .ref C ∧ s' = ⟨h9, s.gens, s.drawn, tk9, s.os⟩ ∧ (∀ b o, g'.get? b = some o → h9.get? b = some o) ∧ h9.get? L' = h'.get? L' ∧ (∀ p ∈ rest, p ∈ fullL g' L' h9) ∧ CtkTab Lb (fullL g' L' h9) ∧ KeyCls (fullL g' L' h9) C) (fun _ _ => False) ⟨h', s.gens, s.drawn, tk', s.os⟩ := by
    refine bclass (nm := nm) (L6 := meths) (Lb := Lb) (O := OwnA g' L') (c₀ := nat_lit 245) (P₀ := nat_lit 241) (ps := ps) (clos := [(Str.ofString "mycmp", L' + 1)]) dA uA G hO hL h241 ?h2z rfl rfl rfl hCd hP htr ?hcl (by kernel_rfl) ?s1 ?s2 ?s3 ?s4 ?ln ?hnm rfl rfl (by kernel_rfl) (by kernel_rfl) ?good ?hop (pI := mPar (Str.ofString "__init__")) (bI := mBody (Str.ofString "__init__")) (sI := mScope (Str.ofString "__init__")) (pL := mPar (Str.ofString "__lt__")) (bL := mBody (Str.ofString "__lt__")) (sL := mScope (Str.ofString "__lt__")) ?hB ?hF
    case h2z => exact Nat.lt_trans (show 2 < 241 by decide) (Heap.lt_size hP)
    case hcl => kernel_rfl
    case s1 => exact fun env e v => store_cls e (by kernel_rfl)
    case s2 => exact fun env e v => store_own e (by kernel_rfl) (by kernel_rfl)
    case s3 => exact fun env e v => store_own e (by kernel_rfl) (by kernel_rfl)
    case s4 => exact fun env e v => store_own e (by kernel_rfl) (by kernel_rfl)
    case ln => exact fun env e => load_own e
    case hnm => exact hnm
    case good =>
      intro v hv
      obtain ⟨c, P, x1, x2, x3, x4⟩ := hgd v hv
      exact ⟨c, P, x1, (x2.heap N2).2, (x2.heap N2).1, x3.heap N2, x4⟩
    case hop => exact hop
    case hB =>
      intro nsA cK PK fr h5 tk i0 i1 i2 u0 u1 u2 u3 u4 ps' K5 nsN nsP oK hK hT lK hP5 ht5 hf5 G5 hN5
      rw [cmp_kbd]
      have nns : ∀ {a : Addr} {m : Str → Option Value}, h'.Ns a m → nsA ≠ a := fun {a m} x q => by
        obtain ⟨o, es, ep, e, _⟩ := x
        rw [← q, nsN] at e; cases e
      refine codeAny_mono (kbody (O := OwnA g' L') (fun b e => ?hOb) hK hT G5 hN5 (nns G.g) (nns G.b) (let ⟨mc, x, y⟩ := G.nl; nns x)) ?hpost
      case hpost =>
        rintro r s' ⟨f, rfl, h6, tk6, k, u, sl, fI, fL, fG, fE, fLe, fGe, u1, n1, e, r⟩
        exact ⟨f, h6, tk6, k, u, sl, fI, fL, fG, fE, fLe, fGe, u1, n1, rfl, e, r⟩
      case hOb =>
        refine hO b ?_
        cases q : h'.get? b with
        | none => rfl
        | some o =>
          by_cases hb : b = (nat_lit 241 : Nat)
          · rw [hb, hP5] at e; cases e
          · rw [K5 b o hb q] at e; cases e
    case hF =>
      intro C nsN md h9 tk9 k u sl fI fL fG fE fLe fGe st i1 t1 i2 t2 tm cK PK ps' bT tn tq K9 oC oN oM hC9 hN9 hM9 fI9 fL9 oK hK9 hT9 lK hP9 ht9 hf9 fr9 iT9
      have oP : OwnA g' L' (nat_lit 241) := ⟨(N2 _ hm).2.2, (N2 _ hm).2.1⟩
      obtain ⟨ps9, oPK, hPK, _⟩ := id hT9
      have kg : ∀ b o, g'.get? b = some o → h9.get? b = some o := fun b o e => K9 b o (fun q => by rw [q, oP.1] at e; cases e) (fun q => by rw [q, oPK.1] at e; cases e) (F'.keep _ _ e)
      have FI : ∀ {f : Addr} {n : String} {cl : List (Str × Addr)}, FnAtO (OwnA g' L') h9 f (Str.ofString n) (Str.ofString "cmp_to_key.<locals>.K." ++ Str.ofString n) (mPar (Str.ofString n)) (mBody (Str.ofString n)) (mScope (Str.ofString n)) cl → FnN (fullL g' L' h9) f n cl := fun {f n cl} x => by
        obtain ⟨y, doc, pm, cv, ctv, e, hc⟩ := x
        exact ⟨doc, pm, cv, ctv, mem_full e y.1 y.2, hc.full⟩
      have hcell := N' _ (.head _)
      have dc' : oc.data = .cell (some (.ref 28)) := dc
      refine ⟨C, h9, tk9, rfl, rfl, kg, ?_, ?_, ?_, ?_⟩
      · obtain ⟨o, _, _, e, _⟩ := nL
        rw [e]
        exact K9 _ _ (Ne.symm oP.2) (Ne.symm oPK.2) e
      · intro p hp
        obtain ⟨p1, p2, p3⟩ := hr p hp
        obtain ⟨q1, q2, q3⟩ := N' p (.tail _ p1)
        refine mem_full (o := p.2) (K9 _ _ p2 ?_ q1) q3 q2
        rintro q
        rcases p3 with p3 | p3
        · exact p3 (iT9 _ (q ▸ q1))
        · exact absurd lK (Nat.not_lt.mpr (q ▸ p3))
      · exact ⟨ps', mem_full hP9 oP.1 oP.2, ht9, fun v hv => by
          rw [hf9] at hv
          cases hv
          exact ⟨cK, PK, rfl, hd_full hK9 oK, hT9.full, lK⟩⟩
      · exact ⟨nsN, md, L' + 1, oc, k, u, sl, fI, fL, fG, fE, fLe, fGe, st, i1, t1, i2, t2, tm, bT, tn, tq, mem_full hC9 oC.1 oC.2, mem_full hN9 oN.1 oN.2, mem_full hM9 oM.1 oM.2, FI fI9, FI fL9,
          mem_full (K9 _ _ (fun q => by have e := hcell.1; rw [q, hP] at e; cases e; cases dc') (fun q => by obtain ⟨vs, e, _⟩ := iT9 oc (q ▸ hcell.1); rw [e] at dc'; cases dc') hcell.1) hcell.2.2 hcell.2.1, dc'⟩
  (repeat ((fail_if_success (with_reducible show wpAny _ _ (nsGet _ _) _ _ _)); (first | walk_at "cs")))
  refine wpAny_nsGet G.b ?_
  rw [bc]
  (repeat ((fail_if_success (with_reducible show wpAny _ _ (nsGet _ _) _ _ _)); (first | walk_at "cs")))
  refine wpAny_nsGet G.g ?_
  rw [go]
  (repeat ((fail_if_success (with_reducible show wpAny _ _ (nsGet _ _) _ _ _)); (first | walk_at "cs")))
  refine wpAny_nsGet G.b ?_
  rw [bo]
  (repeat ((fail_if_success (with_reducible show wpAny _ _ (nsGet _ _) _ _ _)); (fail_if_success (with_reducible show wpAny _ _ (buildClass ..) _ _ _)); (first | walk_at "cs")))
  (refine wpAny_mono key ?_ (fun _ _ z => z.elim))
  rintro _ s' ⟨C, h9, tk9, rfl, rfl, kg, kL, kr, kt, kk⟩
  have F9 : Fr g' L' h9 _ := ⟨F'.ns.at fun o e => kL.trans e, kg, F'.above⟩
  have N9 := news_full g' h9 L'
  clear N2 hP hgd hm htr hO nL cfr hL hCd hop key
  clear N' F'
  (repeat ((fail_if_success (with_reducible show wpAny _ _ (bindName ..) _ _ _)); (first | walk_at "cs")))
  (k_steps)
  refine wpAny_pure ?_
  dsimp only
  (repeat (first | (k_unfold; (try dsimp only)) | walk1 | (dsimp only; walk1)))
  refine hret _ C _ _ (by k_asm) (by assumption) kr kt kk
end
end Mine
end
example (h : False) {prog : PySem.Program} {w : PySem.World} {A : PySem.Around} {Q E : PySem.Value → PySem.Shared → Prop} {s : PySem.Shared} {env : PySem.Env} {at0 : PySem.Pos} : PySem.wpAny (PySem.model prog w) A (PySem.eval (.Constant .none 0 at0) env) Q E s := by
  w_top off
  first | (walk1; fail) | exact h.elim
section
open PySem PySem.W PyProof.Rows PySem.Calls PySem.Spec
set_option maxRecDepth 100000
set_option linter.unusedSectionVars false
namespace Mine
theorem NewExc.before {h h₁ h' : Heap} {e : Addr} {X : String} (k : ∀ b o, h.get? b = some o → h₁.get? b = some o) (x : Heap.NewExc h₁ h' e X) : Heap.NewExc h h' e X :=
  ⟨fun b o q => x.keeps b o (k b o q), (by
    cases q : h.get? e with
    | none => rfl
    | some o => have := k _ _ q; rw [x.new] at this; cases this), x.there⟩
section
variable {prog : Program} {w : World} {A : Around} {E : Value → Shared → Prop} {s : Shared}
set_option maxHeartbeats 2000000 in
theorem unpack_few {t : Addr} {v1 : Value} {Q : List Value → Shared → Prop} (hh : A.handled = none) (ht : IsTup s.heap t #[v1]) (h : ∀ h' tk e, Heap.NewExc s.heap h' e "ValueError" → E (.ref e) { s with heap := h', toks := tk }) : wpAny (model prog w) A (unpackItems (.ref t) 2 none) Q E s := by
  generalize Mine.clo = hCl
  revert prog w A E s t v1 Q
  intro prog w A E s t v1 Q hh ht h
  have hlt : t ≠ s.heap.objs.size := by obtain ⟨o, ho, _⟩ := ht; exact Nat.ne_of_lt (Heap.lt_size ho)
  unfold unpackItems
  refine wpAny_bind ?_
  unfold notIterableAtAll
  refine wpAny_bind (wpAny_specialOf ht.typeIs slot_tuple_iter.lookup (wpAny_pure ?_))
  simp only [Bool.false_eq_true, if_false]
  refine wpAny_bind (wpAny_holding (iter_tuple ht (wpAny_bind (wpAny_holding ?_))))
  show wpAny _ _ (pyNext (.ref _) >>= _) _ _ _
  refine wpAny_bind (next_tuple_item ⟨_, Heap.get?_push_size _ rfl, rfl, rfl⟩ (ht.push _) (x := v1) rfl ?cv16)
  case' cv16 => rintro h₁ hit₁ hs₁
  rotate_left
  refine wpAny_bind (wpAny_holding ?_)
  show wpAny _ _ (pyNext (.ref _) >>= _) _ _ _
  have ht₁ : IsTup h₁ t #[v1] := (ht.push _).extBut hs₁.extBut hlt
  refine wpAny_bind (next_tuple_end hh hit₁ ht₁ rfl ?_)
  rintro h₂ he₂
  refine wpAny_pure (wpAny_pure ?_)
  rw [if_pos (show [v1].length < 2 from Nat.lt_succ_self 1)]
  refine wpAny_bind (wpAny_rule (wpAny_bind (wpAny_raiseErrorMade plainExc_ValueError hh (fun h' tk e x => h h' tk e (NewExc.before (fun b o q => ?_) x)) ?_)))
  · have hb : b ≠ s.heap.objs.size := Nat.ne_of_lt (Heap.lt_size q)
    exact he₂ b o hb (hs₁.extBut b o hb (Heap.get?_push_of_some _ q))
  · have e : [v1].length = 1 := rfl
    rw [e]; decide +kernel
set_option maxHeartbeats 2000000 in
theorem unpack_many {t : Addr} {v1 v2 v3 : Value} {Q : List Value → Shared → Prop} (hh : A.handled = none) (ht : IsTup s.heap t #[v1, v2, v3]) (h : ∀ h' tk e, Heap.NewExc s.heap h' e "ValueError" → E (.ref e) { s with heap := h', toks := tk }) : wpAny (model prog w) A (unpackItems (.ref t) 2 none) Q E s := by
  generalize Mine.clo = hCl
  revert prog w A E s t v1 v2 v3 Q
  intro prog w A E s t v1 v2 v3 Q hh ht h
  have hlt : t ≠ s.heap.objs.size := by obtain ⟨o, ho, _⟩ := ht; exact Nat.ne_of_lt (Heap.lt_size ho)
  unfold unpackItems
  refine wpAny_bind ?_
  unfold notIterableAtAll
  refine wpAny_bind (wpAny_specialOf ht.typeIs slot_tuple_iter.lookup (wpAny_pure ?_))
  simp only [Bool.false_eq_true, if_false]
  refine wpAny_bind (wpAny_holding (iter_tuple ht (wpAny_bind (wpAny_holding ?_))))
  show wpAny _ _ (pyNext (.ref _) >>= _) _ _ _
  refine wpAny_bind (next_tuple_item ⟨_, Heap.get?_push_size _ rfl, rfl, rfl⟩ (ht.push _) (x := v1) rfl ?cv17)
  case' cv17 => rintro h₁ hit₁ hs₁
  rotate_left
  refine wpAny_bind (wpAny_holding ?_)
  show wpAny _ _ (pyNext (.ref _) >>= _) _ _ _
  have ht₁ : IsTup h₁ t #[v1, v2, v3] := (ht.push _).extBut hs₁.extBut hlt
  refine wpAny_bind (next_tuple_item hit₁ ht₁ (x := v2) rfl ?_)
  rintro h₂ hit₂ hs₂
  refine wpAny_bind (wpAny_holding (wpAny_pure (wpAny_pure (wpAny_pure ?_))))
  rw [if_neg (show ¬ [v1, v2].length < 2 from Nat.lt_irrefl 2)]
  have ht₂ : IsTup h₂ t #[v1, v2, v3] := ht₁.extBut hs₂.extBut hlt
  refine wpAny_bind (wpAny_holding (next_tuple_item hit₂ ht₂ (x := v3) rfl ?_))
  rintro h₃ hit₃ hs₃
  rw [if_pos (show (some v3).isSome = true from rfl)]
  refine wpAny_bind (wpAny_rule (wpAny_bind (wpAny_raiseErrorMade plainExc_ValueError hh (fun h' tk e x => h h' tk e (NewExc.before (fun b o q => ?_) x)) ?_)))
  · have hb : b ≠ s.heap.objs.size := Nat.ne_of_lt (Heap.lt_size q)
    exact hs₃.extBut b o hb (hs₂.extBut b o hb (hs₁.extBut b o hb (Heap.get?_push_of_some _ q)))
  · decide +kernel
set_option maxHeartbeats 2000000 in
theorem unpack_int {i : Int} {u : Tok} {Q : List Value → Shared → Prop} (hh : A.handled = none) (h : ∀ h' tk e, Heap.NewExc s.heap h' e "TypeError" → E (.ref e) { s with heap := h', toks := tk }) : wpAny (model prog w) A (unpackItems (.int i u) 2 none) Q E s := by
  unfold unpackItems
  refine wpAny_bind ?_
  unfold notIterableAtAll
  refine wpAny_bind (wpAny_specialOf (T := "int") rfl (r := none) (by rw [typeLookup_type, builtinLookup_eq_fast]; kernel_rfl) ?_)
  simp only [Option.isSome_none, Bool.false_eq_true, if_false]
  refine wpAny_bind (wpAny_specialOf (T := "int") rfl (r := none) (by rw [typeLookup_type, builtinLookup_eq_fast]; kernel_rfl) (wpAny_pure ?_))
  rw [if_pos rfl]
  refine wpAny_bind (wpAny_rule (wpAny_bind (wpAny_typeNameOf_int ?_)))
  exact wpAny_bind (wpAny_raiseErrorMade plainExc_TypeError hh h (by decide +kernel))
end
end Mine
end
example (h : False) {prog : PySem.Program} {w : PySem.World} {A : PySem.Around} {Q E : PySem.Value → PySem.Shared → Prop} {s : PySem.Shared} {env : PySem.Env} {at0 : PySem.Pos} : PySem.wpAny (PySem.model prog w) A (PySem.eval (.Constant .none 0 at0) env) Q E s := by
  w_top off
  first | (walk1; fail) | exact h.elim
section
open PySem PySem.W PyProof.Rows PySem.Calls PySem.Spec
set_option maxRecDepth 100000
set_option linter.unusedSectionVars false
namespace Mine
/-- the six members of an exception -/
noncomputable abbrev excF (t tb ctx : Value) : Array Value := #[t, tb, ctx, .none, .bool false, .none]
section
variable {M : Model} {A : Around} {E : Value → Shared → Prop} {s : Shared} {base : Heap} {env : Env} {outer : List Env} {L e : Addr} {oe : Obj} {t : Value}
theorem note_own {P : Shared → Prop} (hfr : A.frames = some (env :: outer)) (hl : s.heap.FunFrames base (env :: outer)) (hf : env.frame = some L) (he : s.heap.get? e = some oe) (hkb : base.StaysIn s.heap) (hen : base.get? e = none) (hd : oe.data = .fields (excF t .none .none))
    (h : ∀ h' T, Heap.FlyingW base (env :: outer) e oe.cls t h' → (∃ o', h'.get? e = some o' ∧ o'.cls = oe.cls ∧ o'.data = .fields (excF t (.ref T) .none)) → s.heap.UpToSlots h' → P { s with heap := h' }) :
    wpAny M A (noteFrame (.ref e) env) (fun _ s₂ => wpAny M A (setFlight (.ref e) none) (fun _ s₃ => P s₃) E s₂) E s := by
  have hene : e ∉ (env :: outer).filterMap (·.frame) := fun hm => by
    obtain ⟨_, o, ho, hnf⟩ := hl.mem hm
    rw [he] at ho; cases ho; exact hnf _ hd
  unfold noteFrame
  simp only [hf]
  refine wpAny_bind (wpAny_field he hd (x := .none) rfl ?_)
  rw [if_neg (by decide)]
  refine wpAny_bind (wpAny_frameOf_fun hfr hl hf fun h₁ hs₁ => ?_)
  refine wpAny_bind (wpAny_entryPlaceOf fun pl hpl => ?_)
  unfold EntryCells.newEntry newFields
  refine wpAny_bind (wpAny_newObj_type ?_ (hpl.sizeOk5 _ _ _ _ _))
  have he₁ : h₁.get? e = some oe := (hs₁.2.1 e hene).trans he
  generalize hoT : ({ cls := .type "traceback", dict := none, data := .fields ([Value.none, .ref L, .none, rawInt L, .none] ++ (if pl.isEmpty then List.replicate 6 Value.none else pl)).toArray } : Obj) = oT
  have hTd : oT.data = .fields ([Value.none, .ref L, .none, rawInt L, .none] ++ (if pl.isEmpty then List.replicate 6 Value.none else pl)).toArray := by rw [← hoT]
  have he₂ := Heap.get?_push_of_some (h := h₁) oT he₁
  have hTn : h₁.objs.size ≠ e := Nat.ne_of_gt (Heap.lt_size he₁)
  refine wpAny_setField he₂ hd (by show 1 < 6; decide) ?_
  dsimp only
  have he₃ := Heap.get?_update_self (Obj.mapFields (·.setIfInBounds 1 (Value.ref h₁.objs.size))) he₂ (Obj.isFreed_of_fields (Obj.data_mapFields hd _))
  have hT₃ : ((h₁.push oT).update e (Obj.mapFields (·.setIfInBounds 1 (Value.ref h₁.objs.size)))).get? h₁.objs.size = some oT := (Heap.get?_update_other _ _ (Ne.symm hTn)).trans (Heap.get?_push_size h₁ (Obj.isFreed_of_fields hTd))
  have hed₃ := Obj.data_mapFields hd (·.setIfInBounds 1 (Value.ref h₁.objs.size))
  unfold setFlight
  refine wpAny_bind (wpAny_field he₃ hed₃ (x := .ref h₁.objs.size) rfl ?_)
  rw [if_pos (show (Value.ref h₁.objs.size != Value.none) = true from by simp)]
  refine wpAny_setField hT₃ hTd (by simp) (h _ h₁.objs.size ?_ ?_ ?_)
  · refine ⟨?_, hen, ?_, ?_⟩
    · intro b o hb
      have hbe : b ≠ e := fun q => by rw [q, hen] at hb; cases hb
      have hb1 : h₁.get? b = some o := (hs₁.2.1 b fun hm => by rw [(hl.mem hm).1] at hb; cases hb).trans (hkb b o hb)
      have hbT : b ≠ h₁.objs.size := Nat.ne_of_lt (Heap.lt_size hb1)
      rw [Heap.get?_update_other _ _ (Ne.symm hbT), Heap.get?_update_other _ _ (Ne.symm hbe)]
      exact Heap.get?_push_of_some _ hb1
    · refine hl.of_keeps fun b o hb hnf => ?_
      obtain ⟨sl, hs⟩ := hs₁.2.2 b o hb
      have hbe : b ≠ e := fun q => by rw [q, he] at hb; cases hb; exact hnf _ hd
      have hbT : b ≠ h₁.objs.size := Nat.ne_of_lt (Heap.lt_size hs)
      refine ⟨{ o with slots := sl }, ?_, rfl⟩
      rw [Heap.get?_update_other _ _ (Ne.symm hbT), Heap.get?_update_other _ _ (Ne.symm hbe)]
      exact Heap.get?_push_of_some _ hs
    · refine ⟨_, _, h₁.objs.size, _, _, (Heap.get?_update_other _ _ hTn).trans he₃, ⟨Obj.cls_mapFields _ _, rfl⟩, hed₃, rfl, ?_, hTn, Heap.get?_update_self _ hT₃ (Obj.isFreed_of_fields (Obj.data_mapFields hTd _)), Obj.data_mapFields hTd _, by simp⟩
      cases q : base.get? h₁.objs.size with
      | none => rfl
      | some o =>
        have hb1 : h₁.get? h₁.objs.size = some o := (hs₁.2.1 _ fun hm => by rw [(hl.mem hm).1] at q; cases q).trans (hkb _ o q)
        exact absurd (Heap.lt_size hb1) (Nat.lt_irrefl _)
  · exact ⟨_, (Heap.get?_update_other _ _ hTn).trans he₃, Obj.cls_mapFields _ _, hed₃⟩
  · intro b o hb hnf
    obtain ⟨sl, hs⟩ := hs₁.2.2 b o hb
    have hbe : b ≠ e := fun q => by rw [q, he] at hb; cases hb; exact hnf _ hd
    have hbT : b ≠ h₁.objs.size := Nat.ne_of_lt (Heap.lt_size hs)
    refine ⟨sl, ?_⟩
    rw [Heap.get?_update_other _ _ (Ne.symm hbT), Heap.get?_update_other _ _ (Ne.symm hbe)]
    exact Heap.get?_push_of_some _ hs
/-- an exception with its entry: nothing more in flight -/
theorem land_own {T : Addr} {o' : Obj} {Q : Unit → Shared → Prop} (hfl : Heap.FlyingW base (env :: outer) e oe.cls t s.heap) (ho : s.heap.get? e = some o') (hd : o'.data = .fields (excF t (.ref T) .none))
    (h : ∀ h', Heap.FlyingW base (env :: outer) e oe.cls t h' → h'.get? e = some o' → s.heap.UpToSlots h' → Q () { s with heap := h' }) : wpAny M A (setFlight (.ref e) none) Q E s := by
  obtain ⟨f1, f2, f3, oe', vs, T', oT, ts, he, hc, hd', h1, hnT, hTe, hT, hdT, h3⟩ := hfl
  obtain rfl : o' = oe' := Option.some.inj (ho.symm.trans he)
  have hv : vs = excF t (.ref T) .none := by rw [hd] at hd'; exact (Data.fields.inj hd').symm
  subst hv
  have hTT : T = T' := by simpa using h1
  subst hTT
  have hsz3 : 3 < ts.size := (Array.getElem?_eq_some_iff.mp h3).1
  have other : ∀ b, b ≠ T → (s.heap.update T (Obj.mapFields (·.setIfInBounds 3 Value.none))).get? b = s.heap.get? b := fun b hb => Heap.get?_update_other _ _ (Ne.symm hb)
  have nr : ∀ b o, s.heap.get? b = some o → (∀ vs, o.data ≠ .fields vs) → b ≠ T := fun b o hb hnf q => by
    rw [q, hT] at hb; cases hb; exact hnf ts hdT
  unfold setFlight
  refine wpAny_bind (wpAny_field ho hd (x := .ref T) rfl ?_)
  rw [if_pos (show (Value.ref T != Value.none) = true from by simp)]
  refine wpAny_setField hT hdT hsz3 (h _ ⟨fun b o hb => (other b fun q => by rw [q, hnT] at hb; cases hb).trans (f1 b o hb), f2, f3.of_keeps fun b o hb hnf => ⟨o, (other b (nr b o hb hnf)).trans hb, rfl⟩, ?_⟩ ((other e (Ne.symm hTe)).trans ho) fun b o hb hnf => ⟨o.slots, (other b (nr b o hb hnf)).trans hb⟩)
  exact ⟨o', _, T, _, _, (other e (Ne.symm hTe)).trans ho, hc, hd, rfl, hnT, hTe, Heap.get?_update_self _ hT (Obj.isFreed_of_fields (Obj.data_mapFields hdT _)), Obj.data_mapFields hdT _, by simp [hsz3]⟩
end
end Mine
end
example (h : False) {prog : PySem.Program} {w : PySem.World} {A : PySem.Around} {Q E : PySem.Value → PySem.Shared → Prop} {s : PySem.Shared} {env : PySem.Env} {at0 : PySem.Pos} : PySem.wpAny (PySem.model prog w) A (PySem.eval (.Constant .none 0 at0) env) Q E s := by
  w_top off
  first | (walk1; fail) | exact h.elim
section
open PySem PySem.W PyProof.Rows PySem.Calls PySem.Spec
set_option maxRecDepth 100000
set_option linter.unusedSectionVars false
namespace Mine
section
variable {prog : Program} {w : World} {A₀ : Around} {E : Value → Shared → Prop} {s' : Shared} {base g g₀ h : Heap} {outer : List Env} {L a e : Addr} {m : Str → Option Value} {name : Str} {scope : Scope} {cd : Value}
  {b₀ : Stmt} {suite : List Stmt} {pos : Pos} {rest : List ExceptHandler} {Q : Flow → Shared → Prop} {news : List (Addr × Obj)} {KF : Frag} {tt : Expr}
  {p : Program} {loose : List Str} {mean : ExcName → Option Value} {mg mb : Str → Option Value} {X : String}
/-- an exception of the frame's own try, caught by a clause of any test; what the exception holds stays known -/
theorem caughtTup (hxx : Heap.NewExc h s'.heap e X) (F : Fr g L h m) (N : News g L h news) (K : Below A₀ base outer g) (XB : KF.In base) (TB : Top p loose mean mg mb base)
    (D : KtsDicts (outer.filterMap (·.frame)) g) (T0 : KtsTurn (outer.filterMap (·.frame)) g₀ g) (TT : KtsTest prog w KF p loose mg mb name scope L a cd (.type X) tt true)
    (k : ∀ h' g' o' t T, KtsTurn (outer.filterMap (·.frame)) g₀ g' → Fr g' L h' m → News g' L h' news → Below A₀ base outer g' → KF.In g' → Top p loose mean mg mb g' → KtsDicts (outer.filterMap (·.frame)) g' → h'.get? e = some o' → o'.data = .fields (excF t T .none) →
      wpAny (model prog w) ((A₀.deeper (envOf name scope L a cd)).mark (some (.ref e))) (execs (b₀ :: suite) (envOf name scope L a cd)) Q E { s' with heap := h' })
    (hk : scope.kind = .function := by rfl)
    (hE : PassesOwnAt (model prog w) ((A₀.deeper (envOf name scope L a cd)).mark (some (.ref e))) (A₀.deeper (envOf name scope L a cd)) (envOf name scope L a cd) E := by passes_own) :
    wpAny (model prog w) (A₀.deeper (envOf name scope L a cd)) (noteFrame (.ref e) (envOf name scope L a cd))
      (fun _ s₂ => wpAny (model prog w) (A₀.deeper (envOf name scope L a cd)) (setFlight (.ref e) none) (fun _ s₃ =>
        wpAny (model prog w) (A₀.deeper (envOf name scope L a cd)) (handleBy (.ref e) (envOf name scope L a cd) (.ExceptHandler (some tt) none (b₀ :: suite) pos :: rest)) Q E s₃) E s₂) E s' := by
  have K' := K.push (name := name) (a := a) (cd := cd) F hk
  have hin : ∀ env ∈ (envOf name scope L a cd :: outer), ∀ b, env.frame = some b → b ∈ (envOf name scope L a cd :: outer).filterMap (·.frame) := fun env he b hb => List.mem_filterMap.mpr ⟨env, he, hb⟩
  have hBG : ∀ b o, h.get? b = some o → b ∉ (envOf name scope L a cd :: outer).filterMap (·.frame) → (hideAll h ((envOf name scope L a cd :: outer).filterMap (·.frame))).get? b = some o := fun b o q nm => hideAll_get _ q nm
  have hl : ∀ q ∈ news, (hideAll h ((envOf name scope L a cd :: outer).filterMap (·.frame))).get? q.1 = some q.2 ∧ g.get? q.1 = none ∧ q.1 ≠ L := fun q hq => by
    refine ⟨hideAll_get _ (N q hq).1 fun hm => ?_, (N q hq).2.2, (N q hq).2.1⟩
    obtain ⟨env, he, hf⟩ := List.mem_filterMap.mp hm
    rcases List.mem_cons.mp he with rfl | he
    · exact (N q hq).2.1 (Option.some.inj hf).symm
    · obtain ⟨o, ho, _⟩ := (K.frames.mem (List.mem_filterMap.mpr ⟨env, he, hf⟩)).2
      rw [(N q hq).2.2] at ho; cases ho
  obtain ⟨ob, tp, he, hcls, hd2⟩ := hxx.there
  have hen : (hideAll h ((envOf name scope L a cd :: outer).filterMap (·.frame))).get? e = none := by
    cases q : (hideAll h ((envOf name scope L a cd :: outer).filterMap (·.frame))).get? e with
    | none => rfl
    | some o => have := of_hideAll _ q; rw [hxx.new] at this; cases this
  have up0 : h.UpToSlots s'.heap := Heap.UpToSlots.of_keeps hxx.keeps
  refine note_own (Around.frames_deeper K.stack) ((funFrames_hide K'.frames hin).of_keeps fun b o hb _ => ⟨o, hxx.keeps b o hb, rfl⟩) rfl he (fun b o hb => hxx.keeps b o (of_hideAll _ hb)) hen hd2 fun h₅ T hheld hob hsm₅ => ?_
  obtain ⟨o5, ho5, hc5, hd5⟩ := hob
  obtain ⟨g₅, T₅, F₅, K₅⟩ := kts_ground K F hBG hheld.1 (up0.trans hsm₅)
  have LT : Looks (model prog w) h₅ (typeOf (.ref e)) (.type X) := by
    have := (Looks.ld (M := model prog w) (part := none) ho5).andThen (f := fun o => pure o.cls) .now
    rw [← hcls, ← hc5]
    exact (Looks.ld ho5).andThen .now
  refine wpAny_handleBy_cons (codeAny_handlers_test (TT _ _ _ _ g₅ e m F₅ (XB.keeps K₅.stays) (topRead_of (TB.keeps K₅.stays)) LT fun h₆ kp => ?_)) (by intro q; cases q)
  refine codeAny_handlers_suite ?_
  refine land_own (oe := ob) (flying_keeps hheld kp) (kp _ _ ho5) hd5 fun h₇ hfl₇ ho7 hsm₇ => ?_
  obtain ⟨g₆, T₆, F₆, K₆⟩ := kts_ground K F hBG hfl₇.1 (((up0.trans hsm₅).trans (Heap.UpToSlots.of_keeps kp)).trans hsm₇)
  have Nl : News g₆ L h₇ news := fun q hq => ⟨hfl₇.1 _ _ (hl q hq).1, (hl q hq).2.2, T₆.none_ _ (hl q hq).2.1⟩
  exact wpAny_passesOwnAt hE (k h₇ g₆ o5 tp (.ref T) (T0.trans T₆) F₆ Nl K₆ (XB.keeps K₆.stays) (TB.keeps K₆.stays) (D.turn T₆) ho7 hd5)
end
section
variable {M : Model} {A : Around} {E : Value → Shared → Prop} {s' : Shared} {base g h : Heap} {outer : List Env} {L a e : Addr} {m : Str → Option Value} {name : Str} {scope : Scope} {cd cls : Value} {Q : Unit → Shared → Prop} {news : List (Addr × Obj)}
/-- leaving a def by an exception that the frame's own raise statement made -/
theorem leave_anyS {ob : Obj} {vs : Array Value} {a0 : Value} (K : Below A base outer g) (kp : ∀ b o, h.get? b = some o → s'.heap.get? b = some o) (hnew : h.get? e = none) (he : s'.heap.get? e = some ob) (hcls : ob.cls = cls) (hd : ob.data = .fields vs) (h0 : vs[0]? = some a0) (h1 : vs[1]? = some .none) (F : Fr g L h m) (N : News g L h news)
    (hQ : ∀ h', RaisedSN base g outer e cls news h' → g.UpToSlots h' → Q () { s' with heap := h' }) (hk : scope.kind = .function := by rfl) :
    wpAny M (A.deeper (envOf name scope L a cd)) (leaving (envOf name scope L a cd) (.ref e)) Q E s' := by
  have K' := K.push (name := name) (a := a) (cd := cd) F hk
  have hin : ∀ env ∈ (envOf name scope L a cd :: outer), ∀ b, env.frame = some b → b ∈ (envOf name scope L a cd :: outer).filterMap (·.frame) := fun env he b hb => List.mem_filterMap.mpr ⟨env, he, hb⟩
  have st : base.StaysIn (hideAll h ((envOf name scope L a cd :: outer).filterMap (·.frame))) := fun b o q => hideAll_get _ (K'.stays b o q) fun hm => by
    rw [(K'.frames.mem hm).1] at q; cases q
  have sg : ∀ b o, g.get? b = some o → b ∉ outer.filterMap (·.frame) → (hideAll h ((envOf name scope L a cd :: outer).filterMap (·.frame))).get? b = some o := fun b o q nm => hideAll_get _ (F.keep b o q) fun hm => by
    rcases kts_mem hm with z | z
    · rw [z, kts_self F] at q
      cases q
    · exact nm z
  have hl : ∀ q ∈ news, (hideAll h ((envOf name scope L a cd :: outer).filterMap (·.frame))).get? q.1 = some q.2 ∧ g.get? q.1 = none ∧ base.get? q.1 = none := fun q hq => by
    refine ⟨hideAll_get _ (N q hq).1 fun hm => ?_, (N q hq).2.2, fresh_of_stays K.stays (N q hq).2.2⟩
    obtain ⟨env, he, hf⟩ := List.mem_filterMap.mp hm
    rcases List.mem_cons.mp he with rfl | he
    · exact (N q hq).2.1 (Option.some.inj hf).symm
    · obtain ⟨o, ho, _⟩ := (K.frames.mem (List.mem_filterMap.mpr ⟨env, he, hf⟩)).2
      rw [(N q hq).2.2] at ho; cases ho
  have hen : (hideAll h ((envOf name scope L a cd :: outer).filterMap (·.frame))).get? e = none := by
    cases q : (hideAll h ((envOf name scope L a cd :: outer).filterMap (·.frame))).get? e with
    | none => rfl
    | some o => have := of_hideAll _ q; rw [hnew] at this; cases this
  refine wpAny_leaving_firstW (a0 := a0) K'.stack ((funFrames_hide K'.frames hin).of_keeps fun b o hb _ => ⟨o, kp b o hb, rfl⟩) rfl he (fun b o hb => kp b o (of_hideAll _ hb)) hen hd h1 h0 fun h' hL => ?_
  obtain ⟨k1, ⟨_, _, k2⟩, k3, k4⟩ := hL
  exact hQ h' ⟨_, a0, st, sg, hl, k1, hen, k2, by rw [← hcls]; exact k3⟩ (((Heap.UpToSlots.of_keeps F.keep).trans (Heap.UpToSlots.of_keeps kp)).trans k4)
end
/-- what is raised over a turned ground is raised over the ground before -/
theorem RaisedSN.back {base g g' h : Heap} {l : List Env} {e : Addr} {cls : Value} {news : List (Addr × Obj)} (T : KtsTurn (l.filterMap (·.frame)) g g') (R : RaisedSN base g' l e cls news h) (hs : g'.UpToSlots h) : RaisedSN base g l e cls news h ∧ g.UpToSlots h := by
  obtain ⟨B, a0, h1, h2, h3, h4⟩ := R
  refine ⟨⟨B, a0, h1, fun b o q nm => h2 b o (T.other b o q nm) nm, fun q hq => ⟨(h3 q hq).1, ?_, (h3 q hq).2.2⟩, h4⟩, fun b o q nf => ?_⟩
  · cases e9 : g.get? q.1 with
    | none => rfl
    | some o =>
      obtain ⟨sl, hs'⟩ := T.up e9
      have := (h3 q hq).2.1
      rw [hs'] at this
      cases this
  · obtain ⟨sl, hs'⟩ := T.up q
    obtain ⟨sl2, hs2⟩ := hs b _ hs' nf
    exact ⟨sl2, hs2⟩
end Mine
end
example (h : False) {prog : PySem.Program} {w : PySem.World} {A : PySem.Around} {Q E : PySem.Value → PySem.Shared → Prop} {s : PySem.Shared} {env : PySem.Env} {at0 : PySem.Pos} : PySem.wpAny (PySem.model prog w) A (PySem.eval (.Constant .none 0 at0) env) Q E s := by
  w_top off
  first | (walk1; fail) | exact h.elim
section
open PySem PySem.W PyProof.Rows PySem.Calls PySem.Spec
set_option maxRecDepth 100000
set_option linter.unusedSectionVars false
namespace Mine
theorem entry_unchain : entryFor table "proto.unchain" = some Builtin.«proto.unchain» := entryFor_of_tree (by kernel_rfl)
section
variable {prog : Program} {w : World} {A : Around} {E : Value → Shared → Prop} {s : Shared} {env : Env}
theorem unchain_ok {e e0 : Addr} {o0 : Obj} {vs0 : Array Value} {Q : Value → Shared → Prop} (h0 : s.heap.get? e0 = some o0) (hd : o0.data = .fields vs0) (hc : vs0[2]? = some .none) (h : Q .none s) :
    wpAny (model prog w) A (runValue (.builtin "proto.unchain" ⟨[.ref e, .ref e0, .ref e0, .bool false], []⟩)) Q E s := by
  refine wpAny_runValue (codeAny_builtin entry_unchain ?_)
  unfold Builtin.«proto.unchain»
  dsimp only
  refine wpAny_bind (wpAny_field h0 hd hc ?_)
  rw [if_pos (by rfl)]
  exact wpAny_pure h
set_option maxHeartbeats 2000000 in
theorem raise_from {cls : String} (FR : ExcRaiseFacts cls) {x c : Sem Value} {e0 : Addr} {Q : Flow → Shared → Prop} (hh : A.handled = some (.ref e0))
    (h : wpAny (model prog w) A x (fun v s₁ => wpAny (model prog w) A c (fun cv s₂ => cv = .none ∧ ∃ e t, v = .ref e ∧ e ≠ e0 ∧ s₂.heap.get? e = some { cls := .type cls, data := .fields (excF (.ref t) .none .none) } ∧ (∃ o0 vs0, s₂.heap.get? e0 = some o0 ∧ o0.data = .fields vs0 ∧ vs0[2]? = some .none) ∧
      ∀ h', (∀ b, b ≠ e → h'.get? b = s₂.heap.get? b) → (∃ o vs, h'.get? e = some o ∧ o.cls = .type cls ∧ o.data = .fields vs ∧ vs[0]? = some (.ref t) ∧ vs[1]? = some .none) → E (.ref e) { s₂ with heap := h' }) E s₁) E s) :
    wpAny (model prog w) A (raiseStmt env (some x) (some c)) Q E s := by
  unfold raiseStmt
  dsimp only
  refine wpAny_bind (wpAny_mono h (fun v s₁ h₁ => ?_) fun _ _ x => x)
  refine wpAny_bind (wpAny_holding (wpAny_mono h₁ (fun cv s₂ h₂ => wpAny_bind (wpAny_pure ?_)) fun _ _ x => x))
  obtain ⟨rfl, e, t, rfl, hne, he, ⟨o0, vs0, h0, hd0, hc0⟩, hE⟩ := h₂
  obtain ⟨hp, g, d, tk, os⟩ := s₂
  have hsub := FR.isExc
  have hmeta := FR.plainMeta
  have upd : ∀ (h1 : Heap) (o : Obj) (vs : Array Value) (i : Nat) (y : Value), h1.get? e = some o → o.data = .fields vs → (h1.update e (Obj.mapFields (·.setIfInBounds i y))).get? e = some (Obj.mapFields (·.setIfInBounds i y) o) := fun h1 o vs i y a b => Heap.get?_update_self _ a (Obj.isFreed_of_fields (Obj.data_mapFields b _))
  dsimp only
  repeat (first | refine wpAny_loadPart he ?_ | wp_step)
  generalize hH : (hp.update e (Obj.mapFields fun x => x.setIfInBounds 3 Value.none)).update e (Obj.mapFields fun x => x.setIfInBounds 4 (Value.bool true)) = H
  have k1 : ∀ b, b ≠ e → H.get? b = hp.get? b := fun b hb => by
    rw [← hH, Heap.get?_update_other _ _ (Ne.symm hb), Heap.get?_update_other _ _ (Ne.symm hb)]
  have k2 : H.get? e = some { cls := .type cls, data := .fields #[.ref t, .none, .none, .none, .bool true, .none] } := by
    rw [← hH]
    have a := upd hp _ _ 3 .none he rfl
    exact upd _ _ _ 4 (.bool true) a rfl
  unfold raiseNew
  refine wpAny_bind (wpAny_handled ?_)
  rw [hh]
  dsimp only
  rw [if_pos (show (Value.ref e0 != Value.ref e) = true from by simp [Ne.symm hne])]
  refine wpAny_bind (wpAny_holding (unchain_ok ((k1 e0 (Ne.symm hne)).trans h0) hd0 hc0 ?_))
  have fin := wpAny_setField (M := model prog w) (A := A) (E := E) (s := ⟨H, g, d, tk, os⟩) (i := 2) (x := .ref e0) (Q := fun _ s' => wpAny (model prog w) A (throw (.ref e) : Sem Flow) Q E s') k2 rfl (by show 2 < 6; decide) (wpAny_throw (hE _ (fun b hb => (Heap.get?_update_other _ _ (Ne.symm hb)).trans (k1 b hb)) ⟨_, _, upd H _ _ 2 (.ref e0) k2 rfl, rfl, rfl, rfl, rfl⟩))
  refine wpAny_bind ?_
  simpa only [setField] using fin
end
end Mine
end
example (h : False) {prog : PySem.Program} {w : PySem.World} {A : PySem.Around} {Q E : PySem.Value → PySem.Shared → Prop} {s : PySem.Shared} {env : PySem.Env} {at0 : PySem.Pos} : PySem.wpAny (PySem.model prog w) A (PySem.eval (.Constant .none 0 at0) env) Q E s := by
  w_top off
  first | (walk1; fail) | exact h.elim
section
open PySem PySem.W PyProof.Rows PySem.Calls PySem.Spec
set_option maxRecDepth 100000
set_option linter.unusedSectionVars false
namespace Mine
section
variable {prog : Program} {w : World} {A : Around} {E : Value → Shared → Prop} {s : Shared} {env : Env}
set_option maxHeartbeats 2000000 in
theorem Raise_from {cls newId initId : String} (FC : ExcCallFacts cls newId initId) (FR : ExcRaiseFacts cls) {x : Str} {np cpos pos p2 : Pos} {kk : Nat} {e₀ : Expr} {rest : List Expr} {e0 : Addr} {Q : Flow → Shared → Prop} (hh : A.handled = some (.ref e0))
    (h : wpAny (model prog w) A (eval (.Name x np) env) (fun f s₁ => f = .type cls ∧ wpAny (model prog w) A (spliced (backTo cpos (starEach (e₀ :: rest) env))) (fun vs s₂ => vs.length ≤ sizeLine ∧ (∃ o0 vs0, s₂.heap.get? e0 = some o0 ∧ o0.data = .fields vs0 ∧ vs0[2]? = some .none) ∧
      ∀ h' e, (∀ b o, s₂.heap.get? b = some o → h'.get? b = some o) → s₂.heap.get? e = none → (∃ o vs a0, h'.get? e = some o ∧ o.cls = .type cls ∧ o.data = .fields vs ∧ vs[0]? = some a0 ∧ vs[1]? = some .none) → E (.ref e) { s₂ with heap := h' }) E s₁) E s)
    (he : starEach (e₀ :: rest) env = (false, eval e₀ env) :: starEach rest env := by rfl) (hplain : (backTo cpos (starEach rest env)).any (·.1) = false := by rfl) :
    wpAny (model prog w) A (exec (.Raise (some (.Call (.Name x np) (e₀ :: rest) [] cpos)) (some (.Constant .none kk p2)) pos) env) Q E s := by
  generalize Mine.clo = hCl
  revert prog w A E s env cls newId initId x np cpos pos p2 kk e₀ rest e0 Q
  intro prog w A E s env cls newId initId FC FR x np cpos pos p2 kk e₀ rest e0 Q hh h he hplain
  have hplain' : (backTo cpos (starEach (e₀ :: rest) env)).any (·.1) = false := by rw [he]; show (false || (backTo cpos (starEach rest env)).any (·.1)) = false; rw [hplain]; rfl
  rw [arm_exec_Raise]
  refine wpAny_bind (wpAny_standAt ?_)
  show wpAny _ _ (raiseStmt env (some (do let v ← eval (.Call (.Name x np) (e₀ :: rest) [] cpos) env; standAt pos; pure v)) (some (do let v ← eval (.Constant .none kk p2) env; standAt pos; pure v))) _ _ _
  refine raise_from FR hh (wpAny_bind (wpAny_Call_ofName (wpAny_mono h ?_ fun _ _ x => x)))
  rintro f s₁ h₁
  obtain ⟨rfl, h₁⟩ := h₁
  rw [he] at h₁ hplain' ⊢
  refine callWith_excType hplain' (Calls.evalArgs_plain (wpAny_mono h₁ ?_ fun _ _ x => x))
  rintro vs s₂ h₂
  obtain ⟨hlen, ⟨o0, vs0, g0, d0, c0⟩, hE⟩ := h₂
  obtain ⟨hp, g, d, tk, os⟩ := s₂
  refine wpAny_call_exc FC (hrest := hlen) fun h' e hm => wpAny_bind (wpAny_standAt (wpAny_pure (wpAny_bind (wpAny_Constant_none (wpAny_bind (wpAny_standAt (wpAny_pure ⟨rfl, ?_⟩)))))))
  obtain ⟨t, ht, ht0, htt⟩ := hm.there
  have hne : e ≠ e0 := fun q => by
    have := hm.new
    rw [q] at this
    exact absurd (this.symm.trans g0) (by simp)
  refine ⟨e, t, rfl, hne, ht, ⟨o0, vs0, hm.keeps _ _ g0, d0, c0⟩, fun h2 hk ⟨o, vs2, a1, a2, a3, a4, a5⟩ => hE h2 e (fun b o q => ?_) hm.new ⟨o, vs2, _, a1, a2, a3, a4, a5⟩⟩
  have hb : b ≠ e := fun q2 => by
    have := hm.new
    rw [← q2] at this
    exact absurd (this.symm.trans q) (by simp)
  exact (hk b hb).trans (hm.keeps _ _ q)
end
end Mine
end
example (h : False) {prog : PySem.Program} {w : PySem.World} {A : PySem.Around} {Q E : PySem.Value → PySem.Shared → Prop} {s : PySem.Shared} {env : PySem.Env} {at0 : PySem.Pos} : PySem.wpAny (PySem.model prog w) A (PySem.eval (.Constant .none 0 at0) env) Q E s := by
  w_top off
  first | (walk1; fail) | exact h.elim
section
open PySem PySem.W PyProof.Rows PySem.Calls PySem.Spec
set_option maxRecDepth 100000
set_option linter.unusedSectionVars false
namespace Mine
section
variable {prog : Program} {w : World} {A : Around} {E : Value → Shared → Prop} {s : Shared}
set_option maxHeartbeats 2000000 in
theorem add_si {x : Str} {t : Tok} {i : Int} {u : Tok} {Q : Value → Shared → Prop} (hh : A.handled = none) (h : ∀ h' tk e, Heap.NewExc s.heap h' e "TypeError" → E (.ref e) { s with heap := h', toks := tk }) : wpAny (model prog w) A (binaryOp .Add (.str x t) (.int i u)) Q E s := by
  generalize Mine.clo = hCl
  revert prog w A E s x t i u Q
  intro prog w A E s x t i u Q hh h
  unfold binaryOp
  refine wpAny_holding ?_
  refine wpAny_bind (m := binaryOp1 "add" (.str x t) (.int i u)) ?_
  unfold binaryOp1
  refine wpAny_bind (wpAny_typeOf (typeIs_str s x t) (wpAny_bind (wpAny_typeOf (typeIs_int s i u) (wpAny_bind (wpAny_of_eq PyProof.Rows.noFill_str_add ?_)))))
  rw [if_neg (show ¬ ((Value.type "str" == Value.type "int") = true) by decide)]
  refine wpAny_bind (wpAny_of_eq PySem.F.fills_int_add ?_)
  simp only [Bool.false_and, Bool.and_true, Bool.false_eq_true, if_false, pure_bind, Bool.not_false]
  rw [if_pos True.intro]
  unfold tryMethod
  refine wpAny_bind (wpAny_bind (wpAny_callSpecial?_slot (T := "int") (id := "int.__radd__") (typeIs_int s i u) PySem.F.slot_int_radd (wpAny_call_entry PySem.F.slot_int_radd (typeIs_int s i u) PySem.F.entry_int_radd ?_ (PySem.F.args_int_radd_2 _ _))))
  show wpAny (model prog w) A.in1 (do rule "int.binary.not-an-int"; ret Value.notImplemented) _ _ _
  refine wpAny_bind (wpAny_rule (wpAny_pure ⟨_, rfl, ?_⟩))
  refine wpAny_pure (wpAny_pure ?_)
  dsimp only
  refine wpAny_bind (wpAny_typeOf (typeIs_str s x t) (wpAny_bind (wpAny_of_eq PyProof.Rows.seq_str_add (wpAny_bind (wpAny_rule ?_)))))
  refine (wpAny_call_entry PyProof.Rows.slot_str_add (typeIs_str s x t) PyProof.Rows.entry_str_add ?_ (PyProof.Rows.args_str_add _ _))
  refine (show wpAny _ _ (do rule "str.__add__.not-a-str"; raiseErrorMade "TypeError" s!"can only concatenate str (not \"{← typeNameOf (.int i u)}\") to str") _ _ _ from ?_)
  refine wpAny_bind (wpAny_rule (wpAny_bind (wpAny_typeNameOf_int ?_)))
  exact wpAny_raiseErrorMade plainExc_TypeError hh h (by decide +kernel)
end
end Mine
end
example (h : False) {prog : PySem.Program} {w : PySem.World} {A : PySem.Around} {Q E : PySem.Value → PySem.Shared → Prop} {s : PySem.Shared} {env : PySem.Env} {at0 : PySem.Pos} : PySem.wpAny (PySem.model prog w) A (PySem.eval (.Constant .none 0 at0) env) Q E s := by
  w_top off
  first | (walk1; fail) | exact h.elim
section
open PySem PySem.W PyProof.Rows
set_option maxRecDepth 100000
set_option linter.unusedSectionVars false
namespace Mine
/-- a comprehension of two clauses, none with a test -/
noncomputable abbrev two (elt i1 i2 : Expr) (x y : Str) (px py : Pos) (scope : Scope) (pos : Pos) : Expr := .ListComp elt [⟨.Name x px, i1, [], 0⟩, ⟨.Name y py, i2, [], 0⟩] scope pos
section
variable {prog : Program} {w : World} {A : Around} {R : Result → Shared → Prop} {s : Shared} {elt i1 i2 : Expr} {x y : Str} {px py : Pos} {scope : Scope} {pos : Pos} {it acc : Value} {env : Env}
theorem compTurn_in : compTurn (two elt i1 i2 x y px py scope pos) 1 it acc env = (standAt i2.pos >>= fun _ => pyNext it >>= fun r => match r with
      | none => pure (.done .next)
      | some v => letOwnedTupleGo (.Name y py) it v >>= fun _ => assign (.Name y py) env v >>= fun _ =>
        (eval elt env >>= fun x => call (.builtin "list.append") [acc, x] >>= fun _ => pure ()) >>= fun _ =>
          again (.compLoop (two elt i1 i2 x y px py scope pos) 1 it acc env)) := by rfl
theorem compTurn_out : compTurn (two elt i1 i2 x y px py scope pos) 0 it acc env = (standAt i1.pos >>= fun _ => pyNext it >>= fun r => match r with
      | none => pure (.done .next)
      | some v => letOwnedTupleGo (.Name x px) it v >>= fun _ => assign (.Name x px) env v >>= fun _ =>
        eval i2 env >>= fun z => standAt i2.pos >>= fun _ => foldedSetIterable i2 env z >>= fun z => holding [z] (pyIter z) >>= fun j => runOwn (.compStart (two elt i1 i2 x y px py scope pos) 1 j acc env) env >>= fun _ =>
          again (.compLoop (two elt i1 i2 x y px py scope pos) 0 it acc env)) := by rfl
theorem start_in (h0 : codeAny (model prog w) A (.compLoop (two elt i1 i2 x y px py scope pos) 1 it acc env) R s)
    (h : wpAny (model prog w) A (pyIter it) (fun it' s' => codeAny (model prog w) A (.compLoop (two elt i1 i2 x y px py scope pos) 1 it' acc env) R s') (notedBy (model prog w) A env fun x s' => R (.error x) s') s) :
    codeAny (model prog w) A (.compStart (two elt i1 i2 x y px py scope pos) 1 it acc env) R s := by
  refine codeAny_of_tree ?_
  show wpAny _ _ ((compStart (two elt i1 i2 x y px py scope pos) 1 it acc env).onRaise (fun x => do noteFrame x env; standAt theWindowsPlace)) _ _ s
  refine wpAny_notedAt ?_
  unfold compStart
  show wpAny _ _ (ask >>= _) _ _ s
  refine wpAny_bind (wpAny_askSetting ?_)
  refine wpAny_ite ?_
  split
  · exact wpAny_pure (And.intro rfl h0)
  · refine wpAny_bind (wpAny_rule ?_)
    show wpAny _ _ (standAt i2.pos >>= _) _ _ s
    exact wpAny_bind (wpAny_standAt (wpAny_bind (wpAny_mono h (fun it' s' h' => wpAny_pure (And.intro rfl h')) fun _ _ x => x)))
theorem loop_in (I : Nat → Shared → Prop)
    (turn : ∀ n s, I n s → wpAny (model prog w) A (pyNext it) (fun r s₁ => match r with
      | none => R (.ok .next) s₁
      | some v => wpAny (model prog w) A (assign (.Name y py) env v) (fun _ s₂ => wpAny (model prog w) A (eval elt env) (fun x s₃ =>
          wpAny (model prog w) A (call (.builtin "list.append") [acc, x]) (fun _ s₄ => ∃ m, m < n ∧ I m s₄) (notedBy (model prog w) A env fun e s' => R (.error e) s') s₃)
          (notedBy (model prog w) A env fun e s' => R (.error e) s') s₂) (notedBy (model prog w) A env fun e s' => R (.error e) s') s₁) (notedBy (model prog w) A env fun e s' => R (.error e) s') s)
    (n : Nat) (h : I n s) : codeAny (model prog w) A (.compLoop (two elt i1 i2 x y px py scope pos) 1 it acc env) R s := by
  generalize Mine.clo = hCl
  revert prog w A R s elt i1 i2 x y px py scope pos it acc env I n
  intro prog w A R s elt i1 i2 x y px py scope pos it acc env I turn n h
  refine codeAny_loop rfl I ?_ n h
  rintro n s hI
  show wpAny _ _ ((compTurn (two elt i1 i2 x y px py scope pos) 1 it acc env).onRaise (fun x => do noteFrame x env; theTreesLotGoes x)) _ _ s
  refine wpAny_noted ?_
  rw [compTurn_in]
  refine wpAny_bind (wpAny_standAt (wpAny_bind (wpAny_mono (turn n s hI) ?_ fun _ _ h' => h')))
  rintro r s₁ h₁
  cases r with
  | none => exact wpAny_pure h₁
  | some v =>
    refine wpAny_bind (wpAny_of_eq rfl ?_)
    refine wpAny_bind (wpAny_mono h₁ (fun _ s₂ h₂ => wpAny_bind (wpAny_bind (wpAny_mono h₂ (fun x s₃ h₃ => wpAny_bind (wpAny_mono h₃ (fun _ s₄ h₄ => wpAny_pure (wpAny_pure ⟨rfl, h₄⟩)) fun _ _ h' => h')) fun _ _ h' => h'))) fun _ _ h' => h')
theorem loop_out (hs : ∀ z, foldedSetIterable i2 env z = pure z) (I : Nat → Shared → Prop)
    (turn : ∀ n s, I n s → wpAny (model prog w) A (pyNext it) (fun r s₁ => match r with
      | none => R (.ok .next) s₁
      | some v => wpAny (model prog w) A (assign (.Name x px) env v) (fun _ s₂ => wpAny (model prog w) A (eval i2 env) (fun z s₃ => wpAny (model prog w) A (pyIter z) (fun j s₄ =>
          codeAny (model prog w) (A.mark none) (.compStart (two elt i1 i2 x y px py scope pos) 1 j acc env) (fun r s₅ => match r with | .ok _ => ∃ m, m < n ∧ I m s₅ | .error e => cameBackBy (model prog w) A env (notedBy (model prog w) A env fun e s' => R (.error e) s') e s₅) s₄) (notedBy (model prog w) A env fun e s' => R (.error e) s') s₃)
          (notedBy (model prog w) A env fun e s' => R (.error e) s') s₂) (notedBy (model prog w) A env fun e s' => R (.error e) s') s₁) (notedBy (model prog w) A env fun e s' => R (.error e) s') s)
    (n : Nat) (h : I n s) : codeAny (model prog w) A (.compLoop (two elt i1 i2 x y px py scope pos) 0 it acc env) R s := by
  generalize Mine.clo = hCl
  revert prog w A R s elt i1 i2 x y px py scope pos it acc env I n
  intro prog w A R s elt i1 i2 x y px py scope pos it acc env hs I turn n h
  refine codeAny_loop rfl I ?_ n h
  rintro n s hI
  show wpAny _ _ ((compTurn (two elt i1 i2 x y px py scope pos) 0 it acc env).onRaise (fun x => do noteFrame x env; theTreesLotGoes x)) _ _ s
  refine wpAny_noted ?_
  rw [compTurn_out]
  refine wpAny_bind (wpAny_standAt (wpAny_bind (wpAny_mono (turn n s hI) ?_ fun _ _ h' => h')))
  rintro r s₁ h₁
  cases r with
  | none => exact wpAny_pure h₁
  | some v =>
    refine wpAny_bind (wpAny_of_eq rfl ?_)
    refine wpAny_bind (wpAny_mono h₁ (fun _ s₂ h₂ => wpAny_bind (wpAny_mono h₂ (fun z s₃ h₃ => wpAny_bind (wpAny_standAt (wpAny_bind (wpAny_of_eq (hs z) (wpAny_bind (wpAny_holding (wpAny_mono h₃ (fun j s₄ h₄ => wpAny_bind (wpAny_runOwn ?_)) fun _ _ h' => h'))))))) fun _ _ h' => h')) fun _ _ h' => h')
    exact codeAny_mono h₄ fun r s' hr => by
      cases r with
      | ok f => exact wpAny_pure ⟨rfl, hr⟩
      | error e => exact hr
end
end Mine
end
example (h : False) {prog : PySem.Program} {w : PySem.World} {A : PySem.Around} {Q E : PySem.Value → PySem.Shared → Prop} {s : PySem.Shared} {env : PySem.Env} {at0 : PySem.Pos} : PySem.wpAny (PySem.model prog w) A (PySem.eval (.Constant .none 0 at0) env) Q E s := by
  w_top off
  first | (walk1; fail) | exact h.elim
section
open PySem PySem.W PyProof.Rows
set_option maxRecDepth 100000
set_option linter.unusedSectionVars false
namespace Mine
section
variable {prog : Program} {w : World} {A : Around}
/-- what is told of a comprehension's second clause -/
noncomputable def Inner (prog : Program) (w : World) (A : Around) (h₀ : Heap) (L : Addr) (m : Str → Option Value) (env : Env) (scope : Scope) (cl : List (Str × Addr)) (x y : Str) (elt : Expr) (C : List (Addr × Obj)) (I D c : Addr) (oI oC : Obj) (m₂ : Str → Option Value) (v : Value) (ys : List Value) (k : Nat) (Jn : List Value → List (Addr × Obj) → Prop) (j : Value) (s₄ : Shared) : Prop :=
  ∃ Jt oJ n2 P2 C2 rel2 nx2, ∃ K2 : Nat → List Value → List (Addr × Obj) → Prop, j = .ref Jt ∧ Src prog w A Jt n2 P2 C2 rel2 ∧ Fr h₀ L s₄.heap m ∧ News h₀ L s₄.heap ((c, oC) :: (D, listOf ys.toArray k) :: (I, oI) :: (Jt, oJ) :: nx2) ∧ rel2 0 oJ ∧ (∀ p ∈ C2, p ∈ nx2) ∧ (∀ p ∈ nx2, p.1 ≠ c ∧ p.1 ≠ D ∧ p.1 ≠ I ∧ p.1 ≠ Jt) ∧ Jt ≠ c ∧ Jt ≠ D ∧ Jt ≠ I ∧ K2 0 ys nx2 ∧
    (∀ i ys nx, K2 i ys nx → ys.length + 1 ≤ sizeLine) ∧ (∀ ys nx, K2 n2 ys nx → (∀ p ∈ C, p ∈ nx) ∧ Jn ys nx) ∧
    (∀ i2 v2 ys2 nx3 oJ oC m₃ k2 h tk E', i2 < n2 → P2 i2 v2 → K2 i2 ys2 nx3 → (∀ p ∈ C2, p ∈ nx3) → NsO oC m₃ → m₃ y = some v2 → m₃ x = some v → Fr h₀ L h m → News h₀ L h ((c, oC) :: (D, listOf ys2.toArray k2) :: (I, oI) :: (Jt, oJ) :: nx3) → (∀ p ∈ nx3, p.1 ≠ c ∧ p.1 ≠ D ∧ p.1 ≠ I ∧ p.1 ≠ Jt) →
      wpAny (model prog w) A (eval elt (compEnvC scope cl c env)) (fun val s₅ => CompEnd h₀ L m [(c, oC), (D, listOf ys2.toArray k2), (I, oI), (Jt, oJ)] C2 (K2 (i2 + 1) (ys2 ++ [val])) s₄ s₅) E' { s₄ with heap := h, toks := tk })
theorem inner_loop {R : Result → Shared → Prop} {s₄ : Shared} {elt i1 i2 : Expr} {x y : Str} {px py : Pos} {scope : Scope} {cl : List (Str × Addr)} {pos : Pos} {env : Env}
    {I D c Jt L : Addr} {n2 : Nat} {P2 : Nat → Value → Prop} {C2 nx2 : List (Addr × Obj)} {rel2 : Nat → Obj → Prop} {h₀ : Heap} {m : Str → Option Value} {oI oJ oC : Obj} {m₂ : Str → Option Value} {v : Value} {ys : List Value} {k : Nat}
    (hkind : scope.kind = .function) (hy : scope.names.lookup y = some .local) (hxy : x ≠ y) (K2 : Nat → List Value → List (Addr × Obj) → Prop) (S2 : Src prog w A Jt n2 P2 C2 rel2) (F : Fr h₀ L s₄.heap m) (N : News h₀ L s₄.heap ((c, oC) :: (D, listOf ys.toArray k) :: (I, oI) :: (Jt, oJ) :: nx2)) (nO : NsO oC m₂) (hv : m₂ x = some v) (rJ : rel2 0 oJ) (hC2 : ∀ p ∈ C2, p ∈ nx2) (off : ∀ p ∈ nx2, p.1 ≠ c ∧ p.1 ≠ D ∧ p.1 ≠ I ∧ p.1 ≠ Jt) (q1 : Jt ≠ c) (q2 : Jt ≠ D) (q3 : Jt ≠ I) (q4 : D ≠ c) (q5 : D ≠ I) (q6 : c ≠ I) (k0 : K2 0 ys nx2)
    (klen : ∀ i ys nx, K2 i ys nx → ys.length + 1 ≤ sizeLine)
    (turn2 : ∀ i2 v2 ys2 nx3 oJ oC m₃ k2 h tk E', i2 < n2 → P2 i2 v2 → K2 i2 ys2 nx3 → (∀ p ∈ C2, p ∈ nx3) → NsO oC m₃ → m₃ y = some v2 → m₃ x = some v → Fr h₀ L h m → News h₀ L h ((c, oC) :: (D, listOf ys2.toArray k2) :: (I, oI) :: (Jt, oJ) :: nx3) → (∀ p ∈ nx3, p.1 ≠ c ∧ p.1 ≠ D ∧ p.1 ≠ I ∧ p.1 ≠ Jt) →
      wpAny (model prog w) A (eval elt (compEnvC scope cl c env)) (fun val s₅ => CompEnd h₀ L m [(c, oC), (D, listOf ys2.toArray k2), (I, oI), (Jt, oJ)] C2 (K2 (i2 + 1) (ys2 ++ [val])) s₄ s₅) E' { s₄ with heap := h, toks := tk })
    (hR : ∀ ys nx h tk oC k m₃, K2 n2 ys nx → Fr h₀ L h m → NsO oC m₃ → News h₀ L h ((c, oC) :: (D, listOf ys.toArray k) :: (I, oI) :: nx) → (∀ p ∈ nx, p.1 ≠ c ∧ p.1 ≠ D ∧ p.1 ≠ I) → R (.ok .next) { s₄ with heap := h, toks := tk }) :
    codeAny (model prog w) A (.compLoop (two elt i1 i2 x y px py scope pos) 1 (.ref Jt) (.ref D) (compEnvC scope cl c env)) R s₄ := by
  generalize Mine.clo = hCl
  revert prog w A R s₄ elt i1 i2 x y px py scope cl pos env I D c Jt L n2 P2 C2 nx2 rel2 h₀ m oI oJ oC m₂ v ys k K2
  intro prog w A R s₄ elt i1 i2 x y px py scope cl pos env I D c Jt L n2 P2 C2 nx2 rel2 h₀ m oI oJ oC m₂ v ys k hkind hy hxy K2 S2 F N nO hv rJ hC2 off q1 q2 q3 q4 q5 q6 k0 klen turn2 hR
  refine loop_in
    (fun kk s' => ∃ i h tk ys nx oJ oC m₂ kD, kk = n2 + 1 - i ∧ i ≤ n2 ∧ s' = { s₄ with heap := h, toks := tk } ∧ K2 i ys nx ∧ (∀ p ∈ C2, p ∈ nx) ∧ rel2 i oJ ∧ NsO oC m₂ ∧ m₂ x = some v ∧ Fr h₀ L h m ∧
      News h₀ L h ((c, oC) :: (D, listOf ys.toArray kD) :: (I, oI) :: (Jt, oJ) :: nx) ∧ (∀ p ∈ nx, p.1 ≠ c ∧ p.1 ≠ D ∧ p.1 ≠ I ∧ p.1 ≠ Jt)) ?_ (n2 + 1)
    ⟨0, s₄.heap, s₄.toks, ys, nx2, oJ, oC, m₂, k, rfl, Nat.zero_le _, rfl, k0, hC2, rJ, nO, hv, F, N, off⟩
  rintro kk s' ⟨i, h, tk, ys, nx, oJ, oC, m₂, kD, rfl, hi, rfl, hj, hC, r, nO, hv, F, N, off⟩
  have gC := N (c, oC) (.head _)
  have gD := N (D, listOf ys.toArray kD) (.tail _ (.head _))
  have gI := N (I, oI) (.tail _ (.tail _ (.head _)))
  have gJ := N (Jt, oJ) (.tail _ (.tail _ (.tail _ (.head _))))
  have Nx : News h₀ L h nx := fun p hp => N p (.tail _ (.tail _ (.tail _ (.tail _ hp))))
  have hCget : ∀ p ∈ C2, h.get? p.1 = some p.2 := fun p hp => (Nx p (hC p hp)).1
  by_cases hlt : i < n2
  · refine S2.item i _ oJ _ _ hlt r gJ.1 hCget ?_
    rintro v2 oJ' h' tk' hP r' hJ' hk
    dsimp only
    have F' := fr_but F hk (Ne.symm gJ.2.1) gJ.2.2
    have gC' : h'.get? c = some oC := hk _ _ (Ne.symm q1) gC.1
    refine wpAny_assign_Name (wpAny_storeName_local (env := compEnvC scope cl c env) (m := m₂) (lookup_relabel_local hy) (nO.ns gC') ?_ (by simp [compEnvC, relabel, hkind]))
    rintro h₂ hn hs
    obtain ⟨oC', hoC', nO'⟩ := ns_obj hn
    have hs' : Heap.SameBut c h' h₂ := hs
    have F₂ : Fr h₀ L h₂ m := F'.change hs' gC.2.1 gC.2.2
    have N₂ : News h₀ L h₂ ((c, oC') :: (D, listOf ys.toArray kD) :: (I, oI) :: (Jt, oJ') :: nx) := fun p hp => by
      rcases List.mem_cons.mp hp with rfl | hp
      · exact ⟨hoC', gC.2⟩
      · rcases List.mem_cons.mp hp with rfl | hp
        · exact ⟨(hs'.2 _ q4).trans (hk _ _ (Ne.symm q2) gD.1), gD.2⟩
        · rcases List.mem_cons.mp hp with rfl | hp
          · exact ⟨(hs'.2 _ (Ne.symm q6)).trans (hk _ _ (Ne.symm q3) gI.1), gI.2⟩
          · rcases List.mem_cons.mp hp with rfl | hp
            · exact ⟨(hs'.2 _ q1).trans hJ', gJ.2⟩
            · exact ⟨(hs'.2 _ (off p hp).1).trans (hk _ _ (off p hp).2.2.2 (Nx p hp).1), (Nx p hp).2⟩
    refine wpAny_mono (turn2 i v2 ys nx oJ' oC' _ kD h₂ _ _ hlt hP hj hC nO' (by simp) (by rw [if_neg hxy]; exact hv) F₂ N₂ off) ?_ fun _ _ e => e
    rintro val s₅ h₅
    obtain ⟨h₄, tk₄, nx', rfl, F₄, N₄, hC₄, off', hj₄⟩ := h₅
    have gD₄ := N₄ (D, listOf ys.toArray kD) (.tail _ (.head _))
    have o1 := fun p hp => off' _ (.head _) p hp
    have o2 := fun p hp => off' _ (.tail _ (.head _)) p hp
    have o3 := fun p hp => off' _ (.tail _ (.tail _ (.head _))) p hp
    have o4 := fun p hp => off' _ (.tail _ (.tail _ (.tail _ (.head _)))) p hp
    refine append_at (hsz := by rw [List.size_toArray]; exact Nat.le_of_succ_le (klen _ _ _ hj)) gD₄.1 ?_
    rintro h₅ hs₅ hD₅
    refine ⟨n2 + 1 - (i + 1), by lia, i + 1, h₅, tk₄, ys ++ [val], nx', oJ', oC', _, kD + 1, rfl, hlt, rfl, hj₄, hC₄, r', nO', (by rw [if_neg hxy]; exact hv), F₄.change hs₅ gD₄.2.1 gD₄.2.2, fun p hp => ?_, fun p hp => ⟨o1 p hp, o2 p hp, o3 p hp, o4 p hp⟩⟩
    rcases List.mem_cons.mp hp with rfl | hp
    · exact ⟨(hs₅.2 _ (Ne.symm q4)).trans (N₄ _ (.head _)).1, (N₄ _ (.head _)).2⟩
    · rcases List.mem_cons.mp hp with rfl | hp
      · refine ⟨?_, gD₄.2⟩
        rw [hD₅]
        simp
      · rcases List.mem_cons.mp hp with rfl | hp
        · exact ⟨(hs₅.2 _ (Ne.symm q5)).trans (N₄ _ (.tail _ (.tail _ (.head _)))).1, (N₄ _ (.tail _ (.tail _ (.head _)))).2⟩
        · rcases List.mem_cons.mp hp with rfl | hp
          · exact ⟨(hs₅.2 _ q2).trans (N₄ _ (.tail _ (.tail _ (.tail _ (.head _))))).1, (N₄ _ (.tail _ (.tail _ (.tail _ (.head _))))).2⟩
          · exact ⟨(hs₅.2 _ (o2 p hp)).trans (N₄ _ (.tail _ (.tail _ (.tail _ (.tail _ hp))))).1, (N₄ _ (.tail _ (.tail _ (.tail _ (.tail _ hp))))).2⟩
  · have hin : i = n2 := by lia
    subst hin
    refine S2.done _ oJ _ _ r gJ.1 hCget ?_
    rintro h' tk' hk
    dsimp only
    refine hR ys nx h' tk' oC kD m₂ hj (fr_but F hk (Ne.symm gJ.2.1) gJ.2.2) nO ?_ fun p hp => ⟨(off p hp).1, (off p hp).2.1, (off p hp).2.2.1⟩
    rintro p hp
    rcases List.mem_cons.mp hp with rfl | hp
    · exact ⟨hk _ _ (Ne.symm q1) gC.1, gC.2⟩
    · rcases List.mem_cons.mp hp with rfl | hp
      · exact ⟨hk _ _ (Ne.symm q2) gD.1, gD.2⟩
      · rcases List.mem_cons.mp hp with rfl | hp
        · exact ⟨hk _ _ (Ne.symm q3) gI.1, gI.2⟩
        · exact ⟨hk _ _ (off p hp).2.2.2 (Nx p hp).1, (Nx p hp).2⟩
theorem comp2_core {E : Value → Shared → Prop} {s₂ : Shared} {elt i1 i2 : Expr} {x y : Str} {px py : Pos} {scope : Scope} {cl : List (Str × Addr)} {pos : Pos} {env : Env}
    {I L : Addr} {n : Nat} {P : Nat → Value → Prop} {C news : List (Addr × Obj)} {rel : Nat → Obj → Prop} {h₀ : Heap} {m : Str → Option Value} {oI : Obj} {RR : Value → Addr → Result → Shared → Prop}
    (S : Src prog w A I n P C rel) (J : Nat → List Value → List (Addr × Obj) → Prop)
    (hcell : ∀ y ∈ scope.names, y.2 ≠ .cell) (hkind : scope.kind = .function) (hx : scope.names.lookup x = some .local) (hy : scope.names.lookup y = some .local) (hxy : x ≠ y)
    (hs : ∀ env z, foldedSetIterable i2 env z = pure z)
    (F : Fr h₀ L s₂.heap m) (N : News h₀ L s₂.heap ((I, oI) :: news)) (r0 : rel 0 oI) (hC : ∀ p ∈ C, p ∈ news) (hI : ∀ p ∈ news, p.1 ≠ I) (j0 : J 0 [] news)
    (turn : ∀ i v ys nx oI oC D c k m₂ h tk E', i < n → P i v → J i ys nx → (∀ p ∈ C, p ∈ nx) → NsO oC m₂ → m₂ x = some v → Fr h₀ L h m → News h₀ L h ((c, oC) :: (D, listOf ys.toArray k) :: (I, oI) :: nx) → @LT.lt Nat _ I D → @LT.lt Nat _ D c → @Eq Nat D s₂.heap.objs.size → @Eq Nat c (s₂.heap.objs.size + 1) →
      (∀ p ∈ nx, p.1 ≠ c) → (∀ p ∈ nx, p.1 ≠ D) → (∀ p ∈ nx, p.1 ≠ I) →
      wpAny (model prog w) A (eval i2 (compEnvC scope cl c env)) (fun z s₃ => wpAny (model prog w) A (pyIter z) (fun j s₄ => s₄.gens = s₂.gens ∧ s₄.drawn = s₂.drawn ∧ s₄.os = s₂.os ∧ Inner prog w A h₀ L m env scope cl x y elt C I D c oI oC m₂ v ys k (J (i + 1)) j s₄) E' s₃) E' { s₂ with heap := h, toks := tk })
    (hRR : ∀ ys nx D c oC m₂ k h tk, J n ys nx → Fr h₀ L h m → NsO oC m₂ → News h₀ L h ((c, oC) :: (D, listOf ys.toArray k) :: nx) → @LT.lt Nat _ D c → @Eq Nat D s₂.heap.objs.size → (∀ p ∈ nx, p.1 ≠ c) → (∀ p ∈ nx, p.1 ≠ D) → (∀ p ∈ nx, p.1 ≠ I) →
      RR (.ref D) c (.ok .next) { s₂ with heap := h, toks := tk }) :
    wpAny (model prog w) A (newList []) (fun acc s₃ => wpAny (model prog w) A (newFunctionEnv scope env.globals cl [] env.qual none .none (some env)) (fun cenv s₄ =>
      codeAny (model prog w) A (.compStart (two elt i1 i2 x y px py scope pos) 0 (.ref I) acc { cenv with scope := relabel scope env }) (RR acc cenv.locals) s₄) E s₃) E s₂ := by
  generalize Mine.clo = hCl
  revert prog w A E s₂ elt i1 i2 x y px py scope cl pos env I L n P C news rel h₀ m oI RR J
  intro prog w A E s₂ elt i1 i2 x y px py scope cl pos env I L n P C news rel h₀ m oI RR S J hcell hkind hx hy hxy hs F N r0 hC hI j0 turn hRR
  have hIsz : @LT.lt Nat _ I s₂.heap.objs.size := Heap.lt_size (N (I, oI) (.head _)).1
  refine wpAny_newObj_type (wpAny_newFunctionEnv hcell (by intro y hy; simp at hy) ?_ hkind)
  rintro h₁ hns₁ hsb₁
  dsimp only at hns₁ hsb₁ ⊢
  generalize hH2 : s₂.heap.push { cls := .type "list", dict := none, data := .seq ([] : List Value).toArray } = H2 at hns₁ hsb₁ ⊢
  have hCsz : H2.objs.size = s₂.heap.objs.size + 1 := by rw [← hH2, Heap.size_push]
  have old : ∀ b o, s₂.heap.get? b = some o → h₁.get? b = some o := fun b o e => by
    have := ltN (Heap.lt_size e)
    exact hsb₁.extBut b o (neN (by lia)) (Heap.get?_push_of_some _ (hH2 ▸ Heap.get?_push_of_some _ e))
  have hDget : h₁.get? s₂.heap.objs.size = some (listOf ([] : List Value).toArray 0) := hsb₁.extBut _ _ (neN (by lia)) (Heap.get?_push_of_some _ (hH2 ▸ Heap.get?_push_size _ rfl))
  obtain ⟨oC, hoC, nC⟩ := ns_obj hns₁
  have hLsz : @LT.lt Nat _ L s₂.heap.objs.size := F.ns.lt
  have h0none : ∀ a, s₂.heap.objs.size ≤ a → h₀.get? a = none := fun a ha => Heap.get?_none_of_le (Nat.le_trans F.above (Nat.le_of_lt (Nat.lt_of_lt_of_le hLsz ha)))
  have F₁ : Fr h₀ L h₁ m := F.kept old
  have N₁ : News h₀ L h₁ ((H2.objs.size, oC) :: (s₂.heap.objs.size, listOf ([] : List Value).toArray 0) :: (I, oI) :: news) := fun p hp => by
    rcases List.mem_cons.mp hp with rfl | hp
    · exact ⟨hoC, neN (by lia), h0none H2.objs.size (by rw [hCsz]; exact Nat.le_succ _)⟩
    · rcases List.mem_cons.mp hp with rfl | hp
      · exact ⟨hDget, neN (by lia), h0none _ (Nat.le_refl _)⟩
      · exact ⟨old _ _ (N p hp).1, (N p hp).2⟩
  have hDc : s₂.heap.objs.size ≠ H2.objs.size := neN (by lia)
  have hDI : s₂.heap.objs.size ≠ I := neN (by lia)
  have hcI : H2.objs.size ≠ I := neN (by lia)
  generalize hc : H2.objs.size = c at *
  generalize hD : s₂.heap.objs.size = D at *
  have loop : ∀ s₃ : Shared, s₃ = { s₂ with heap := h₁, toks := s₂.toks + ([] : List (Str × Value)).length } →
      codeAny (model prog w) A (.compLoop (two elt i1 i2 x y px py scope pos) 0 (.ref I) (.ref D) (compEnvC scope cl c env)) (RR (.ref D) c) s₃ := by
    rintro s₃ rfl
    refine loop_out (hs _)
      (fun k s' => ∃ i h tk ys nx oI oC m₂ kD, k = n + 1 - i ∧ i ≤ n ∧ s' = { s₂ with heap := h, toks := tk } ∧ J i ys nx ∧ (∀ p ∈ C, p ∈ nx) ∧ rel i oI ∧ NsO oC m₂ ∧ Fr h₀ L h m ∧
        News h₀ L h ((c, oC) :: (D, listOf ys.toArray kD) :: (I, oI) :: nx) ∧ (∀ p ∈ nx, p.1 ≠ c) ∧ (∀ p ∈ nx, p.1 ≠ D) ∧ (∀ p ∈ nx, p.1 ≠ I)) ?_ (n + 1)
      ⟨0, h₁, _, [], news, oI, oC, _, 0, rfl, Nat.zero_le _, rfl, j0, hC, r0, nC, F₁, N₁, (fun p hp => ?_), (fun p hp => ?_), hI⟩
    · rintro k s' ⟨i, h, tk, ys, nx, oI, oC, m₂, kD, rfl, hi, rfl, hj, hC, r, nO, F, N, o1, o2, o3⟩
      have gC := N (c, oC) (.head _)
      have gD := N (D, listOf ys.toArray kD) (.tail _ (.head _))
      have gI := N (I, oI) (.tail _ (.tail _ (.head _)))
      have Nx : News h₀ L h nx := fun p hp => N p (.tail _ (.tail _ (.tail _ hp)))
      have hCget : ∀ p ∈ C, h.get? p.1 = some p.2 := fun p hp => (Nx p (hC p hp)).1
      by_cases hlt : i < n
      · refine S.item i _ oI _ _ hlt r gI.1 hCget ?_
        rintro v oI' h' tk' hP r' hI' hk
        dsimp only
        have F' := fr_but F hk (Ne.symm gI.2.1) gI.2.2
        have gC' : h'.get? c = some oC := hk _ _ hcI gC.1
        refine wpAny_assign_Name (wpAny_storeName_local (env := compEnvC scope cl c env) (m := m₂) (lookup_relabel_local hx) (nO.ns gC') ?_ (by simp [compEnvC, relabel, hkind]))
        rintro h₂ hn hs
        obtain ⟨oC', hoC', nO'⟩ := ns_obj hn
        have hs' : Heap.SameBut c h' h₂ := hs
        have F₂ : Fr h₀ L h₂ m := F'.change hs' gC.2.1 gC.2.2
        have N₂ : News h₀ L h₂ ((c, oC') :: (D, listOf ys.toArray kD) :: (I, oI') :: nx) := fun p hp => by
          rcases List.mem_cons.mp hp with rfl | hp
          · exact ⟨hoC', gC.2⟩
          · rcases List.mem_cons.mp hp with rfl | hp
            · exact ⟨(hs'.2 _ hDc).trans (hk _ _ hDI gD.1), gD.2⟩
            · rcases List.mem_cons.mp hp with rfl | hp
              · exact ⟨(hs'.2 _ (Ne.symm hcI)).trans hI', gI.2⟩
              · exact ⟨(hs'.2 _ (o1 p hp)).trans (hk _ _ (o3 p hp) (Nx p hp).1), (Nx p hp).2⟩
        refine wpAny_mono (turn i v ys nx oI' oC' D c kD _ h₂ _ _ hlt hP hj hC nO' (by simp) F₂ N₂ (ltN (by lia)) (ltN (by lia)) rfl hCsz o1 o2 o3) ?_ fun _ _ e => e
        rintro z s₃ h₃
        refine wpAny_mono h₃ ?_ fun _ _ e => e
        rintro j ⟨hp4, g4, d4, t4, os4⟩ h₄
        obtain ⟨eg, ed, eo, Jt, oJ, n2, P2, C2, rel2, nx2, K2, rfl, S2, F₄, N₄, rJ, hC2, off2, q1, q2, q3, k0, klen, kend, turn2⟩ := h₄
        have gJ := N₄ (Jt, oJ) (.tail _ (.tail _ (.tail _ (.head _))))
        have hC2get : ∀ p ∈ C2, hp4.get? p.1 = some p.2 := fun p hp => (N₄ p (.tail _ (.tail _ (.tail _ (.tail _ (hC2 p hp)))))).1
        have lp := fun (R : Result → Shared → Prop) hR => inner_loop (R := R) (i1 := i1) (i2 := i2) (px := px) (py := py) (pos := pos) hkind hy hxy K2 S2 F₄ N₄ nO' (v := v) (by simp) rJ hC2 off2 q1 q2 q3 hDc hDI hcI k0 klen turn2 hR
        dsimp only at eg ed eo
        subst eg ed eo
        have fin : ∀ (ys' : List Value) nx' h'' tk'' oC'' k'' m₃, K2 n2 ys' nx' → Fr h₀ L h'' m → NsO oC'' m₃ → News h₀ L h'' ((c, oC'') :: (D, listOf ys'.toArray k'') :: (I, oI') :: nx') → (∀ p ∈ nx', p.1 ≠ c ∧ p.1 ≠ D ∧ p.1 ≠ I) → ∃ m', m' < n + 1 - i ∧ ∃ i h tk ys nx oI oC m₂ kD, m' = n + 1 - i ∧ i ≤ n ∧ (⟨h'', s₂.gens, s₂.drawn, tk'', s₂.os⟩ : Shared) = { s₂ with heap := h, toks := tk } ∧ J i ys nx ∧ (∀ p ∈ C, p ∈ nx) ∧ rel i oI ∧ NsO oC m₂ ∧ Fr h₀ L h m ∧
            News h₀ L h ((c, oC) :: (D, listOf ys.toArray kD) :: (I, oI) :: nx) ∧ (∀ p ∈ nx, p.1 ≠ c) ∧ (∀ p ∈ nx, p.1 ≠ D) ∧ (∀ p ∈ nx, p.1 ≠ I) := fun ys' nx' h'' tk'' oC'' k'' m₃ a1 a2 a3 a4 a5 =>
          ⟨n + 1 - (i + 1), by lia, i + 1, h'', tk'', ys', nx', oI', oC'', m₃, k'', rfl, hlt, rfl, (kend _ _ a1).2, (kend _ _ a1).1, r', a3, a2, a4, fun p hp => (a5 p hp).1, fun p hp => (a5 p hp).2.1, fun p hp => (a5 p hp).2.2⟩
        exact start_in (lp _ fun ys' nx' h'' tk'' oC'' k'' m₃ a1 a2 a3 a4 a5 => fin ys' nx' h'' tk'' oC'' k'' m₃ a1 a2 a3 a4 a5) (S2.self 0 _ oJ _ _ rJ gJ.1 hC2get (lp _ fun ys' nx' h'' tk'' oC'' k'' m₃ a1 a2 a3 a4 a5 => fin ys' nx' h'' tk'' oC'' k'' m₃ a1 a2 a3 a4 a5))
      · have hin : i = n := by lia
        subst hin
        refine S.done _ oI _ _ r gI.1 hCget ?_
        rintro h' tk' hk
        dsimp only
        refine hRR ys nx _ _ oC _ kD h' tk' hj (fr_but F hk (Ne.symm gI.2.1) gI.2.2) nO ?_ (ltN (by lia)) rfl o1 o2 o3
        rintro p hp
        rcases List.mem_cons.mp hp with rfl | hp
        · exact ⟨hk _ _ hcI gC.1, gC.2⟩
        · rcases List.mem_cons.mp hp with rfl | hp
          · exact ⟨hk _ _ hDI gD.1, gD.2⟩
          · exact ⟨hk _ _ (o3 p hp) (Nx p hp).1, (Nx p hp).2⟩
    · have := ltN (Heap.lt_size (N p (.tail _ hp)).1); exact neN (by lia)
    · have := ltN (Heap.lt_size (N p (.tail _ hp)).1); exact neN (by lia)
  have hI₁ : h₁.get? I = some oI := old _ _ (N (I, oI) (.head _)).1
  have hC₁ : ∀ p ∈ C, h₁.get? p.1 = some p.2 := fun p hp => old _ _ (N p (.tail _ (hC p hp))).1
  exact codeAny_compStart_list (loop _ rfl) (S.self 0 _ oI _ _ r0 hI₁ hC₁ (loop _ rfl))
end
end Mine
end
example (h : False) {prog : PySem.Program} {w : PySem.World} {A : PySem.Around} {Q E : PySem.Value → PySem.Shared → Prop} {s : PySem.Shared} {env : PySem.Env} {at0 : PySem.Pos} : PySem.wpAny (PySem.model prog w) A (PySem.eval (.Constant .none 0 at0) env) Q E s := by
  w_top off
  first | (walk1; fail) | exact h.elim
section
open PySem PySem.W PyProof.Rows
set_option maxRecDepth 100000
set_option linter.unusedSectionVars false
namespace Mine
section
variable {prog : Program} {w : World} {A : Around}
theorem comp2_nm {E : Value → Shared → Prop} {s : Shared} {elt i2 : Expr} {x y z : Str} {px py pz : Pos} {scope : Scope} {cl : List (Str × Addr)} {pos : Pos} {env : Env} {L l : Addr} {h₀ : Heap} {m : Str → Option Value} {news : List (Addr × Obj)} {vs : List Value} {k : Nat} {Q : Value → Shared → Prop}
    (J : Nat → List Value → List (Addr × Obj) → Prop) (F : Fr h₀ L s.heap m) (N : News h₀ L s.heap news) (hm : (l, listOf vs.toArray k) ∈ news) (hh : A.handled = none)
    (hc : env.locals = L) (hv : m z = some (.ref l)) (hkf : env.scope.kind = .function) (hz : env.kindOf z = some .local) (hd : (z == ("__debug__" : Str)) = false)
    (hclos : closureFor scope env = pure cl) (hcell : ∀ y ∈ scope.names, y.2 ≠ .cell) (hkind : scope.kind = .function)
    (hnames : ∀ y ∈ scope.names, y.2 = .local → scope.names.lookup y.1 = some .local) (hx : scope.names.lookup x = some .local) (hy : scope.names.lookup y = some .local) (hxy : x ≠ y)
    (hs : ∀ env z, foldedSetIterable i2 env z = pure z) (j0 : J 0 [] news)
    (turn : ∀ i v ys nx I oI oC D c k₁ m₂ h tk E', vs[i]? = some v → J i ys nx → (l, listOf vs.toArray k) ∈ nx → NsO oC m₂ → m₂ x = some v → Fr h₀ L h m → News h₀ L h ((c, oC) :: (D, listOf ys.toArray k₁) :: (I, oI) :: nx) →
      D ≠ c → D ≠ I → c ≠ I → (∀ p ∈ nx, p.1 ≠ c) → (∀ p ∈ nx, p.1 ≠ D) → (∀ p ∈ nx, p.1 ≠ I) →
      wpAny (model prog w) A (eval i2 (compEnvC scope cl c env)) (fun z s₃ => wpAny (model prog w) A (pyIter z) (fun j s₄ => s₄.gens = s.gens ∧ s₄.drawn = s.drawn ∧ s₄.os = s.os ∧ Inner prog w A h₀ L m env scope cl x y elt [(l, listOf vs.toArray k)] I D c oI oC m₂ v ys k₁ (J (i + 1)) j s₄) E' s₃) E' { s with heap := h, toks := tk })
    (done : ∀ ys nx D k h tk, J vs.length ys nx → Fr h₀ L h m → News h₀ L h ((D, listOf ys.toArray k) :: nx) → (∀ p ∈ nx, p.1 ≠ D) → Q (.ref D) { s with heap := h, toks := tk }) :
    wpAny (model prog w) A (eval (two elt (.Name z pz) i2 x y px py scope pos) env) Q E s := by
  rw [eval_ListComp]
  refine wpAny_comprehension_free (use := none) rfl (fun _ => rfl) hclos hkind hnames (nm_fr F hc hv hkf hz hd ?_)
  have hl : s.heap.IsList l vs.toArray := ⟨_, (N _ hm).1, rfl, k, rfl⟩
  have hne : l ≠ s.heap.objs.size := Nat.ne_of_lt (Heap.lt_size (N _ hm).1)
  refine wpAny_pyIter_list hl ?_
  refine comp2_core (RR := fun acc c => compPost (model prog w) A E none Q acc c) (Src.list hh hne vs k) J hcell hkind hx hy hxy hs (F.push _) (push_news F N _) ⟨rfl, rfl⟩ (fun p hp => by rw [List.mem_singleton.mp hp]; exact hm) (news_old N) j0 ?_ ?_
  · intro i v ys nx oI oC D c k₁ m₂ h tk E' hi hP hj hC nO hv2 F' N' lt1 lt2 e1 e2 o1 o2 o3
    exact turn i v ys nx _ oI oC D c k₁ m₂ h tk E' hP hj (hC _ (.head _)) nO hv2 F' N' (Nat.ne_of_lt lt2) (Nat.ne_of_gt lt1) (Nat.ne_of_gt (Nat.lt_trans lt1 lt2)) o1 o2 o3
  · intro ys nx D c oC m₂ k₁ h tk hj F' nO N' hDc eD o1 o2 o3
    refine ⟨m₂, nO.ns (N' _ (.head _)).1, fun h' hs' => ?_⟩
    have gC := N' _ (.head _)
    refine done ys nx D k₁ h' tk hj (F'.change hs' gC.2.1 gC.2.2) (fun p hp => ?_) o2
    rcases List.mem_cons.mp hp with rfl | hp
    · exact ⟨(hs'.2 _ (neN (by lia))).trans (N' _ (.tail _ (.head _))).1, (N' _ (.tail _ (.head _))).2⟩
    · exact ⟨(hs'.2 _ (o1 p hp)).trans (N' _ (.tail _ (.tail _ hp))).1, (N' _ (.tail _ (.tail _ hp))).2⟩
end
end Mine
end
example (h : False) {prog : PySem.Program} {w : PySem.World} {A : PySem.Around} {Q E : PySem.Value → PySem.Shared → Prop} {s : PySem.Shared} {env : PySem.Env} {at0 : PySem.Pos} : PySem.wpAny (PySem.model prog w) A (PySem.eval (.Constant .none 0 at0) env) Q E s := by
  w_top off
  first | (walk1; fail) | exact h.elim
section
open PySem PySem.W PyProof.Rows PySem.Calls Mine
local macro_rules | `(tactic| k_all) => `(tactic| first | assumption | exact ne_mx (by lia))
local macro_rules | `(tactic| k_lt $h) => `(tactic| (replace $h := allLt_of $h; simp only [AllLt, and_true] at $h:ident; (try simp only [allLt_mx] at $h:ident)))
local macro_rules | `(tactic| walk_at "getMethod ref") => `(tactic| (k_here; (with_reducible show wpAny _ _ (getMethod (Value.ref _) (PySem.Str.ofString "get") _) _ _ _); k_dflt (refine' kdg_method (knd := PySem.strKind _ _) ?N ?p ?d ?_; (case N => k_asm); (case p => k_mem); (case d => k_asm); k_whole)))
local macro_rules | `(tactic| walk_at "call builtin:dict.get") => `(tactic| (k_here; k_dflt (refine' kdg_get1 (knd := PySem.strKind _ _) ?N ?p ?d ?lo (strKind_is _ _ _ _) _ ?hl ?_; (case N => k_asm); (case p => k_mem); (case d => k_asm); (case lo => k_asm); (case hl => k_asm); k_whole); (try dsimp only [Option.getD])))
local macro_rules | `(tactic| walk_at "setItem ref str") => `(tactic| (k_here; k_dflt (refine' kda_set (knd := PySem.strKind _ _) ?F ?N ?U ?d (strKind_is _ _ _ _) ?z ?_; (case F => k_asm); (case N => k_asm); (case U => k_updF); (case d => k_asm); (case z => assumption)); intro h' o' F' N' hd'; (try dsimp only at N'); (try k_sweep)))
local macro_rules | `(tactic| k_ne) => `(tactic| first | assumption | exact Ne.symm (by assumption))
local macro_rules | `(tactic| walk_at "call builtin:len") => `(tactic| (k_here; (with_reducible show wpAny _ _ (call (Value.builtin "len") [Value.ref _]) _ _ _); k_dflt (refine' kun_lenT ?k1 rfl ?k3 ?_; (case k1 => exact News.isTup (by k_asm) (by k_mem)); (case k3 => (rw [List.size_toArray]; lia)); k_whole)))
local macro_rules | `(tactic| walk_at "call builtin:list.append") => `(tactic| (k_here; (with_reducible show wpAny _ _ (call (Value.builtin _) [Value.ref _, _]) _ _ _); k_dflt (refine' append_K ?k1 ?k2 ?k3 ?_ ?z; (case k1 => k_asm); (case k2 => k_asm); (case k3 => k_upd); (case z => (rw [sizeLine_eq, List.size_toArray]; lia)); k_whole); intro h' F' N'; (try k_sweep)))
local macro_rules | `(tactic| k_room) => `(tactic| ktr_room)
local macro_rules | `(tactic| k_enter) => `(tactic| (refine' code_def ?k1 ?k2 ?k3 ?k4 ?k5 ?kA ?kF ?kK ?k6 ?k7 ?k8 ?k9 ?kB ?_ ?c2 ?c3 ?c4 ?c5; (case kA => exact rfl); (case kF => exact rfl); (case kK => first | assumption | exact rfl); (case k1 => k_asm); (case k2 => k_asm); (case k3 => k_asm); (case k4 => k_asm); (case k5 => k_asm); (case k6 => k_is); (case k7 => k_is); (case k8 => ktr_room); (case k9 => first | exact BindsTo.of_eq rfl | exact binds_K (by k_in) rfl (by k_is) rfl rfl rfl | fail "k_enter: no rule for these arguments"); (case c5 => decide); (case kB => exact locs rfl); (case c2 => exact rfl); (case c3 => exact rfl); (case c4 => exact rfl); k_whole; intro g' L' h' FG' F' N' B' X' T'; (try dsimp only)))
local macro_rules | `(tactic| k_units) => `(tactic| ktr_units)
example (h : False) {prog : PySem.Program} {w : PySem.World} {A : PySem.Around} {Q E : PySem.Value → PySem.Shared → Prop} {s : PySem.Shared} {env : PySem.Env} {at0 : PySem.Pos} : PySem.wpAny (PySem.model prog w) A (PySem.eval (.Constant .none 0 at0) env) Q E s := by
  w_top off
  first | (walk1; fail) | exact h.elim
section
open PySem PySem.W PyProof.Rows PySem.Calls
set_option maxRecDepth 100000
set_option linter.unusedSectionVars false
namespace Mine
theorem fillG1 : PySem.Challenge.rw_ik0212_01 = PySem.Challenge.rw_ik0212_01 ∧ mkK.heap_1 = mkK.heap_1 := by
  k_fill
  exact ⟨rfl, rfl⟩
section
variable {prog : Program} {w : World} {dp un : Nat} {gd : Option (List Code)} {cn : Str} {cs : Scope} {a : Addr} {ccd : Value} {cl : List (Str × Addr)} {outer : List Env} {A₀ : Around} {base h₀ : Heap} {L : Addr} {m : Str → Option Value} {news : List (Addr × Obj)} {s : Shared} {Q E : Value → Shared → Prop} {p : Program} {loose : List Str} {mean : ExcName → Option Value} {mg mb : Str → Option Value}
variable (B : Below A₀ base outer h₀) (F : Fr h₀ L s.heap m) (X : (mkK.heap_1 w.params).In h₀) (N : News h₀ L s.heap news) (T : Top p loose mean mg mb h₀) (hk : cs.kind = .function) (hd' : dp ≤ 700) (hu : un ≤ 100)
include B F X N T hk hd' hu
theorem x0 : True := trivial
end
noncomputable def ndO (dd : Addr) (x : Str) (t : Tok) (np : Int) (t2 : Tok) (Ls : Addr) : Obj := { cls := .ref 274, dict := some dd, slots := #[some (.str x t), some (.int np t2), some (.ref Ls)] }
noncomputable def sortD (H1 H2 H3 H4 : Int) (k1 k2 k3 k4 : Tok) (N2 : Addr) (rd : Value) (po : Int) (tp : Tok) (nf : Int) (tf : Tok) : List DictEntry :=
  [⟨H1, .str (Str.ofString "_node2info") k1, .ref N2⟩, ⟨H2, .str (Str.ofString "_ready_nodes") k2, rd⟩, ⟨H3, .str (Str.ofString "_npassedout") k3, .int po tp⟩, ⟨H4, .str (Str.ofString "_nfinished") k4, .int nf tf⟩]
section
variable {prog : Program} {w : World} {dp un : Nat} {gd : Option (List Code)} {cn : Str} {cs : Scope} {a : Addr} {ccd : Value} {cl : List (Str × Addr)} {outer : List Env} {A₀ : Around} {base h₀ : Heap} {L : Addr} {m : Str → Option Value} {s : Shared} {Q E : Value → Shared → Prop} {p : Program} {loose : List Str} {mean : ExcName → Option Value} {mg mb : Str → Option Value}
variable {H1 H2 H3 H4 : Int} {k1 k2 k3 k4 tp tf : Tok} {S D N2 : Addr} {rd : Value} {po nf : Int} {rest : List (Addr × Obj)} {oN : Obj} {kvs : List (Str × Value)}
variable (B : Below A₀ base outer h₀) (F : Fr h₀ L s.heap m) (X : (mkK.heap_1 w.params).In h₀) (N : News h₀ L s.heap ((S, instObj 371 D) :: (D, dictOf (sortD H1 H2 H3 H4 k1 k2 k3 k4 N2 rd po tp nf tf) 4) :: (N2, oN) :: rest)) (T : Top p loose mean mg mb h₀) (hk : cs.kind = .function) (hd' : dp ≤ 700) (hu : un ≤ 100)
  (hSD : S ≠ D) (hSN : S ≠ N2) (hDN : D ≠ N2) (hSr : ∀ p ∈ rest, p.1 ≠ S) (hDr : ∀ p ∈ rest, p.1 ≠ D) (hNr : ∀ p ∈ rest, p.1 ≠ N2) (hoN : oN.IsDictOf (PySem.strKind prog w) kvs) (lo : (N2 == sysModules) = false)
include B F X N T hk hd' hu hSD hSN hDN hSr hDr hNr hoN lo
set_option maxHeartbeats 4000000 in
theorem gni_hit {x : Str} {t : Tok} {I : Addr} (hl : valueAt kvs x = some (.ref I)) (hret : ∀ h' tk, Fr h₀ L h' m → News h₀ L h' ((S, instObj 371 D) :: (D, dictOf (sortD H1 H2 H3 H4 k1 k2 k3 k4 N2 rd po tp nf tf) 4) :: (N2, oN) :: rest) → Q (.ref I) ⟨h', s.gens, s.drawn, tk, s.os⟩) :
  wpAny (model prog w) (ktrTop dp un gd cn cs L a ccd cl outer) (call (.ref 314) [.ref S, .str x t]) Q E s := by
  generalize Mine.clo = hCl
  revert prog w dp un gd cn cs a ccd cl outer A₀ base h₀ L m s Q E p loose mean mg mb H1 H2 H3 H4 k1 k2 k3 k4 tp tf S D N2 rd po nf rest oN kvs x t I
  intro prog w dp un gd cn cs a ccd cl outer A₀ base h₀ L m s Q E p loose mean mg mb H1 H2 H3 H4 k1 k2 k3 k4 tp tf S D N2 rd po nf rest oN kvs B F X N T hk hd' hu hSD hSN hDN hSr hDr hNr hoN lo x t I hl hret
  unfold sortD at N hret
  refine wpAny_call ?_; k_dflt ktr_enter
  (repeat (first | (k_unfold; (try dsimp only)) | walk1 | (dsimp only; walk1)))
  exact hret _ _ (by k_asm) (by k_asm)
set_option maxHeartbeats 4000000 in
theorem gni_miss {x : Str} {t : Tok} (hz : kvs.length ≤ sizeLine) (hl : valueAt kvs x = none)
  (hret : ∀ I dd Ls o' t2 h' tk, Fr h₀ L h' m → News h₀ L h' ((Ls, W.listOf #[] 0) :: (I, ndO dd x t 0 t2 Ls) :: (dd, dictOf [] 0) :: (S, instObj 371 D) :: (D, dictOf (sortD H1 H2 H3 H4 k1 k2 k3 k4 N2 rd po tp nf tf) 4) :: (N2, o') :: rest) → o'.IsDictOf (PySem.strKind prog w) (stored kvs x (.ref I)) →
    @LT.lt Nat _ S dd → @LT.lt Nat _ D dd → @LT.lt Nat _ N2 dd → mx rest ≤ dd → @LT.lt Nat _ dd I → @LT.lt Nat _ I Ls → Q (.ref I) ⟨h', s.gens, s.drawn, tk, s.os⟩) :
  wpAny (model prog w) (ktrTop dp un gd cn cs L a ccd cl outer) (call (.ref 314) [.ref S, .str x t]) Q E s := by
  generalize Mine.clo = hCl
  revert prog w dp un gd cn cs a ccd cl outer A₀ base h₀ L m s Q E p loose mean mg mb H1 H2 H3 H4 k1 k2 k3 k4 tp tf S D N2 rd po nf rest oN kvs x t
  intro prog w dp un gd cn cs a ccd cl outer A₀ base h₀ L m s Q E p loose mean mg mb H1 H2 H3 H4 k1 k2 k3 k4 tp tf S D N2 rd po nf rest oN kvs B F X N T hk hd' hu hSD hSN hDN hSr hDr hNr hoN lo x t hz hl hret
  unfold sortD at N hret
  unfold ndO at hret
  refine wpAny_call ?_; k_dflt ktr_enter
  (repeat (first | (k_unfold; (try dsimp only)) | walk1 | (dsimp only; walk1)))
  exact hret _ _ _ _ _ _ _ (by k_asm) (by k_asm) (by k_asm) (by lia) (by lia) (by lia) (by lia) (by lia) (by lia)
end
end Mine
end
example (h : False) {prog : PySem.Program} {w : PySem.World} {A : PySem.Around} {Q E : PySem.Value → PySem.Shared → Prop} {s : PySem.Shared} {env : PySem.Env} {at0 : PySem.Pos} : PySem.wpAny (PySem.model prog w) A (PySem.eval (.Constant .none 0 at0) env) Q E s := by
  w_top off
  first | (walk1; fail) | exact h.elim
section
open PySem PySem.W PyProof.Rows PySem.Calls
set_option maxRecDepth 100000
set_option linter.unusedSectionVars false
namespace Mine
/-- a node of the sorter -/
structure Nd where
  nm : Str
  t : Tok
  I : Addr
  dd : Addr
  Ls : Addr
  np : Int
  t2 : Tok
  su : List Value
  ep : Nat
noncomputable def sof : Value → Str
  | .str x _ => x
  | _ => ""
noncomputable def Nd.o (d : Nd) : Obj := ndO d.dd d.nm d.t d.np d.t2 d.Ls
noncomputable def Nd.es (d : Nd) : List (Addr × Obj) := [(d.Ls, W.listOf d.su.toArray d.ep), (d.I, d.o), (d.dd, dictOf [] 0)]
noncomputable def Nd.ad (d : Nd) : List Addr := [d.Ls, d.I, d.dd]
/-- what a node says -/
noncomputable def Nd.v (d : Nd) : Str × Int × List Str := (d.nm, d.np, d.su.map sof)
noncomputable abbrev View := List (Str × Int × List Str)
noncomputable def grL (nds : List Nd) : List (Addr × Obj) := nds.flatMap Nd.es
noncomputable def adrs (S D N2 : Addr) (nds : List Nd) : List Addr := S :: D :: N2 :: nds.flatMap Nd.ad
structure GOk (prog : Program) (w : World) (S D N2 : Addr) (nds : List Nd) (oN : Obj) (rest : List (Addr × Obj)) : Prop where
  dict : oN.IsDictOf (PySem.strKind prog w) (nds.map fun d => (d.nm, Value.ref d.I))
  lo : (N2 == sysModules) = false
  names : (nds.map Nd.nm).Nodup
  nodup : (adrs S D N2 nds).Nodup
  apart : ∀ p ∈ rest, p.1 ∉ adrs S D N2 nds
  txt : ∀ d ∈ nds, ∀ v ∈ d.su, ∃ x t, v = .str x t
noncomputable def insV (v : View) (x : Str) : View := if x ∈ v.map (·.1) then v else v ++ [(x, 0, [])]
theorem view_nm (nds : List Nd) : (nds.map Nd.v).map (·.1) = nds.map Nd.nm := by rw [List.map_map]; rfl
theorem es_ad (d : Nd) : d.es.map (·.1) = d.ad := rfl
theorem grL_ad (nds : List Nd) : (grL nds).map (·.1) = nds.flatMap Nd.ad := by
  unfold grL
  induction nds with
  | nil => rfl
  | cons d r ih => rw [List.flatMap_cons, List.flatMap_cons, List.map_append, ih, es_ad]
theorem valueAt_map {nds : List Nd} (hn : (nds.map Nd.nm).Nodup) {d : Nd} (hd : d ∈ nds) : valueAt (nds.map fun d => (d.nm, Value.ref d.I)) d.nm = some (.ref d.I) := by
  induction nds with
  | nil => cases hd
  | cons e r ih =>
    unfold valueAt at ih ⊢
    rw [List.map_cons, List.find?_cons]
    rw [List.map_cons, List.nodup_cons] at hn
    rcases List.mem_cons.mp hd with rfl | hd
    · simp
    · have : e.nm ≠ d.nm := fun q => hn.1 (q ▸ List.mem_map_of_mem hd)
      simp only [this, decide_false]
      exact ih hn.2 hd
theorem valueAt_none {nds : List Nd} {x : Str} (h : x ∉ nds.map Nd.nm) : valueAt (nds.map fun d => (d.nm, Value.ref d.I)) x = none := by
  unfold valueAt
  rw [Option.map_eq_none_iff, List.find?_eq_none]
  intro p hp
  obtain ⟨d, hd, rfl⟩ := List.mem_map.mp hp
  simp only [decide_eq_true_eq]
  exact fun q => h (q ▸ List.mem_map_of_mem hd)
theorem stored_new {nds : List Nd} {x : Str} {v : Value} (h : x ∉ nds.map Nd.nm) : stored (nds.map fun d => (d.nm, Value.ref d.I)) x v = (nds.map fun d => (d.nm, Value.ref d.I)) ++ [(x, v)] := by
  unfold stored
  rw [if_neg]
  simp only [List.any_map, List.any_eq_true, Function.comp_apply, decide_eq_true_eq]
  rintro ⟨d, hd, q⟩
  exact h (q ▸ List.mem_map_of_mem hd)
noncomputable abbrev lam (S D N2 : Addr) (ents : List DictEntry) (oN : Obj) (nds : List Nd) (rest : List (Addr × Obj)) : List (Addr × Obj) := (S, instObj 371 D) :: (D, dictOf ents 4) :: (N2, oN) :: (grL nds ++ rest)
theorem GOk.ne {prog : Program} {w : World} {S D N2 : Addr} {nds : List Nd} {oN : Obj} {rest : List (Addr × Obj)} (G : GOk prog w S D N2 nds oN rest) : S ≠ D ∧ S ≠ N2 ∧ D ≠ N2 ∧ (∀ p ∈ grL nds ++ rest, p.1 ≠ S) ∧ (∀ p ∈ grL nds ++ rest, p.1 ≠ D) ∧ (∀ p ∈ grL nds ++ rest, p.1 ≠ N2) := by
  have h := G.nodup
  unfold adrs at h
  simp only [List.nodup_cons, List.mem_cons, not_or] at h
  obtain ⟨⟨a1, a2, a3⟩, ⟨b1, b2⟩, c1, _⟩ := h
  have gm : ∀ p ∈ grL nds, p.1 ∈ nds.flatMap Nd.ad := fun p hp => grL_ad nds ▸ List.mem_map_of_mem hp
  have ra : ∀ p ∈ rest, p.1 ≠ S ∧ p.1 ≠ D ∧ p.1 ≠ N2 := fun p hp => by
    have := G.apart p hp
    unfold adrs at this
    simp only [List.mem_cons, not_or] at this
    exact ⟨this.1, this.2.1, this.2.2.1⟩
  refine ⟨a1, a2, b1, fun p hp => ?_, fun p hp => ?_, fun p hp => ?_⟩
  · rcases List.mem_append.mp hp with hp | hp
    · exact fun q => a3 (q ▸ gm p hp)
    · exact (ra p hp).1
  · rcases List.mem_append.mp hp with hp | hp
    · exact fun q => b2 (q ▸ gm p hp)
    · exact (ra p hp).2.1
  · rcases List.mem_append.mp hp with hp | hp
    · exact fun q => c1 (q ▸ gm p hp)
    · exact (ra p hp).2.2
theorem mx_app (l r : List (Addr × Obj)) : mx (l ++ r) = max (mx l) (mx r) := by
  induction l with
  | nil => simp [mx]
  | cons p l ih =>
    show max (p.1 + 1) (mx (l ++ r)) = max (max (p.1 + 1) (mx l)) (mx r)
    rw [ih]
    exact (Nat.max_assoc _ _ _).symm
theorem insV_hit {v : View} {x : Str} (h : x ∈ v.map (·.1)) : insV v x = v := if_pos h
theorem insV_new {v : View} {x : Str} (h : x ∉ v.map (·.1)) : insV v x = v ++ [(x, 0, [])] := if_neg h
section
variable {prog : Program} {w : World} {S D N2 : Addr} {nds : List Nd} {oN oN' : Obj} {rest : List (Addr × Obj)}
theorem GOk.new (G : GOk prog w S D N2 nds oN rest) {d : Nd} (hx : d.nm ∉ nds.map Nd.nm) (hd : oN'.IsDictOf (PySem.strKind prog w) (stored (nds.map fun d => (d.nm, Value.ref d.I)) d.nm (.ref d.I)))
    (h1 : @LT.lt Nat _ S d.dd) (h2 : @LT.lt Nat _ D d.dd) (h3 : @LT.lt Nat _ N2 d.dd) (h4 : mx (grL nds ++ rest) ≤ d.dd) (h5 : @LT.lt Nat _ d.dd d.I) (h6 : @LT.lt Nat _ d.I d.Ls) (hsu : d.su = []) : GOk prog w S D N2 (nds ++ [d]) oN' rest where
  dict := by rw [stored_new hx] at hd; rw [List.map_append]; exact hd
  lo := G.lo
  names := by
    rw [List.map_append, List.nodup_append]
    exact ⟨G.names, by simp, fun a ha b hb q => by rw [List.map_singleton, List.mem_singleton] at hb; exact hx (hb ▸ q ▸ ha)⟩
  nodup := by
    have h := G.nodup
    have lt : ∀ a ∈ adrs S D N2 nds, @LT.lt Nat _ a d.dd := fun a ha => by
      unfold adrs at ha
      simp only [List.mem_cons] at ha
      rcases ha with rfl | rfl | rfl | ha
      · exact h1
      · exact h2
      · exact h3
      · rw [← grL_ad] at ha
        obtain ⟨p, hp, rfl⟩ := List.mem_map.mp ha
        exact mx_le.mp h4 p (List.mem_append_left _ hp)
    have e : adrs S D N2 (nds ++ [d]) = adrs S D N2 nds ++ d.ad := by unfold adrs; simp [List.flatMap_append]
    rw [e, List.nodup_append]
    refine ⟨h, ?_, fun a ha b hb q => ?_⟩
    · unfold Nd.ad
      simp only [List.nodup_cons, List.mem_cons, List.not_mem_nil, or_false, not_or, not_false_eq_true, List.nodup_nil, and_true]
      exact ⟨⟨Nat.ne_of_gt h6, Nat.ne_of_gt (Nat.lt_trans h5 h6)⟩, Nat.ne_of_gt h5⟩
    · have l := lt a ha
      unfold Nd.ad at hb
      simp only [List.mem_cons, List.not_mem_nil, or_false] at hb
      subst q
      rcases hb with rfl | rfl | rfl
      · exact Nat.lt_asymm l (Nat.lt_trans h5 h6)
      · exact Nat.lt_asymm l h5
      · exact Nat.lt_irrefl _ l
  apart := fun p hp => by
    have l := mx_le.mp h4 p (List.mem_append_right _ hp)
    have := G.apart p hp
    unfold adrs at this ⊢
    simp only [List.mem_cons, not_or, List.flatMap_append, List.mem_append, List.flatMap_cons, List.flatMap_nil, List.append_nil] at this ⊢
    refine ⟨this.1, this.2.1, this.2.2.1, this.2.2.2, ?_⟩
    unfold Nd.ad
    simp only [List.mem_cons, List.not_mem_nil, or_false, not_or]
    exact ⟨Nat.ne_of_lt (Nat.lt_trans l (Nat.lt_trans h5 h6)), Nat.ne_of_lt (Nat.lt_trans l h5), Nat.ne_of_lt l⟩
  txt := fun e he v hv => by
    rcases List.mem_append.mp he with he | he
    · exact G.txt e he v hv
    · rw [List.mem_singleton] at he
      subst he
      rw [hsu] at hv
      cases hv
end
section
variable {prog : Program} {w : World} {S D N2 : Addr} {nds : List Nd} {oN oN' : Obj} {rest : List (Addr × Obj)}
theorem GOk.more (G : GOk prog w S D N2 nds oN rest) {q : Addr × Obj} (h1 : @LT.lt Nat _ S q.1) (h2 : @LT.lt Nat _ D q.1) (h3 : @LT.lt Nat _ N2 q.1) (h4 : mx (grL nds) ≤ q.1) : GOk prog w S D N2 nds oN (q :: rest) where
  dict := G.dict
  lo := G.lo
  names := G.names
  nodup := G.nodup
  apart := fun p hp => by
    rcases List.mem_cons.mp hp with rfl | hp
    · unfold adrs
      simp only [List.mem_cons, not_or]
      refine ⟨Nat.ne_of_gt h1, Nat.ne_of_gt h2, Nat.ne_of_gt h3, fun ha => ?_⟩
      rw [← grL_ad] at ha
      obtain ⟨q, hq, e⟩ := List.mem_map.mp ha
      exact Nat.lt_irrefl _ (e ▸ mx_le.mp h4 q hq)
    · exact G.apart p hp
  txt := G.txt
theorem GOk.moreN {ents : List DictEntry} (G : GOk prog w S D N2 nds oN rest) {q : Addr × Obj} (h : ∀ p ∈ lam S D N2 ents oN nds rest, p.1 ≠ q.1) : GOk prog w S D N2 nds oN (q :: rest) where
  dict := G.dict
  lo := G.lo
  names := G.names
  nodup := G.nodup
  apart := fun p hp => by
    rcases List.mem_cons.mp hp with rfl | hp
    · unfold adrs
      simp only [List.mem_cons, not_or]
      refine ⟨fun e => h (S, instObj 371 D) (.head _) e.symm, fun e => h (D, dictOf ents 4) (.tail _ (.head _)) e.symm, fun e => h (N2, oN) (.tail _ (.tail _ (.head _))) e.symm, fun ha => ?_⟩
      rw [← grL_ad] at ha
      obtain ⟨q, hq, e⟩ := List.mem_map.mp ha
      exact h q (.tail _ (.tail _ (.tail _ (List.mem_append_left _ hq)))) e
    · exact G.apart p hp
  txt := G.txt
theorem GOk.notQ {ents : List DictEntry} {rest' : List (Addr × Obj)} {q : Addr × Obj} (G : GOk prog w S D N2 nds oN rest) (hq : q ∈ rest) (hr : ∀ p ∈ rest', p.1 ≠ q.1) : ∀ p ∈ lam S D N2 ents oN nds rest', p.1 ≠ q.1 := fun p hp e => by
  have := G.apart q hq
  rw [← e] at this
  unfold adrs at this
  simp only [List.mem_cons, not_or] at this
  simp only [lam, List.mem_cons, List.mem_append] at hp
  rcases hp with rfl | rfl | rfl | hp | hp
  · exact this.1 rfl
  · exact this.2.1 rfl
  · exact this.2.2.1 rfl
  · exact this.2.2.2 (grL_ad nds ▸ List.mem_map_of_mem hp)
  · exact hr p hp e
theorem GOk.sub {rest' : List (Addr × Obj)} (G : GOk prog w S D N2 nds oN rest) (h : ∀ p ∈ rest', p ∈ rest) : GOk prog w S D N2 nds oN rest' := { G with apart := fun p hp => G.apart p (h p hp) }
/-- one node laid bare -/
structure Bare (S D N2 I dd Ls : Addr) (more : List (Addr × Obj)) : Prop where
  a1 : I ≠ Ls
  a2 : I ≠ dd
  a3 : Ls ≠ dd
  b1 : S ≠ I
  b2 : S ≠ dd
  b3 : S ≠ Ls
  c1 : D ≠ I
  c2 : D ≠ dd
  c3 : D ≠ Ls
  d1 : N2 ≠ I
  d2 : N2 ≠ dd
  d3 : N2 ≠ Ls
  e1 : S ≠ D
  e2 : S ≠ N2
  e3 : D ≠ N2
  mI : ∀ p ∈ more, p.1 ≠ I
  md : ∀ p ∈ more, p.1 ≠ dd
  mL : ∀ p ∈ more, p.1 ≠ Ls
  mS : ∀ p ∈ more, p.1 ≠ S
  mD : ∀ p ∈ more, p.1 ≠ D
  mN : ∀ p ∈ more, p.1 ≠ N2
theorem GOk.bare {pre post : List Nd} {d : Nd} (G : GOk prog w S D N2 (pre ++ d :: post) oN rest) : Bare S D N2 d.I d.dd d.Ls (grL pre ++ grL post ++ rest) := by
  generalize Mine.clo = hCl
  revert prog w S D N2 oN rest pre post d
  intro prog w S D N2 oN rest pre post d G
  have h := G.nodup
  have hp : (adrs S D N2 (pre ++ d :: post)).Perm (d.ad ++ (S :: D :: N2 :: (pre ++ post).flatMap Nd.ad)) := by
    unfold adrs
    simp only [List.flatMap_append, List.flatMap_cons]
    refine List.Perm.trans ?_ (List.perm_append_comm (l₁ := S :: D :: N2 :: (pre.flatMap Nd.ad ++ post.flatMap Nd.ad)))
    simp only [List.cons_append]
    refine .cons _ (.cons _ (.cons _ ?_))
    rw [List.append_assoc]
    exact List.Perm.append_left _ List.perm_append_comm
  rw [hp.nodup_iff] at h
  simp only [Nd.ad, List.cons_append, List.nil_append, List.nodup_cons, List.mem_cons, not_or, List.flatMap_append, List.mem_append] at h
  obtain ⟨⟨x1, x2, x3, x4, x5, x6, x7⟩, ⟨y1, y2, y3, y4, y5, y6⟩, ⟨z1, z2, z3, z4, z5⟩, ⟨u1, u2, u3, u4⟩, ⟨v1, v2, v3⟩, ⟨w1, w2⟩, _⟩ := h
  have key : ∀ b, b ∈ adrs S D N2 (pre ++ d :: post) → (b ∉ pre.flatMap Nd.ad ∧ b ∉ post.flatMap Nd.ad) → ∀ p ∈ grL pre ++ grL post ++ rest, p.1 ≠ b := fun b hb hn p hp q => by
    rcases List.mem_append.mp hp with hp | hp
    · rcases List.mem_append.mp hp with hp | hp
      · exact hn.1 (q ▸ grL_ad pre ▸ List.mem_map_of_mem hp)
      · exact hn.2 (q ▸ grL_ad post ▸ List.mem_map_of_mem hp)
    · exact G.apart p hp (q ▸ hb)
  have mem : ∀ b, b ∈ d.ad ++ (S :: D :: N2 :: (pre ++ post).flatMap Nd.ad) → b ∈ adrs S D N2 (pre ++ d :: post) := fun b hb => hp.mem_iff.mpr hb
  refine ⟨Ne.symm x1, y1, x2, Ne.symm y2, Ne.symm z1, Ne.symm x3, Ne.symm y3, Ne.symm z2, Ne.symm x4, Ne.symm y4, Ne.symm z3, Ne.symm x5, u1, u2, v1,
    key _ (mem _ (by simp [Nd.ad])) (by simp_all), key _ (mem _ (by simp [Nd.ad])) (by simp_all), key _ (mem _ (by simp [Nd.ad])) (by simp_all), key _ (mem _ (by simp)) (by simp_all), key _ (mem _ (by simp)) (by simp_all), key _ (mem _ (by simp)) (by simp_all)⟩
noncomputable abbrev bareL (S D N2 : Addr) (ents : List DictEntry) (oN : Obj) (pre : List Nd) (d : Nd) (post : List Nd) (rest : List (Addr × Obj)) : List (Addr × Obj) :=
  (d.I, d.o) :: (d.dd, dictOf [] 0) :: (d.Ls, W.listOf d.su.toArray d.ep) :: (S, instObj 371 D) :: (D, dictOf ents 4) :: (N2, oN) :: (grL pre ++ grL post ++ rest)
theorem lam_bare {ents : List DictEntry} {pre post : List Nd} {d : Nd} {p : Addr × Obj} : p ∈ bareL S D N2 ents oN pre d post rest ↔ p ∈ lam S D N2 ents oN (pre ++ d :: post) rest := by
  simp only [lam, bareL, grL, List.mem_cons, List.mem_append, List.flatMap_append, List.flatMap_cons, Nd.es, List.not_mem_nil, or_false]
  constructor
  · rintro (h | h | h | h | h | h | (h | h) | h)
    · exact .inr (.inr (.inr (.inl (.inr (.inl (.inr (.inl h)))))))
    · exact .inr (.inr (.inr (.inl (.inr (.inl (.inr (.inr h)))))))
    · exact .inr (.inr (.inr (.inl (.inr (.inl (.inl h))))))
    · exact .inl h
    · exact .inr (.inl h)
    · exact .inr (.inr (.inl h))
    · exact .inr (.inr (.inr (.inl (.inl h))))
    · exact .inr (.inr (.inr (.inl (.inr (.inr h)))))
    · exact .inr (.inr (.inr (.inr h)))
  · rintro (h | h | h | (h | (h | h | h) | h) | h)
    · exact .inr (.inr (.inr (.inl h)))
    · exact .inr (.inr (.inr (.inr (.inl h))))
    · exact .inr (.inr (.inr (.inr (.inr (.inl h)))))
    · exact .inr (.inr (.inr (.inr (.inr (.inr (.inl (.inl h)))))))
    · exact .inr (.inr (.inl h))
    · exact .inl h
    · exact .inr (.inl h)
    · exact .inr (.inr (.inr (.inr (.inr (.inr (.inl (.inr h)))))))
    · exact .inr (.inr (.inr (.inr (.inr (.inr (.inr h))))))
theorem lam_tail {ents : List DictEntry} {nds : List Nd} {q p : Addr × Obj} : p ∈ lam S D N2 ents oN nds (q :: rest) ↔ p ∈ q :: lam S D N2 ents oN nds rest := by
  simp only [lam, List.mem_cons, List.mem_append]
  constructor
  · rintro (h | h | h | h | h | h)
    · exact .inr (.inl h)
    · exact .inr (.inr (.inl h))
    · exact .inr (.inr (.inr (.inl h)))
    · exact .inr (.inr (.inr (.inr (.inl h))))
    · exact .inl h
    · exact .inr (.inr (.inr (.inr (.inr h))))
  · rintro (h | h | h | h | h | h)
    · exact .inr (.inr (.inr (.inr (.inl h))))
    · exact .inl h
    · exact .inr (.inl h)
    · exact .inr (.inr (.inl h))
    · exact .inr (.inr (.inr (.inl h)))
    · exact .inr (.inr (.inr (.inr (.inr h))))
/-- a node says something else -/
theorem GOk.put {pre post : List Nd} {d d' : Nd} (G : GOk prog w S D N2 (pre ++ d :: post) oN rest) (h1 : d'.nm = d.nm) (h2 : d'.ad = d.ad) (h3 : d'.I = d.I) (h4 : ∀ v ∈ d'.su, ∃ x t, v = .str x t) : GOk prog w S D N2 (pre ++ d' :: post) oN rest := by
  have ea : adrs S D N2 (pre ++ d' :: post) = adrs S D N2 (pre ++ d :: post) := by unfold adrs; simp [h2]
  refine ⟨?_, G.lo, ?_, by rw [ea]; exact G.nodup, fun p hp => by rw [ea]; exact G.apart p hp, fun e he v hv => ?_⟩
  · have := G.dict
    simp only [List.map_append, List.map_cons, h1, h3] at this ⊢
    exact this
  · have := G.names
    simp only [List.map_append, List.map_cons, h1] at this ⊢
    exact this
  · rcases List.mem_append.mp he with he | he
    · exact G.txt e (List.mem_append_left _ he) v hv
    · rcases List.mem_cons.mp he with rfl | he
      · exact h4 v hv
      · exact G.txt e (List.mem_append_right _ (.tail _ he)) v hv
end
/-- the sorter is told: pr before x -/
noncomputable def npV (v : View) (x : Str) (k : Nat) : View := v.map fun e => if e.1 = x then (e.1, e.2.1 + k, e.2.2) else e
noncomputable def suV (v : View) (y x : Str) : View := v.map fun e => if e.1 = y then (e.1, e.2.1, e.2.2 ++ [x]) else e
noncomputable def addV (v : View) (x : Str) (pr : List Str) : View := pr.foldl (fun v y => suV (insV v y) y x) (npV (insV v x) x pr.length)
theorem at_one {nds pre post : List Nd} {d d' : Nd} {f : Str × Int × List Str → Str × Int × List Str} (hn : ((pre ++ d :: post).map Nd.nm).Nodup) (hd : f d.v = d'.v) :
    ((pre ++ d :: post).map Nd.v).map (fun e => if e.1 = d.nm then f e else e) = (pre ++ d' :: post).map Nd.v := by
  simp only [List.map_append, List.map_cons, List.nodup_append, List.nodup_cons] at hn ⊢
  obtain ⟨_, ⟨h2, _⟩, h3⟩ := hn
  have e1 : (pre.map Nd.v).map (fun e => if e.1 = d.nm then f e else e) = pre.map Nd.v := by
    rw [List.map_map]
    refine List.map_congr_left ?_
    rintro e he
    show (if e.nm = d.nm then _ else _) = _
    rw [if_neg (show ¬ e.nm = d.nm from fun q => h3 e.nm (List.mem_map_of_mem he) d.nm (.head _) q)]
  have e2 : (post.map Nd.v).map (fun e => if e.1 = d.nm then f e else e) = post.map Nd.v := by
    rw [List.map_map]
    refine List.map_congr_left ?_
    rintro e he
    show (if e.nm = d.nm then _ else _) = _
    rw [if_neg (show ¬ e.nm = d.nm from fun q => h2 (by rw [← q]; exact List.mem_map_of_mem he))]
  rw [e1, e2]
  congr 2
  show (if d.nm = d.nm then _ else _) = _
  rw [if_pos rfl, hd]
theorem npV_at {nds pre post : List Nd} {d d' : Nd} {k : Nat} (hn : ((pre ++ d :: post).map Nd.nm).Nodup) (hd : (d.nm, d.np + k, d.su.map sof) = d'.v) : npV ((pre ++ d :: post).map Nd.v) d.nm k = (pre ++ d' :: post).map Nd.v := at_one (nds := nds) (f := fun e => (e.1, e.2.1 + k, e.2.2)) hn hd
theorem suV_at {nds pre post : List Nd} {d d' : Nd} {x : Str} (hn : ((pre ++ d :: post).map Nd.nm).Nodup) (hd : (d.nm, d.np, d.su.map sof ++ [x]) = d'.v) : suV ((pre ++ d :: post).map Nd.v) d.nm x = (pre ++ d' :: post).map Nd.v := at_one (nds := nds) (f := fun e => (e.1, e.2.1, e.2.2 ++ [x])) hn hd
theorem insV_len (v : View) (x : Str) : (insV v x).length ≤ v.length + 1 := by
  unfold insV
  split
  · exact Nat.le_succ _
  · rw [List.length_append]; exact Nat.le_refl _
noncomputable def bV (v : View) (b : Nat) : Prop := ∀ e ∈ v, e.2.2.length ≤ b
theorem bV_ins {v : View} {b : Nat} (h : bV v b) (x : Str) : bV (insV v x) b := by
  unfold insV
  split
  · exact h
  · intro e he
    rcases List.mem_append.mp he with he | he
    · exact h e he
    · rw [List.mem_singleton.mp he]; exact Nat.zero_le _
theorem bV_np {v : View} {b : Nat} (h : bV v b) (x : Str) (k : Nat) : bV (npV v x k) b := by
  intro e he
  obtain ⟨e', he', rfl⟩ := List.mem_map.mp he
  split
  · exact h e' he'
  · exact h e' he'
theorem bV_su {v : View} {b : Nat} (h : bV v b) (y x : Str) : bV (suV v y x) (b + 1) := by
  intro e he
  obtain ⟨e', he', rfl⟩ := List.mem_map.mp he
  split
  · show (e'.2.2 ++ [x]).length ≤ _
    rw [List.length_append]
    exact Nat.succ_le_succ (h e' he')
  · exact Nat.le_succ_of_le (h e' he')
section
variable {prog : Program} {w : World} {dp un : Nat} {gd : Option (List Code)} {cn : Str} {cs : Scope} {a : Addr} {ccd : Value} {cl : List (Str × Addr)} {outer : List Env} {A₀ : Around} {base h₀ : Heap} {L : Addr} {m : Str → Option Value} {s : Shared} {Q E : Value → Shared → Prop} {p : Program} {loose : List Str} {mean : ExcName → Option Value} {mg mb : Str → Option Value}
variable {H1 H2 H3 H4 : Int} {k1 k2 k3 k4 tp tf : Tok} {S D N2 : Addr} {rd : Value} {po nf : Int} {rest : List (Addr × Obj)} {oN : Obj} {nds : List Nd}
variable (B : Below A₀ base outer h₀) (F : Fr h₀ L s.heap m) (X : (mkK.heap_1 w.params).In h₀) (N : News h₀ L s.heap (lam S D N2 (sortD H1 H2 H3 H4 k1 k2 k3 k4 N2 rd po tp nf tf) oN nds rest)) (T : Top p loose mean mg mb h₀) (hk : cs.kind = .function) (hd' : dp ≤ 700) (hu : un ≤ 100)
  (G : GOk prog w S D N2 nds oN rest)
include B F X N T hk hd' hu G
theorem gni {x : Str} {t : Tok} (hz : nds.length ≤ 100) (hret : ∀ pre d post oN' h' tk, d.nm = x → (pre ++ d :: post).map Nd.v = insV (nds.map Nd.v) x → GOk prog w S D N2 (pre ++ d :: post) oN' rest → Fr h₀ L h' m →
    News h₀ L h' (lam S D N2 (sortD H1 H2 H3 H4 k1 k2 k3 k4 N2 rd po tp nf tf) oN' (pre ++ d :: post) rest) → Q (.ref d.I) ⟨h', s.gens, s.drawn, tk, s.os⟩) :
  wpAny (model prog w) (ktrTop dp un gd cn cs L a ccd cl outer) (call (.ref 314) [.ref S, .str x t]) Q E s := by
  obtain ⟨n1, n2, n3, n4, n5, n6⟩ := G.ne
  by_cases hx : x ∈ nds.map Nd.nm
  · obtain ⟨d, hd, rfl⟩ := List.mem_map.mp hx
    obtain ⟨pre, post, rfl⟩ := List.append_of_mem hd
    exact gni_hit B F X N T hk hd' hu n1 n2 n3 n4 n5 n6 G.dict G.lo (valueAt_map G.names hd) fun h' tk F' N' => hret pre d post oN h' tk rfl (insV_hit (by rw [view_nm]; exact hx)).symm G F' N'
  · refine gni_miss B F X N T hk hd' hu n1 n2 n3 n4 n5 n6 G.dict G.lo (by rw [List.length_map, sizeLine_eq]; lia) (valueAt_none hx) ?_
    rintro I dd Ls o' t2 h' tk F' N' ho l1 l2 l3 l4 l5 l6
    refine hret nds ⟨x, t, I, dd, Ls, 0, t2, [], 0⟩ [] o' h' tk rfl ?_ (G.new (d := ⟨x, t, I, dd, Ls, 0, t2, [], 0⟩) hx ho l1 l2 l3 l4 l5 l6 rfl) F' fun p hp => N' p ?_
    · rw [insV_new (by rw [view_nm]; exact hx), List.map_append]
      rfl
    · simp only [lam, grL, List.mem_cons, List.mem_append, List.flatMap_append, List.flatMap_cons, List.flatMap_nil, List.append_nil, Nd.es, List.not_mem_nil, or_false] at hp ⊢
      rcases hp with h | h | h | (h | h | h | h) | h
      · exact .inr (.inr (.inr (.inl h)))
      · exact .inr (.inr (.inr (.inr (.inl h))))
      · exact .inr (.inr (.inr (.inr (.inr (.inl h)))))
      · exact .inr (.inr (.inr (.inr (.inr (.inr (.inl h))))))
      · exact .inl h
      · exact .inr (.inl h)
      · exact .inr (.inr (.inl h))
      · exact .inr (.inr (.inr (.inr (.inr (.inr (.inr h))))))
end
theorem ndI {P : Nd → Prop} (_ : Closing) (h : ∀ nm t' I dd Ls np t2 su ep, P ⟨nm, t', I, dd, Ls, np, t2, su, ep⟩) : ∀ d, P d := fun ⟨a1, a2, a3, a4, a5, a6, a7, a8, a9⟩ => h a1 a2 a3 a4 a5 a6 a7 a8 a9
theorem ndX (d : Nd) : ∃ nm t' I dd Ls np t2 su ep, d = ⟨nm, t', I, dd, Ls, np, t2, su, ep⟩ := ⟨_, _, _, _, _, _, _, _, _, rfl⟩
theorem neNd : Nonempty Nd := ⟨⟨default, 0, 0, 0, 0, 0, 0, [], 0⟩⟩
end Mine
end
example (h : False) {prog : PySem.Program} {w : PySem.World} {A : PySem.Around} {Q E : PySem.Value → PySem.Shared → Prop} {s : PySem.Shared} {env : PySem.Env} {at0 : PySem.Pos} : PySem.wpAny (PySem.model prog w) A (PySem.eval (.Constant .none 0 at0) env) Q E s := by
  w_top off
  first | (walk1; fail) | exact h.elim
section
open PySem PySem.W PyProof.Rows PySem.Calls
set_option maxRecDepth 100000
set_option linter.unusedSectionVars false
namespace Mine
theorem fillG4 : PySem.Challenge.rw_ik0212_01 = PySem.Challenge.rw_ik0212_01 ∧ mkK.heap_1 = mkK.heap_1 := by
  k_fill
  exact ⟨rfl, rfl⟩
section
variable {prog : Program} {w : World} {dp un : Nat} {gd : Option (List Code)} {cn : Str} {cs : Scope} {a : Addr} {ccd : Value} {cl : List (Str × Addr)} {outer : List Env} {A₀ : Around} {base h₀ : Heap} {L : Addr} {m : Str → Option Value} {s : Shared} {Q E : Value → Shared → Prop} {p : Program} {loose : List Str} {mean : ExcName → Option Value} {mg mb : Str → Option Value}
variable {H1 H2 H3 H4 : Int} {k1 k2 k3 k4 tp tf : Tok} {S D N2 : Addr} {po nf : Int} {rest : List (Addr × Obj)} {oN : Obj} {nds : List Nd}
variable (B : Below A₀ base outer h₀) (F : Fr h₀ L s.heap m) (X : (mkK.heap_1 w.params).In h₀) (N : News h₀ L s.heap (lam S D N2 (sortD H1 H2 H3 H4 k1 k2 k3 k4 N2 .none po tp nf tf) oN nds rest)) (T : Top p loose mean mg mb h₀) (hk : cs.kind = .function) (hd' : dp ≤ 690) (hu : un ≤ 90)
  (G : GOk prog w S D N2 nds oN rest)
include B F X N T hk hd' hu G
set_option maxHeartbeats 4000000 in
theorem add_ok {x : Str} {t : Tok} {pr : List Value} (hp : ∀ v ∈ pr, ∃ x t, v = .str x t) (hz : nds.length + pr.length ≤ 99) {b : Nat} (hb : bV (nds.map Nd.v) b) (hb2 : b + pr.length ≤ 10000) (hret : ∀ nds' oN' h' tk, nds'.map Nd.v = addV (nds.map Nd.v) x (pr.map sof) → GOk prog w S D N2 nds' oN' rest → Fr h₀ L h' m →
    News h₀ L h' (lam S D N2 (sortD H1 H2 H3 H4 k1 k2 k3 k4 N2 .none po tp nf tf) oN' nds' rest) → Q .none ⟨h', s.gens, s.drawn, tk, s.os⟩) :
  wpAny (model prog w) (ktrTop dp un gd cn cs L a ccd cl outer) (call (.ref 321) (.ref S :: .str x t :: pr)) Q E s := by
  generalize Mine.clo = hCl
  revert prog w dp un gd cn cs a ccd cl outer A₀ base h₀ L m s Q E p loose mean mg mb H1 H2 H3 H4 k1 k2 k3 k4 tp tf S D N2 po nf rest oN nds x t pr b
  intro prog w dp un gd cn cs a ccd cl outer A₀ base h₀ L m s Q E p loose mean mg mb H1 H2 H3 H4 k1 k2 k3 k4 tp tf S D N2 po nf rest oN nds B F X N T hk hd' hu G x t pr hp hz b hb hb2 hret
  refine wpAny_call ?_
  refine' rest_enter (vs := pr) (binds := fun v => [(Str.ofString "self", .ref S), (Str.ofString "node", .str x t), (Str.ofString "predecessors", v)]) ?k1 ?k2 ?k3 ?k4 ?k5 ?kA ?kF ?kK ?k6 ?k7 ?k8 ?kP ?kV ?kB ?_ ?c2 ?c3 ?c4 ?c5
  case kA => exact rfl
  case kF => exact rfl
  case kK => assumption
  case k1 => k_asm
  case k2 => k_asm
  case k3 => k_asm
  case k4 => k_asm
  case k5 => k_asm
  case k6 => k_dflt k_is
  case k7 => k_dflt k_is
  case k8 => ktr_room
  case kV => rw [sizeLine_eq]; lia
  case kP => cases pr <;> kernel_rfl
  case kB => exact fun _ => locs rfl
  case c5 => decide
  case c2 => exact rfl
  case c3 => exact rfl
  case c4 => exact rfl
  intro D' g' L' h' l1 FG' F' N' B' X' T'
  k_lt l1
  (try dsimp only)
  skip
  (repeat ((fail_if_success (with_reducible show wpAny _ _ (call (Value.ref 314) _ _) _ _ _)); (first | (k_unfold; (try dsimp only)) | walk1 | (dsimp only; walk1))))
  simp only [lam, mx_app] at l1 N'
  refine gni (rest := (D', tupO pr.toArray 0) :: rest) B' F' X' (fun p hp => N' p (lam_tail.mp hp)) T' rfl (by show dp + 1 ≤ 700; lia) (by show un + 3 ≤ 100; lia) (G.more l1.1 l1.2.1 l1.2.2.1 (by lia)) (by lia) ?_
  rintro pre ⟨nm, t', I, dd, Ls, np, t2, su, ep⟩ post oN' h1 tk1 rfl hv G1 F1 N1
  have Bd := (G1.sub fun p hp => .tail _ hp).bare
  have f1 : D' ≠ I := G1.bare.mI (D', tupO pr.toArray 0) (by simp)
  have f2 : D' ≠ dd := G1.bare.md (D', tupO pr.toArray 0) (by simp)
  have f3 : D' ≠ Ls := G1.bare.mL (D', tupO pr.toArray 0) (by simp)
  have g1 : D' ≠ S := Nat.ne_of_gt l1.1
  have g2 : D' ≠ D := Nat.ne_of_gt l1.2.1
  have g3 : D' ≠ N2 := Nat.ne_of_gt l1.2.2.1
  have N2' : News g' L' h1 ((D', tupO pr.toArray 0) :: bareL S D N2 _ oN' pre ⟨nm, t', I, dd, Ls, np, t2, su, ep⟩ post rest) := fun p hp => N1 p (lam_tail.mpr (by
    rcases List.mem_cons.mp hp with rfl | hp
    · exact .head _
    · exact .tail _ (lam_bare.mp hp)))
  clear N1 N' F'
  dsimp only [bareL, Nd.o] at N2'
  dsimp only
  unfold sortD ndO at N2'
  obtain ⟨a1, a2, a3, b1, b2, b3, c1, c2, c3, d1, d2, d3, e1, e2, e3, mI, md, mL, mS, mD, mN⟩ := Bd
  dsimp only at a1 a2 a3 b1 b2 b3 c1 c2 c3 d1 d2 d3 mI md mL
  have hpl : pr.length < 100 := by lia
  (repeat ((fail_if_success (with_reducible show wpAny _ _ (exec (.For ..) _) _ _ _)); (first | (k_unfold; (try dsimp only)) | walk1 | (dsimp only; walk1))))
  refine wpAny_For ?_
  (repeat ((fail_if_success (with_reducible show wpAny _ _ (pyIter _) _ _ _)); (first | (k_unfold; (try dsimp only)) | walk1 | (dsimp only; walk1))))
  rename Fr g' L' _ _ => F5
  rename News g' L' _ _ => N5
  obtain ⟨t2', N6⟩ : ∃ t2', News g' L' _ ((D', tupO pr.toArray 0) :: lam S D N2 (sortD H1 H2 H3 H4 k1 k2 k3 k4 N2 .none po tp nf tf) oN' (pre ++ ⟨nm, t', I, dd, Ls, np + (pr.toArray.size : Int), t2', su, ep⟩ :: post) rest) := ⟨_, fun q hq => N5 q (by
    rcases List.mem_cons.mp hq with rfl | hq
    · exact .head _
    · exact .tail _ (lam_bare.mpr hq))⟩
  clear N5
  have G2 := G1.put (d' := ⟨nm, t', I, dd, Ls, np + (pr.toArray.size : Int), t2', su, ep⟩) rfl rfl rfl (G1.txt ⟨nm, t', I, dd, Ls, np, t2, su, ep⟩ (by simp))
  have V2 : (pre ++ ⟨nm, t', I, dd, Ls, np + (pr.toArray.size : Int), t2', su, ep⟩ :: post).map Nd.v = npV (insV (nds.map Nd.v) nm) nm pr.length := by
    rw [← hv]
    exact (npV_at (nds := nds) (d' := ⟨nm, t', I, dd, Ls, np + (pr.toArray.size : Int), t2', su, ep⟩) G1.names (by rw [List.size_toArray]; rfl)).symm
  have Z2 : (pre ++ Nd.mk nm t' I dd Ls (np + (pr.toArray.size : Int)) t2' su ep :: post).length ≤ nds.length + 1 := by
    have := congrArg List.length hv
    rw [List.length_map] at this
    have h2 := insV_len (nds.map Nd.v) nm
    rw [← this, List.length_map] at h2
    simpa using h2
  generalize pre ++ Nd.mk nm t' I dd Ls (np + (pr.toArray.size : Int)) t2' su ep :: post = nds1 at N6 G2 V2 Z2
  clear hv G1 a1 a2 a3 b1 b2 b3 c1 c2 c3 d1 d2 d3 e1 e2 e3 mI md mL mS mD mN f1 f2 f3
  refine for_tup (L := L') (vs := pr) (n := 0) rfl (fun i m nx => m (Str.ofString "self") = some (.ref S) ∧ m (Str.ofString "node") = some (.str nm t) ∧ ∃ nds' oN1, nx = (D', tupO pr.toArray 0) :: lam S D N2 (sortD H1 H2 H3 H4 k1 k2 k3 k4 N2 .none po tp nf tf) oN1 nds' rest ∧ GOk prog w S D N2 nds' oN1 ((D', tupO pr.toArray 0) :: rest) ∧
    nds'.map Nd.v = ((pr.take i).map sof).foldl (fun v y => suV (insV v y) y nm) (npV (insV (nds.map Nd.v) nm) nm pr.length) ∧ nds'.length ≤ nds.length + 1 + i ∧ bV (nds'.map Nd.v) (b + i)) rfl rfl rfl F5 N6 (.head _) ⟨rfl, rfl, nds1, oN', rfl, G2, by simpa using V2, by lia, by rw [V2]; exact bV_np (bV_ins hb _) _ _⟩ ?turn ?done
  case done =>
    rintro m1 nx h2 tk2 ⟨_, _, nds2, oN2, rfl, G3, V3, _, _⟩ F6 N7
    dsimp only
    (repeat (first | (k_unfold; (try dsimp only)) | walk1 | (dsimp only; walk1)))
    refine hret nds2 oN2 _ _ (by rw [V3, List.take_length]; unfold addV; rw [List.length_map]) (G3.sub fun p hp => .tail _ hp) (by k_asm) ?_
    rintro p hp
    rename News h₀ L _ _ => kN
    exact kN p (.tail _ hp)
  case turn =>
    rintro i v m1 nx Ii oI h2 tk2 E' hi ⟨m1s, m1n, nds2, oN2, rfl, G3, V3, Z3, W3⟩ hC hI F6 N7
    obtain ⟨mm, rfl⟩ := locs2 m1s m1n
    obtain ⟨y, ty, rfl⟩ := hp v (List.mem_of_getElem? hi)
    (repeat ((fail_if_success (with_reducible show wpAny _ _ (call (Value.ref 314) _ _) _ _ _)); (first | (k_unfold; (try dsimp only)) | walk1 | (dsimp only; walk1))))
    refine gni (rest := (Ii, oI) :: (D', tupO pr.toArray 0) :: rest) B' F6 X' (fun p hp => N7 p (by
      rcases List.mem_cons.mp (lam_tail.mp hp) with rfl | hp
      · exact .head _
      · exact .tail _ (lam_tail.mp hp))) T' rfl (by show dp + 1 ≤ 700; lia) (by show un + 3 ≤ 100; lia) (G3.moreN (ents := sortD H1 H2 H3 H4 k1 k2 k3 k4 N2 .none po tp nf tf) fun p hp => hI p (lam_tail.mp hp)) (by have := (List.getElem?_eq_some_iff.mp hi).1; lia) ?_
    rintro pre ⟨nm2, t', I, dd, Ls, np, t2, su, ep⟩ post oN' h1 tk1 rfl hv G1 F1 N1
    have Bd := (G1.sub fun p hp => .tail _ (.tail _ hp)).bare
    have hsz : su.length ≤ 10000 := by
      have q := bV_ins W3 nm2
      rw [← hv] at q
      have := q (Nd.v ⟨nm2, t', I, dd, Ls, np, t2, su, ep⟩) (by simp)
      have q2 := (List.getElem?_eq_some_iff.mp hi).1
      have e : (su.map sof).length ≤ b + i := this
      rw [List.length_map] at e
      lia
    have f1 : D' ≠ I := G1.bare.mI (D', tupO pr.toArray 0) (by simp)
    have f2 : D' ≠ dd := G1.bare.md (D', tupO pr.toArray 0) (by simp)
    have f3 : D' ≠ Ls := G1.bare.mL (D', tupO pr.toArray 0) (by simp)
    have f4 : Ii ≠ I := G1.bare.mI (Ii, oI) (by simp)
    have f5 : Ii ≠ dd := G1.bare.md (Ii, oI) (by simp)
    have f6 : Ii ≠ Ls := G1.bare.mL (Ii, oI) (by simp)
    have f7 : Ii ≠ S := G1.bare.mS (Ii, oI) (by simp)
    have f8 : Ii ≠ D := G1.bare.mD (Ii, oI) (by simp)
    have f9 : Ii ≠ N2 := G1.bare.mN (Ii, oI) (by simp)
    have f0 : D' ≠ Ii := hI _ (.head _)
    have N2' : News g' L' h1 ((Ii, oI) :: (D', tupO pr.toArray 0) :: bareL S D N2 _ oN' pre ⟨nm2, t', I, dd, Ls, np, t2, su, ep⟩ post rest) := fun p hp => N1 p (lam_tail.mpr (by
      rcases List.mem_cons.mp hp with rfl | hp
      · exact .head _
      · refine .tail _ (lam_tail.mpr ?_)
        rcases List.mem_cons.mp hp with rfl | hp
        · exact .head _
        · exact .tail _ (lam_bare.mp hp)))
    clear N1 N7 F6
    dsimp only [bareL, Nd.o] at N2'
    dsimp only
    unfold sortD ndO at N2'
    obtain ⟨a1, a2, a3, b1, b2, b3, c1, c2, c3, d1, d2, d3, e1, e2, e3, mI, md, mL, mS, mD, mN⟩ := Bd
    dsimp only at a1 a2 a3 b1 b2 b3 c1 c2 c3 d1 d2 d3 mI md mL
    (repeat (first | (k_unfold; (try dsimp only)) | walk1 | (dsimp only; walk1)))
    rename Fr g' L' _ _ => F8
    rename News g' L' _ _ => N8
    have G4 := G1.put (d' := ⟨nm2, t', I, dd, Ls, np, t2, su ++ [.str nm t], ep + 1⟩) rfl rfl rfl (fun v hv => by
      rcases List.mem_append.mp hv with hv | hv
      · exact G1.txt ⟨nm2, t', I, dd, Ls, np, t2, su, ep⟩ (by simp) v hv
      · rw [List.mem_singleton.mp hv]; exact ⟨_, _, rfl⟩)
    have V4 : (pre ++ Nd.mk nm2 t' I dd Ls np t2 (su ++ [.str nm t]) (ep + 1) :: post).map Nd.v = suV (insV (nds2.map Nd.v) nm2) nm2 nm := by
      rw [← hv]
      exact (suV_at (nds := nds) (d := ⟨nm2, t', I, dd, Ls, np, t2, su, ep⟩) G1.names (by simp [Nd.v, sof])).symm
    have Z4 : (pre ++ Nd.mk nm2 t' I dd Ls np t2 (su ++ [.str nm t]) (ep + 1) :: post).length ≤ nds.length + 1 + (i + 1) := by
      have := congrArg List.length V4
      unfold suV at this
      rw [List.length_map, List.length_map] at this
      have h2 := insV_len (nds2.map Nd.v) nm2
      rw [List.length_map] at h2
      lia
    have ea : (su ++ [Value.str nm t]).toArray = su.toArray.push (.str nm t) := by simp
    have N9 : News g' L' _ ((Ii, oI) :: (D', tupO pr.toArray 0) :: lam S D N2 (sortD H1 H2 H3 H4 k1 k2 k3 k4 N2 .none po tp nf tf) oN' (pre ++ Nd.mk nm2 t' I dd Ls np t2 (su ++ [.str nm t]) (ep + 1) :: post) rest) := fun q hq => N8 q (by
      rcases List.mem_cons.mp hq with rfl | hq
      · exact .head _
      · rcases List.mem_cons.mp hq with rfl | hq
        · exact .tail _ (.head _)
        · have := lam_bare.mpr hq
          simp only [bareL, ea] at this
          exact .tail _ (.tail _ this))
    show TurnEnd _ _ _ _ _ _ _ _
    refine ⟨_, _, _, _, rfl, F8, N9, fun q hq => by rw [List.mem_singleton.mp hq]; exact .head _, fun q hq => ?_, rfl, rfl, _, oN', rfl, G4.sub fun q hq => .tail _ hq, ?_, Z4, ?_⟩
    · rcases List.mem_cons.mp hq with rfl | hq
      · exact f0
      · exact G4.notQ (q := (Ii, oI)) (.head _) (fun r hr => hI r (.tail _ (.tail _ (.tail _ (.tail _ (List.mem_append_right _ hr)))))) q hq
    · rw [V4, V3, List.take_add_one, hi]
      simp [sof]
    · rw [V4]
      exact bV_su (bV_ins W3 _) _ _
end
end Mine
end
example (h : False) {prog : PySem.Program} {w : PySem.World} {A : PySem.Around} {Q E : PySem.Value → PySem.Shared → Prop} {s : PySem.Shared} {env : PySem.Env} {at0 : PySem.Pos} : PySem.wpAny (PySem.model prog w) A (PySem.eval (.Constant .none 0 at0) env) Q E s := by
  w_top off
  first | (walk1; fail) | exact h.elim
section
open PySem PySem.W PyProof.Rows PySem.Calls
set_option maxRecDepth 100000
set_option linter.unusedSectionVars false
namespace Mine
/-- one place of the search's stack -/
structure Sk where
  d : Nd
  t : Tok
  I : Addr
  M : Addr
  j : Nat
noncomputable def Sk.es (k : Sk) : List (Addr × Obj) := [(k.M, mwO k.I), (k.I, listIt k.d.Ls k.j)]
noncomputable def Sk.ad (k : Sk) : List Addr := [k.M, k.I]
noncomputable def Sk.nm (k : Sk) : Str := k.d.nm
/-- what is still to be looked at -/
noncomputable def MU (nds : List Nd) (st : List Sk) (ys : List Str) : Nat := (st.map fun k => k.d.su.length - k.j).sum + ((nds.filter fun d => decide (d.nm ∉ ys)).map fun d => d.su.length + 1).sum
theorem mu_filter {x : Str} {ys : List Str} (hx : x ∉ ys) : ∀ {nds : List Nd} {d : Nd}, (nds.map Nd.nm).Nodup → d ∈ nds → d.nm = x →
    ((nds.filter fun d => decide (d.nm ∉ x :: ys)).map fun d => d.su.length + 1).sum + (d.su.length + 1) = ((nds.filter fun d => decide (d.nm ∉ ys)).map fun d => d.su.length + 1).sum
  | [], _, _, h, _ => nomatch h
  | e :: r, d, hn, h, hd => by
    rw [List.map_cons, List.nodup_cons] at hn
    by_cases he : e.nm = x
    · have e1 : d = e := by
        rcases List.mem_cons.mp h with q | q
        · exact q
        · exact absurd (show e.nm ∈ r.map Nd.nm by rw [he, ← hd]; exact List.mem_map_of_mem q) hn.1
      subst e1
      have same : (r.filter fun d => decide (d.nm ∉ x :: ys)) = r.filter fun d => decide (d.nm ∉ ys) := List.filter_congr fun d' hd' => by
        have : d'.nm ≠ x := fun q => hn.1 (by rw [hd, ← q]; exact List.mem_map_of_mem hd')
        simp [this]
      rw [List.filter_cons_of_neg (by simp [he]), List.filter_cons_of_pos (by simpa [he] using hx), same, List.map_cons, List.sum_cons]
      lia
    · have hr : d ∈ r := by
        rcases List.mem_cons.mp h with q | q
        · exact absurd (q ▸ hd) he
        · exact q
      have ih := mu_filter hx hn.2 hr hd
      by_cases hy : e.nm ∈ ys
      · rw [List.filter_cons_of_neg (by simp [hy]), List.filter_cons_of_neg (by simp [hy])]
        exact ih
      · rw [List.filter_cons_of_pos (by simp [hy, he]), List.filter_cons_of_pos (by simp [hy]), List.map_cons, List.map_cons, List.sum_cons, List.sum_cons]
        lia
theorem mu_push {nds : List Nd} {st : List Sk} {ys : List Str} {k : Sk} {x : Str} (hn : (nds.map Nd.nm).Nodup) (hx : x ∉ ys) (hd : k.d ∈ nds) (he : k.d.nm = x) (hj : k.j = 0) : MU nds (st ++ [k]) (x :: ys) + 1 = MU nds st ys := by
  have := mu_filter hx hn hd he
  unfold MU
  simp only [List.map_append, List.map_cons, List.map_nil, List.sum_append, List.sum_cons, List.sum_nil, hj]
  lia
theorem mu_pop {nds : List Nd} {st : List Sk} {ys : List Str} {k : Sk} : MU nds st ys ≤ MU nds (st ++ [k]) ys := by
  unfold MU
  simp only [List.map_append, List.sum_append]
  lia
theorem mu_take {nds : List Nd} {st : List Sk} {ys : List Str} {k k' : Sk} (hd : k'.d = k.d) (hj : k'.j = k.j + 1) (h : k.j < k.d.su.length) : MU nds (st ++ [k']) ys + 1 = MU nds (st ++ [k]) ys := by
  unfold MU
  simp only [List.map_append, List.sum_append, List.map_cons, List.map_nil, List.sum_cons, List.sum_nil, hd, hj]
  lia
/-- the frame's places -/
structure FP where
  K2 : Addr
  Se : Addr
  It : Addr
  St : Addr
noncomputable def FP.l (a : FP) : List Addr := [a.K2, a.Se, a.It, a.St]
noncomputable abbrev fled (a : FP) (oK so : Obj) (e1 e2 : Nat) (st : List Sk) (R : List (Addr × Obj)) : List (Addr × Obj) :=
  (a.K2, oK) :: (a.Se, so) :: (a.It, W.listOf (st.map fun k => Value.ref k.M).toArray e2) :: (a.St, W.listOf (st.map fun k => Value.str k.d.nm k.t).toArray e1) :: (st.flatMap Sk.es ++ R)
structure FI (prog : Program) (w : World) (nds : List Nd) (lev : Str → Nat) (N2 : Addr) (a : FP) (R : List (Addr × Obj)) (st : List Sk) (ys : List Str) (oK so : Obj) (kvs : List (Str × Value)) : Prop where
  lo : (a.K2 == sysModules) = false
  dK : oK.IsDictOf (PySem.strKind prog w) kvs
  kv : kvs.map (·.1) = st.map Sk.nm
  sS : so.SetObjOf (PySem.strKind prog w) (fun y => decide (y ∈ ys)) ys.length
  ysn : ys.Nodup
  ysub : ∀ y ∈ ys, y ∈ nds.map Nd.nm
  mem : ∀ k ∈ st, k.d ∈ nds ∧ k.j ≤ k.d.su.length ∧ k.d.nm ∈ ys
  inc : (st.map fun k => lev k.d.nm).Pairwise (· < ·)
  ap : (a.l ++ st.flatMap Sk.ad).Nodup
  apR : ∀ p ∈ R, p.1 ∉ a.l ++ st.flatMap Sk.ad
theorem subLen {α : Type} [DecidableEq α] : ∀ {l r : List α}, l.Nodup → (∀ y ∈ l, y ∈ r) → l.length ≤ r.length
  | [], _, _, _ => Nat.zero_le _
  | x :: l, r, hn, hs => by
    rw [List.nodup_cons] at hn
    have hx := hs x (.head _)
    have h2 : ∀ y ∈ l, y ∈ r.erase x := fun y hy => by
      have ne : y ≠ x := fun q => hn.1 (q ▸ hy)
      rw [List.mem_erase_of_ne ne]
      exact hs y (.tail _ hy)
    have := subLen hn.2 h2
    rw [List.length_erase_of_mem hx] at this
    have : 0 < r.length := List.length_pos_of_mem hx
    rw [List.length_cons]
    lia
theorem ysLen {nds : List Nd} {ys : List Str} (h : ys.Nodup) (hs : ∀ y ∈ ys, y ∈ nds.map Nd.nm) : ys.length ≤ nds.length := by
  rw [← List.length_map (f := Nd.nm) (as := nds)]
  exact subLen h hs
section
variable {prog : Program} {w : World} {nds : List Nd} {lev : Str → Nat} {N2 : Addr} {a : FP} {R : List (Addr × Obj)} {st : List Sk} {ys : List Str} {oK so : Obj} {kvs : List (Str × Value)}
theorem valueAt_notin {kvs : List (Str × Value)} {x : Str} (h : x ∉ kvs.map (·.1)) : valueAt kvs x = none := by
  unfold valueAt
  rw [Option.map_eq_none_iff, List.find?_eq_none]
  intro p hp
  simp only [decide_eq_true_eq]
  exact fun q => h (q ▸ List.mem_map_of_mem hp)
theorem stored_notin {kvs : List (Str × Value)} {x : Str} {v : Value} (h : x ∉ kvs.map (·.1)) : stored kvs x v = kvs ++ [(x, v)] := by
  unfold stored
  rw [if_neg]
  simp only [List.any_eq_true, decide_eq_true_eq]
  rintro ⟨d, hd, q⟩
  exact h (q ▸ List.mem_map_of_mem hd)
theorem FI.notin (I : FI prog w nds lev N2 a R st ys oK so kvs) {x : Str} (hl : ∀ e ∈ st, lev e.d.nm < lev x) : x ∉ kvs.map (·.1) := by
  rw [I.kv]
  intro q
  obtain ⟨k, hk, rfl⟩ := List.mem_map.mp q
  exact Nat.lt_irrefl _ (hl k hk)
theorem ad_es {x : Addr} (h : x ∈ st.flatMap Sk.ad) : ∃ p ∈ st.flatMap Sk.es, p.1 = x := by
  obtain ⟨k, hk, hp⟩ := List.mem_flatMap.mp h
  unfold Sk.ad at hp
  rcases List.mem_cons.mp hp with rfl | hp
  · exact ⟨_, List.mem_flatMap.mpr ⟨k, hk, .head _⟩, rfl⟩
  · rw [List.mem_singleton] at hp
    subst hp
    exact ⟨_, List.mem_flatMap.mpr ⟨k, hk, .tail _ (.head _)⟩, rfl⟩
theorem FI.push (I : FI prog w nds lev N2 a R st ys oK so kvs) {k : Sk} {oK' so' : Obj} {v : Value} (hd : k.d ∈ nds) (hj : k.j = 0) (hx : k.d.nm ∉ ys) (hl : ∀ e ∈ st, lev e.d.nm < lev k.d.nm)
    (dK : oK'.IsDictOf (PySem.strKind prog w) (stored kvs k.d.nm v)) (sS : so'.SetObjOf (PySem.strKind prog w) (fun k' => decide (k' ∈ ys) || decide (k' = k.d.nm)) (if decide (k.d.nm ∈ ys) = true then ys.length else ys.length + 1))
    (i1 : a.K2 ≠ k.I) (i2 : a.Se ≠ k.I) (i3 : a.It ≠ k.I) (i4 : a.St ≠ k.I) (i5 : ∀ p ∈ st.flatMap Sk.es ++ R, p.1 ≠ k.I) (m1 : a.K2 ≠ k.M) (m2 : a.Se ≠ k.M) (m3 : a.It ≠ k.M) (m4 : a.St ≠ k.M) (m5 : ∀ p ∈ st.flatMap Sk.es ++ R, p.1 ≠ k.M) (hIM : k.I ≠ k.M) :
    FI prog w nds lev N2 a R (st ++ [k]) (k.d.nm :: ys) oK' so' (stored kvs k.d.nm v) where
  lo := I.lo
  dK := dK
  kv := by rw [stored_notin (I.notin hl), List.map_append, List.map_append, I.kv]; rfl
  sS := by
    have e1 : (fun y => decide (y ∈ k.d.nm :: ys)) = fun k' => decide (k' ∈ ys) || decide (k' = k.d.nm) := funext fun y => by
      by_cases h1 : y = k.d.nm <;> by_cases h2 : y ∈ ys <;> simp [h1, h2]
    rw [e1]
    rw [if_neg (by simpa using hx)] at sS
    exact sS
  ysn := List.nodup_cons.mpr ⟨hx, I.ysn⟩
  ysub := fun y hy => by
    rcases List.mem_cons.mp hy with rfl | hy
    · exact List.mem_map_of_mem hd
    · exact I.ysub y hy
  mem := fun e he => by
    rcases List.mem_append.mp he with he | he
    · exact ⟨(I.mem e he).1, (I.mem e he).2.1, .tail _ (I.mem e he).2.2⟩
    · rw [List.mem_singleton] at he
      subst he
      exact ⟨hd, hj ▸ Nat.zero_le _, .head _⟩
  inc := by
    rw [List.map_append, List.pairwise_append]
    refine ⟨I.inc, by simp, fun x hx y hy => ?_⟩
    obtain ⟨e, he, rfl⟩ := List.mem_map.mp hx
    rw [List.map_singleton, List.mem_singleton] at hy
    subst hy
    exact hl e he
  ap := by
    rw [List.flatMap_append, ← List.append_assoc, List.nodup_append]
    refine ⟨I.ap, by simp [Sk.ad, Ne.symm hIM], fun x hx y hy q => ?_⟩
    subst q
    simp only [List.flatMap_cons, List.flatMap_nil, List.append_nil, Sk.ad, List.mem_cons, List.not_mem_nil, or_false] at hy
    simp only [FP.l, List.cons_append, List.nil_append, List.mem_cons] at hx
    rcases hy with rfl | rfl
    · rcases hx with h | h | h | h | h
      · exact m1 h.symm
      · exact m2 h.symm
      · exact m3 h.symm
      · exact m4 h.symm
      · obtain ⟨p, hp, e⟩ := ad_es h
        exact m5 p (List.mem_append_left _ hp) e
    · rcases hx with h | h | h | h | h
      · exact i1 h.symm
      · exact i2 h.symm
      · exact i3 h.symm
      · exact i4 h.symm
      · obtain ⟨p, hp, e⟩ := ad_es h
        exact i5 p (List.mem_append_left _ hp) e
  apR := fun p hp => by
    rw [List.flatMap_append, ← List.append_assoc]
    intro h
    rcases List.mem_append.mp h with h | h
    · exact I.apR p hp h
    · simp only [List.flatMap_cons, List.flatMap_nil, List.append_nil, Sk.ad, List.mem_cons, List.not_mem_nil, or_false] at h
      rcases h with h | h
      · exact m5 p (List.mem_append_right _ hp) h
      · exact i5 p (List.mem_append_right _ hp) h
theorem without_last {kvs : List (Str × Value)} {l : List Str} {x : Str} (hk : kvs.map (·.1) = l ++ [x]) (hn : x ∉ l) : (without kvs x).map (·.1) = l := by
  unfold without
  have e : (kvs.filter fun p => decide (p.1 ≠ x)).map (·.1) = (kvs.map (·.1)).filter fun y => decide (y ≠ x) := by rw [List.filter_map]; rfl
  rw [e, hk, List.filter_append]
  have e2 : (l.filter fun y => decide (y ≠ x)) = l := List.filter_eq_self.mpr fun y hy => by
    have : y ≠ x := fun q => hn (q ▸ hy)
    simp [this]
  rw [e2]
  simp
theorem FI.pop {k : Sk} (I : FI prog w nds lev N2 a R (st ++ [k]) ys oK so kvs) {oK' : Obj} (dK : oK'.IsDictOf (PySem.strKind prog w) (without kvs k.d.nm)) : FI prog w nds lev N2 a R st ys oK' so (without kvs k.d.nm) where
  lo := I.lo
  dK := dK
  kv := by
    have h := I.inc
    rw [List.map_append, List.pairwise_append] at h
    refine without_last (l := st.map Sk.nm) (by rw [I.kv, List.map_append]; rfl) fun q => ?_
    obtain ⟨e, he, q⟩ := List.mem_map.mp q
    have := h.2.2 _ (List.mem_map_of_mem he) _ (List.mem_map_of_mem (List.mem_singleton.mpr rfl))
    unfold Sk.nm at q
    rw [q] at this
    exact Nat.lt_irrefl _ this
  sS := I.sS
  ysn := I.ysn
  ysub := I.ysub
  mem := fun e he => I.mem e (List.mem_append_left _ he)
  inc := by
    have h := I.inc
    rw [List.map_append, List.pairwise_append] at h
    exact h.1
  ap := by
    have h := I.ap
    rw [List.flatMap_append, ← List.append_assoc, List.nodup_append] at h
    exact h.1
  apR := fun p hp q => I.apR p hp (by rw [List.flatMap_append, ← List.append_assoc]; exact List.mem_append_left _ q)
theorem FI.take {k k' : Sk} (I : FI prog w nds lev N2 a R (st ++ [k]) ys oK so kvs) (hd : k'.d = k.d) (hI : k'.I = k.I) (hM : k'.M = k.M) (hj : k'.j ≤ k.d.su.length) : FI prog w nds lev N2 a R (st ++ [k']) ys oK so kvs := by
  have ea : (st ++ [k']).flatMap Sk.ad = (st ++ [k]).flatMap Sk.ad := by simp [Sk.ad, hI, hM]
  refine ⟨I.lo, I.dK, ?_, I.sS, I.ysn, I.ysub, fun e he => ?_, ?_, by rw [ea]; exact I.ap, fun p hp => by rw [ea]; exact I.apR p hp⟩
  · rw [I.kv]; simp [Sk.nm, hd]
  · rcases List.mem_append.mp he with he | he
    · exact I.mem e (List.mem_append_left _ he)
    · rw [List.mem_singleton] at he
      subst he
      have := I.mem k (List.mem_append_right _ (List.mem_singleton.mpr rfl))
      rw [hd]
      exact ⟨this.1, hj, this.2.2⟩
  · have := I.inc
    simp only [List.map_append, List.map_cons, List.map_nil, hd] at this ⊢
    exact this
end
theorem neSk : Nonempty Sk := by
  obtain ⟨d⟩ := neNd
  exact ⟨by constructor <;> first | exact d | exact (0 : Nat) | exact default⟩
theorem neFP : Nonempty FP := ⟨⟨0, 0, 0, 0⟩⟩
end Mine
end
local macro_rules | `(tactic| walk_at "subscriptTail") => `(tactic| (k_here; (with_reducible show wpAny _ _ (subscriptTail _ _ (Value.ref _) (Value.str _ _)) _ _ _); k_dflt (refine' kda_item (knd := PySem.strKind _ _) ?N ?p ?d (strKind_is _ _ _ _) ?hl ?_; (case N => k_asm); (case p => k_mem); (case d => assumption); (case hl => assumption); k_whole)))
example (h : False) {prog : PySem.Program} {w : PySem.World} {A : PySem.Around} {Q E : PySem.Value → PySem.Shared → Prop} {s : PySem.Shared} {env : PySem.Env} {at0 : PySem.Pos} : PySem.wpAny (PySem.model prog w) A (PySem.eval (.Constant .none 0 at0) env) Q E s := by
  w_top off
  first | (walk1; fail) | exact h.elim
section
open PySem PySem.W PyProof.Rows PySem.Calls
set_option maxRecDepth 100000
set_option linter.unusedSectionVars false
namespace Mine
theorem fillF3 : PySem.Challenge.rw_ik0212_01 = PySem.Challenge.rw_ik0212_01 ∧ mkK.heap_1 = mkK.heap_1 := by
  k_fill
  exact ⟨rfl, rfl⟩
theorem locs1 {m : Str → Option Value} {a : Str} {v : Value} (h1 : m a = some v) : ∃ mm : Str → Option Value, m = fun y => if y = a then some v else mm y := by
  refine ⟨m, funext fun y => ?_⟩
  split
  · rename_i e; rw [e, h1]
  · rfl
theorem locs5 {m : Str → Option Value} {a1 a2 a3 a4 a5 : Str} {v1 v2 v3 v4 v5 : Value} (h1 : m a1 = some v1) (h2 : m a2 = some v2) (h3 : m a3 = some v3) (h4 : m a4 = some v4) (h5 : m a5 = some v5) :
    ∃ mm : Str → Option Value, m = fun y => if y = a1 then some v1 else if y = a2 then some v2 else if y = a3 then some v3 else if y = a4 then some v4 else if y = a5 then some v5 else mm y := by
  refine ⟨m, funext fun y => ?_⟩
  (repeat' split) <;> simp_all
structure ML (N2 : Addr) (a : FP) (m : Str → Option Value) : Prop where
  l1 : m (Str.ofString "n2i") = some (.ref N2)
  l2 : m (Str.ofString "stack") = some (.ref a.St)
  l3 : m (Str.ofString "itstack") = some (.ref a.It)
  l4 : m (Str.ofString "seen") = some (.ref a.Se)
  l5 : m (Str.ofString "node2stacki") = some (.ref a.K2)
section
variable {prog : Program} {w : World} {A : Around} {E : Value → Shared → Prop} {env : Env} {test : PySem.Expr} {body orelse : List Stmt} {Q : Flow → Shared → Prop}
theorem wh_ind {σ : Type} (P : σ → Shared → Prop) (μ : σ → Nat) (step : ∀ c s, P c s → (∀ c' s', P c' s' → μ c' < μ c → WhlRest prog w A E env test body orelse Q 0 s') → WhlRest prog w A E env test body orelse Q 1 s) : ∀ c s, P c s → WhlRest prog w A E env test body orelse Q 0 s := by
  have all : ∀ n, ∀ c s, P c s → μ c < n → WhlRest prog w A E env test body orelse Q 0 s := by
    intro n
    induction n with
    | zero => intro _ _ _ h; exact absurd h (Nat.not_lt_zero _)
    | succ n ih => exact fun c s hP h => step c s hP fun c' s' hP' h' => ih c' s' hP' (Nat.lt_of_lt_of_le h' (Nat.le_of_lt_succ h))
  exact fun c s hP => all _ c s hP (Nat.lt_succ_self _)
end
theorem ML.node {N2 : Addr} {a : FP} {m : Str → Option Value} {v : Option Value} (M : ML N2 a m) : ML N2 a (fun y => if y = Str.ofString "node" then v else m y) :=
  ⟨(if_neg (by decide)).trans M.l1, (if_neg (by decide)).trans M.l2, (if_neg (by decide)).trans M.l3, (if_neg (by decide)).trans M.l4, (if_neg (by decide)).trans M.l5⟩
theorem locs6 {m : Str → Option Value} {a1 a2 a3 a4 a5 a6 : Str} {v1 v2 v3 v4 v5 v6 : Value} (h1 : m a1 = some v1) (h2 : m a2 = some v2) (h3 : m a3 = some v3) (h4 : m a4 = some v4) (h5 : m a5 = some v5) (h6 : m a6 = some v6) :
    ∃ mm : Str → Option Value, m = fun y => if y = a1 then some v1 else if y = a2 then some v2 else if y = a3 then some v3 else if y = a4 then some v4 else if y = a5 then some v5 else if y = a6 then some v6 else mm y := by
  refine ⟨m, funext fun y => ?_⟩
  (repeat' split) <;> simp_all
theorem FI.more {prog : Program} {w : World} {nds : List Nd} {lev : Str → Nat} {N2 : Addr} {a : FP} {R : List (Addr × Obj)} {st : List Sk} {ys : List Str} {oK so : Obj} {kvs : List (Str × Value)} {q : Addr × Obj} (I : FI prog w nds lev N2 a R st ys oK so kvs) (h : q.1 ∉ a.l ++ st.flatMap Sk.ad) : FI prog w nds lev N2 a (q :: R) st ys oK so kvs :=
  ⟨I.lo, I.dK, I.kv, I.sS, I.ysn, I.ysub, I.mem, I.inc, I.ap, fun p hp => by
    rcases List.mem_cons.mp hp with rfl | hp
    · exact h
    · exact I.apR p hp⟩
theorem FI.less {prog : Program} {w : World} {nds : List Nd} {lev : Str → Nat} {N2 : Addr} {a : FP} {R : List (Addr × Obj)} {st : List Sk} {ys : List Str} {oK so : Obj} {kvs : List (Str × Value)} {q : Addr × Obj} (I : FI prog w nds lev N2 a (q :: R) st ys oK so kvs) : FI prog w nds lev N2 a R st ys oK so kvs :=
  ⟨I.lo, I.dK, I.kv, I.sS, I.ysn, I.ysub, I.mem, I.inc, I.ap, fun p hp => I.apR p (.tail _ hp)⟩
section
variable {M : Model} {A : Around} {E : Value → Shared → Prop} {s : Shared} {env : Env} {pos : Pos} {first : List Value} {Q : Value → Shared → Prop} {q I : Addr}
theorem keeps_mw (h : Heap) (X : h.get? q = some (mwO I)) : ∃ k, (k = Keeper.frame ∨ k = Keeper.machine ∨ k = Keeper.boundFrame) ∧ Looks M h (keeperOf (.ref q)) k :=
  ⟨.machine, .inr (.inl rfl), (Looks.ld (part := none) X).andThen (Looks.of_pure rfl)⟩
theorem callWith_mw (X : s.heap.get? q = some (mwO I)) (h : wpAny M A (call (.ref q) (first ++ [])) Q E s) : wpAny M A (callWith pos (.ref q) first (backTo pos (starEach [] env)) []) Q E s :=
  callWith_of (P := fun h => h.get? q = some (mwO I)) rfl (fun h X => keeps_mw (I := I) h X) (evalArgs_nil3 ⟨X, h⟩)
end
theorem news_upd {h₀ h h' : Heap} {L a : Addr} {o o' : Obj} {news news' : List (Addr × Obj)} (N : News h₀ L h news) (hs : Heap.SameBut a h h') (ha : (a, o) ∈ news) (ho : h'.get? a = some o') (hn : ∀ p ∈ news', p = (a, o') ∨ (p ∈ news ∧ p.1 ≠ a)) : News h₀ L h' news' := fun p hp => by
  rcases hn p hp with rfl | ⟨hm, hne⟩
  · exact ⟨ho, (N _ ha).2⟩
  · exact ⟨(hs.2 _ hne).trans (N _ hm).1, (N _ hm).2⟩
theorem FI.top {prog : Program} {w : World} {nds : List Nd} {lev : Str → Nat} {N2 : Addr} {a : FP} {R : List (Addr × Obj)} {st : List Sk} {ys : List Str} {oK so : Obj} {kvs : List (Str × Value)} {k : Sk} (I : FI prog w nds lev N2 a R (st ++ [k]) ys oK so kvs) : a.K2 ≠ k.I ∧ a.Se ≠ k.I ∧ a.It ≠ k.I ∧ a.St ≠ k.I ∧ k.M ≠ k.I ∧ (∀ p ∈ st.flatMap Sk.es, p.1 ≠ k.I) ∧ (∀ p ∈ R, p.1 ≠ k.I) := by
  generalize Mine.clo = hCl
  revert prog w nds lev N2 a R st ys oK so kvs k
  intro prog w nds lev N2 a R st ys oK so kvs k I
  have h := I.ap
  have hR : ∀ p ∈ R, p.1 ≠ k.I := fun p hp q => I.apR p hp (by rw [q]; simp [Sk.ad])
  simp only [FP.l, List.flatMap_append, List.flatMap_cons, List.flatMap_nil, List.append_nil, Sk.ad, List.cons_append, List.nil_append, List.nodup_cons, List.mem_cons, List.mem_append, List.not_mem_nil, or_false, not_or, List.nodup_append] at h
  obtain ⟨⟨_, _, _, _, _, a1⟩, ⟨_, _, _, _, a2⟩, ⟨_, _, _, a3⟩, ⟨_, _, a4⟩, _, ⟨hm, _⟩, hd⟩ := h
  refine ⟨a1, a2, a3, a4, hm, fun p hp q => ?_, hR⟩
  have : p.1 ∈ st.flatMap Sk.ad := by
    obtain ⟨e, he, hp⟩ := List.mem_flatMap.mp hp
    exact List.mem_flatMap.mpr ⟨e, he, List.mem_map_of_mem (f := Prod.fst) hp⟩
  exact hd _ this k.I (.inr rfl) q
theorem isExc_Stop : isSubtype (.type "StopIteration") (.type "BaseException") = pure true := by rw [isSubtype_type]; kernel_rfl
theorem notTuple_Stop : isSubtype (.type ((Manifest.find? "StopIteration").elim "type" fun y => y.metatype)) (.type "tuple") = pure false := by rw [isSubtype_type]; kernel_rfl
theorem valueAt_in {kvs : List (Str × Value)} {x : Str} (h : x ∈ kvs.map (·.1)) : (valueAt kvs x).isSome = true := by
  obtain ⟨p, hp, e⟩ := List.mem_map.mp h
  unfold valueAt
  rw [Option.isSome_map, List.find?_isSome]
  exact ⟨p, hp, by simpa using e⟩
theorem FI.ne {prog : Program} {w : World} {nds : List Nd} {lev : Str → Nat} {N2 : Addr} {a : FP} {R : List (Addr × Obj)} {st : List Sk} {ys : List Str} {oK so : Obj} {kvs : List (Str × Value)} (I : FI prog w nds lev N2 a R st ys oK so kvs) : a.K2 ≠ a.Se ∧ a.K2 ≠ a.It ∧ a.K2 ≠ a.St ∧ a.Se ≠ a.It ∧ a.Se ≠ a.St ∧ a.It ≠ a.St ∧
    (∀ p ∈ st.flatMap Sk.es ++ R, p.1 ≠ a.K2) ∧ (∀ p ∈ st.flatMap Sk.es ++ R, p.1 ≠ a.Se) ∧ (∀ p ∈ st.flatMap Sk.es ++ R, p.1 ≠ a.It) ∧ (∀ p ∈ st.flatMap Sk.es ++ R, p.1 ≠ a.St) := by
  have h := I.ap
  simp only [FP.l, List.cons_append, List.nil_append, List.nodup_cons, List.mem_cons, not_or] at h
  obtain ⟨⟨h1, h2, h3, h4⟩, ⟨h5, h6, h7⟩, ⟨h8, h9⟩, h10, _⟩ := h
  have hm : ∀ p ∈ st.flatMap Sk.es, p.1 ∈ st.flatMap Sk.ad := fun p hp => by
    obtain ⟨k, hk, hp⟩ := List.mem_flatMap.mp hp
    exact List.mem_flatMap.mpr ⟨k, hk, List.mem_map_of_mem (f := Prod.fst) hp⟩
  have hR : ∀ p ∈ R, p.1 ≠ a.K2 ∧ p.1 ≠ a.Se ∧ p.1 ≠ a.It ∧ p.1 ≠ a.St := fun p hp => by
    have := I.apR p hp
    simp only [FP.l, List.cons_append, List.nil_append, List.mem_cons, not_or] at this
    exact ⟨this.1, this.2.1, this.2.2.1, this.2.2.2.1⟩
  refine ⟨h1, h2, h3, h5, h6, h8, fun p hp q => ?_, fun p hp q => ?_, fun p hp q => ?_, fun p hp q => ?_⟩
  · exact (List.mem_append.mp hp).elim (fun hp => h4 (q ▸ hm p hp)) fun hp => (hR p hp).1 q
  · exact (List.mem_append.mp hp).elim (fun hp => h7 (q ▸ hm p hp)) fun hp => (hR p hp).2.1 q
  · exact (List.mem_append.mp hp).elim (fun hp => h9 (q ▸ hm p hp)) fun hp => (hR p hp).2.2.1 q
  · exact (List.mem_append.mp hp).elim (fun hp => h10 (q ▸ hm p hp)) fun hp => (hR p hp).2.2.2 q
theorem nx_getN {prog : Program} {w : World} {A : Around} {E : Value → Shared → Prop} {s : Shared} {h₀ : Heap} {L I l : Addr} {m : Str → Option Value} {news : List (Addr × Obj)} {nt : Bool} {Q : Value → Shared → Prop} (F : Fr h₀ L s.heap m) (N : News h₀ L s.heap news) (hd0 : A.depth ≤ 900) (hu0 : A.units ≤ 1000) (hm : (I, listIt l 0) ∈ news)
    (hq : ∀ M h' tk', Fr h₀ L h' m → News h₀ L h' ((M, mwO I) :: news) → (∀ p ∈ news, p.1 ≠ M) → Q (.ref M) ⟨h', s.gens, s.drawn, tk', s.os⟩) : wpAny (model prog w) A (getAttr (.ref I) (Str.ofString "__next__") nt) Q E s := by
  obtain ⟨h, g, d, t, os⟩ := s
  refine nx_get hd0 hu0 (N _ hm).1 fun h' M tk' kp hM hM0 => hq M h' tk' ⟨?_, fun b o e => kp b o (F.keep b o e), F.above⟩ (fun p hp => ?_) ?cv5
  case' cv5 => rintro p hp q
  rotate_left
  · exact F.ns.at' fun o e => kp _ o e
  · rcases List.mem_cons.mp hp with rfl | hp
    · refine ⟨hM, fun q => ?_, ?_⟩
      · obtain ⟨o, _, _, e, _⟩ := F.ns
        have q' : M = L := q
        rw [q'] at hM0
        exact absurd (hM0.symm.trans e) (by simp)
      · cases q : h₀.get? M with
        | none => rfl
        | some o => have := F.keep _ o q; rw [hM0] at this; cases this
    · exact ⟨kp _ _ (N p hp).1, (N p hp).2⟩
  · have := (N p hp).1
    rw [q] at this
    exact absurd (hM0.symm.trans this) (by simp)
local macro_rules | `(tactic| walk_at "call builtin:len") => `(tactic| (k_here; (with_reducible show wpAny _ _ (call (Value.builtin "len") [Value.ref _]) _ _ _); k_dflt (refine' kun_lenL ?k1 rfl ?k3 ?_; (case k1 => exact News.isList (by k_asm) (by k_mem)); (case k3 => (rw [List.size_toArray]; lia)); k_whole)))
noncomputable def GSp (w : World) (A : Around) (base : Heap) (fs : List Env) (p : Program) (loose : List Str) (mean : ExcName → Option Value) (mg mb : Str → Option Value) (g' g : Heap) : Prop :=
  KtsTurn (fs.filterMap (·.frame)) g' g ∧ Below A base fs g ∧ (mkK.heap_1 w.params).In g ∧ Top p loose mean mg mb g ∧ KtsDicts (fs.filterMap (·.frame)) g
noncomputable def Hold (P : Flow → Shared → Prop) (f : Flow) (s : Shared) : Prop := P f s
theorem FI.stLen {prog : Program} {w : World} {nds : List Nd} {lev : Str → Nat} {N2 : Addr} {a : FP} {R : List (Addr × Obj)} {st : List Sk} {ys : List Str} {oK so : Obj} {kvs : List (Str × Value)} (I : FI prog w nds lev N2 a R st ys oK so kvs) : (st.map Sk.nm).Nodup ∧ st.length ≤ ys.length := by
  have hn : (st.map Sk.nm).Nodup := by
    have := I.inc
    rw [List.pairwise_map] at this
    unfold List.Nodup
    rw [List.pairwise_map]
    refine this.imp fun {x y} h q => ?_
    unfold Sk.nm at q
    rw [q] at h
    exact Nat.lt_irrefl _ h
  refine ⟨hn, ?_⟩
  rw [← List.length_map (f := Sk.nm) (as := st)]
  refine subLen hn ?_
  rintro y hy
  obtain ⟨k, hk, rfl⟩ := List.mem_map.mp hy
  exact (I.mem k hk).2.2
noncomputable def PW (prog : Program) (w : World) (nds : List Nd) (lev : Str → Nat) (N2 : Addr) (pl : FP) (R : List (Addr × Obj)) (L' : Addr) (s0 : Shared) (GS : Heap → Prop) (g : Heap) (st : List Sk) (x : Str) (t : Tok) (ys : List Str) (s : Shared) : Prop :=
  ∃ h tk m oK so e1 e2 kvs, s = ⟨h, s0.gens, s0.drawn, tk, s0.os⟩ ∧ GS g ∧ Fr g L' h m ∧ ML N2 pl m ∧ m (Str.ofString "node") = some (.str x t) ∧ News g L' h (fled pl oK so e1 e2 st R) ∧ FI prog w nds lev N2 pl R st ys oK so kvs
theorem strKind_str {prog : Program} {w : World} {k : Str} {v : Value} (h : (PySem.strKind prog w).is k v = true) : ∃ t, v = .str k t := by
  cases v <;> simp_all [PySem.strKind, Value.isStrOf]
section
variable {prog : Program} {w : World} {dp un : Nat} {gd : Option (List Code)} {cn : Str} {cs : Scope} {a : Addr} {ccd : Value} {cl : List (Str × Addr)} {outer : List Env} {A₀ : Around} {base h₀ : Heap} {L : Addr} {m : Str → Option Value} {s : Shared} {Q E : Value → Shared → Prop} {p : Program} {loose : List Str} {mean : ExcName → Option Value} {mg mb : Str → Option Value}
variable {H1 H2 H3 H4 : Int} {k1 k2 k3 k4 tp tf : Tok} {S D N2 : Addr} {rd : Value} {po nf : Int} {rest : List (Addr × Obj)} {oN : Obj} {nds : List Nd}
variable (B : Below A₀ base outer h₀) (F : Fr h₀ L s.heap m) (X : (mkK.heap_1 w.params).In h₀) (N : News h₀ L s.heap (lam S D N2 (sortD H1 H2 H3 H4 k1 k2 k3 k4 N2 rd po tp nf tf) oN nds rest)) (T : Top p loose mean mg mb h₀) (XB : (mkK.heap_1 w.params).In base) (TB : Top p loose mean mg mb base) (KD : KtsDicts (outer.filterMap (·.frame)) h₀) (hk : cs.kind = .function) (hd' : dp ≤ 690) (hu : un ≤ 90)
  (G : GOk prog w S D N2 nds oN rest)
include B F X N T XB TB KD hk hd' hu G
set_option maxHeartbeats 4000000 in
theorem fc_ok (lev : Str → Nat) (hlev : ∀ d ∈ nds, ∀ v ∈ d.su, sof v ∈ nds.map Nd.nm ∧ lev d.nm < lev (sof v)) (hz : nds.length ≤ 100)
  (hret : ∀ h₀' h' tk, KtsTurn (outer.filterMap (·.frame)) h₀ h₀' → Fr h₀' L h' m → News h₀' L h' (lam S D N2 (sortD H1 H2 H3 H4 k1 k2 k3 k4 N2 rd po tp nf tf) oN nds rest) → Below A₀ base outer h₀' → (mkK.heap_1 w.params).In h₀' → Top p loose mean mg mb h₀' → KtsDicts (outer.filterMap (·.frame)) h₀' → Q .none ⟨h', s.gens, s.drawn, tk, s.os⟩) :
  wpAny (model prog w) (ktrTop dp un gd cn cs L a ccd cl outer) (call (.ref 361) [.ref S]) Q E s := by
  generalize Mine.clo = hCl
  revert prog w dp un gd cn cs a ccd cl outer A₀ base h₀ L m s Q E p loose mean mg mb H1 H2 H3 H4 k1 k2 k3 k4 tp tf S D N2 rd po nf rest oN nds lev
  intro prog w dp un gd cn cs a ccd cl outer A₀ base h₀ L m s Q E p loose mean mg mb H1 H2 H3 H4 k1 k2 k3 k4 tp tf S D N2 rd po nf rest oN nds B F X N T XB TB KD hk hd' hu G lev hlev hz hret
  refine wpAny_call ?_
  refine' code_defT (binds := [(Str.ofString "self", .ref S)]) B F X N T XB TB KD ?kA ?kF ?kK ?k6 ?k7 ?k8 ?k9 ?kB ?_ ?c2 ?c3 ?c4 ?c5
  case kA => exact rfl
  case kF => exact rfl
  case kK => assumption
  case k6 => k_dflt k_is
  case k7 => k_dflt k_is
  case k8 => ktr_room
  case k9 => exact BindsTo.of_eq rfl
  case kB => exact locs rfl
  case c5 => decide
  case c2 => exact rfl
  case c3 => exact rfl
  case c4 => exact rfl
  intro g' L' h' FG' F' N' B' X' T' D'
  unfold sortD at N'
  refine gQ ?_
  rintro Q8 hQ8
  (repeat ((fail_if_success (with_reducible show wpAny _ _ (exec (.For ..) _) _ _ _)); (first | (k_unfold; (try dsimp only)) | walk1 | (dsimp only; walk1))))
  refine wpAny_For ?_
  (repeat ((fail_if_success (with_reducible show wpAny _ _ (pyIter _) _ _ _)); (first | (k_unfold; (try dsimp only)) | walk1 | (dsimp only; walk1))))
  rename Fr g' L' _ _ => F5
  rename News g' L' _ _ => N5
  generalize hR0 : lam S D N2 [⟨H1, .str (Str.ofString "_node2info") k1, .ref N2⟩, ⟨H2, .str (Str.ofString "_ready_nodes") k2, rd⟩, ⟨H3, .str (Str.ofString "_npassedout") k3, .int po tp⟩, ⟨H4, .str (Str.ofString "_nfinished") k4, .int nf tf⟩] oN nds rest = R0 at N5
  rename Obj.SetObjOf (PySem.strKind prog w) _ _ _ => hsS
  obtain ⟨pl, so, oK, mm, F6, N6, I6, M6⟩ : ∃ (pl : FP) (so oK : Obj) (mm : Str → Option Value), Fr g' L' _ mm ∧ News g' L' _ (fled pl oK so 0 0 [] R0) ∧ FI prog w nds lev N2 pl R0 [] [] oK so [] ∧ ML N2 pl mm := ⟨⟨_, _, _, _⟩, _, _, _, F5, N5, ⟨by assumption, by assumption, rfl, by simpa using hsS, .nil, (fun _ h => by cases h), (fun _ h => by cases h), .nil, by
    simp only [FP.l, List.flatMap_nil, List.append_nil, List.nodup_cons, List.mem_cons, List.not_mem_nil, or_false, not_or, not_false_eq_true, List.nodup_nil, and_true]
    refine ⟨⟨?_, ?_, ?_⟩, ⟨?_, ?_⟩, ?_⟩ <;> (refine ?_; rintro q; have q9 : @Eq Nat _ _ := q; lia), fun p hp => by
    have hm : @LT.lt Nat _ p.1 (mx R0) := mx_le.mp (Nat.le_refl _) p hp
    have e : mx R0 = max (S + 1) (max (D + 1) (max (N2 + 1) (mx (grL nds ++ rest)))) := by rw [← hR0]; rfl
    simp only [FP.l, List.flatMap_nil, List.append_nil, List.mem_cons, List.not_mem_nil, or_false, not_or]
    refine ⟨?_, ?_, ?_, ?_⟩ <;> (refine ?_; rintro q; have q9 : @Eq Nat _ _ := q; lia)⟩, ⟨by rfl, by rfl, by rfl, by rfl, by rfl⟩⟩
  have mN : (N2, oN) ∈ R0 := by rw [← hR0]; exact .tail _ (.tail _ (.head _))
  have mG : ∀ d ∈ nds, ∀ p ∈ d.es, p ∈ R0 := fun d hd p hp => by rw [← hR0]; exact .tail _ (.tail _ (.tail _ (List.mem_append_left _ (List.mem_flatMap.mpr ⟨d, hd, hp⟩))))
  clear N5 F5
  refine for_keysT (L := L') (knd := PySem.strKind prog w) rfl (fun i g m nx => KtsTurn ((envX cn cs L a ccd cl :: outer).filterMap (·.frame)) g' g ∧ Below (ktrTop dp un gd cn cs L a ccd cl outer) base (envX cn cs L a ccd cl :: outer) g ∧ (mkK.heap_1 w.params).In g ∧ Top p loose mean mg mb g ∧ KtsDicts ((envX cn cs L a ccd cl :: outer).filterMap (·.frame)) g ∧
    ML N2 pl m ∧ ∃ oK so e1 e2 ys kvs, nx = fled pl oK so e1 e2 [] R0 ∧ FI prog w nds lev N2 pl R0 [] ys oK so kvs) rfl rfl rfl F6 N6 (.tail _ (.tail _ (.tail _ (.tail _ mN)))) G.dict G.lo ⟨KtsTurn.refl, B', X', T', D', M6, _, _, _, _, _, _, rfl, I6⟩ ?turn ?done
  case done =>
    intro g1 m1 nx h2 tk2 hh F7 N7
    refine and7 hh ?_; rintro t1 b1 x1 p1 d1 M1 hb; clear hh; refine ex6 hb ?_; rintro oK so e1 e2 ys kvs hc; clear hb; refine and2 hc ?_; rintro e I7; clear hc; subst e
    dsimp only
    (repeat (first | (k_unfold; (try dsimp only)) | walk1 | (dsimp only; walk1)))
    (try dsimp only)
    refine hQ8 _ _ ?_
    (repeat (first | (k_unfold; (try dsimp only)) | walk1 | (dsimp only; walk1)))
    (try dsimp only)
    refine leaveT_ F7 N7 t1 fun h0 kT kF kN kB kX kP kD => hret h0 _ _ kT kF (fun p hp => kN p (.tail _ (.tail _ (.tail _ (.tail _ (by rw [← hR0]; exact hp)))))) kB kX kP kD
  case turn =>
    intro g1 i v x y0 m1 nx I0 oI0 h2 tk2 E' hi hx hh hC hI F7 N7
    refine and7 hh ?_; rintro t1 b1 x1 p1 d1 M1 hb; clear hh; refine ex6 hb ?_; rintro oK so e1 e2 ys kvs hc; clear hb; refine and2 hc ?_; rintro e I7; clear hc; subst e
    have hxn : x ∈ nds.map Nd.nm := by
      have := List.mem_of_getElem? hi
      obtain ⟨d, hd, e⟩ := List.mem_map.mp this
      have : d.nm = x := by injection e
      rw [← this]
      exact List.mem_map_of_mem hd
    obtain ⟨t, rfl⟩ := strKind_str hx
    refine wpAny_mono (E := fun _ _ => False) ?_ (fun _ _ z => z) fun _ _ z => z.elim
    refine gQ ?_
    rintro Q9 hQ9
    obtain ⟨mm1, em⟩ := locs5 M1.l1 M1.l2 M1.l3 M1.l4 M1.l5
    have F8 := F7
    rw [em] at F8
    have hSe : (pl.Se, so) ∈ (I0, oI0) :: fled pl oK so e1 e2 [] R0 := .tail _ (.tail _ (.head _))
    have hys := ysLen I7.ysn I7.ysub
    (repeat ((fail_if_success (with_reducible show wpAny _ _ (compareOp ..) _ _ _)); (first | (k_unfold; (try dsimp only)) | walk1 | (dsimp only; walk1))))
    rename Fr g1 L' _ _ => F9
    rename News g1 L' _ _ => N9
    refine wpAny_inSet_of (strKind_is _ _ x t) rfl (I7.sS.setOf (N9 _ hSe).1 (by unfold scanBound; lia)) ?_
    by_cases hxy : x ∈ ys
    · rw [decide_eq_true hxy]
      (repeat (first | (k_unfold; (try dsimp only)) | walk1 | (dsimp only; walk1)))
      dsimp only
      rename News g1 L' _ _ => N10
      refine hQ9 _ _ ?_
      show TurnEndT _ _ _ _ _ _ _
      exact ⟨g1, h2, _, _, _, rfl, F7, N10, fun p hp => by rw [List.mem_singleton.mp hp]; exact hC, hI, t1, b1, x1, p1, d1, M1.node, _, _, _, _, _, _, rfl, I7⟩
    · rw [decide_eq_false hxy]
      (repeat ((fail_if_success (with_reducible show wpAny _ _ (exec (.While ..) _) _ _ _)); (first | (k_unfold; (try dsimp only)) | walk1 | (dsimp only; walk1))))
      rename Fr g1 L' _ _ => F10
      rename News g1 L' _ _ => N10
      have IR : FI prog w nds lev N2 pl ((I0, oI0) :: R0) [] ys oK so kvs := I7.more (by
        simp only [FP.l, List.flatMap_nil, List.append_nil, List.mem_cons, List.not_mem_nil, or_false, not_or]
        exact ⟨Ne.symm (hI _ (.head _)), Ne.symm (hI _ (.tail _ (.head _))), Ne.symm (hI _ (.tail _ (.tail _ (.head _)))), Ne.symm (hI _ (.tail _ (.tail _ (.tail _ (.head _)))))⟩)
      have hN11 : News g1 L' _ (fled pl oK so e1 e2 [] ((I0, oI0) :: R0)) := fun q hq => N10 q (by
        simp only [fled, List.flatMap_nil, List.nil_append, List.mem_cons] at hq ⊢
        rcases hq with h | h | h | h | h | h
        · exact .inr (.inl h)
        · exact .inr (.inr (.inl h))
        · exact .inr (.inr (.inr (.inl h)))
        · exact .inr (.inr (.inr (.inr (.inl h))))
        · exact .inl h
        · exact .inr (.inr (.inr (.inr (.inr h)))))
      refine whl_start 0 ?_
      refine wh_ind (σ := Heap × List Sk × Str × Tok × List Str) (fun c s' => PW prog w nds lev N2 pl ((I0, oI0) :: R0) L' s (GSp w (ktrTop dp un gd cn cs L a ccd cl outer) base (envX cn cs L a ccd cl :: outer) p loose mean mg mb g') c.1 c.2.1 c.2.2.1 c.2.2.2.1 c.2.2.2.2 s' ∧ c.2.2.1 ∈ nds.map Nd.nm ∧ ∀ k ∈ c.2.1, lev k.d.nm < lev c.2.2.1) (fun c => MU nds c.2.1 c.2.2.2.2) ?step (g1, [], x, t, ys) _ ⟨⟨_, _, _, oK, so, e1, e2, kvs, rfl, ⟨t1, b1, x1, p1, d1⟩, F7, M1.node, by rfl, hN11, IR⟩, hxn, fun _ h => by cases h⟩
      case step =>
        have hIR : ∀ p ∈ R0, p.1 ≠ I0 := fun p hp => hI p (.tail _ (.tail _ (.tail _ (.tail _ hp))))
        clear F7 N10 hN11 F10 IR I7 hI hC hx hi hxn hxy hSe em M1 t1 b1 x1 p1 d1 mm1 m1
        rintro ⟨g2, st, x2, t2, ys2⟩ s2 hh ih
        refine and3 hh ?_; rintro hP hxn hlx; clear hh; refine ex8 hP ?_; rintro h3 tk3 m3 oK so e1 e2 kvs hB; clear hP; refine and7 hB ?_; rintro e hG F7 M3 mn N7 I7; clear hB; subst e; refine and5 hG ?_; rintro t1 b1 x1 p1 d1; clear hG
        dsimp only at F7 N7 mn I7 hxn hlx t1 b1 x1 p1 d1
        refine whl_turn (k := 0) ?hE ?_
        case hE => first | passes_own | with_unfolding_all passes_own
        obtain ⟨mm1, em⟩ := locs6 M3.l1 M3.l2 M3.l3 M3.l4 M3.l5 mn
        have F8 := F7
        rw [em] at F8
        have hSe : (pl.Se, so) ∈ fled pl oK so e1 e2 st ((I0, oI0) :: R0) := .tail _ (.head _)
        have hK2 : (pl.K2, oK) ∈ fled pl oK so e1 e2 st ((I0, oI0) :: R0) := .head _
        have hys := ysLen I7.ysn I7.ysub
        (repeat ((fail_if_success (with_reducible show wpAny _ _ (exec (.If ..) _) _ _ _)); (first | (k_unfold; (try dsimp only)) | walk1 | (dsimp only; walk1))))
        refine wpAny_mono (Q := Hold fun f s' => f = Flow.next ∧ ∃ st' ys', PW prog w nds lev N2 pl ((I0, oI0) :: R0) L' s (GSp w (ktrTop dp un gd cn cs L a ccd cl outer) base (envX cn cs L a ccd cl :: outer) p loose mean mg mb g') g2 st' x2 t2 ys' s' ∧ MU nds st' ys' ≤ MU nds st ys2) ?first ?rest (fun _ _ z => z)
        case rest =>
          clear F7 F8 N7 mm1 em M3 mn I7 hSe hK2 hlx m3
          intro f s3 hh
          refine and2 hh ?_; rintro ef hb; clear hh; subst ef; refine ex2 hb ?_; rintro st3 ys3 hc; clear hb; refine and2 hc ?_; rintro hP hmu; clear hc; refine ex8 hP ?_; rintro h3 tk3 m3 oK so e1 e2 kvs hB; clear hP; refine and7 hB ?_; rintro e hG F7 M3 mn N7 I7; clear hB; subst e
          dsimp only
          (repeat ((fail_if_success (with_reducible show wpAny _ _ (exec (.While ..) _) _ _ _)); (first | (k_unfold; (try dsimp only)) | walk1 | (dsimp only; walk1))))
          refine whl_start 0 ?_
          refine wh_ind (σ := Heap × List Sk) (fun c s' => PW prog w nds lev N2 pl ((I0, oI0) :: R0) L' s (GSp w (ktrTop dp un gd cn cs L a ccd cl outer) base (envX cn cs L a ccd cl :: outer) p loose mean mg mb g') c.1 c.2 x2 t2 ys3 s' ∧ MU nds c.2 ys3 ≤ MU nds st ys2) (fun c => c.2.length) ?inner (g2, st3) _ ⟨⟨_, _, m3, oK, so, e1, e2, kvs, rfl, hG, F7, M3, mn, N7, I7⟩, hmu⟩
          case inner =>
            clear F7 N7 I7 M3 mn hmu hG t1 b1 x1 p1 d1 m3
            rintro ⟨g4, st4⟩ s4 hh ih2
            refine and2 hh ?_; rintro hP hmu; clear hh; refine ex8 hP ?_; rintro h4 tk4 m4 oK so e1 e2 kvs hB; clear hP; refine and7 hB ?_; rintro e hG F7 M3 mn N7 I7; clear hB; subst e; refine and5 hG ?_; rintro t1 b1 x1 p1 d1; clear hG
            dsimp only at F7 N7 I7 hmu t1 b1 x1 p1 d1
            refine whl_turn (k := 0) ?hE ?_
            case hE => first | passes_own | with_unfolding_all passes_own
            obtain ⟨mm1, em⟩ := locs6 M3.l1 M3.l2 M3.l3 M3.l4 M3.l5 mn
            have F8 := F7
            rw [em] at F8
            obtain ⟨hsn, hsl⟩ := I7.stLen
            have hys := ysLen I7.ysn I7.ysub
            (repeat ((fail_if_success (with_reducible show wpAny _ _ (truthy ..) _ _ _)); (first | (k_unfold; (try dsimp only)) | walk1 | (dsimp only; walk1))))
            rename Fr g4 L' _ _ => F9
            rename News g4 L' _ _ => N9
            refine wpAny_truthy_list (News.isList N9 (.tail _ (.tail _ (.tail _ (.head _))))) (by rw [List.size_toArray, List.length_map]; lia) ?_
            rcases List.eq_nil_or_concat st4 with rfl | he9
            · (repeat (first | (k_unfold; (try dsimp only)) | walk1 | (dsimp only; walk1)))
              rename Fr g4 L' _ _ => F10
              rename News g4 L' _ _ => N10
              refine hQ9 _ _ ?_
              show TurnEndT _ _ _ _ _ _ _
              refine ⟨g4, _, _, m4, fled pl oK so e1 e2 [] R0, rfl, by rw [em]; exact F10, fun q hq => N10 q ?_, fun p hp => by rw [List.mem_singleton.mp hp]; exact .tail _ (.tail _ (.tail _ (.tail _ mN))), ?_, t1, b1, x1, p1, d1, M3, oK, so, e1, e2, ys3, kvs, rfl, I7.less⟩
              · simp only [fled, List.flatMap_nil, List.nil_append, List.mem_cons] at hq ⊢
                rcases hq with h | h | h | h | h | h
                · exact .inr (.inr (.inr (.inr (.inl h))))
                · exact .inl h
                · exact .inr (.inl h)
                · exact .inr (.inr (.inl h))
                · exact .inr (.inr (.inr (.inl h)))
                · exact .inr (.inr (.inr (.inr (.inr h))))
              · have := I7.apR (I0, oI0) (.head _)
                simp only [FP.l, List.flatMap_nil, List.append_nil, List.mem_cons, List.not_mem_nil, or_false, not_or] at this
                intro p hp
                simp only [fled, List.flatMap_nil, List.nil_append, List.mem_cons] at hp
                rcases hp with rfl | rfl | rfl | rfl | hp
                · exact Ne.symm this.1
                · exact Ne.symm this.2.1
                · exact Ne.symm this.2.2.1
                · exact Ne.symm this.2.2.2
                · exact hIR p hp
            · obtain ⟨st5, k, e⟩ := he9
              rw [List.concat_eq_append] at e
              subst e
              have e1' : (!((st5 ++ [k]).map fun k => Value.str k.d.nm k.t).toArray.isEmpty) = true := by simp
              rw [e1']
              (repeat ((fail_if_success (with_reducible show wpAny _ _ (exec (.Try ..) _) _ _ _)); (first | (k_unfold; (try dsimp only)) | walk1 | (dsimp only; walk1))))
              (repeat ((fail_if_success (with_reducible show wpAny _ _ (subscriptTail ..) _ _ _)); (first | (k_unfold; (try dsimp only)) | walk1 | (dsimp only; walk1))))
              rename Fr g4 L' _ _ => F10
              rename News g4 L' _ _ => N10
              refine kde_neg (vs := (st5 ++ [k]).map fun k => Value.ref k.M) (j := st5.length) (v := .ref k.M) (News.isList N10 (.tail _ (.tail _ (.head _)))) (by decide) (by decide) (by simp [seqIndex?]; lia) (by simp) ?_
              (repeat ((fail_if_success (with_reducible show wpAny _ _ (callWith _ (.ref k.M) _ _ _) _ _ _)); (first | (k_unfold; (try dsimp only)) | walk1 | (dsimp only; walk1))))
              rename Fr g4 L' _ _ => F10
              rename News g4 L' _ _ => N10
              obtain ⟨hk1, hk2, hk3⟩ := I7.mem k (List.mem_append_right _ (List.mem_singleton.mpr rfl))
              have mM : (k.M, mwO k.I) ∈ fled pl oK so e1 e2 (st5 ++ [k]) ((I0, oI0) :: R0) := .tail _ (.tail _ (.tail _ (.tail _ (List.mem_append_left _ (by simp [Sk.es])))))
              have mI : (k.I, listIt k.d.Ls k.j) ∈ fled pl oK so e1 e2 (st5 ++ [k]) ((I0, oI0) :: R0) := .tail _ (.tail _ (.tail _ (.tail _ (List.mem_append_left _ (by simp [Sk.es])))))
              have mL : (k.d.Ls, W.listOf k.d.su.toArray k.d.ep) ∈ fled pl oK so e1 e2 (st5 ++ [k]) ((I0, oI0) :: R0) := .tail _ (.tail _ (.tail _ (.tail _ (List.mem_append_right _ (.tail _ (mG k.d hk1 _ (by simp [Nd.es])))))))
              refine callWith_mw (I := k.I) (N10 _ mM).1 ?_
              rcases Nat.lt_or_ge k.j k.d.su.length with hlt | hge
              · obtain ⟨y, ty, hy⟩ := G.txt k.d hk1 (k.d.su[k.j]) (List.getElem_mem hlt)
                refine nx_item (N10 _ mM).1 (N10 _ mI).1 (N10 _ mL).1 (x := .str y ty) (by rw [List.getElem?_eq_getElem hlt, hy]) ?cv6
                case' cv6 => rintro h6 hI6 hs6
                rotate_left
                obtain ⟨z1, z2, z3, z4, z5, z6, z7⟩ := I7.top
                have F12 := F10.change hs6 (N10 _ mI).2.1 (N10 _ mI).2.2
                have N12 : News g4 L' h6 (fled pl oK so e1 e2 (st5 ++ [{ k with j := k.j + 1 }]) ((I0, oI0) :: R0)) := news_upd N10 hs6 mI hI6 fun p hp => by
                  simp only [fled, List.map_append, List.map_cons, List.map_nil, List.flatMap_append, List.flatMap_cons, List.flatMap_nil, List.append_nil, Sk.es, List.mem_cons, List.mem_append, List.not_mem_nil, or_false] at hp ⊢
                  rcases hp with h | h | h | h | (h | h | h) | h
                  · exact .inr ⟨.inl h, by rw [h]; exact z1⟩
                  · exact .inr ⟨.inr (.inl h), by rw [h]; exact z2⟩
                  · exact .inr ⟨.inr (.inr (.inl h)), by rw [h]; exact z3⟩
                  · exact .inr ⟨.inr (.inr (.inr (.inl h))), by rw [h]; exact z4⟩
                  · exact .inr ⟨.inr (.inr (.inr (.inr (.inl (.inl h))))), z6 p h⟩
                  · exact .inr ⟨.inr (.inr (.inr (.inr (.inl (.inr (.inl h)))))), by rw [h]; exact z5⟩
                  · exact .inl h
                  · exact .inr ⟨.inr (.inr (.inr (.inr (.inr h)))), z7 p (List.mem_cons.mpr h)⟩
                clear N10 F10 mM mI mL
                (repeat ((fail_if_success (with_reducible show WhlRest _ _ _ _ _ _ _ _ _ _ _)); (first | (k_unfold; (try dsimp only)) | walk1 | (dsimp only; walk1))))
                rename Fr g4 L' _ _ => F10
                rename News g4 L' _ _ => N10
                have hl9 := hlev k.d hk1 _ (List.getElem_mem hlt)
                rw [hy] at hl9
                refine ih (g4, st5 ++ [{ k with j := k.j + 1 }], y, ty, ys3) _ ⟨⟨_, _, fun z => if z = Str.ofString "node" then some (Value.str y ty) else m4 z, oK, so, e1, e2, kvs, rfl, ⟨t1, b1, x1, p1, d1⟩, by rw [em]; exact F10, M3.node, by rfl, N10, I7.take (k' := { k with j := k.j + 1 }) rfl rfl rfl (Nat.succ_le_of_lt hlt)⟩, hl9.1, fun e he => ?_⟩ ?_
                · refine Nat.lt_of_le_of_lt ?_ hl9.2
                  rcases List.mem_append.mp he with he | he
                  · have hin := I7.inc
                    rw [List.map_append, List.pairwise_append] at hin
                    exact Nat.le_of_lt (hin.2.2 _ (List.mem_map_of_mem he) _ (List.mem_map_of_mem (List.mem_singleton.mpr rfl)))
                  · rw [List.mem_singleton.mp he]
                    exact Nat.le_refl _
                · have := mu_take (nds := nds) (st := st5) (ys := ys3) (k := k) (k' := { k with j := k.j + 1 }) rfl rfl hlt
                  exact Nat.lt_of_lt_of_le (Nat.lt_of_succ_le (Nat.le_of_eq this)) hmu
              · have hje : k.j = k.d.su.length := Nat.le_antisymm hk2 hge
                refine nx_end (I := k.I) (l := k.d.Ls) (vs := k.d.su) (n := k.d.ep) rfl (N10 _ mM).1 (by rw [← hje]; exact (N10 _ mI).1) (N10 _ mL).1 ?_
                rintro h6 h7 e hI6 hs6 hx6
                obtain ⟨z1, z2, z3, z4, z5, z6, z7⟩ := I7.top
                have F12 := F10.change hs6 (N10 _ mI).2.1 (N10 _ mI).2.2
                have N12 : News g4 L' h6 ((pl.K2, oK) :: (pl.It, W.listOf ((st5 ++ [k]).map fun k => Value.ref k.M).toArray e2) :: (pl.St, W.listOf ((st5 ++ [k]).map fun k => Value.str k.d.nm k.t).toArray e1) :: (pl.Se, so) :: (st5.flatMap Sk.es ++ (I0, oI0) :: R0)) := news_upd N10 hs6 mI hI6 fun p hp => by
                  simp only [fled, List.map_append, List.map_cons, List.map_nil, List.flatMap_append, List.flatMap_cons, List.flatMap_nil, List.append_nil, Sk.es, List.mem_cons, List.mem_append, List.not_mem_nil, or_false] at hp ⊢
                  rcases hp with h | h | h | h | h | h
                  · exact .inr ⟨.inl h, by rw [h]; exact z1⟩
                  · exact .inr ⟨.inr (.inr (.inl h)), by rw [h]; exact z3⟩
                  · exact .inr ⟨.inr (.inr (.inr (.inl h))), by rw [h]; exact z4⟩
                  · exact .inr ⟨.inr (.inl h), by rw [h]; exact z2⟩
                  · exact .inr ⟨.inr (.inr (.inr (.inr (.inl (.inl h))))), z6 p h⟩
                  · exact .inr ⟨.inr (.inr (.inr (.inr (.inr h)))), z7 p (List.mem_cons.mpr h)⟩
                have hw9 : nsIn (mkK.heap_1 w.params) mainGlobals (Str.ofString "StopIteration") = some none := by k_dflt k_is
                refine caughtOwn hx6 F12 N12 b1 XB TB d1 t1 hw9 PyProof.Rows.Boot.«StopIteration» (by decide) isExc_Stop notTuple_Stop isSubtype_stop ?_
                rintro h8 g5 t5 F14 N14 b5 x5 p5 d5
                clear F12 N12 F10 N10 mM mI mL hs6 hI6 hx6
                (repeat ((fail_if_success (with_reducible show wpAny _ _ (call (Value.builtin "list.pop") _) _ _ _)); (first | (k_unfold; (try dsimp only)) | walk1 | (dsimp only; walk1))))
                obtain ⟨n1, n2, n3, n4, n5, n6, r1, r2, r3, r4⟩ := I7.ne
                have sub9 : ∀ p, p ∈ st5.flatMap Sk.es ++ (I0, oI0) :: R0 → p ∈ (st5 ++ [k]).flatMap Sk.es ++ (I0, oI0) :: R0 := fun p hp => by
                  rw [List.flatMap_append]
                  rcases List.mem_append.mp hp with hp | hp
                  · exact List.mem_append_left _ (List.mem_append_left _ hp)
                  · exact List.mem_append_right _ hp
                replace r1 := fun p hp => r1 p (sub9 p hp)
                replace r2 := fun p hp => r2 p (sub9 p hp)
                replace r3 := fun p hp => r3 p (sub9 p hp)
                replace r4 := fun p hp => r4 p (sub9 p hp)
                have hdK := I7.dK
                have hz3 : kvs.length ≤ sizeLine := by
                  have := congrArg List.length I7.kv
                  rw [List.length_map, List.length_map] at this
                  rw [sizeLine_eq, this]
                  lia
                have hva : (valueAt kvs k.d.nm).isSome = true := valueAt_in (by rw [I7.kv]; exact List.mem_map_of_mem (f := Sk.nm) (List.mem_append_right _ (List.mem_singleton.mpr rfl)))
                generalize hRR : st5.flatMap Sk.es ++ (I0, oI0) :: R0 = RR at N14 r1 r2 r3 r4
                rename Fr g5 L' _ _ => F10
                rename News g5 L' _ _ => N10
                refine' kl_pop F10 N10 (its := ((st5 ++ [k]).map fun k => Value.str k.d.nm k.t).toArray) (p := st5.map fun k => Value.str k.d.nm k.t) (y := .str k.d.nm k.t) (by rw [List.map_append]; exact kpa_last _ _) ?U ?z ?cv7
                case' cv7 => rintro h9 F12 N12
                rotate_left
                case U => k_upd
                case z => rw [sizeLine_eq, List.toList_toArray, List.length_map]; lia
                (repeat ((fail_if_success (with_reducible show wpAny _ _ (delItem _ _) _ _ _)); (first | (k_unfold; (try dsimp only)) | walk1 | (dsimp only; walk1))))
                rename Fr g5 L' _ _ => F10
                rename News g5 L' _ _ => N10
                refine' kob_del (knd := PySem.strKind prog w) F10 N10 ?U2 hdK (strKind_is _ _ _ _) hva hz3 ?cv8
                case' cv8 => rintro h10 oK' F12 N12 hdK2
                rotate_left
                case U2 => k_updF
                (try dsimp only at N12)
                (repeat ((fail_if_success (with_reducible show wpAny _ _ (call (Value.builtin "list.pop") _) _ _ _)); (first | (k_unfold; (try dsimp only)) | walk1 | (dsimp only; walk1))))
                rename Fr g5 L' _ _ => F10
                rename News g5 L' _ _ => N10
                refine' kl_pop F10 N10 (its := ((st5 ++ [k]).map fun k => Value.ref k.M).toArray) (p := st5.map fun k => Value.ref k.M) (y := .ref k.M) (by rw [List.map_append]; exact kpa_last _ _) ?U3 ?z3 ?cv9
                case' cv9 => rintro h11 F12 N12
                rotate_left
                case U3 => k_upd
                case z3 => rw [sizeLine_eq, List.toList_toArray, List.length_map]; lia
                (repeat ((fail_if_success (with_reducible show WhlRest _ _ _ _ _ _ _ _ _ _ _)); (first | (k_unfold; (try dsimp only)) | walk1 | (dsimp only; walk1))))
                rename Fr g5 L' _ _ => F10
                rename News g5 L' _ _ => N10
                refine ih2 (g5, st5) _ ⟨⟨_, _, m4, oK', so, e1 + 1, e2 + 1, _, rfl, ⟨t5, b5, x5, p5, d5⟩, by rw [em]; exact F10, M3, mn, fun q hq => N10 q ?_, I7.pop hdK2⟩, Nat.le_trans mu_pop hmu⟩ (by show st5.length < (st5 ++ [k]).length; simp)
                rw [← hRR]
                simp only [fled, List.mem_cons] at hq ⊢
                rcases hq with h | h | h | h | h
                · exact .inl h
                · exact .inr (.inr (.inr (.inl h)))
                · exact .inr (.inl h)
                · exact .inr (.inr (.inl h))
                · exact .inr (.inr (.inr (.inr h)))
        (repeat ((fail_if_success (with_reducible show wpAny _ _ (compareOp ..) _ _ _)); (first | (k_unfold; (try dsimp only)) | walk1 | (dsimp only; walk1))))
        rename Fr g2 L' _ _ => F9
        rename News g2 L' _ _ => N9
        refine wpAny_inSet_of (strKind_is _ _ x2 t2) rfl (I7.sS.setOf (N9 _ hSe).1 (by unfold scanBound; lia)) ?_
        by_cases hxy : x2 ∈ ys2
        · rw [decide_eq_true hxy]
          (repeat ((fail_if_success (with_reducible show wpAny _ _ (compareOp ..) _ _ _)); (first | (k_unfold; (try dsimp only)) | walk1 | (dsimp only; walk1))))
          have hK2' : (pl.K2, oK) ∈ fled pl oK so e1 e2 st ((I0, oI0) :: R0) := .head _
          refine wpAny_in_of (strKind_is _ _ x2 t2) I7.lo (kda_dict (by assumption) hK2' I7.dK).mapOf ?_
          have hnone : valueAt kvs x2 = none := valueAt_notin (I7.notin hlx)
          rw [hnone]
          dsimp only [Option.isSome]
          (repeat (first | (k_unfold; (try dsimp only)) | walk1 | (dsimp only; walk1)))
          rename Fr g2 L' _ _ => F11
          rename News g2 L' _ _ => N11
          (try dsimp only)
          refine ⟨rfl, st, ys2, ⟨_, _, m3, _, _, _, _, _, rfl, ⟨t1, b1, x1, p1, d1⟩, by rw [em]; exact F11, M3, mn, N11, I7⟩, Nat.le_refl _⟩
        · rw [decide_eq_false hxy]
          obtain ⟨d, hd, rfl⟩ := List.mem_map.mp hxn
          obtain ⟨n1, n2, n3, n4, n5, n6, r1, r2, r3, r4⟩ := I7.ne
          have mR : ∀ p, p ∈ (I0, oI0) :: R0 → p ∈ st.flatMap Sk.es ++ (I0, oI0) :: R0 := fun p hp => List.mem_append_right _ hp
          have mN' := mR _ (.tail _ mN)
          have mI := mR _ (.tail _ (mG d hd (d.I, d.o) (by simp [Nd.es])))
          have mD := mR _ (.tail _ (mG d hd (d.dd, dictOf [] 0) (by simp [Nd.es])))
          have mL := mR _ (.tail _ (mG d hd (d.Ls, W.listOf d.su.toArray d.ep) (by simp [Nd.es])))
          have kN1 := r1 _ mN'
          have kN2 := r2 _ mN'
          have kN3 := r3 _ mN'
          have kN4 := r4 _ mN'
          have kI1 := r1 _ mI
          have kI2 := r2 _ mI
          have kI3 := r3 _ mI
          have kI4 := r4 _ mI
          have kD1 := r1 _ mD
          have kD2 := r2 _ mD
          have kD3 := r3 _ mD
          have kD4 := r4 _ mD
          have kL1 := r1 _ mL
          have kL2 := r2 _ mL
          have kL3 := r3 _ mL
          have kL4 := r4 _ mL
          have hva := valueAt_map G.names hd
          have hdi := G.dict
          have hlo := G.lo
          have hsS := I7.sS
          have hdK := I7.dK
          have N10 : News g2 L' _ ((pl.K2, oK) :: (pl.Se, so) :: (pl.It, W.listOf (st.map fun k => Value.ref k.M).toArray e2) :: (pl.St, W.listOf (st.map fun k => Value.str k.d.nm k.t).toArray e1) :: (N2, oN) :: (d.I, d.o) :: (d.dd, dictOf [] 0) :: (d.Ls, W.listOf d.su.toArray d.ep) :: (st.flatMap Sk.es ++ (I0, oI0) :: R0)) := fun q hq => N9 q (by
            simp only [fled, List.mem_cons] at hq ⊢
            rcases hq with h | h | h | h | h | h | h | h | h
            · exact .inl h
            · exact .inr (.inl h)
            · exact .inr (.inr (.inl h))
            · exact .inr (.inr (.inr (.inl h)))
            · exact .inr (.inr (.inr (.inr (h ▸ mN'))))
            · exact .inr (.inr (.inr (.inr (h ▸ mI))))
            · exact .inr (.inr (.inr (.inr (h ▸ mD))))
            · exact .inr (.inr (.inr (.inr (h ▸ mL))))
            · exact .inr (.inr (.inr (.inr h))))
          clear N9
          generalize hRR : st.flatMap Sk.es ++ (I0, oI0) :: R0 = RR at N10 r1 r2 r3 r4
          clear mR mN' mI mD mL hK2 hSe
          obtain ⟨nm, t', I, dd, Ls, np, tn, su, ep, rfl⟩ := ndX d
          dsimp only [Nd.o] at *
          unfold ndO at N10
          obtain ⟨hsn, hsl⟩ := I7.stLen
          have hz1 : (st.map fun k => Value.ref k.M).length ≤ 1000 := by rw [List.length_map]; lia
          have hz2 : (st.map fun k => Value.str k.d.nm k.t).length ≤ 1000 := by rw [List.length_map]; lia
          have hz3 : kvs.length ≤ sizeLine := by
            have := congrArg List.length I7.kv
            rw [List.length_map, List.length_map] at this
            rw [sizeLine_eq, this]
            lia
          (repeat ((fail_if_success (with_reducible show wpAny _ _ (call (Value.builtin "iter") _) _ _ _)); (first | (k_unfold; (try dsimp only)) | walk1 | (dsimp only; walk1))))
          rename Fr g2 L' _ _ => F11
          rename News g2 L' _ _ => N11
          refine iter_list F11 N11 (l := Ls) (vs := su) (n := ep) (by simp) ?_
          rintro Iq h4 F12 N12 lt4
          k_lt lt4
          clear F11 N11
          (repeat ((fail_if_success (with_reducible show wpAny _ _ (getAttr _ (Str.ofString "__next__") _) _ _ _)); (first | (k_unfold; (try dsimp only)) | walk1 | (dsimp only; walk1))))
          rename Fr g2 L' _ _ => F11
          rename News g2 L' _ _ => N11
          refine nx_getN F11 N11 (by show dp + 1 ≤ 900; lia) (by show un + 3 ≤ 1000; lia) (.head _) ?_
          rintro Mq h5 tk5 F13 N13 apM
          clear F11 N11
          have aI := apM _ (.head _)
          have a1 := apM _ (.tail _ (.head _))
          have a2 := apM _ (.tail _ (.tail _ (.head _)))
          have a3 := apM _ (.tail _ (.tail _ (.tail _ (.head _))))
          have a4 := apM _ (.tail _ (.tail _ (.tail _ (.tail _ (.head _)))))
          have a5 := apM _ (.tail _ (.tail _ (.tail _ (.tail _ (.tail _ (.head _))))))
          have aR : ∀ p ∈ RR, p.1 ≠ Mq := fun p hp => apM p (by simp [hp])
          dsimp only at aI a1 a2 a3 a4 a5
          clear apM
          (repeat (first | (k_unfold; (try dsimp only)) | walk1 | (dsimp only; walk1)))
          rename Fr g2 L' _ _ => F11
          rename News g2 L' _ _ => N11
          rename Obj.IsDictOf (PySem.strKind prog w) _ (stored kvs nm _) => hdK'
          rename Obj.SetObjOf _ _ _ _ => hsS'
          (try dsimp only)
          have eI : ∀ p ∈ RR, p.1 ≠ Iq := ne_mx (by lia)
          have IP := I7.push (k := ⟨⟨nm, t', I, dd, Ls, np, tn, su, ep⟩, t2, Iq, Mq, 0⟩) hd rfl hxy hlx hdK' hsS' (Nat.ne_of_lt lt4.1) (Nat.ne_of_lt lt4.2.1) (Nat.ne_of_lt lt4.2.2.1) (Nat.ne_of_lt lt4.2.2.2.1) (by rw [hRR]; exact eI) a1 a2 a3 a4 (by rw [hRR]; exact aR) aI
          refine ⟨rfl, _, _, ⟨_, _, m3, _, _, e1 + 1, e2 + 1, _, rfl, ⟨t1, b1, x1, p1, d1⟩, by rw [em]; exact F11, M3, mn, ?_, IP⟩, by
            have := mu_push (st := st) (k := ⟨⟨nm, t', I, dd, Ls, np, tn, su, ep⟩, t2, Iq, Mq, 0⟩) G.names hxy hd rfl rfl
            exact Nat.le_of_lt (Nat.lt_of_succ_le (Nat.le_of_eq this))⟩
          intro q hq
          refine N11 q ?_
          rw [← hRR]
          simp only [fled, List.map_append, List.map_cons, List.map_nil, List.flatMap_append, List.flatMap_cons, List.flatMap_nil, List.append_nil, Sk.es, List.mem_cons, List.mem_append, List.not_mem_nil, or_false, List.push_toArray] at hq ⊢
          rcases hq with h | h | h | h | (h | h | h) | h | h
          · exact .inr (.inr (.inl h))
          · exact .inr (.inr (.inr (.inl h)))
          · exact .inr (.inr (.inr (.inr (.inl h))))
          · exact .inr (.inr (.inr (.inr (.inr (.inl h)))))
          · exact .inr (.inr (.inr (.inr (.inr (.inr (.inr (.inr (.inr (.inr (.inl h))))))))))
          · exact .inl h
          · exact .inr (.inl h)
          · exact .inr (.inr (.inr (.inr (.inr (.inr (.inr (.inr (.inr (.inr (.inr (.inl h)))))))))))
          · exact .inr (.inr (.inr (.inr (.inr (.inr (.inr (.inr (.inr (.inr (.inr (.inr h)))))))))))
end
end Mine
end
example (h : False) {prog : PySem.Program} {w : PySem.World} {A : PySem.Around} {Q E : PySem.Value → PySem.Shared → Prop} {s : PySem.Shared} {env : PySem.Env} {at0 : PySem.Pos} : PySem.wpAny (PySem.model prog w) A (PySem.eval (.Constant .none 0 at0) env) Q E s := by
  w_top off
  first | (walk1; fail) | exact h.elim
section
open PySem PySem.W PyProof.Rows PySem.Calls
set_option maxRecDepth 100000
set_option linter.unusedSectionVars false
namespace Mine
theorem fillP1 : PySem.Challenge.rw_ik0212_01 = PySem.Challenge.rw_ik0212_01 ∧ mkK.heap_1 = mkK.heap_1 := by
  k_fill
  exact ⟨rfl, rfl⟩
/-- the names that are ready -/
noncomputable def rdyV (nds : List Nd) : List Value := (nds.filter fun d => decide (d.np = 0)).map fun d => Value.str d.nm d.t
theorem rdy_take {nds : List Nd} {i : Nat} (h : i < nds.length) : rdyV (nds.take (i + 1)) = rdyV (nds.take i) ++ rdyV [nds[i]] := by
  rw [List.take_succ_eq_append_getElem h]
  unfold rdyV
  rw [List.filter_append, List.map_append]
section
variable {prog : Program} {w : World} {dp un : Nat} {gd : Option (List Code)} {cn : Str} {cs : Scope} {a : Addr} {ccd : Value} {cl : List (Str × Addr)} {outer : List Env} {A₀ : Around} {base h₀ : Heap} {L : Addr} {m : Str → Option Value} {s : Shared} {Q E : Value → Shared → Prop} {p : Program} {loose : List Str} {mean : ExcName → Option Value} {mg mb : Str → Option Value}
variable {H1 H2 H3 H4 : Int} {k1 k2 k3 k4 tp tf : Tok} {S D N2 : Addr} {po nf : Int} {rest : List (Addr × Obj)} {oN : Obj} {nds : List Nd}
variable (B : Below A₀ base outer h₀) (F : Fr h₀ L s.heap m) (X : (mkK.heap_1 w.params).In h₀) (N : News h₀ L s.heap (lam S D N2 (sortD H1 H2 H3 H4 k1 k2 k3 k4 N2 .none po tp nf tf) oN nds rest)) (T : Top p loose mean mg mb h₀) (XB : (mkK.heap_1 w.params).In base) (TB : Top p loose mean mg mb base) (KD : KtsDicts (outer.filterMap (·.frame)) h₀) (hk : cs.kind = .function) (hd' : dp ≤ 685) (hu : un ≤ 85)
  (G : GOk prog w S D N2 nds oN rest)
include B F X N T XB TB KD hk hd' hu G
set_option maxHeartbeats 4000000 in
theorem prep_ok (lev : Str → Nat) (hlev : ∀ d ∈ nds, ∀ v ∈ d.su, sof v ∈ nds.map Nd.nm ∧ lev d.nm < lev (sof v)) (hz : nds.length ≤ 100)
  (hret : ∀ h₀' h' tk Rd n, KtsTurn (outer.filterMap (·.frame)) h₀ h₀' → Fr h₀' L h' m → News h₀' L h' (lam S D N2 (sortD H1 H2 H3 H4 k1 k2 k3 k4 N2 (.ref Rd) po tp nf tf) oN nds ((Rd, W.listOf (rdyV nds).toArray n) :: rest)) → GOk prog w S D N2 nds oN ((Rd, W.listOf (rdyV nds).toArray n) :: rest) → (∀ p ∈ rest, p.1 ≠ Rd) → Below A₀ base outer h₀' → (mkK.heap_1 w.params).In h₀' → Top p loose mean mg mb h₀' → KtsDicts (outer.filterMap (·.frame)) h₀' → Q .none ⟨h', s.gens, s.drawn, tk, s.os⟩) :
  wpAny (model prog w) (ktrTop dp un gd cn cs L a ccd cl outer) (call (.ref 326) [.ref S]) Q E s := by
  generalize Mine.clo = hCl
  revert prog w dp un gd cn cs a ccd cl outer A₀ base h₀ L m s Q E p loose mean mg mb H1 H2 H3 H4 k1 k2 k3 k4 tp tf S D N2 po nf rest oN nds lev
  intro prog w dp un gd cn cs a ccd cl outer A₀ base h₀ L m s Q E p loose mean mg mb H1 H2 H3 H4 k1 k2 k3 k4 tp tf S D N2 po nf rest oN nds B F X N T XB TB KD hk hd' hu G lev hlev hz hret
  refine wpAny_call ?_
  refine' code_defT (binds := [(Str.ofString "self", .ref S)]) B F X N T XB TB KD ?kA ?kF ?kK ?k6 ?k7 ?k8 ?k9 ?kB ?_ ?c2 ?c3 ?c4 ?c5
  case kA => exact rfl
  case kF => exact rfl
  case kK => assumption
  case k6 => k_dflt k_is
  case k7 => k_dflt k_is
  case k8 => ktr_room
  case k9 => exact BindsTo.of_eq rfl
  case kB => exact locs rfl
  case c5 => decide
  case c2 => exact rfl
  case c3 => exact rfl
  case c4 => exact rfl
  intro g' L' h' FG' F' N' B' X' T' D'
  obtain ⟨n1, n2, n3, n4, n5, n6⟩ := G.ne
  have hdi := G.dict
  have hlo := G.lo
  unfold sortD at N'
  generalize hR : grL nds ++ rest = R at N' n4 n5 n6
  (repeat ((fail_if_success (with_reducible show wpAny _ _ (eval (.ListComp ..) _) _ _ _)); (first | (k_unfold; (try dsimp only)) | walk1 | (dsimp only; walk1))))
  refine comp_eval (L := L') (h₀ := g') (cl := []) (by rfl) (by decide) rfl (by decide) rfl ?_
  (repeat ((fail_if_success (with_reducible show wpAny _ _ (getMethod _ _ _) _ _ _)); (first | (k_unfold; (try dsimp only)) | walk1 | (dsimp only; walk1))))
  rename Fr g' L' _ _ => F10
  rename News g' L' _ _ => N10
  refine val_method (knd := PySem.strKind prog w) N10 (.tail _ (.tail _ (.head _))) hdi ?_
  (repeat ((fail_if_success (with_reducible show wpAny _ _ (call _ _) _ _ _)); (first | (k_unfold; (try dsimp only)) | walk1 | (dsimp only; walk1))))
  refine val_call (knd := PySem.strKind prog w) F10 N10 (.tail _ (.tail _ (.head _))) hdi hlo ?_
  rintro V h3 F11 N11 lt3
  clear F10 N10
  (repeat ((fail_if_success (with_reducible show wpAny _ _ (pyIter _) _ _ _)); (first | (k_unfold; (try dsimp only)) | walk1 | (dsimp only; walk1))))
  obtain ⟨ep, ha⟩ := KdkAt.of hdi
  have hmN : (N2, oN) ∈ (V, viewO N2) :: lam S D N2 (sortD H1 H2 H3 H4 k1 k2 k3 k4 N2 .none po tp nf tf) oN nds rest := .tail _ (.tail _ (.tail _ (.head _)))
  have hlt : ∀ p ∈ (V, viewO N2) :: lam S D N2 (sortD H1 H2 H3 H4 k1 k2 k3 k4 N2 .none po tp nf tf) oN nds rest, @LT.lt Nat _ p.1 h3.objs.size := fun p hp => Heap.lt_size (N11 p hp).1
  refine wpAny_pyIter_values (knd := PySem.strKind prog w) (d := N2) ⟨_, (N11 _ (.head _)).1, rfl, rfl⟩ (ha.dictAt (N11 _ hmN).1) ?_
  refine ⟨_, _, _, _, _, _, (V, viewO N2) :: lam S D N2 (sortD H1 H2 H3 H4 k1 k2 k3 k4 N2 .none po tp nf tf) oN nds rest, _, fun i ys nx => nx = (V, viewO N2) :: lam S D N2 (sortD H1 H2 H3 H4 k1 k2 k3 k4 N2 .none po tp nf tf) oN nds rest ∧ ys = rdyV (nds.take i), rfl, Src.values (knd := PySem.strKind prog w) rfl (Nat.ne_of_lt (hlt _ hmN)) _ ep ha, by rw [List.length_map, sizeLine_eq]; lia, F11.push _, News.push F11 N11 _ rfl, ⟨rfl, rfl⟩, fun p hp => by rw [List.mem_singleton.mp hp]; exact hmN, fun p hp => Nat.ne_of_lt (hlt p hp), ⟨rfl, by simp [rdyV]⟩, ?turn, ?done⟩
  case turn =>
    rintro i v ys nx oI oC Dl c k m₂ h tk E' hi ⟨x, hP⟩ ⟨rfl, rfl⟩ hC nO hm2 F12 N12 q1 q2 q3 q4 c1 c2 c3 hyl
    simp only [List.forIn_cons, List.forIn_nil, if_true]
    have hlen : i < nds.length := by simpa using hi
    have hdI : nds[i] ∈ nds := List.getElem_mem hlen
    have ev : v = .ref nds[i].I := by
      rw [List.getElem?_map, List.getElem?_eq_getElem hlen] at hP
      exact (congrArg Prod.snd (Option.some.inj hP)).symm
    subst ev
    have et : rdyV (nds.take (i + 1)) = rdyV (nds.take i) ++ rdyV [nds[i]] := by
      exact rdy_take hlen
    have mI : (nds[i].I, nds[i].o) ∈ (V, viewO N2) :: lam S D N2 (sortD H1 H2 H3 H4 k1 k2 k3 k4 N2 .none po tp nf tf) oN nds rest := .tail _ (.tail _ (.tail _ (.tail _ (List.mem_append_left _ (List.mem_flatMap.mpr ⟨_, hdI, by simp [Nd.es]⟩)))))
    have mD : (nds[i].dd, dictOf [] 0) ∈ (V, viewO N2) :: lam S D N2 (sortD H1 H2 H3 H4 k1 k2 k3 k4 N2 .none po tp nf tf) oN nds rest := .tail _ (.tail _ (.tail _ (.tail _ (List.mem_append_left _ (List.mem_flatMap.mpr ⟨_, hdI, by simp [Nd.es]⟩)))))
    have N13 : News g' L' h ((nds[i].I, nds[i].o) :: (nds[i].dd, dictOf [] 0) :: (c, oC) :: _) := fun q hq => by
      rcases List.mem_cons.mp hq with rfl | hq
      · exact N12 _ (.tail _ (.tail _ (.tail _ mI)))
      · rcases List.mem_cons.mp hq with rfl | hq
        · exact N12 _ (.tail _ (.tail _ (.tail _ mD)))
        · exact N12 _ hq
    clear mI mD N12
    unfold Nd.o ndO at N13
    generalize nds[i] = d at *
    obtain ⟨nm, t', Id, dd, Ls, np, tn, su, ep'⟩ := d
    dsimp only at N13 ⊢
    refine wpAny_bind (wpAny_bind ?_)
    (repeat ((fail_if_success (with_reducible show wpAny _ _ (eval (.Name (Str.ofString "i") _) _) _ _ _)); (first | (k_unfold; (try dsimp only)) | walk1 | (dsimp only; walk1))))
    refine nm_loc N13 rfl (.tail _ (.tail _ (.head _))) nO hm2 rfl rfl rfl ?_
    dsimp only
    (repeat ((fail_if_success (with_reducible show wpAny _ _ (eval (.Name (Str.ofString "i") _) _) _ _ _)); (first | (k_unfold; (try dsimp only)) | walk1 | (dsimp only; walk1))))
    refine wpAny_pure ?_
    by_cases h0 : np = 0
    · rw [show (np == 0) = true by rw [h0]; rfl]
      dsimp only
      refine wpAny_pure ?_
      rw [if_pos rfl]
      (repeat ((fail_if_success (with_reducible show wpAny _ _ (eval (.Name (Str.ofString "i") _) _) _ _ _)); (first | (k_unfold; (try dsimp only)) | walk1 | (dsimp only; walk1))))
      refine nm_loc N13 rfl (.tail _ (.tail _ (.head _))) nO hm2 rfl rfl rfl ?_
      dsimp only
      (repeat (first | (k_unfold; (try dsimp only)) | walk1 | (dsimp only; walk1)))
      refine comp_end (nx' := []) _ F12 N13 (fun p hp => .tail _ (.tail _ hp)) hC (fun q hq p hp => by
        rcases List.mem_cons.mp hq with rfl | hq
        · exact c1 p hp
        · rcases List.mem_cons.mp hq with rfl | hq
          · exact c2 p hp
          · rw [List.mem_singleton.mp hq]
            exact c3 p hp) ⟨rfl, ?_⟩
      rw [et]
      simp [rdyV, h0]
    · rw [show (np == 0) = false by simpa using h0]
      dsimp only
      refine wpAny_pure ?_
      rw [if_neg Bool.false_ne_true]
      refine comp_end (nx' := []) _ F12 N13 (fun p hp => .tail _ (.tail _ hp)) hC (fun q hq p hp => by
        rcases List.mem_cons.mp hq with rfl | hq
        · exact c1 p hp
        · rcases List.mem_cons.mp hq with rfl | hq
          · exact c2 p hp
          · rw [List.mem_singleton.mp hq]
            exact c3 p hp) ⟨rfl, ?_⟩
      rw [et]
      simp [rdyV, h0]
  case done =>
    rintro ys nx Dl k h tk ⟨rfl, rfl⟩ F12 N12 o1 o2 o3
    rw [List.length_map, List.take_length] at N12
    have o1' : ∀ p ∈ lam S D N2 (sortD H1 H2 H3 H4 k1 k2 k3 k4 N2 .none po tp nf tf) oN nds rest, p.1 ≠ Dl := fun p hp => o1 p (.tail _ hp)
    have G2 := G.moreN (q := (Dl, W.listOf (rdyV nds).toArray k)) (ents := sortD H1 H2 H3 H4 k1 k2 k3 k4 N2 .none po tp nf tf) o1'
    have d1 : S ≠ Dl := o1' (S, instObj 371 D) (.head _)
    have d2 : D ≠ Dl := o1' (D, _) (.tail _ (.head _))
    have d3 : N2 ≠ Dl := o1' (N2, oN) (.tail _ (.tail _ (.head _)))
    have d4 : ∀ p ∈ R, p.1 ≠ Dl := fun p hp => o1' p (.tail _ (.tail _ (.tail _ (by rw [hR]; exact hp))))
    have N14 : News g' L' h ((Dl, W.listOf (rdyV nds).toArray k) :: (S, instObj 371 D) :: (D, dictOf (sortD H1 H2 H3 H4 k1 k2 k3 k4 N2 .none po tp nf tf) 4) :: (N2, oN) :: R) := fun q hq => N12 q (by
      rw [← hR] at hq
      rcases List.mem_cons.mp hq with rfl | hq
      · exact .head _
      · exact .tail _ (.tail _ hq))
    unfold sortD at N14
    clear N12 N11 F11 o1 o2 o3 lt3 hmN hlt
    (repeat ((fail_if_success (with_reducible show wpAny _ _ (call (Value.ref 361) _) _ _ _)); (first | (k_unfold; (try dsimp only)) | walk1 | (dsimp only; walk1))))
    rename Fr g' L' _ _ => F10
    rename News g' L' _ _ => N10
    refine fc_ok (rd := .ref Dl) (rest := (Dl, W.listOf (rdyV nds).toArray k) :: rest) B' F10 X' (fun q hq => N10 q (by
      rw [← hR]
      exact lam_tail.mp hq)) T' XB TB D' rfl (by show dp + 1 ≤ 690; lia) (by show un + 3 ≤ 90; lia) G2 lev hlev hz fun h0 h5 tk5 T5 F5 N5 B5 X5 P5 D5 => ?_
    (repeat (first | (k_unfold; (try dsimp only)) | walk1 | (dsimp only; walk1)))
    rename Fr h0 L' _ _ => F12
    rename News h0 L' _ _ => N12
    (try dsimp only)
    exact leaveT_ F12 N12 T5 fun h0' kT kF kN kB kX kP kD => hret h0' _ _ Dl k kT kF kN G2 (fun p hp => o1' p (.tail _ (.tail _ (.tail _ (List.mem_append_right _ hp))))) kB kX kP kD
end
end Mine
end
example (h : False) {prog : PySem.Program} {w : PySem.World} {A : PySem.Around} {Q E : PySem.Value → PySem.Shared → Prop} {s : PySem.Shared} {env : PySem.Env} {at0 : PySem.Pos} : PySem.wpAny (PySem.model prog w) A (PySem.eval (.Constant .none 0 at0) env) Q E s := by
  w_top off
  first | (walk1; fail) | exact h.elim
section
open PySem PySem.W PyProof.Rows PySem.Calls
set_option maxRecDepth 100000
set_option linter.unusedSectionVars false
namespace Mine
theorem fillP2 : PySem.Challenge.rw_ik0212_01 = PySem.Challenge.rw_ik0212_01 ∧ mkK.heap_1 = mkK.heap_1 := by
  k_fill
  exact ⟨rfl, rfl⟩
local macro_rules | `(tactic| walk_at "call type:tuple") => `(tactic| (k_here; (with_reducible show wpAny _ _ (call (Value.type _) [Value.ref _]) _ _ _); k_dflt (refine' kde_tupleOf ?k1 ?k2 ?k3 ?k4 ?k5 ?_; (case k1 => k_asm); (case k2 => k_asm); (case k3 => exact News.isList (by k_asm) (by k_mem)); (case k4 => (rw [List.size_toArray]; lia)); (case k5 => exact List.toList_toArray); k_whole); intro D' h' F' N' l1; (try k_lt l1); (try k_sweep)))
noncomputable def setNp (v : View) (x : Str) (k : Int) : View := v.map fun e => if e.1 = x then (e.1, k, e.2.2) else e
theorem setNp_at {pre post : List Nd} {d d' : Nd} {k : Int} (hn : ((pre ++ d :: post).map Nd.nm).Nodup) (hd : (d.nm, k, d.su.map sof) = d'.v) : setNp ((pre ++ d :: post).map Nd.v) d.nm k = (pre ++ d' :: post).map Nd.v := at_one (nds := []) (f := fun e => (e.1, k, e.2.2)) hn hd
theorem setNp_nm (v : View) (x : Str) (k : Int) : (setNp v x k).map (·.1) = v.map (·.1) := by
  unfold setNp
  rw [List.map_map]
  refine List.map_congr_left ?_
  rintro e _
  show (if e.1 = x then (e.1, k, e.2.2) else e).1 = e.1
  split <;> rfl
theorem GOk.out {prog : Program} {w : World} {S D N2 : Addr} {nds : List Nd} {oN : Obj} {rest : List (Addr × Obj)} {q : Addr × Obj} (G : GOk prog w S D N2 nds oN rest) (hq : q ∈ rest) : q.1 ≠ S ∧ q.1 ≠ D ∧ q.1 ≠ N2 ∧ ∀ p ∈ grL nds, p.1 ≠ q.1 := by
  have := G.apart q hq
  unfold adrs at this
  simp only [List.mem_cons, not_or] at this
  refine ⟨this.1, this.2.1, this.2.2.1, fun p hp e => this.2.2.2 ?_⟩
  rw [← e, ← grL_ad]
  exact List.mem_map_of_mem hp
theorem GOk.re {prog : Program} {w : World} {S D N2 : Addr} {nds : List Nd} {oN : Obj} {rest rest' : List (Addr × Obj)} (G : GOk prog w S D N2 nds oN rest) (h : ∀ p ∈ rest', ∃ q ∈ rest, q.1 = p.1) : GOk prog w S D N2 nds oN rest' :=
  ⟨G.dict, G.lo, G.names, G.nodup, fun p hp => by obtain ⟨q, hq, e⟩ := h p hp; rw [← e]; exact G.apart q hq, G.txt⟩
theorem locs3 {m : Str → Option Value} {a1 a2 a3 : Str} {v1 v2 v3 : Value} (h1 : m a1 = some v1) (h2 : m a2 = some v2) (h3 : m a3 = some v3) :
    ∃ mm : Str → Option Value, m = fun y => if y = a1 then some v1 else if y = a2 then some v2 else if y = a3 then some v3 else mm y := by
  refine ⟨m, funext fun y => ?_⟩
  (repeat' split) <;> simp_all
section
variable {prog : Program} {w : World} {dp un : Nat} {gd : Option (List Code)} {cn : Str} {cs : Scope} {a : Addr} {ccd : Value} {cl : List (Str × Addr)} {outer : List Env} {A₀ : Around} {base h₀ : Heap} {L : Addr} {m : Str → Option Value} {s : Shared} {Q E : Value → Shared → Prop} {p : Program} {loose : List Str} {mean : ExcName → Option Value} {mg mb : Str → Option Value}
variable {H1 H2 H3 H4 : Int} {k1 k2 k3 k4 tp tf : Tok} {S D N2 Rd : Addr} {po nf : Int} {n : Nat} {vs : List Value} {rest : List (Addr × Obj)} {oN : Obj} {nds : List Nd}
variable (B : Below A₀ base outer h₀) (F : Fr h₀ L s.heap m) (X : (mkK.heap_1 w.params).In h₀) (N : News h₀ L s.heap (lam S D N2 (sortD H1 H2 H3 H4 k1 k2 k3 k4 N2 (.ref Rd) po tp nf tf) oN nds ((Rd, W.listOf vs.toArray n) :: rest))) (T : Top p loose mean mg mb h₀) (hk : cs.kind = .function) (hd' : dp ≤ 690) (hu : un ≤ 90)
  (G : GOk prog w S D N2 nds oN ((Rd, W.listOf vs.toArray n) :: rest)) (hRr : ∀ p ∈ rest, p.1 ≠ Rd)
include B F X N T hk hd' hu G hRr
set_option maxHeartbeats 4000000 in
theorem gr_ok (hv : ∀ v ∈ vs, ∃ x t, v = .str x t ∧ x ∈ nds.map Nd.nm) (hvz : vs.length ≤ 100) (hne : vs ≠ [])
  (hret : ∀ nds' Tp n' tp' h' tk, nds'.map Nd.v = (vs.map sof).foldl (fun v x => setNp v x (-1)) (nds.map Nd.v) → GOk prog w S D N2 nds' oN ((Tp, tupO vs.toArray 0) :: (Rd, W.listOf #[] n') :: rest) → (∀ p ∈ (Rd, W.listOf #[] n') :: rest, p.1 ≠ Tp) → Fr h₀ L h' m →
    News h₀ L h' (lam S D N2 (sortD H1 H2 H3 H4 k1 k2 k3 k4 N2 (.ref Rd) (po + vs.length) tp' nf tf) oN nds' ((Tp, tupO vs.toArray 0) :: (Rd, W.listOf #[] n') :: rest)) → Q (.ref Tp) ⟨h', s.gens, s.drawn, tk, s.os⟩) :
  wpAny (model prog w) (ktrTop dp un gd cn cs L a ccd cl outer) (call (.ref 333) [.ref S]) Q E s := by
  generalize Mine.clo = hCl
  revert prog w dp un gd cn cs a ccd cl outer A₀ base h₀ L m s Q E p loose mean mg mb H1 H2 H3 H4 k1 k2 k3 k4 tp tf S D N2 Rd po nf n vs rest oN nds
  intro prog w dp un gd cn cs a ccd cl outer A₀ base h₀ L m s Q E p loose mean mg mb H1 H2 H3 H4 k1 k2 k3 k4 tp tf S D N2 Rd po nf n vs rest oN nds B F X N T hk hd' hu G hRr hv hvz hne hret
  refine wpAny_call ?_; k_dflt ktr_enter
  obtain ⟨n1, n2, n3, n4, n5, n6⟩ := G.ne
  rename_i g' L' h' FG' F' N' B' X' T'
  unfold sortD at N'
  have n7 : S ≠ Rd := Ne.symm (n4 (Rd, _) (List.mem_append_right _ (.head _)))
  have n8 : D ≠ Rd := Ne.symm (n5 (Rd, _) (List.mem_append_right _ (.head _)))
  have n9 : N2 ≠ Rd := Ne.symm (n6 (Rd, _) (List.mem_append_right _ (.head _)))
  have q4 : ∀ p ∈ grL nds ++ rest, p.1 ≠ S := fun p hp => n4 p (by rcases List.mem_append.mp hp with h | h <;> simp [h])
  have q5 : ∀ p ∈ grL nds ++ rest, p.1 ≠ D := fun p hp => n5 p (by rcases List.mem_append.mp hp with h | h <;> simp [h])
  have q6 : ∀ p ∈ grL nds ++ rest, p.1 ≠ N2 := fun p hp => n6 p (by rcases List.mem_append.mp hp with h | h <;> simp [h])
  have q7 : ∀ p ∈ grL nds ++ rest, p.1 ≠ Rd := fun p hp => by
    rcases List.mem_append.mp hp with h | h
    · exact fun e => G.apart (Rd, W.listOf vs.toArray n) (.head _) (by
        rw [show (Rd, W.listOf vs.toArray n).1 = p.1 from e.symm]
        exact .tail _ (.tail _ (.tail _ (grL_ad nds ▸ List.mem_map_of_mem h))))
    · exact hRr p h
  have N2' : News g' L' h' ((Rd, W.listOf vs.toArray n) :: (S, instObj 371 D) :: (D, dictOf (sortD H1 H2 H3 H4 k1 k2 k3 k4 N2 (.ref Rd) po tp nf tf) 4) :: (N2, oN) :: (grL nds ++ rest)) := fun q hq => N' q (lam_tail.mpr hq)
  unfold sortD at N2'
  clear N' n4 n5 n6
  generalize hR : grL nds ++ rest = R at N2' q4 q5 q6 q7
  (repeat ((fail_if_success (with_reducible show wpAny _ _ (exec (.For ..) _) _ _ _)); (first | (k_unfold; (try dsimp only)) | walk1 | (dsimp only; walk1))))
  refine wpAny_For ?_
  (repeat ((fail_if_success (with_reducible show wpAny _ _ (pyIter _) _ _ _)); (first | (k_unfold; (try dsimp only)) | walk1 | (dsimp only; walk1))))
  rename Fr g' L' _ _ => F5
  rename News g' L' _ _ => N5
  rename_i Tp hy9 lT tk9 hz9
  have aT : ∀ p ∈ R, p.1 ≠ Tp := ne_mx (by lia)
  have N6 : News g' L' hz9 ((Tp, tupO vs.toArray 0) :: (Rd, W.listOf vs.toArray n) :: lam S D N2 (sortD H1 H2 H3 H4 k1 k2 k3 k4 N2 (.ref Rd) po tp nf tf) oN nds rest) := by rw [← hR] at N5; exact N5
  have GT : GOk prog w S D N2 nds oN ((Tp, tupO vs.toArray 0) :: (Rd, W.listOf vs.toArray n) :: rest) := G.moreN (q := (Tp, tupO vs.toArray 0)) (ents := sortD H1 H2 H3 H4 k1 k2 k3 k4 N2 (.ref Rd) po tp nf tf) fun p hp => by
    rcases List.mem_cons.mp (lam_tail.mp hp) with rfl | hp
    · exact Nat.ne_of_lt lT.1
    · rcases List.mem_cons.mp hp with rfl | hp
      · exact Nat.ne_of_lt lT.2.1
      · rcases List.mem_cons.mp hp with rfl | hp
        · exact Nat.ne_of_lt lT.2.2.1
        · rcases List.mem_cons.mp hp with rfl | hp
          · exact Nat.ne_of_lt lT.2.2.2.1
          · exact aT p (by rw [← hR]; exact hp)
  have apT : ∀ p ∈ (Rd, W.listOf vs.toArray n) :: rest, p.1 ≠ Tp := fun p hp => by
    rcases List.mem_cons.mp hp with rfl | hp
    · exact Nat.ne_of_lt lT.1
    · exact aT p (by rw [← hR]; exact List.mem_append_right _ hp)
  clear N5
  refine for_tup (L := L') (vs := vs) (n := 0) rfl (fun i m nx => m (Str.ofString "self") = some (.ref S) ∧ m (Str.ofString "result") = some (.ref Tp) ∧ m (Str.ofString "n2i") = some (.ref N2) ∧ ∃ nds', nx = (Tp, tupO vs.toArray 0) :: (Rd, W.listOf vs.toArray n) :: lam S D N2 (sortD H1 H2 H3 H4 k1 k2 k3 k4 N2 (.ref Rd) po tp nf tf) oN nds' rest ∧ GOk prog w S D N2 nds' oN ((Tp, tupO vs.toArray 0) :: (Rd, W.listOf vs.toArray n) :: rest) ∧
    nds'.map Nd.v = ((vs.take i).map sof).foldl (fun v x => setNp v x (-1)) (nds.map Nd.v) ∧ nds'.map Nd.nm = nds.map Nd.nm) rfl rfl rfl F5 N6 (.head _) ⟨by rfl, by rfl, by rfl, nds, rfl, GT, by simp, rfl⟩ ?turn ?done
  case done =>
    rintro m1 nx h2 tk2 ⟨m1s, m1r, m1n, nds2, rfl, G3, V3, _⟩ F6 N7
    obtain ⟨mm, rfl⟩ := locs3 m1s m1r m1n
    dsimp only
    obtain ⟨u1, u2, u3, u4⟩ := G3.out (q := (Tp, tupO vs.toArray 0)) (.head _)
    obtain ⟨v1, v2, v3, v4⟩ := G3.out (q := (Rd, W.listOf vs.toArray n)) (.tail _ (.head _))
    obtain ⟨y1, y2, y3, y4, y5, y6⟩ := G3.ne
    dsimp only at u1 u2 u3 u4 v1 v2 v3 v4
    have tr : Rd ≠ Tp := apT _ (.head _)
    have sub9 : ∀ p, p ∈ grL nds2 ++ rest → p ∈ grL nds2 ++ ((Tp, tupO vs.toArray 0) :: (Rd, W.listOf vs.toArray n) :: rest) := fun p hp => by
      rcases List.mem_append.mp hp with h | h
      · exact List.mem_append_left _ h
      · exact List.mem_append_right _ (.tail _ (.tail _ h))
    replace y4 := fun p hp => y4 p (sub9 p hp)
    replace y5 := fun p hp => y5 p (sub9 p hp)
    replace y6 := fun p hp => y6 p (sub9 p hp)
    have y7 : ∀ p ∈ grL nds2 ++ rest, p.1 ≠ Rd := fun p hp => (List.mem_append.mp hp).elim (v4 p) (hRr p)
    have y8 : ∀ p ∈ grL nds2 ++ rest, p.1 ≠ Tp := fun p hp => (List.mem_append.mp hp).elim (u4 p) fun hp => apT p (.tail _ hp)
    unfold lam sortD at N7
    generalize hR2 : grL nds2 ++ rest = R2 at N7 y4 y5 y6 y7 y8
    (repeat ((fail_if_success (with_reducible show wpAny _ _ (call (Value.builtin "list.clear") _) _ _ _)); (first | (k_unfold; (try dsimp only)) | walk1 | (dsimp only; walk1))))
    rename Fr g' L' _ _ => F10
    rename News g' L' _ _ => N10
    refine' kl_clear F10 N10 (its := vs.toArray) ?U ?ne ?z ?cv13
    case' cv13 => rintro h9 F12 N12
    rotate_left
    case U => k_upd
    case ne => rw [List.toList_toArray]; exact fun e => hne (List.length_eq_zero_iff.mp e)
    case z => rw [sizeLine_eq, List.toList_toArray]; lia
    (repeat (first | (k_unfold; (try dsimp only)) | walk1 | (dsimp only; walk1)))
    rename Fr h₀ L _ _ => F14
    rename News h₀ L _ _ => N14
    rw [← hR2, List.size_toArray] at N14
    obtain ⟨tp', N15⟩ : ∃ tp', News h₀ L _ (lam S D N2 (sortD H1 H2 H3 H4 k1 k2 k3 k4 N2 (.ref Rd) (po + vs.length) tp' nf tf) oN nds2 ((Tp, tupO vs.toArray 0) :: (Rd, W.listOf #[] (n + 1)) :: rest)) := ⟨_, fun p hp => N14 p (by
      rcases List.mem_cons.mp (lam_tail.mp hp) with rfl | hp
      · exact .head _
      · exact .tail _ (lam_tail.mp hp))⟩
    refine hret nds2 Tp (n + 1) tp' _ _ (by rw [V3, List.take_length]) (G3.re fun p hp => ?_) (fun p hp => ?_) F14 N15
    · rcases List.mem_cons.mp hp with rfl | hp
      · exact ⟨_, .head _, rfl⟩
      · rcases List.mem_cons.mp hp with rfl | hp
        · exact ⟨_, .tail _ (.head _), rfl⟩
        · exact ⟨p, .tail _ (.tail _ hp), rfl⟩
    · rcases List.mem_cons.mp hp with rfl | hp
      · exact tr
      · exact apT p (.tail _ hp)
  case turn =>
    rintro i v m1 nx Ii oI h2 tk2 E' hi ⟨m1s, m1r, m1n, nds2, rfl, G3, V3, W3⟩ hC hI F6 N7
    obtain ⟨mm, rfl⟩ := locs3 m1s m1r m1n
    obtain ⟨y, ty, rfl, hy⟩ := hv v (List.mem_of_getElem? hi)
    rw [← W3] at hy
    obtain ⟨d, hd, rfl⟩ := List.mem_map.mp hy
    have hva := valueAt_map G3.names hd
    obtain ⟨pre, post, rfl⟩ := List.append_of_mem hd
    have hdi := G3.dict
    have hlo := G3.lo
    have GI : GOk prog w S D N2 (pre ++ d :: post) oN ((Ii, oI) :: (Tp, tupO vs.toArray 0) :: (Rd, W.listOf vs.toArray n) :: rest) := G3.moreN (q := (Ii, oI)) (ents := sortD H1 H2 H3 H4 k1 k2 k3 k4 N2 (.ref Rd) po tp nf tf) fun p hp => by
      rcases List.mem_cons.mp (lam_tail.mp hp) with rfl | hp
      · exact hI _ (.head _)
      · exact hI p (.tail _ (by
          rcases List.mem_cons.mp (lam_tail.mp hp) with rfl | hp
          · exact .head _
          · exact .tail _ hp))
    have Bd := (GI.sub (rest' := rest) fun p hp => .tail _ (.tail _ (.tail _ hp))).bare
    have f1 : ∀ q ∈ [(Ii, oI), (Tp, tupO vs.toArray 0), (Rd, W.listOf vs.toArray n)], q.1 ≠ d.I ∧ q.1 ≠ d.dd ∧ q.1 ≠ d.Ls ∧ q.1 ≠ S ∧ q.1 ≠ D ∧ q.1 ≠ N2 := fun q hq => by
      have hq' : q ∈ grL pre ++ grL post ++ ((Ii, oI) :: (Tp, tupO vs.toArray 0) :: (Rd, W.listOf vs.toArray n) :: rest) := List.mem_append_right _ (by
        rcases List.mem_cons.mp hq with rfl | hq
        · exact .head _
        · rcases List.mem_cons.mp hq with rfl | hq
          · exact .tail _ (.head _)
          · rw [List.mem_singleton.mp hq]; exact .tail _ (.tail _ (.head _)))
      exact ⟨GI.bare.mI q hq', GI.bare.md q hq', GI.bare.mL q hq', GI.bare.mS q hq', GI.bare.mD q hq', GI.bare.mN q hq'⟩
    obtain ⟨i1, i2, i3, i4, i5, i6⟩ := f1 (Ii, oI) (.head _)
    obtain ⟨t1, t2, t3, t4, t5, t6⟩ := f1 (Tp, tupO vs.toArray 0) (.tail _ (.head _))
    obtain ⟨r1, r2, r3, r4, r5, r6⟩ := f1 (Rd, W.listOf vs.toArray n) (.tail _ (.tail _ (.head _)))
    clear f1
    have N8 : News g' L' h2 ((Ii, oI) :: (Tp, tupO vs.toArray 0) :: (Rd, W.listOf vs.toArray n) :: bareL S D N2 (sortD H1 H2 H3 H4 k1 k2 k3 k4 N2 (.ref Rd) po tp nf tf) oN pre d post rest) := fun p hp => N7 p (by
      rcases List.mem_cons.mp hp with rfl | hp
      · exact .head _
      · rcases List.mem_cons.mp hp with rfl | hp
        · exact .tail _ (.head _)
        · rcases List.mem_cons.mp hp with rfl | hp
          · exact .tail _ (.tail _ (.head _))
          · exact .tail _ (.tail _ (.tail _ (lam_bare.mp hp))))
    clear N7
    obtain ⟨nm, t', Id, dd, Ls, np, tn, su, ep⟩ := d
    dsimp only [bareL, Nd.o] at N8 hva i1 i2 i3 t1 t2 t3 r1 r2 r3
    unfold sortD ndO at N8
    obtain ⟨a1, a2, a3, b1, b2, b3, c1, c2, c3, d1, d2, d3, e1, e2, e3, mI, md, mL, mS, mD, mN⟩ := Bd
    dsimp only at a1 a2 a3 b1 b2 b3 c1 c2 c3 d1 d2 d3 mI md mL
    (repeat (first | (k_unfold; (try dsimp only)) | walk1 | (dsimp only; walk1)))
    rename Fr g' L' _ _ => F8
    rename News g' L' _ _ => N8
    obtain ⟨tn', N9⟩ : ∃ tn', News g' L' _ ((Ii, oI) :: (Tp, tupO vs.toArray 0) :: (Rd, W.listOf vs.toArray n) :: lam S D N2 (sortD H1 H2 H3 H4 k1 k2 k3 k4 N2 (.ref Rd) po tp nf tf) oN (pre ++ ⟨nm, t', Id, dd, Ls, -1, tn', su, ep⟩ :: post) rest) := ⟨_, fun q hq => N8 q (by
      rcases List.mem_cons.mp hq with rfl | hq
      · exact .head _
      · rcases List.mem_cons.mp hq with rfl | hq
        · exact .tail _ (.head _)
        · rcases List.mem_cons.mp hq with rfl | hq
          · exact .tail _ (.tail _ (.head _))
          · exact .tail _ (.tail _ (.tail _ (lam_bare.mpr hq))))⟩
    have htx := G3.txt ⟨nm, t', Id, dd, Ls, np, tn, su, ep⟩ (by simp)
    have G4 := G3.put (d' := ⟨nm, t', Id, dd, Ls, -1, tn', su, ep⟩) rfl rfl rfl htx
    have GI4 := GI.put (d' := ⟨nm, t', Id, dd, Ls, -1, tn', su, ep⟩) rfl rfl rfl htx
    have V4 : (pre ++ Nd.mk nm t' Id dd Ls (-1) tn' su ep :: post).map Nd.v = setNp ((pre ++ Nd.mk nm t' Id dd Ls np tn su ep :: post).map Nd.v) nm (-1) := (setNp_at (d := ⟨nm, t', Id, dd, Ls, np, tn, su, ep⟩) (d' := ⟨nm, t', Id, dd, Ls, -1, tn', su, ep⟩) G3.names rfl).symm
    have off := GI4.notQ (ents := sortD H1 H2 H3 H4 k1 k2 k3 k4 N2 (.ref Rd) po tp nf tf) (q := (Ii, oI)) (.head _) (rest' := rest) fun p hp => hI p (.tail _ (.tail _ (.tail _ (.tail _ (.tail _ (List.mem_append_right _ hp))))))
    show TurnEnd _ _ _ _ _ _ _ _
    refine ⟨_, _, _, _, rfl, F8, N9, fun q hq => by rw [List.mem_singleton.mp hq]; exact .head _, fun q hq => ?_, rfl, rfl, rfl, _, rfl, G4, ?_, ?_⟩
    · rcases List.mem_cons.mp hq with rfl | hq
      · exact hI _ (.head _)
      · rcases List.mem_cons.mp hq with rfl | hq
        · exact hI _ (.tail _ (.head _))
        · exact off q hq
    · rw [V4, V3, List.take_add_one, hi, List.map_append, List.foldl_append]
      rfl
    · rw [← W3]
      simp
end
end Mine
end
example (h : False) {prog : PySem.Program} {w : PySem.World} {A : PySem.Around} {Q E : PySem.Value → PySem.Shared → Prop} {s : PySem.Shared} {env : PySem.Env} {at0 : PySem.Pos} : PySem.wpAny (PySem.model prog w) A (PySem.eval (.Constant .none 0 at0) env) Q E s := by
  w_top off
  first | (walk1; fail) | exact h.elim
section
open PySem PySem.W PyProof.Rows PySem.Calls
set_option maxRecDepth 100000
set_option linter.unusedSectionVars false
namespace Mine
theorem fillP3 : PySem.Challenge.rw_ik0212_01 = PySem.Challenge.rw_ik0212_01 ∧ mkK.heap_1 = mkK.heap_1 := by
  k_fill
  exact ⟨rfl, rfl⟩
theorem meets_bool_new_list (l : Addr) (items : Array Value) (hfit : (items.size : Int) < 2 ^ 63) :
    Meets (Builtin.«bool.__new__» ⟨[.type "bool", .ref l], []⟩) (fun _ R s => s.heap.IsList l items ∧ R (.ok (.ret (.bool (!items.isEmpty)))) { s with toks := s.toks + 1 + 1 }) :=
  Meets.of_wp fun prog w A R s hs => by
    obtain ⟨hl, hs⟩ := hs
    obtain ⟨hp, g, d, tk, os⟩ := s
    have f1 := F.conv_sub_bool
    repeat (any_goals (first | assumption | (with_reducible refine wpAny_truthy_list hl hfit ?_) | wp_step))
    all_goals first | exact ⟨_, rfl, hs⟩ | exact hs | skip
theorem call_bool_list {prog : Program} {w : World} {A : Around} {E : Value → Shared → Prop} {s : Shared} {l : Addr} {items : Array Value} {Q : Value → Shared → Prop} (hl : s.heap.IsList l items) (hfit : (items.size : Int) < 2 ^ 63) (h : Q (.bool (!items.isEmpty)) { s with toks := s.toks + 1 + 1 }) :
    wpAny (model prog w) A (call (.type "bool") [.ref l]) Q E s :=
  call_bool_1 (meets_bool_new_list l items hfit) (show _ ∧ wants (fun obj s₁ => s₁.TypeIs obj "bool" ∧ Q obj s₁) E _ _ from ⟨hl, rfl, h⟩)
section
variable {prog : Program} {w : World} {dp un : Nat} {gd : Option (List Code)} {cn : Str} {cs : Scope} {a : Addr} {ccd : Value} {cl : List (Str × Addr)} {outer : List Env} {A₀ : Around} {base h₀ : Heap} {L : Addr} {m : Str → Option Value} {s : Shared} {Q E : Value → Shared → Prop} {p : Program} {loose : List Str} {mean : ExcName → Option Value} {mg mb : Str → Option Value}
variable {H1 H2 H3 H4 : Int} {k1 k2 k3 k4 tp tf : Tok} {S D N2 Rd : Addr} {po : Int} {n : Nat} {vs : List Value} {rest : List (Addr × Obj)} {oN : Obj} {nds : List Nd}
variable (B : Below A₀ base outer h₀) (F : Fr h₀ L s.heap m) (X : (mkK.heap_1 w.params).In h₀) (N : News h₀ L s.heap (lam S D N2 (sortD H1 H2 H3 H4 k1 k2 k3 k4 N2 (.ref Rd) po tp po tf) oN nds ((Rd, W.listOf vs.toArray n) :: rest))) (T : Top p loose mean mg mb h₀) (hk : cs.kind = .function) (hd' : dp ≤ 690) (hu : un ≤ 90)
  (G : GOk prog w S D N2 nds oN ((Rd, W.listOf vs.toArray n) :: rest)) (hRr : ∀ p ∈ rest, p.1 ≠ Rd)
include B F X N T hk hd' hu G hRr
set_option maxHeartbeats 4000000 in
theorem ia_ok (hvz : vs.length ≤ 100) (hret : ∀ h' tk, Fr h₀ L h' m →
    News h₀ L h' (lam S D N2 (sortD H1 H2 H3 H4 k1 k2 k3 k4 N2 (.ref Rd) po tp po tf) oN nds ((Rd, W.listOf vs.toArray n) :: rest)) → Q (.bool (!vs.isEmpty)) ⟨h', s.gens, s.drawn, tk, s.os⟩) :
  wpAny (model prog w) (ktrTop dp un gd cn cs L a ccd cl outer) (call (.ref 340) [.ref S]) Q E s := by
  generalize Mine.clo = hCl
  revert prog w dp un gd cn cs a ccd cl outer A₀ base h₀ L m s Q E p loose mean mg mb H1 H2 H3 H4 k1 k2 k3 k4 tp tf S D N2 Rd po n vs rest oN nds
  intro prog w dp un gd cn cs a ccd cl outer A₀ base h₀ L m s Q E p loose mean mg mb H1 H2 H3 H4 k1 k2 k3 k4 tp tf S D N2 Rd po n vs rest oN nds B F X N T hk hd' hu G hRr hvz hret
  refine wpAny_call ?_; k_dflt ktr_enter
  rename_i g' L' h' FG' F' N' B' X' T'
  unfold sortD at N'
  have N2' : News g' L' h' ((Rd, W.listOf vs.toArray n) :: (S, instObj 371 D) :: (D, dictOf (sortD H1 H2 H3 H4 k1 k2 k3 k4 N2 (.ref Rd) po tp po tf) 4) :: (N2, oN) :: (grL nds ++ rest)) := fun q hq => N' q (lam_tail.mpr hq)
  unfold sortD at N2'
  clear N'
  generalize hR : grL nds ++ rest = R at N2'
  (repeat ((fail_if_success (with_reducible show wpAny _ _ (compareOp .Lt _ _) _ _ _)); (first | (k_unfold; (try dsimp only)) | walk1 | (dsimp only; walk1))))
  refine wpAny_lt_int ?_
  rw [decide_eq_false (Int.lt_irrefl po)]
  (repeat ((fail_if_success (with_reducible show wpAny _ _ (call (.type "bool") _) _ _ _)); (first | (k_unfold; (try dsimp only)) | walk1 | (dsimp only; walk1))))
  rename Fr g' L' _ _ => F10
  rename News g' L' _ _ => N10
  refine call_bool_list (News.isList N10 (.head _)) (by rw [List.size_toArray]; lia) ?_
  (repeat (first | (k_unfold; (try dsimp only)) | walk1 | (dsimp only; walk1)))
  rename Fr h₀ L _ _ => F14
  rename News h₀ L _ _ => N14
  have e : (vs.toArray.isEmpty) = vs.isEmpty := by cases vs <;> rfl
  rw [e]
  exact hret _ _ F14 fun p hp => N14 p (by rw [← hR]; exact lam_tail.mp hp)
end
end Mine
end
example (h : False) {prog : PySem.Program} {w : PySem.World} {A : PySem.Around} {Q E : PySem.Value → PySem.Shared → Prop} {s : PySem.Shared} {env : PySem.Env} {at0 : PySem.Pos} : PySem.wpAny (PySem.model prog w) A (PySem.eval (.Constant .none 0 at0) env) Q E s := by
  w_top off
  first | (walk1; fail) | exact h.elim
section
open PySem PySem.W PyProof.Rows PySem.Calls
set_option maxRecDepth 100000
set_option linter.unusedSectionVars false
namespace Mine
theorem fillP4 : PySem.Challenge.rw_ik0212_01 = PySem.Challenge.rw_ik0212_01 ∧ mkK.heap_1 = mkK.heap_1 := by
  k_fill
  exact ⟨rfl, rfl⟩
noncomputable def decNp (v : View) (y : Str) : View := v.map fun e => if e.1 = y then (e.1, e.2.1 - 1, e.2.2) else e
theorem decNp_at {pre post : List Nd} {d d' : Nd} (hn : ((pre ++ d :: post).map Nd.nm).Nodup) (hd : (d.nm, d.np - 1, d.su.map sof) = d'.v) : decNp ((pre ++ d :: post).map Nd.v) d.nm = (pre ++ d' :: post).map Nd.v := at_one (nds := []) (f := fun e => (e.1, e.2.1 - 1, e.2.2)) hn hd
noncomputable def npOf (v : View) (x : Str) : Option Int := (v.find? fun e => decide (e.1 = x)).map (·.2.1)
noncomputable def suOf (v : View) (x : Str) : List Str := ((v.find? fun e => decide (e.1 = x)).map (·.2.2)).getD []
noncomputable def istep (s : View × List Str) (y : Str) : View × List Str := (decNp s.1 y, if npOf (decNp s.1 y) y = some 0 then s.2 ++ [y] else s.2)
noncomputable def dstep (s : View × List Str) (x : Str) : View × List Str := (suOf s.1 x).foldl istep (setNp s.1 x (-2), s.2)
theorem find_at {nds : List Nd} (hn : (nds.map Nd.nm).Nodup) {d : Nd} (hd : d ∈ nds) : (nds.map Nd.v).find? (fun e => decide (e.1 = d.nm)) = some d.v := by
  induction nds with
  | nil => cases hd
  | cons e r ih =>
    rw [List.map_cons, List.find?_cons]
    rw [List.map_cons, List.nodup_cons] at hn
    rcases List.mem_cons.mp hd with rfl | hd
    · simp [Nd.v]
    · have : e.nm ≠ d.nm := fun q => hn.1 (by rw [q]; exact List.mem_map_of_mem hd)
      have h2 : decide (e.v.1 = d.nm) = false := decide_eq_false this
      rw [h2]
      exact ih hn.2 hd
theorem npOf_at {nds : List Nd} (hn : (nds.map Nd.nm).Nodup) {d : Nd} (hd : d ∈ nds) : npOf (nds.map Nd.v) d.nm = some d.np := by
  unfold npOf; rw [find_at hn hd]; rfl
theorem suOf_at {nds : List Nd} (hn : (nds.map Nd.nm).Nodup) {d : Nd} (hd : d ∈ nds) : suOf (nds.map Nd.v) d.nm = d.su.map sof := by
  unfold suOf; rw [find_at hn hd]; rfl
theorem lamMany {S D N2 : Addr} {ents : List DictEntry} {oN : Obj} {nds : List Nd} {rest : List (Addr × Obj)} {p : Addr × Obj} : ∀ {l : List (Addr × Obj)}, p ∈ lam S D N2 ents oN nds (l ++ rest) ↔ p ∈ l ++ lam S D N2 ents oN nds rest
  | [] => Iff.rfl
  | a :: l => by
    constructor
    · intro h
      rcases List.mem_cons.mp (lam_tail.mp h) with rfl | h
      · exact .head _
      · exact .tail _ (lamMany.mp h)
    · intro h
      rcases List.mem_cons.mp (show p ∈ a :: (l ++ _) from h) with rfl | h
      · exact lam_tail.mpr (.head _)
      · exact lam_tail.mpr (.tail _ (lamMany.mpr h))
theorem istep_len (s : View × List Str) (y : Str) : s.2.length ≤ (istep s y).2.length := by
  unfold istep
  dsimp only
  split
  · rw [List.length_append]; lia
  · lia
theorem ifold_len : ∀ (l : List Str) (s : View × List Str), s.2.length ≤ (l.foldl istep s).2.length
  | [], _ => Nat.le_refl _
  | y :: l, s => Nat.le_trans (istep_len s y) (ifold_len l (istep s y))
section
variable {prog : Program} {w : World} {dp un : Nat} {gd : Option (List Code)} {cn : Str} {cs : Scope} {a : Addr} {ccd : Value} {cl : List (Str × Addr)} {outer : List Env} {A₀ : Around} {base h₀ : Heap} {L : Addr} {m : Str → Option Value} {s : Shared} {Q E : Value → Shared → Prop} {p : Program} {loose : List Str} {mean : ExcName → Option Value} {mg mb : Str → Option Value}
variable {H1 H2 H3 H4 : Int} {k1 k2 k3 k4 tp tf : Tok} {S D N2 Rd : Addr} {po nf : Int} {n : Nat} {vs : List Value} {rest : List (Addr × Obj)} {oN : Obj} {nds : List Nd}
variable (B : Below A₀ base outer h₀) (F : Fr h₀ L s.heap m) (X : (mkK.heap_1 w.params).In h₀) (N : News h₀ L s.heap (lam S D N2 (sortD H1 H2 H3 H4 k1 k2 k3 k4 N2 (.ref Rd) po tp nf tf) oN nds ((Rd, W.listOf vs.toArray n) :: rest))) (T : Top p loose mean mg mb h₀) (hk : cs.kind = .function) (hd' : dp ≤ 690) (hu : un ≤ 90)
  (G : GOk prog w S D N2 nds oN ((Rd, W.listOf vs.toArray n) :: rest)) (hRr : ∀ p ∈ rest, p.1 ≠ Rd)
include B F X N T hk hd' hu G hRr
set_option maxHeartbeats 4000000 in
theorem dn_code {xs : List Value} (hxs : ∀ v ∈ xs, ∃ x t, v = .str x t ∧ x ∈ nds.map Nd.nm) (hxz : xs.length ≤ 100) (hvs : ∀ v ∈ vs, ∃ x t, v = .str x t) (hcl : ∀ d ∈ nds, ∀ v ∈ d.su, sof v ∈ nds.map Nd.nm)
  (hst : ∀ i x, (xs.map sof)[i]? = some x → npOf (((xs.map sof).take i).foldl dstep (nds.map Nd.v, vs.map sof)).1 x = some (-1)) (hb : ∀ i, (((xs.map sof).take i).foldl dstep (nds.map Nd.v, vs.map sof)).2.length ≤ 5000)
  (hret : ∀ (nds' : List Nd) (vs' : List Value) n' tf' h' tk, nds'.map Nd.v = ((xs.map sof).foldl dstep (nds.map Nd.v, vs.map sof)).1 → vs'.map sof = ((xs.map sof).foldl dstep (nds.map Nd.v, vs.map sof)).2 → (∀ v ∈ vs', ∃ x t, v = .str x t) → GOk prog w S D N2 nds' oN ((Rd, W.listOf vs'.toArray n') :: rest) → Fr h₀ L h' m →
    News h₀ L h' (lam S D N2 (sortD H1 H2 H3 H4 k1 k2 k3 k4 N2 (.ref Rd) po tp (nf + xs.length) tf') oN nds' ((Rd, W.listOf vs'.toArray n') :: rest)) → Q .none ⟨h', s.gens, s.drawn, tk, s.os⟩) :
  codeAny (model prog w) (ktrTop dp un gd cn cs L a ccd cl outer) (.call (.ref 354) ⟨.ref S :: xs, []⟩) (fun r s' => match r with | .ok (.ret v) => Q v s' | .ok _ => False | .error e => E e s') s := by
  generalize Mine.clo = hCl
  revert prog w dp un gd cn cs a ccd cl outer A₀ base h₀ L m s Q E p loose mean mg mb H1 H2 H3 H4 k1 k2 k3 k4 tp tf S D N2 Rd po nf n vs rest oN nds xs
  intro prog w dp un gd cn cs a ccd cl outer A₀ base h₀ L m s Q E p loose mean mg mb H1 H2 H3 H4 k1 k2 k3 k4 tp tf S D N2 Rd po nf n vs rest oN nds B F X N T hk hd' hu G hRr xs hxs hxz hvs hcl hst hb hret
  refine' rest_enter (vs := xs) (binds := fun v => [(Str.ofString "self", .ref S), (Str.ofString "nodes", v)]) ?k1 ?k2 ?k3 ?k4 ?k5 ?kA ?kF ?kK ?k6 ?k7 ?k8 ?kP ?kV ?kB ?_ ?c2 ?c3 ?c4 ?c5
  case kA => exact rfl
  case kF => exact rfl
  case kK => assumption
  case k1 => k_asm
  case k2 => k_asm
  case k3 => k_asm
  case k4 => k_asm
  case k5 => k_asm
  case k6 => k_dflt k_is
  case k7 => k_dflt k_is
  case k8 => ktr_room
  case kV => rw [sizeLine_eq]; lia
  case kP => cases xs <;> kernel_rfl
  case kB => exact fun _ => locs rfl
  case c5 => decide
  case c2 => exact rfl
  case c3 => exact rfl
  case c4 => exact rfl
  intro Tp g' L' h' l1 FG' F' N' B' X' T'
  refine gQ ?_
  rintro Q7 hQ7
  have GT : GOk prog w S D N2 nds oN ((Tp, tupO xs.toArray 0) :: (Rd, W.listOf vs.toArray n) :: rest) := G.moreN (q := (Tp, tupO xs.toArray 0)) (ents := sortD H1 H2 H3 H4 k1 k2 k3 k4 N2 (.ref Rd) po tp nf tf) fun p hp => Nat.ne_of_lt (l1 p hp)
  have apT : ∀ p ∈ (Rd, W.listOf vs.toArray n) :: rest, p.1 ≠ Tp := fun p hp => Nat.ne_of_lt (l1 p (.tail _ (.tail _ (.tail _ (List.mem_append_right _ hp)))))
  have N2' : News g' L' h' ((Tp, tupO xs.toArray 0) :: (Rd, W.listOf vs.toArray n) :: lam S D N2 (sortD H1 H2 H3 H4 k1 k2 k3 k4 N2 (.ref Rd) po tp nf tf) oN nds rest) := fun q hq => N' q (by
    rcases List.mem_cons.mp hq with rfl | hq
    · exact .head _
    · exact .tail _ (lam_tail.mpr hq))
  clear N'
  unfold lam sortD at N2'
  (repeat ((fail_if_success (with_reducible show wpAny _ _ (exec (.For ..) _) _ _ _)); (first | (k_unfold; (try dsimp only)) | walk1 | (dsimp only; walk1))))
  refine wpAny_For ?_
  (repeat ((fail_if_success (with_reducible show wpAny _ _ (pyIter _) _ _ _)); (first | (k_unfold; (try dsimp only)) | walk1 | (dsimp only; walk1))))
  rename Fr g' L' _ _ => F5
  rename News g' L' _ _ => N5
  have hj0 : vs.length ≤ 5000 := by simpa using hb 0
  refine for_tup (L := L') (vs := xs) (n := 0) rfl (fun i m nx => m (Str.ofString "self") = some (.ref S) ∧ m (Str.ofString "n2i") = some (.ref N2) ∧ ∃ (nds' : List Nd) (vs' : List Value) (n' : Nat) (tf' : Tok), nx = (Tp, tupO xs.toArray 0) :: (Rd, W.listOf vs'.toArray n') :: lam S D N2 (sortD H1 H2 H3 H4 k1 k2 k3 k4 N2 (.ref Rd) po tp (nf + (i : Int)) tf') oN nds' rest ∧ GOk prog w S D N2 nds' oN ((Tp, tupO xs.toArray 0) :: (Rd, W.listOf vs'.toArray n') :: rest) ∧
    nds'.map Nd.v = (((xs.map sof).take i).foldl dstep (nds.map Nd.v, vs.map sof)).1 ∧ vs'.map sof = (((xs.map sof).take i).foldl dstep (nds.map Nd.v, vs.map sof)).2 ∧ (∀ v ∈ vs', ∃ x t, v = .str x t) ∧ nds'.map Nd.nm = nds.map Nd.nm ∧ (∀ d ∈ nds', ∀ v ∈ d.su, sof v ∈ nds.map Nd.nm)) rfl rfl rfl F5 N5 (.head _) ⟨by rfl, by rfl, nds, vs, n, tf, by rw [show nf + ((0 : Nat) : Int) = nf by simp]; rfl, GT, by simp, by simp, hvs, rfl, hcl⟩ ?turn ?done
  case done =>
    intro m1 nx h2 tk2 hh F6 N7
    refine and3 hh ?_; rintro m1s m1n hb; clear hh; refine ex4 hb ?_; rintro nds2 vs2 n2 tf2 hc; clear hb; refine and7 hc ?_; rintro e G3 V3 V4 hs3 _ _; clear hc; subst e
    obtain ⟨mm, rfl⟩ := locs2 m1s m1n
    dsimp only
    (repeat (first | (k_unfold; (try dsimp only)) | walk1 | (dsimp only; walk1)))
    (try dsimp only)
    refine hQ7 _ _ ?_
    (repeat (first | (k_unfold; (try dsimp only)) | walk1 | (dsimp only; walk1)))
    rename Fr h₀ L _ _ => F14
    rename News h₀ L _ _ => N14
    rw [← List.length_map (f := sof) (as := xs), List.take_length] at V3 V4
    exact hret nds2 vs2 n2 tf2 _ _ V3 V4 hs3 (G3.sub fun p hp => .tail _ hp) F14 fun p hp => N14 p (.tail _ (lam_tail.mp hp))
  case turn =>
    intro i v m1 nx Ii oI h2 tk2 E' hi hh hC hI F6 N7
    refine gQ ?_
    rintro Q8 hQ8
    refine and3 hh ?_; rintro m1s m1n hb; clear hh; refine ex4 hb ?_; rintro nds2 vs2 n2 tf2 hc; clear hb; refine and7 hc ?_; rintro e G3 V3 V4 hs3 W3 hc3; clear hc; subst e
    obtain ⟨mm, rfl⟩ := locs2 m1s m1n
    obtain ⟨y, ty, rfl, hy⟩ := hxs v (List.mem_of_getElem? hi)
    have hst1 := hst i y (by rw [List.getElem?_map, hi]; rfl)
    rw [← W3] at hy
    obtain ⟨d, hd, rfl⟩ := List.mem_map.mp hy
    rw [← V3, npOf_at G3.names hd] at hst1
    have hva := valueAt_map G3.names hd
    have hsu := suOf_at G3.names hd
    obtain ⟨pre, post, rfl⟩ := List.append_of_mem hd
    have hdi := G3.dict
    have hlo := G3.lo
    have GI : GOk prog w S D N2 (pre ++ d :: post) oN ((Ii, oI) :: (Tp, tupO xs.toArray 0) :: (Rd, W.listOf vs2.toArray n2) :: rest) := G3.moreN (q := (Ii, oI)) (ents := sortD H1 H2 H3 H4 k1 k2 k3 k4 N2 (.ref Rd) po tp nf tf) fun p hp => by
      rcases List.mem_cons.mp (lam_tail.mp hp) with rfl | hp
      · exact hI _ (.head _)
      · rcases List.mem_cons.mp (lam_tail.mp hp) with rfl | hp
        · exact hI _ (.tail _ (.head _))
        · rcases List.mem_cons.mp hp with rfl | hp
          · exact hI (S, instObj 371 D) (.tail _ (.tail _ (.head _)))
          · rcases List.mem_cons.mp hp with rfl | hp
            · exact hI (D, dictOf (sortD H1 H2 H3 H4 k1 k2 k3 k4 N2 (.ref Rd) po tp (nf + (i : Int)) tf2) 4) (.tail _ (.tail _ (.tail _ (.head _))))
            · exact hI p (.tail _ (.tail _ (.tail _ (.tail _ hp))))
    have Bd := (GI.sub (rest' := rest) fun p hp => .tail _ (.tail _ (.tail _ hp))).bare
    have f1 : ∀ q ∈ [(Ii, oI), (Tp, tupO xs.toArray 0), (Rd, W.listOf vs2.toArray n2)], q.1 ≠ d.I ∧ q.1 ≠ d.dd ∧ q.1 ≠ d.Ls ∧ q.1 ≠ S ∧ q.1 ≠ D ∧ q.1 ≠ N2 := fun q hq => by
      have hq' : q ∈ grL pre ++ grL post ++ ((Ii, oI) :: (Tp, tupO xs.toArray 0) :: (Rd, W.listOf vs2.toArray n2) :: rest) := List.mem_append_right _ (by
        rcases List.mem_cons.mp hq with rfl | hq
        · exact .head _
        · rcases List.mem_cons.mp hq with rfl | hq
          · exact .tail _ (.head _)
          · rw [List.mem_singleton.mp hq]; exact .tail _ (.tail _ (.head _)))
      exact ⟨GI.bare.mI q hq', GI.bare.md q hq', GI.bare.mL q hq', GI.bare.mS q hq', GI.bare.mD q hq', GI.bare.mN q hq'⟩
    obtain ⟨i1, i2, i3, i4, i5, i6⟩ := f1 (Ii, oI) (.head _)
    obtain ⟨t1, t2, t3, t4, t5, t6⟩ := f1 (Tp, tupO xs.toArray 0) (.tail _ (.head _))
    obtain ⟨r1, r2, r3, r4, r5, r6⟩ := f1 (Rd, W.listOf vs2.toArray n2) (.tail _ (.tail _ (.head _)))
    clear f1
    have N8 : News g' L' h2 ((Ii, oI) :: (Tp, tupO xs.toArray 0) :: (Rd, W.listOf vs2.toArray n2) :: bareL S D N2 (sortD H1 H2 H3 H4 k1 k2 k3 k4 N2 (.ref Rd) po tp (nf + (i : Int)) tf2) oN pre d post rest) := fun p hp => N7 p (by
      rcases List.mem_cons.mp hp with rfl | hp
      · exact .head _
      · rcases List.mem_cons.mp hp with rfl | hp
        · exact .tail _ (.head _)
        · rcases List.mem_cons.mp hp with rfl | hp
          · exact .tail _ (.tail _ (.head _))
          · exact .tail _ (.tail _ (.tail _ (lam_bare.mp hp))))
    clear N7
    obtain ⟨nm, t', Id, dd, Ls, np, tn, su, ep, rfl⟩ := ndX d
    dsimp only [bareL, Nd.o] at N8 hva i1 i2 i3 t1 t2 t3 r1 r2 r3 hst1 hsu
    obtain rfl : np = -1 := by injection hst1
    unfold sortD ndO at N8
    obtain ⟨a1, a2, a3, b1, b2, b3, c1, c2, c3, d1, d2, d3, e1, e2, e3, mI, md, mL, mS, mD, mN⟩ := Bd
    dsimp only at a1 a2 a3 b1 b2 b3 c1 c2 c3 d1 d2 d3 mI md mL
    (repeat ((fail_if_success (with_reducible show wpAny _ _ (exec (.For ..) _) _ _ _)); (first | (k_unfold; (try dsimp only)) | walk1 | (dsimp only; walk1))))
    refine wpAny_For ?_
    (repeat ((fail_if_success (with_reducible show wpAny _ _ (pyIter _) _ _ _)); (first | (k_unfold; (try dsimp only)) | walk1 | (dsimp only; walk1))))
    rename Fr g' L' _ _ => F8
    rename News g' L' _ _ => N8
    obtain ⟨tn', N9⟩ : ∃ tn', News g' L' _ ((Ii, oI) :: (Tp, tupO xs.toArray 0) :: (Rd, W.listOf vs2.toArray n2) :: lam S D N2 (sortD H1 H2 H3 H4 k1 k2 k3 k4 N2 (.ref Rd) po tp (nf + (i : Int)) tf2) oN (pre ++ ⟨nm, t', Id, dd, Ls, -2, tn', su, ep⟩ :: post) rest) := ⟨_, fun q hq => N8 q (by
      rcases List.mem_cons.mp hq with rfl | hq
      · exact .head _
      · rcases List.mem_cons.mp hq with rfl | hq
        · exact .tail _ (.head _)
        · rcases List.mem_cons.mp hq with rfl | hq
          · exact .tail _ (.tail _ (.head _))
          · exact .tail _ (.tail _ (.tail _ (lam_bare.mpr hq))))⟩
    clear N8
    have htx := G3.txt ⟨nm, t', Id, dd, Ls, -1, tn, su, ep⟩ (by simp)
    have GI4 := GI.put (d' := ⟨nm, t', Id, dd, Ls, -2, tn', su, ep⟩) rfl rfl rfl htx
    have Vs : (pre ++ Nd.mk nm t' Id dd Ls (-2) tn' su ep :: post).map Nd.v = setNp ((pre ++ Nd.mk nm t' Id dd Ls (-1) tn su ep :: post).map Nd.v) nm (-2) := (setNp_at (d := ⟨nm, t', Id, dd, Ls, -1, tn, su, ep⟩) (d' := ⟨nm, t', Id, dd, Ls, -2, tn', su, ep⟩) G3.names rfl).symm
    have hfold : (((xs.map sof).take (i + 1)).foldl dstep (nds.map Nd.v, vs.map sof)) = (su.map sof).foldl istep (setNp ((pre ++ Nd.mk nm t' Id dd Ls (-1) tn su ep :: post).map Nd.v) nm (-2), vs2.map sof) := by
      rw [List.take_add_one, List.getElem?_map, hi, List.foldl_append]
      show dstep _ nm = _
      show (suOf _ nm).foldl istep (setNp _ nm (-2), _) = _
      rw [← V3, ← V4, hsu]
    have hnm4 : (pre ++ Nd.mk nm t' Id dd Ls (-2) tn' su ep :: post).map Nd.nm = nds.map Nd.nm := by rw [← W3]; simp
    have hc4 : ∀ e ∈ pre ++ Nd.mk nm t' Id dd Ls (-2) tn' su ep :: post, ∀ v ∈ e.su, sof v ∈ nds.map Nd.nm := fun e he v hv => by
      rcases List.mem_append.mp he with he | he
      · exact hc3 e (List.mem_append_left _ he) v hv
      · rcases List.mem_cons.mp he with rfl | he
        · exact hc3 ⟨nm, t', Id, dd, Ls, -1, tn, su, ep⟩ (by simp) v hv
        · exact hc3 e (List.mem_append_right _ (.tail _ he)) v hv
    refine for_list (L := L') (vs := su) (n := ep) rfl (fun j m nx => m (Str.ofString "self") = some (.ref S) ∧ m (Str.ofString "n2i") = some (.ref N2) ∧ ∃ (nds' : List Nd) (vs' : List Value) (n' : Nat), nx = (Ii, oI) :: (Tp, tupO xs.toArray 0) :: (Rd, W.listOf vs'.toArray n') :: lam S D N2 (sortD H1 H2 H3 H4 k1 k2 k3 k4 N2 (.ref Rd) po tp (nf + (i : Int)) tf2) oN nds' rest ∧ GOk prog w S D N2 nds' oN ((Ii, oI) :: (Tp, tupO xs.toArray 0) :: (Rd, W.listOf vs'.toArray n') :: rest) ∧
      nds'.map Nd.v = (((su.map sof).take j).foldl istep (setNp ((pre ++ Nd.mk nm t' Id dd Ls (-1) tn su ep :: post).map Nd.v) nm (-2), vs2.map sof)).1 ∧ vs'.map sof = (((su.map sof).take j).foldl istep (setNp ((pre ++ Nd.mk nm t' Id dd Ls (-1) tn su ep :: post).map Nd.v) nm (-2), vs2.map sof)).2 ∧ (∀ v ∈ vs', ∃ x t, v = .str x t) ∧ nds'.map Nd.nm = nds.map Nd.nm ∧ (∀ d ∈ nds', ∀ v ∈ d.su, sof v ∈ nds.map Nd.nm) ∧ (∃ d ∈ nds', d.Ls = Ls ∧ d.su = su ∧ d.ep = ep)) rfl rfl rfl F8 N9 (.tail _ (.tail _ (.tail _ (.tail _ (.tail _ (.tail _ (List.mem_append_left _ (List.mem_flatMap.mpr ⟨⟨nm, t', Id, dd, Ls, -2, tn', su, ep⟩, by simp, .head _⟩)))))))) ⟨by rfl, by rfl, _, vs2, n2, rfl, GI4, by rw [Vs]; rfl, by rfl, hs3, hnm4, hc4, ⟨nm, t', Id, dd, Ls, -2, tn', su, ep⟩, by simp, rfl, rfl, rfl⟩ ?turn2 ?done2
    case done2 =>
      intro m2 nx h3 tk3 hh F10 N10
      refine and3 hh ?_; rintro m2s m2n hb; clear hh; refine ex3 hb ?_; rintro nds4 vs4 n4 hc; clear hb; refine and8 hc ?_; rintro e G5 V5 V6 hs5 W5 hc5 _; clear hc; subst e
      obtain ⟨mm, rfl⟩ := locs2 m2s m2n
      have q1 := G5.out (q := (Ii, oI)) (.head _)
      have q2 := G5.out (q := (Tp, tupO xs.toArray 0)) (.tail _ (.head _))
      have q3 := G5.out (q := (Rd, W.listOf vs4.toArray n4)) (.tail _ (.tail _ (.head _)))
      obtain ⟨x1, x2, x3, x4⟩ := q1
      obtain ⟨u1, u2, u3, u4⟩ := q2
      obtain ⟨v1, v2, v3, v4⟩ := q3
      obtain ⟨y1, y2, y3, y4, y5, y6⟩ := G5.ne
      dsimp only at x1 x2 x3 u1 u2 u3 v1 v2 v3
      have sub9 : ∀ p, p ∈ grL nds4 ++ rest → p ∈ grL nds4 ++ ((Ii, oI) :: (Tp, tupO xs.toArray 0) :: (Rd, W.listOf vs4.toArray n4) :: rest) := fun p hp => by
        rcases List.mem_append.mp hp with h | h
        · exact List.mem_append_left _ h
        · exact List.mem_append_right _ (.tail _ (.tail _ (.tail _ h)))
      replace y4 := fun p hp => y4 p (sub9 p hp)
      replace y5 := fun p hp => y5 p (sub9 p hp)
      replace y6 := fun p hp => y6 p (sub9 p hp)
      have off := G5.notQ (ents := sortD H1 H2 H3 H4 k1 k2 k3 k4 N2 (.ref Rd) po tp (nf + ((i + 1 : Nat) : Int)) tf2) (q := (Ii, oI)) (.head _) (rest' := rest) fun p hp => hI p (.tail _ (.tail _ (.tail _ (.tail _ (.tail _ (List.mem_append_right _ hp))))))
      have hIT := hI (Tp, tupO xs.toArray 0) (.head _)
      have hIR := hI (Rd, W.listOf vs2.toArray n2) (.tail _ (.head _))
      unfold lam sortD at N10
      generalize hR2 : grL nds4 ++ rest = R2 at N10 y4 y5 y6
      (repeat (first | (k_unfold; (try dsimp only)) | walk1 | (dsimp only; walk1)))
      rename Fr g' L' _ _ => F11
      rename News g' L' _ _ => N11
      rw [← hR2, show nf + (i : Int) + 1 = nf + ((i + 1 : Nat) : Int) by lia] at N11
      obtain ⟨tf', N12⟩ : ∃ tf', News g' L' _ ((Ii, oI) :: (Tp, tupO xs.toArray 0) :: (Rd, W.listOf vs4.toArray n4) :: lam S D N2 (sortD H1 H2 H3 H4 k1 k2 k3 k4 N2 (.ref Rd) po tp (nf + ((i + 1 : Nat) : Int)) tf') oN nds4 rest) := ⟨_, N11⟩
      refine hQ8 _ _ ?_
      show TurnEnd _ _ _ _ _ _ _ _
      refine ⟨_, _, _, _, rfl, F11, N12, fun q hq => by rw [List.mem_singleton.mp hq]; exact .head _, fun q hq => ?_, by rfl, by rfl, nds4, vs4, n4, tf', rfl, G5.sub fun p hp => .tail _ hp, ?_, ?_, hs5, W5, hc5⟩
      · rcases List.mem_cons.mp hq with rfl | hq
        · exact hIT
        · rcases List.mem_cons.mp hq with rfl | hq
          · exact hIR
          · rcases List.mem_cons.mp hq with rfl | hq
            · exact off (S, instObj 371 D) (.head _)
            · rcases List.mem_cons.mp hq with rfl | hq
              · exact off (D, dictOf (sortD H1 H2 H3 H4 k1 k2 k3 k4 N2 (.ref Rd) po tp (nf + ((i + 1 : Nat) : Int)) tf2) 4) (.tail _ (.head _))
              · exact off q (.tail _ (.tail _ hq))
      · rw [V5, hfold, ← List.length_map (f := sof) (as := su), List.take_length]
      · rw [V6, hfold, ← List.length_map (f := sof) (as := su), List.take_length]
    case turn2 =>
      clear GI4 Vs N9 F8 hva hdi hlo hst1 mI md mL mS mD mN a1 a2 a3 b1 b2 b3 c1 c2 c3 d1 d2 d3 e1 e2 e3 i1 i2 i3 t1 t2 t3 r1 r2 r3 hc4 hnm4
      intro j v2 m2 nx Ij oJ h3 tk3 E2 hj hh hC5 hI5 F10 N10
      refine gQ ?_
      rintro Q9 hQ9
      refine and3 hh ?_; rintro m2s m2n hb; clear hh; refine ex3 hb ?_; rintro nds4 vs4 n4 hc; clear hb; refine and8 hc ?_; rintro e G5 V5 V6 hs5 W5 hc5 hd; clear hc; subst e; obtain ⟨d5, hd5, hL5, hS5, hE5⟩ := hd
      obtain ⟨mm, rfl⟩ := locs2 m2s m2n
      obtain ⟨y2, ty2, rfl⟩ := htx v2 (List.mem_of_getElem? hj)
      have hy2 : y2 ∈ nds4.map Nd.nm := by rw [W5]; exact hc3 ⟨nm, t', Id, dd, Ls, -1, tn, su, ep⟩ (by simp) (.str y2 ty2) (List.mem_of_getElem? hj)
      obtain ⟨d, hd, rfl⟩ := List.mem_map.mp hy2
      have hva := valueAt_map G5.names hd
      have hnp := npOf_at G5.names hd
      have hdi := G5.dict
      have hlo := G5.lo
      have hlen : vs4.length ≤ 5000 := by
        have q := hb (i + 1)
        rw [hfold, ← List.take_append_drop j (su.map sof), List.foldl_append] at q
        have := Nat.le_trans (ifold_len _ _) q
        rw [← V6, List.length_map] at this
        exact this
      obtain ⟨pre4, post4, rfl⟩ := List.append_of_mem hd
      have GJ : GOk prog w S D N2 (pre4 ++ d :: post4) oN ((Ij, oJ) :: (Ii, oI) :: (Tp, tupO xs.toArray 0) :: (Rd, W.listOf vs4.toArray n4) :: rest) := G5.moreN (q := (Ij, oJ)) (ents := sortD H1 H2 H3 H4 k1 k2 k3 k4 N2 (.ref Rd) po tp (nf + (i : Int)) tf2) fun p hp => hI5 p ((lamMany (l := [(Ii, oI), (Tp, tupO xs.toArray 0), (Rd, W.listOf vs4.toArray n4)])).mp hp)
      have Bd := (GJ.sub (rest' := rest) fun p hp => .tail _ (.tail _ (.tail _ (.tail _ hp)))).bare
      have f1 : ∀ q ∈ [(Ij, oJ), (Ii, oI), (Tp, tupO xs.toArray 0), (Rd, W.listOf vs4.toArray n4)], q.1 ≠ d.I ∧ q.1 ≠ d.dd ∧ q.1 ≠ d.Ls ∧ q.1 ≠ S ∧ q.1 ≠ D ∧ q.1 ≠ N2 := fun q hq => by
        have hq' : q ∈ grL pre4 ++ grL post4 ++ ((Ij, oJ) :: (Ii, oI) :: (Tp, tupO xs.toArray 0) :: (Rd, W.listOf vs4.toArray n4) :: rest) := List.mem_append_right _ (List.mem_append_left (as := [(Ij, oJ), (Ii, oI), (Tp, tupO xs.toArray 0), (Rd, W.listOf vs4.toArray n4)]) rest hq)
        exact ⟨GJ.bare.mI q hq', GJ.bare.md q hq', GJ.bare.mL q hq', GJ.bare.mS q hq', GJ.bare.mD q hq', GJ.bare.mN q hq'⟩
      obtain ⟨j1, j2, j3, j4, j5, j6⟩ := f1 (Ij, oJ) (.head _)
      obtain ⟨i1, i2, i3, _, _, _⟩ := f1 (Ii, oI) (.tail _ (.head _))
      obtain ⟨t1, t2, t3, _, _, _⟩ := f1 (Tp, tupO xs.toArray 0) (.tail _ (.tail _ (.head _)))
      obtain ⟨r1, r2, r3, _, _, _⟩ := f1 (Rd, W.listOf vs4.toArray n4) (.tail _ (.tail _ (.tail _ (.head _))))
      clear f1
      have sR : ∀ p, p ∈ grL pre4 ++ grL post4 ++ rest → p ∈ grL (pre4 ++ d :: post4) ++ rest := fun p hp => by
        unfold grL at hp ⊢
        rw [List.flatMap_append, List.flatMap_cons]
        rcases List.mem_append.mp hp with hp | hp
        · rcases List.mem_append.mp hp with hp | hp
          · exact List.mem_append_left _ (List.mem_append_left _ hp)
          · exact List.mem_append_left _ (List.mem_append_right _ (List.mem_append_right _ hp))
        · exact List.mem_append_right _ hp
      have mR : ∀ p ∈ grL pre4 ++ grL post4 ++ rest, p.1 ≠ Rd := fun p hp => by
        rcases List.mem_append.mp (sR p hp) with h | h
        · exact (G5.out (q := (Rd, W.listOf vs4.toArray n4)) (.tail _ (.tail _ (.head _)))).2.2.2 p h
        · exact hRr p h
      have mT : ∀ p ∈ grL pre4 ++ grL post4 ++ rest, p.1 ≠ Tp := fun p hp => by
        rcases List.mem_append.mp (sR p hp) with h | h
        · exact (G5.out (q := (Tp, tupO xs.toArray 0)) (.tail _ (.head _))).2.2.2 p h
        · exact apT p (.tail _ h)
      have hJI := hI5 (Ii, oI) (.head _)
      have hJT := hI5 (Tp, tupO xs.toArray 0) (.tail _ (.head _))
      have hJR := hI5 (Rd, W.listOf vs4.toArray n4) (.tail _ (.tail _ (.head _)))
      have hIT := hI (Tp, tupO xs.toArray 0) (.head _)
      have hIR := hI (Rd, W.listOf vs2.toArray n2) (.tail _ (.head _))
      have hTR := apT (Rd, W.listOf vs.toArray n) (.head _)
      have mJ : ∀ p ∈ grL pre4 ++ grL post4 ++ rest, p.1 ≠ Ij := fun p hp => hI5 p (.tail _ (.tail _ (.tail _ (.tail _ (.tail _ (.tail _ (sR p hp)))))))
      have mIi : ∀ p ∈ grL pre4 ++ grL post4 ++ rest, p.1 ≠ Ii := fun p hp => by
        rcases List.mem_append.mp (sR p hp) with h | h
        · exact (G5.out (q := (Ii, oI)) (.head _)).2.2.2 p h
        · exact hI p (.tail _ (.tail _ (.tail _ (.tail _ (.tail _ (List.mem_append_right _ h))))))
      have N11 : News g' L' h3 ((Ij, oJ) :: (Ii, oI) :: (Tp, tupO xs.toArray 0) :: (Rd, W.listOf vs4.toArray n4) :: bareL S D N2 (sortD H1 H2 H3 H4 k1 k2 k3 k4 N2 (.ref Rd) po tp (nf + (i : Int)) tf2) oN pre4 d post4 rest) := fun p hp => N10 p (by
        rcases List.mem_append.mp (show p ∈ [(Ij, oJ), (Ii, oI), (Tp, tupO xs.toArray 0), (Rd, W.listOf vs4.toArray n4)] ++ bareL S D N2 (sortD H1 H2 H3 H4 k1 k2 k3 k4 N2 (.ref Rd) po tp (nf + (i : Int)) tf2) oN pre4 d post4 rest from hp) with hp | hp
        · exact List.mem_append_left (as := [(Ij, oJ), (Ii, oI), (Tp, tupO xs.toArray 0), (Rd, W.listOf vs4.toArray n4)]) _ hp
        · exact List.mem_append_right [(Ij, oJ), (Ii, oI), (Tp, tupO xs.toArray 0), (Rd, W.listOf vs4.toArray n4)] (lam_bare.mp hp))
      clear N10
      obtain ⟨nm2, t2', Id2, dd2, Ls2, np2, tn2, su2, ep2, rfl⟩ := ndX d
      dsimp only [bareL, Nd.o] at N11 hva j1 j2 j3 i1 i2 i3 t1 t2 t3 r1 r2 r3 hnp
      unfold sortD ndO at N11
      obtain ⟨a1, a2, a3, b1, b2, b3, c1, c2, c3, d1, d2, d3, e1, e2, e3, mI, md, mL, mS, mD, mN⟩ := Bd
      dsimp only at a1 a2 a3 b1 b2 b3 c1 c2 c3 d1 d2 d3 mI md mL hJI hJT hJR hIT hIR hTR
      generalize hRR : grL pre4 ++ grL post4 ++ rest = RR at *
      (repeat ((fail_if_success (with_reducible show wpAny _ _ (compareOp .Eq _ _) _ _ _)); (first | (k_unfold; (try dsimp only)) | walk1 | (dsimp only; walk1))))
      refine PySem.P.eq_int ?_
      by_cases h0 : np2 - 1 = 0
      · rw [show (np2 - 1 == 0) = true by rw [h0]; rfl]
        have hs6 : ∀ v ∈ vs4 ++ [Value.str nm2 ty2], ∃ x t, v = .str x t := fun v hv => by
          rcases List.mem_append.mp hv with hv | hv
          · exact hs5 v hv
          · rw [List.mem_singleton.mp hv]; exact ⟨_, _, rfl⟩
        have hz9 : vs4.toArray.size ≤ 5000 := by rw [List.size_toArray]; exact hlen
        (repeat (first | (k_unfold; (try dsimp only)) | walk1 | (dsimp only; walk1)))
        rename Fr g' L' _ _ => F12
        rename News g' L' _ _ => N12
        rw [← hRR, show vs4.toArray.push (.str nm2 ty2) = (vs4 ++ [Value.str nm2 ty2]).toArray by simp] at N12
        obtain ⟨tn3, N13⟩ : ∃ tn3, News g' L' _ ((Ij, oJ) :: (Ii, oI) :: (Tp, tupO xs.toArray 0) :: (Rd, W.listOf (vs4 ++ [Value.str nm2 ty2]).toArray (n4 + 1)) :: lam S D N2 (sortD H1 H2 H3 H4 k1 k2 k3 k4 N2 (.ref Rd) po tp (nf + (i : Int)) tf2) oN (pre4 ++ ⟨nm2, t2', Id2, dd2, Ls2, np2 - 1, tn3, su2, ep2⟩ :: post4) rest) := ⟨_, fun p hp => N12 p (by
          rcases List.mem_append.mp (show p ∈ [(Ij, oJ), (Ii, oI), (Tp, tupO xs.toArray 0), (Rd, W.listOf (vs4 ++ [Value.str nm2 ty2]).toArray (n4 + 1))] ++ _ from hp) with hp | hp
          · exact List.mem_append_left (as := [(Ij, oJ), (Ii, oI), (Tp, tupO xs.toArray 0), (Rd, W.listOf (vs4 ++ [Value.str nm2 ty2]).toArray (n4 + 1))]) _ hp
          · exact List.mem_append_right [(Ij, oJ), (Ii, oI), (Tp, tupO xs.toArray 0), (Rd, W.listOf (vs4 ++ [Value.str nm2 ty2]).toArray (n4 + 1))] (lam_bare.mpr hp))⟩
        have htx2 := G5.txt ⟨nm2, t2', Id2, dd2, Ls2, np2, tn2, su2, ep2⟩ (by simp)
        have G6 := G5.put (d' := ⟨nm2, t2', Id2, dd2, Ls2, np2 - 1, tn3, su2, ep2⟩) rfl rfl rfl htx2
        have GJ6 := GJ.put (d' := ⟨nm2, t2', Id2, dd2, Ls2, np2 - 1, tn3, su2, ep2⟩) rfl rfl rfl htx2
        have off := GJ6.notQ (ents := sortD H1 H2 H3 H4 k1 k2 k3 k4 N2 (.ref Rd) po tp (nf + (i : Int)) tf2) (q := (Ij, oJ)) (.head _) (rest' := rest) fun p hp => mJ p (by rw [← hRR]; exact List.mem_append_right _ hp)
        have Vd : decNp ((pre4 ++ Nd.mk nm2 t2' Id2 dd2 Ls2 np2 tn2 su2 ep2 :: post4).map Nd.v) nm2 = (pre4 ++ Nd.mk nm2 t2' Id2 dd2 Ls2 (np2 - 1) tn3 su2 ep2 :: post4).map Nd.v := decNp_at (d := ⟨nm2, t2', Id2, dd2, Ls2, np2, tn2, su2, ep2⟩) (d' := ⟨nm2, t2', Id2, dd2, Ls2, np2 - 1, tn3, su2, ep2⟩) G5.names rfl
        have hnpn : npOf ((pre4 ++ Nd.mk nm2 t2' Id2 dd2 Ls2 (np2 - 1) tn3 su2 ep2 :: post4).map Nd.v) nm2 = some (np2 - 1) := npOf_at (d := ⟨nm2, t2', Id2, dd2, Ls2, np2 - 1, tn3, su2, ep2⟩) G6.names (by simp)
        have hst6 : ((su.map sof).take (j + 1)).foldl istep (setNp ((pre ++ Nd.mk nm t' Id dd Ls (-1) tn su ep :: post).map Nd.v) nm (-2), vs2.map sof) = ((pre4 ++ Nd.mk nm2 t2' Id2 dd2 Ls2 (np2 - 1) tn3 su2 ep2 :: post4).map Nd.v, (vs4 ++ [Value.str nm2 ty2]).map sof) := by
          rw [List.take_add_one, List.getElem?_map, hj, List.foldl_append]
          show (decNp _ nm2, if npOf (decNp _ nm2) nm2 = some 0 then _ ++ [nm2] else _) = _
          rw [← V5, ← V6, Vd, hnpn]
          rw [if_pos (by rw [h0])]
          simp [sof]
        have hnm6 : (pre4 ++ Nd.mk nm2 t2' Id2 dd2 Ls2 (np2 - 1) tn3 su2 ep2 :: post4).map Nd.nm = nds.map Nd.nm := by rw [← W5]; simp
        have hc6 : ∀ e ∈ pre4 ++ Nd.mk nm2 t2' Id2 dd2 Ls2 (np2 - 1) tn3 su2 ep2 :: post4, ∀ v ∈ e.su, sof v ∈ nds.map Nd.nm := fun e he v hv => by
          rcases List.mem_append.mp he with he | he
          · exact hc5 e (List.mem_append_left _ he) v hv
          · rcases List.mem_cons.mp he with rfl | he
            · exact hc5 ⟨nm2, t2', Id2, dd2, Ls2, np2, tn2, su2, ep2⟩ (by simp) v hv
            · exact hc5 e (List.mem_append_right _ (.tail _ he)) v hv
        have hd6 : ∃ e ∈ pre4 ++ Nd.mk nm2 t2' Id2 dd2 Ls2 (np2 - 1) tn3 su2 ep2 :: post4, e.Ls = Ls ∧ e.su = su ∧ e.ep = ep := by
          rcases List.mem_append.mp hd5 with he | he
          · exact ⟨d5, List.mem_append_left _ he, hL5, hS5, hE5⟩
          · rcases List.mem_cons.mp he with rfl | he
            · exact ⟨_, List.mem_append_right _ (.head _), hL5, hS5, hE5⟩
            · exact ⟨d5, List.mem_append_right _ (.tail _ he), hL5, hS5, hE5⟩
        refine hQ9 _ _ ?_
        show TurnEnd _ _ _ _ _ _ _ _
        refine ⟨_, _, _, _, rfl, F12, N13, fun q hq => ?_, fun q hq => ?_, by rfl, by rfl, _, (vs4 ++ [Value.str nm2 ty2]), (n4 + 1), rfl, G6.re fun p hp => (by
          rcases List.mem_cons.mp hp with rfl | hp
          · exact ⟨_, .head _, rfl⟩
          · rcases List.mem_cons.mp hp with rfl | hp
            · exact ⟨_, .tail _ (.head _), rfl⟩
            · rcases List.mem_cons.mp hp with rfl | hp
              · exact ⟨_, .tail _ (.tail _ (.head _)), rfl⟩
              · exact ⟨p, .tail _ (.tail _ (.tail _ hp)), rfl⟩), by rw [hst6], by rw [hst6], hs6, hnm6, hc6, hd6⟩
        · rw [List.mem_singleton.mp hq]
          obtain ⟨e, he, r1, r2, r3⟩ := hd6
          refine .tail _ (.tail _ (.tail _ (.tail _ (.tail _ (.tail _ (List.mem_append_left _ (List.mem_flatMap.mpr ⟨e, he, ?_⟩)))))))
          rw [← r1, ← r2, ← r3]
          exact .head _
        · rcases List.mem_cons.mp hq with rfl | hq
          · exact hJI
          · rcases List.mem_cons.mp hq with rfl | hq
            · exact hJT
            · rcases List.mem_cons.mp hq with rfl | hq
              · exact hJR
              · exact off q hq
      · rw [show (np2 - 1 == 0) = false by simpa using h0]
        (repeat (first | (k_unfold; (try dsimp only)) | walk1 | (dsimp only; walk1)))
        rename Fr g' L' _ _ => F12
        rename News g' L' _ _ => N12
        rw [← hRR] at N12
        obtain ⟨tn3, N13⟩ : ∃ tn3, News g' L' _ ((Ij, oJ) :: (Ii, oI) :: (Tp, tupO xs.toArray 0) :: (Rd, W.listOf vs4.toArray n4) :: lam S D N2 (sortD H1 H2 H3 H4 k1 k2 k3 k4 N2 (.ref Rd) po tp (nf + (i : Int)) tf2) oN (pre4 ++ ⟨nm2, t2', Id2, dd2, Ls2, np2 - 1, tn3, su2, ep2⟩ :: post4) rest) := ⟨_, fun p hp => N12 p (by
          rcases List.mem_append.mp (show p ∈ [(Ij, oJ), (Ii, oI), (Tp, tupO xs.toArray 0), (Rd, W.listOf vs4.toArray n4)] ++ _ from hp) with hp | hp
          · exact List.mem_append_left (as := [(Ij, oJ), (Ii, oI), (Tp, tupO xs.toArray 0), (Rd, W.listOf vs4.toArray n4)]) _ hp
          · exact List.mem_append_right [(Ij, oJ), (Ii, oI), (Tp, tupO xs.toArray 0), (Rd, W.listOf vs4.toArray n4)] (lam_bare.mpr hp))⟩
        have htx2 := G5.txt ⟨nm2, t2', Id2, dd2, Ls2, np2, tn2, su2, ep2⟩ (by simp)
        have G6 := G5.put (d' := ⟨nm2, t2', Id2, dd2, Ls2, np2 - 1, tn3, su2, ep2⟩) rfl rfl rfl htx2
        have GJ6 := GJ.put (d' := ⟨nm2, t2', Id2, dd2, Ls2, np2 - 1, tn3, su2, ep2⟩) rfl rfl rfl htx2
        have off := GJ6.notQ (ents := sortD H1 H2 H3 H4 k1 k2 k3 k4 N2 (.ref Rd) po tp (nf + (i : Int)) tf2) (q := (Ij, oJ)) (.head _) (rest' := rest) fun p hp => mJ p (by rw [← hRR]; exact List.mem_append_right _ hp)
        have Vd : decNp ((pre4 ++ Nd.mk nm2 t2' Id2 dd2 Ls2 np2 tn2 su2 ep2 :: post4).map Nd.v) nm2 = (pre4 ++ Nd.mk nm2 t2' Id2 dd2 Ls2 (np2 - 1) tn3 su2 ep2 :: post4).map Nd.v := decNp_at (d := ⟨nm2, t2', Id2, dd2, Ls2, np2, tn2, su2, ep2⟩) (d' := ⟨nm2, t2', Id2, dd2, Ls2, np2 - 1, tn3, su2, ep2⟩) G5.names rfl
        have hnpn : npOf ((pre4 ++ Nd.mk nm2 t2' Id2 dd2 Ls2 (np2 - 1) tn3 su2 ep2 :: post4).map Nd.v) nm2 = some (np2 - 1) := npOf_at (d := ⟨nm2, t2', Id2, dd2, Ls2, np2 - 1, tn3, su2, ep2⟩) G6.names (by simp)
        have hst6 : ((su.map sof).take (j + 1)).foldl istep (setNp ((pre ++ Nd.mk nm t' Id dd Ls (-1) tn su ep :: post).map Nd.v) nm (-2), vs2.map sof) = ((pre4 ++ Nd.mk nm2 t2' Id2 dd2 Ls2 (np2 - 1) tn3 su2 ep2 :: post4).map Nd.v, vs4.map sof) := by
          rw [List.take_add_one, List.getElem?_map, hj, List.foldl_append]
          show (decNp _ nm2, if npOf (decNp _ nm2) nm2 = some 0 then _ ++ [nm2] else _) = _
          rw [← V5, ← V6, Vd, hnpn]
          rw [if_neg (fun q => h0 (Option.some.inj q))]
        have hnm6 : (pre4 ++ Nd.mk nm2 t2' Id2 dd2 Ls2 (np2 - 1) tn3 su2 ep2 :: post4).map Nd.nm = nds.map Nd.nm := by rw [← W5]; simp
        have hc6 : ∀ e ∈ pre4 ++ Nd.mk nm2 t2' Id2 dd2 Ls2 (np2 - 1) tn3 su2 ep2 :: post4, ∀ v ∈ e.su, sof v ∈ nds.map Nd.nm := fun e he v hv => by
          rcases List.mem_append.mp he with he | he
          · exact hc5 e (List.mem_append_left _ he) v hv
          · rcases List.mem_cons.mp he with rfl | he
            · exact hc5 ⟨nm2, t2', Id2, dd2, Ls2, np2, tn2, su2, ep2⟩ (by simp) v hv
            · exact hc5 e (List.mem_append_right _ (.tail _ he)) v hv
        have hd6 : ∃ e ∈ pre4 ++ Nd.mk nm2 t2' Id2 dd2 Ls2 (np2 - 1) tn3 su2 ep2 :: post4, e.Ls = Ls ∧ e.su = su ∧ e.ep = ep := by
          rcases List.mem_append.mp hd5 with he | he
          · exact ⟨d5, List.mem_append_left _ he, hL5, hS5, hE5⟩
          · rcases List.mem_cons.mp he with rfl | he
            · exact ⟨_, List.mem_append_right _ (.head _), hL5, hS5, hE5⟩
            · exact ⟨d5, List.mem_append_right _ (.tail _ he), hL5, hS5, hE5⟩
        refine hQ9 _ _ ?_
        show TurnEnd _ _ _ _ _ _ _ _
        refine ⟨_, _, _, _, rfl, F12, N13, fun q hq => ?_, fun q hq => ?_, by rfl, by rfl, _, vs4, n4, rfl, G6, by rw [hst6], by rw [hst6], hs5, hnm6, hc6, hd6⟩
        · rw [List.mem_singleton.mp hq]
          obtain ⟨e, he, r1, r2, r3⟩ := hd6
          refine .tail _ (.tail _ (.tail _ (.tail _ (.tail _ (.tail _ (List.mem_append_left _ (List.mem_flatMap.mpr ⟨e, he, ?_⟩)))))))
          rw [← r1, ← r2, ← r3]
          exact .head _
        · rcases List.mem_cons.mp hq with rfl | hq
          · exact hJI
          · rcases List.mem_cons.mp hq with rfl | hq
            · exact hJT
            · rcases List.mem_cons.mp hq with rfl | hq
              · exact hJR
              · exact off q hq
end
end Mine
end
example (h : False) {prog : PySem.Program} {w : PySem.World} {A : PySem.Around} {Q E : PySem.Value → PySem.Shared → Prop} {s : PySem.Shared} {env : PySem.Env} {at0 : PySem.Pos} : PySem.wpAny (PySem.model prog w) A (PySem.eval (.Constant .none 0 at0) env) Q E s := by
  w_top off
  first | (walk1; fail) | exact h.elim
section
open PySem PySem.W PyProof.Rows PySem.Calls
set_option maxRecDepth 100000
set_option linter.unusedSectionVars false
namespace Mine
theorem fillL0 : PySem.Challenge.rw_ik0212_01 = PySem.Challenge.rw_ik0212_01 ∧ mkK.heap_1 = mkK.heap_1 := by
  k_fill
  exact ⟨rfl, rfl⟩
noncomputable def rdyS (v : View) : List Str := (v.filter fun e => decide (e.2.1 = 0)).map (·.1)
noncomputable def outV (v : View) (r : List Str) : View := r.foldl (fun v x => setNp v x (-1)) v
noncomputable def rnd (v : View) (r : List Str) : View × List Str := r.foldl dstep (outV v r, [])
/-- a round that goes well -/
structure RndOk (v : View) (r : List Str) : Prop where
  ne : r ≠ []
  lt : r.length < 64
  nd : r.Nodup
  sub : ∀ x ∈ r, x ∈ v.map (·.1)
  st : ∀ i x, r[i]? = some x → npOf ((r.take i).foldl dstep (outV v r, [])).1 x = some (-1)
  sz : ∀ i, ((r.take i).foldl dstep (outV v r, [])).2.length ≤ 5000
theorem rdyV_sof (nds : List Nd) : (rdyV nds).map sof = rdyS (nds.map Nd.v) := by
  unfold rdyV rdyS
  rw [List.map_map, List.filter_map, List.map_map]
  rfl
theorem outV_nm : ∀ (r : List Str) (v : View), (outV v r).map (·.1) = v.map (·.1)
  | [], _ => rfl
  | x :: r, v => by
    show (outV (setNp v x (-1)) r).map (·.1) = _
    rw [outV_nm r, setNp_nm]
noncomputable def closedV (v : View) : Prop := ∀ e ∈ v, ∀ y ∈ e.2.2, y ∈ v.map (·.1)
theorem closed_map {v : View} (h : closedV v) (f : Str × Int × List Str → Str × Int × List Str) (h1 : ∀ e, (f e).1 = e.1) (h2 : ∀ e, (f e).2.2 = e.2.2) : closedV (v.map f) := fun e he y hy => by
  obtain ⟨e', he', rfl⟩ := List.mem_map.mp he
  rw [h2] at hy
  have := h e' he' y hy
  obtain ⟨z, hz, e⟩ := List.mem_map.mp this
  rw [List.map_map]
  exact List.mem_map.mpr ⟨z, hz, by show (f z).1 = y; rw [h1]; exact e⟩
theorem closed_setNp {v : View} (h : closedV v) (x : Str) (k : Int) : closedV (setNp v x k) := closed_map h _ (fun e => by split <;> rfl) fun e => by split <;> rfl
theorem closed_decNp {v : View} (h : closedV v) (x : Str) : closedV (decNp v x) := closed_map h _ (fun e => by split <;> rfl) fun e => by split <;> rfl
theorem closed_outV : ∀ (r : List Str) {v : View}, closedV v → closedV (outV v r)
  | [], _, h => h
  | x :: r, v, h => closed_outV r (closed_setNp h x (-1))
theorem closed_ifold : ∀ (l : List Str) {s : View × List Str}, closedV s.1 → closedV (l.foldl istep s).1
  | [], _, h => h
  | y :: l, s, h => closed_ifold l (s := istep s y) (closed_decNp h y)
theorem closed_dfold : ∀ (l : List Str) {s : View × List Str}, closedV s.1 → closedV (l.foldl dstep s).1
  | [], _, h => h
  | y :: l, s, h => closed_dfold l (s := dstep s y) (closed_ifold _ (closed_setNp h y (-2)))
theorem closed_rnd {v : View} {r : List Str} (h : closedV v) : closedV (rnd v r).1 := closed_dfold r (closed_outV r h)
theorem decNp_nm (v : View) (x : Str) : (decNp v x).map (·.1) = v.map (·.1) := by
  unfold decNp
  rw [List.map_map]
  refine List.map_congr_left fun e _ => ?_
  show (if e.1 = x then (e.1, e.2.1 - 1, e.2.2) else e).1 = e.1
  split <;> rfl
theorem ifold_nm : ∀ (l : List Str) (s : View × List Str), (l.foldl istep s).1.map (·.1) = s.1.map (·.1)
  | [], _ => rfl
  | y :: l, s => (ifold_nm l (istep s y)).trans (decNp_nm s.1 y)
theorem dfold_nm : ∀ (l : List Str) (s : View × List Str), (l.foldl dstep s).1.map (·.1) = s.1.map (·.1)
  | [], _ => rfl
  | y :: l, s => (dfold_nm l (dstep s y)).trans ((ifold_nm _ _).trans (setNp_nm s.1 y (-2)))
theorem rnd_nm (v : View) (r : List Str) : (rnd v r).1.map (·.1) = v.map (·.1) := (dfold_nm r _).trans (outV_nm r v)
theorem closed_nds {nds : List Nd} (h : closedV (nds.map Nd.v)) : ∀ d ∈ nds, ∀ v ∈ d.su, sof v ∈ nds.map Nd.nm := fun d hd v hv => by
  have := h d.v (List.mem_map_of_mem hd) (sof v) (List.mem_map_of_mem hv)
  rwa [view_nm] at this
/-- the ledger without some addresses -/
noncomputable def offL (own : List (Addr × Obj)) (A : List Addr) : List (Addr × Obj) := own.filter fun p => decide (p.1 ∉ A)
theorem mem_off {own : List (Addr × Obj)} {A : List Addr} {p : Addr × Obj} : p ∈ offL own A ↔ p ∈ own ∧ p.1 ∉ A := by
  unfold offL
  rw [List.mem_filter, decide_eq_true_eq]
theorem ctk_off {h₀ h : Heap} {L : Addr} {Lb : Nat} {own : List (Addr × Obj)} {A : List Addr} (x : CtkTab Lb own) (N : News h₀ L h own) (hA : ∀ a ∈ A, ∃ o, (a, o) ∈ own ∧ o.cls ≠ .type "code" ∧ ∀ ps, o ≠ tabObj ps) : CtkTab Lb (offL own A) := by
  have key : ∀ {a : Addr} {o : Obj}, (a, o) ∈ own → (o.cls = .type "code" ∨ ∃ ps, o = tabObj ps) → (a, o) ∈ offL own A := fun {a o} hm hk => mem_off.mpr ⟨hm, fun ha => by
    obtain ⟨o', hm', c1, c2⟩ := hA a ha
    have e : o = o' := Option.some.inj ((N _ hm).1.symm.trans (N _ hm').1)
    subst e
    rcases hk with hk | ⟨ps, hk⟩
    · exact c1 hk
    · exact c2 ps hk⟩
  have kc : ∀ {cv : Value} {q : Str}, CodeN own cv q → CodeN (offL own A) cv q := exm4 fun _ _ _ _ h => ⟨h.1, key h.2.1 (.inl h.2.2.1), h.2.2⟩
  have kt : ∀ {P : Addr}, TabN own P → TabN (offL own A) P := fun ⟨ps, a1, a2, a3⟩ => ⟨ps, key a1 (.inr ⟨_, rfl⟩), a2, fun y hy v hv => kc (a3 y hy v hv)⟩
  have kh : ∀ {c P : Addr}, HdN own c P → HdN (offL own A) c P := exm9 fun _ _ _ _ _ _ _ _ _ h => ⟨key h.1 (.inl h.2.1), h.2⟩
  obtain ⟨ps, a1, a2, a3⟩ := x
  exact ⟨ps, key a1 (.inr ⟨_, rfl⟩), a2, fun v hv => let ⟨c, P, b1, b2, b3, b4⟩ := a3 v hv; ⟨c, P, b1, kh b2, kt b3, b4⟩⟩
end Mine
end
example (h : False) {prog : PySem.Program} {w : PySem.World} {A : PySem.Around} {Q E : PySem.Value → PySem.Shared → Prop} {s : PySem.Shared} {env : PySem.Env} {at0 : PySem.Pos} : PySem.wpAny (PySem.model prog w) A (PySem.eval (.Constant .none 0 at0) env) Q E s := by
  w_top off
  first | (walk1; fail) | exact h.elim
section
open PySem PySem.W PyProof.Rows PySem.Calls
set_option maxRecDepth 100000
set_option linter.unusedSectionVars false
namespace Mine
theorem fillR1 : PySem.Challenge.rw_ik0212_01 = PySem.Challenge.rw_ik0212_01 ∧ mkK.heap_1 = mkK.heap_1 := by
  k_fill
  exact ⟨rfl, rfl⟩
section
variable {prog : Program} {w : World} {dp un : Nat} {gd : Option (List Code)} {cn : Str} {cs : Scope} {a : Addr} {ccd : Value} {cl : List (Str × Addr)} {outer : List Env} {A₀ : Around} {base h₀ : Heap} {L : Addr} {m : Str → Option Value} {news : List (Addr × Obj)} {s : Shared} {Q E : Value → Shared → Prop} {p : Program} {loose : List Str} {mean : ExcName → Option Value} {mg mb : Str → Option Value}
variable (B : Below A₀ base outer h₀) (F : Fr h₀ L s.heap m) (X : (mkK.heap_1 w.params).In h₀) (N : News h₀ L s.heap news) (T : Top p loose mean mg mb h₀) (hk : cs.kind = .function) (hd' : dp ≤ 680) (hu : un ≤ 80)
include B F X N T hk hd' hu
set_option maxHeartbeats 4000000 in
theorem red_ok {f : Addr} {l : Addr} {vs : List Value} {n : Nat} {init : Value} (hl : (l, W.listOf vs.toArray n) ∈ news) (J : Nat → Value → List (Addr × Obj) → Prop) (j0 : J 0 init news) 
  (hF : ∀ i acc nx h', J i acc nx → (mkK.heap_1 w.params).In h' → (∀ p ∈ nx, h'.get? p.1 = some p.2) → FnAt f h')
  (his : ∀ {A : Around} {Q E : Value → Shared → Prop} {s' : Shared}, (mkK.heap_1 w.params).In s'.heap → (∀ p ∈ news, s'.heap.get? p.1 = some p.2) → Q (.bool false) s' → wpAny (model prog w) A (compareOp .Is init (.ref 247)) Q E s')
  (hm : ∀ i acc nx, J i acc nx → (l, W.listOf vs.toArray n) ∈ nx)
  (step : ∀ i v acc nx I oI g L1 m1 cn1 cs1 a1 cd1 h tk (Q' E' : Value → Shared → Prop), vs[i]? = some v → J i acc nx → (∀ p ∈ nx, p.1 ≠ I) → Below (ktrTop dp un gd cn cs L a ccd cl outer) base (envX cn cs L a ccd cl :: outer) g → (mkK.heap_1 w.params).In g → Top p loose mean mg mb g → Fr g L1 h m1 → News g L1 h ((I, oI) :: nx) → cs1.kind = .function →
    (∀ acc' nx' h' tk', J (i + 1) acc' nx' → (∀ p ∈ nx', p.1 ≠ I) → Fr g L1 h' m1 → News g L1 h' ((I, oI) :: nx') → Q' acc' ⟨h', s.gens, s.drawn, tk', s.os⟩) →
    wpAny (model prog w) (ktrTop (dp + 1) (un + 3) gd cn1 cs1 L1 a1 cd1 [] (envX cn cs L a ccd cl :: outer)) (call (.ref f) [acc, v]) Q' E' ⟨h, s.gens, s.drawn, tk, s.os⟩)
  (hret : ∀ acc nx h' tk, J vs.length acc nx → Fr h₀ L h' m → News h₀ L h' nx → Q acc ⟨h', s.gens, s.drawn, tk, s.os⟩) :
  wpAny (model prog w) (ktrTop dp un gd cn cs L a ccd cl outer) (call (.ref 255) [.ref f, .ref l, init]) Q E s := by
  generalize Mine.clo = hCl
  revert prog w dp un gd cn cs a ccd cl outer A₀ base h₀ L m news s Q E p loose mean mg mb f l vs n init J
  intro prog w dp un gd cn cs a ccd cl outer A₀ base h₀ L m news s Q E p loose mean mg mb B F X N T hk hd' hu f l vs n init hl J j0 hF his hm step hret
  refine wpAny_call ?_; k_enter
  (repeat ((fail_if_success (with_reducible show wpAny _ _ (call (Value.builtin _) _ _) _ _ _)); (first | (k_unfold; (try dsimp only)) | walk1 | (dsimp only; walk1))))
  rename_i g' L' h' FG' F' N' B' X' T'
  refine iter_list F' N' hl ?_
  rintro I h1 F1 N1 lI
  clear F' N'
  dsimp only
  have hI : ∀ p ∈ news, p.1 ≠ I := fun p hp => Nat.ne_of_lt (lI p hp)
  (repeat ((fail_if_success (with_reducible show wpAny _ _ (compareOp _ _ _) _ _ _)); (first | (k_unfold; (try dsimp only)) | walk1 | (dsimp only; walk1))))
  refine his (X'.keeps (by rename Fr g' L' _ _ => F5; exact F5.keep)) (fun p hp => by rename News g' L' _ _ => N5; exact (N5 p (.tail _ hp)).1) ?_
  (repeat ((fail_if_success (with_reducible show wpAny _ _ (exec (.For ..) _) _ _ _)); (first | (k_unfold; (try dsimp only)) | walk1 | (dsimp only; walk1))))
  refine wpAny_For ?_
  (repeat ((fail_if_success (with_reducible show wpAny _ _ (pyIter _) _ _ _)); (first | (k_unfold; (try dsimp only)) | walk1 | (dsimp only; walk1))))
  rename Fr g' L' _ _ => F5
  rename News g' L' _ _ => N5
  refine for_iter (L := L') (vs := vs) (n := n) rfl (fun i m nx => m (Str.ofString "function") = some (.ref f) ∧ ∃ acc, m (Str.ofString "value") = some acc ∧ J i acc nx) rfl rfl rfl F5 N5 hl hI ⟨rfl, init, rfl, j0⟩ ?turn ?done
  case done =>
    rintro m1 nx h2 tk2 ⟨mf, acc, mv, hj⟩ F6 N7
    obtain ⟨mm, rfl⟩ := locs2 mf mv
    dsimp only
    (repeat (first | (k_unfold; (try dsimp only)) | walk1 | (dsimp only; walk1)))
    exact hret acc nx _ _ hj (by k_asm) (by k_asm)
  case turn =>
    rintro i v m1 nx oI h2 tk2 E' hi ⟨mf, acc, mv, hj⟩ hC hI2 F6 N7
    obtain ⟨mm, rfl⟩ := locs2 mf mv
    (repeat ((fail_if_success (with_reducible show wpAny _ _ (callWith _ (Value.ref f) _ _ _) _ _ _)); (first | (k_unfold; (try dsimp only)) | walk1 | (dsimp only; walk1))))
    have kF : FnAt f h2 := hF i acc nx h2 hj (X'.keeps F6.keep) fun p hp => (N7 p (.tail _ hp)).1
    refine callWith_F kF ?_
    (repeat ((fail_if_success (show FnAt _ _ ∧ _)); (first | (k_unfold; (try dsimp only)) | walk1 | (dsimp only; walk1))))
    refine ⟨kF, ?_⟩
    refine step i v acc nx I oI g' L' _ _ _ _ _ h2 _ _ _ hi hj hI2 B' X' T' F6 N7 rfl ?_
    rintro acc' nx' h3 tk3 hj' hI3 F8 N8
    (try dsimp only)
    (repeat (first | (k_unfold; (try dsimp only)) | walk1 | (dsimp only; walk1)))
    rename Fr g' L' _ _ => F9
    rename News g' L' _ _ => N9
    show TurnEnd _ _ _ _ _ _ _ _
    exact ⟨_, _, _, _, rfl, F9, N9, fun q hq => by rw [List.mem_singleton.mp hq]; exact hm _ _ _ hj', hI3, rfl, acc', rfl, hj'⟩
end
end Mine
end
example (h : False) {prog : PySem.Program} {w : PySem.World} {A : PySem.Around} {Q E : PySem.Value → PySem.Shared → Prop} {s : PySem.Shared} {env : PySem.Env} {at0 : PySem.Pos} : PySem.wpAny (PySem.model prog w) A (PySem.eval (.Constant .none 0 at0) env) Q E s := by
  w_top off
  first | (walk1; fail) | exact h.elim
section
open PySem PySem.W PyProof.Rows PySem.Calls
set_option maxRecDepth 100000
set_option linter.unusedSectionVars false
namespace Mine
theorem fillR2 : PySem.Challenge.rw_ik0212_01 = PySem.Challenge.rw_ik0212_01 ∧ mkK.heap_1 = mkK.heap_1 := by
  k_fill
  exact ⟨rfl, rfl⟩
noncomputable def stepV (v : View) (x y : Str) : View := if x = y then addV v x [] else addV v y [x]
section
variable {prog : Program} {w : World} {dp un : Nat} {gd : Option (List Code)} {cn : Str} {cs : Scope} {a : Addr} {ccd : Value} {cl : List (Str × Addr)} {outer : List Env} {A₀ : Around} {base h₀ : Heap} {L : Addr} {m : Str → Option Value} {s : Shared} {Q E : Value → Shared → Prop} {p : Program} {loose : List Str} {mean : ExcName → Option Value} {mg mb : Str → Option Value}
variable {H1 H2 H3 H4 : Int} {k1 k2 k3 k4 tp tf : Tok} {S D N2 : Addr} {po nf : Int} {rest : List (Addr × Obj)} {oN : Obj} {nds : List Nd}
variable (B : Below A₀ base outer h₀) (F : Fr h₀ L s.heap m) (X : (mkK.heap_1 w.params).In h₀) (N : News h₀ L s.heap (lam S D N2 (sortD H1 H2 H3 H4 k1 k2 k3 k4 N2 .none po tp nf tf) oN nds rest)) (T : Top p loose mean mg mb h₀) (hk : cs.kind = .function) (hd' : dp ≤ 685) (hu : un ≤ 85)
  (G : GOk prog w S D N2 nds oN rest)
include B F X N T hk hd' hu G
set_option maxHeartbeats 4000000 in
theorem added_ok {st : Addr} {x y : Str} {tx ty : Tok} {n : Nat} (hst : (st, tupO #[.str x tx, .str y ty] n) ∈ rest) (hz : nds.length ≤ 95) {b : Nat} (hb : bV (nds.map Nd.v) b) (hb2 : b ≤ 9000) (hret : ∀ nds' oN' h' tk, nds'.map Nd.v = stepV (nds.map Nd.v) x y → GOk prog w S D N2 nds' oN' rest → Fr h₀ L h' m →
    News h₀ L h' (lam S D N2 (sortD H1 H2 H3 H4 k1 k2 k3 k4 N2 .none po tp nf tf) oN' nds' rest) → Q (.ref S) ⟨h', s.gens, s.drawn, tk, s.os⟩) :
  wpAny (model prog w) (ktrTop dp un gd cn cs L a ccd cl outer) (call (.ref 401) [.ref S, .ref st]) Q E s := by
  generalize Mine.clo = hCl
  revert prog w dp un gd cn cs a ccd cl outer A₀ base h₀ L m s Q E p loose mean mg mb H1 H2 H3 H4 k1 k2 k3 k4 tp tf S D N2 po nf rest oN nds st x y tx ty n b
  intro prog w dp un gd cn cs a ccd cl outer A₀ base h₀ L m s Q E p loose mean mg mb H1 H2 H3 H4 k1 k2 k3 k4 tp tf S D N2 po nf rest oN nds B F X N T hk hd' hu G st x y tx ty n hst hz b hb hb2 hret
  have hst2 : (st, tupO #[.str x tx, .str y ty] n) ∈ lam S D N2 (sortD H1 H2 H3 H4 k1 k2 k3 k4 N2 .none po tp nf tf) oN nds rest := .tail _ (.tail _ (.tail _ (List.mem_append_right _ hst)))
  refine wpAny_call ?_; k_enter
  (repeat ((fail_if_success (with_reducible show wpAny _ _ (call (Value.ref 321) _ _) _ _ _)); (first | (k_unfold; (try dsimp only)) | walk1 | (dsimp only; walk1))))
  · rename Below _ _ _ _ => B'
    rename Frag.In _ _ => X'
    rename Top _ _ _ _ _ _ => T'
    rename Fr _ _ _ _ => F'
    rename News _ _ _ _ => N'
    rename (x == y) = _ => e
    have e' : x = y := by simpa using e
    refine add_ok (pr := []) B' F' X' N' T' rfl (by show dp + 1 ≤ 690; lia) (by show un + 3 ≤ 90; lia) G (fun v hv => by cases hv) (by show nds.length + 0 ≤ 99; lia) hb (by show b + 0 ≤ 10000; lia) ?_
    rintro nds' oN' h2 tk2 hv G2 F2 N3
    (try dsimp only)
    (repeat (first | (k_unfold; (try dsimp only)) | walk1 | (dsimp only; walk1)))
    exact hret nds' oN' _ _ (by rw [hv]; unfold stepV; rw [if_pos e']; rfl) G2 (by k_asm) (by k_asm)
  · (repeat ((fail_if_success (with_reducible show wpAny _ _ (call (Value.ref 321) _ _) _ _ _)); (first | (k_unfold; (try dsimp only)) | walk1 | (dsimp only; walk1))))
    rename Below _ _ _ _ => B'
    rename Frag.In _ _ => X'
    rename Top _ _ _ _ _ _ => T'
    rename Fr _ _ _ _ => F'
    rename News _ _ _ _ => N'
    rename (x == y) = _ => e
    have e' : x ≠ y := by simpa using e
    refine add_ok (pr := [.str x tx]) B' F' X' N' T' rfl (by show dp + 1 ≤ 690; lia) (by show un + 3 ≤ 90; lia) G (fun v hv => ⟨x, tx, List.mem_singleton.mp hv⟩) (by show nds.length + 1 ≤ 99; lia) hb (by show b + 1 ≤ 10000; lia) ?_
    rintro nds' oN' h2 tk2 hv G2 F2 N3
    (try dsimp only)
    (repeat (first | (k_unfold; (try dsimp only)) | walk1 | (dsimp only; walk1)))
    exact hret nds' oN' _ _ (by rw [hv]; unfold stepV; rw [if_neg e']; rfl) G2 (by k_asm) (by k_asm)
end
end Mine
end
example (h : False) {prog : PySem.Program} {w : PySem.World} {A : PySem.Around} {Q E : PySem.Value → PySem.Shared → Prop} {s : PySem.Shared} {env : PySem.Env} {at0 : PySem.Pos} : PySem.wpAny (PySem.model prog w) A (PySem.eval (.Constant .none 0 at0) env) Q E s := by
  w_top off
  first | (walk1; fail) | exact h.elim
section
open PySem PySem.W PyProof.Rows PySem.Calls
set_option maxRecDepth 100000
set_option linter.unusedSectionVars false
namespace Mine
theorem fillR3 : PySem.Challenge.rw_ik0212_01 = PySem.Challenge.rw_ik0212_01 ∧ mkK.heap_1 = mkK.heap_1 := by
  k_fill
  exact ⟨rfl, rfl⟩
section
variable {prog : Program} {w : World} {A : Around} {E : Value → Shared → Prop} {s : Shared}
theorem is_init {S D : Addr} {Q : Value → Shared → Prop} (X : (mkK.heap_1 w.params).In s.heap) (hS : s.heap.get? S = some (instObj 371 D)) (h : Q (.bool false) s) : wpAny (model prog w) A (compareOp .Is (.ref S) (.ref 247)) Q E s := by
  have h2 := X (nat_lit 247) _ rfl
  have ne : S ≠ 247 := fun q => by
    rw [q] at hS
    have := hS.symm.trans h2
    simp at this
  show wpAny (model prog w) A (do let b ← isSame (.ref S) (.ref 247); pure (Value.bool b)) Q E s
  refine wpAny_bind ?_
  unfold isSame
  dsimp only
  rw [if_neg (by simpa using ne)]
  refine wpAny_bind (wpAny_load hS (wpAny_bind (wpAny_load h2 ?_)))
  exact wpAny_pure (wpAny_pure h)
end
theorem addV_len : ∀ (pr : List Str) (v : View) (x : Str), (addV v x pr).length ≤ v.length + 1 + pr.length := fun pr v x => by
  have key : ∀ (pr : List Str) (v : View), (pr.foldl (fun v y => suV (insV v y) y x) v).length ≤ v.length + pr.length := by
    intro pr
    induction pr with
    | nil => intro v; exact Nat.le_refl _
    | cons y pr ih =>
      intro v
      refine Nat.le_trans (ih _) ?_
      unfold suV
      rw [List.length_map, List.length_cons]
      have := insV_len v y
      lia
  unfold addV
  refine Nat.le_trans (key _ _) ?_
  unfold npV
  rw [List.length_map]
  have := insV_len v x
  lia
theorem addV_b (pr : List Str) (v : View) (x : Str) {b : Nat} (h : bV v b) : bV (addV v x pr) (b + pr.length) := by
  have key : ∀ (pr : List Str) (v : View) (b : Nat), bV v b → bV (pr.foldl (fun v y => suV (insV v y) y x) v) (b + pr.length) := by
    intro pr
    induction pr with
    | nil => intro v b h; exact h
    | cons y pr ih =>
      intro v b h
      have := ih _ (b + 1) (bV_su (bV_ins h y) y x)
      rw [List.length_cons, show b + (pr.length + 1) = b + 1 + pr.length by lia]
      exact this
  exact key _ _ _ (bV_np (bV_ins h x) x _)
theorem stepV_len (v : View) (x y : Str) : (stepV v x y).length ≤ v.length + 2 := by
  unfold stepV
  split
  · exact Nat.le_trans (addV_len _ _ _) (by simp)
  · exact Nat.le_trans (addV_len _ _ _) (by simp)
theorem bV_more {v : View} {b c : Nat} (h : bV v b) (hc : b ≤ c) : bV v c := fun e he => Nat.le_trans (h e he) hc
theorem stepV_b {v : View} (x y : Str) {b : Nat} (h : bV v b) : bV (stepV v x y) (b + 1) := by
  unfold stepV
  split
  · exact bV_more (addV_b [] v x h) (by simp)
  · exact addV_b [x] v y h
section
variable {prog : Program} {w : World} {dp un : Nat} {gd : Option (List Code)} {cn : Str} {cs : Scope} {a : Addr} {ccd : Value} {cl : List (Str × Addr)} {outer : List Env} {A₀ : Around} {base h₀ : Heap} {L : Addr} {m : Str → Option Value} {s : Shared} {Q E : Value → Shared → Prop} {p : Program} {loose : List Str} {mean : ExcName → Option Value} {mg mb : Str → Option Value}
variable {H1 H2 H3 H4 : Int} {k1 k2 k3 k4 tp tf : Tok} {S D N2 : Addr} {po nf : Int} {rest : List (Addr × Obj)} {oN : Obj}
variable (B : Below A₀ base outer h₀) (F : Fr h₀ L s.heap m) (X : (mkK.heap_1 w.params).In h₀) (N : News h₀ L s.heap (lam S D N2 (sortD H1 H2 H3 H4 k1 k2 k3 k4 N2 .none po tp nf tf) oN [] rest)) (T : Top p loose mean mg mb h₀) (hk : cs.kind = .function) (hd' : dp ≤ 680) (hu : un ≤ 80)
  (G : GOk prog w S D N2 [] oN rest)
include B F X N T hk hd' hu G
theorem red_srt {stp : Addr} {ts : List Addr} {n0 : Nat} {pairs : List (Str × Str)} (hst : (stp, W.listOf (ts.map Value.ref).toArray n0) ∈ rest) (hlen : ts.length = pairs.length) (hle : pairs.length ≤ 40) (hsp : ∀ (i : Nat) t, ts[i]? = some t → ∃ x y tx ty k, pairs[i]? = some (x, y) ∧ (t, tupO #[.str x tx, .str y ty] k) ∈ rest)
  (hret : ∀ nds' oN' h' tk, nds'.map Nd.v = pairs.foldl (fun v p => stepV v p.1 p.2) [] → nds'.length ≤ 80 → GOk prog w S D N2 nds' oN' rest → Fr h₀ L h' m → News h₀ L h' (lam S D N2 (sortD H1 H2 H3 H4 k1 k2 k3 k4 N2 .none po tp nf tf) oN' nds' rest) → Q (.ref S) ⟨h', s.gens, s.drawn, tk, s.os⟩) :
  wpAny (model prog w) (ktrTop dp un gd cn cs L a ccd cl outer) (call (.ref 255) [.ref 401, .ref stp, .ref S]) Q E s := by
  generalize Mine.clo = hCl
  revert prog w dp un gd cn cs a ccd cl outer A₀ base h₀ L m s Q E p loose mean mg mb H1 H2 H3 H4 k1 k2 k3 k4 tp tf S D N2 po nf rest oN stp ts n0 pairs
  intro prog w dp un gd cn cs a ccd cl outer A₀ base h₀ L m s Q E p loose mean mg mb H1 H2 H3 H4 k1 k2 k3 k4 tp tf S D N2 po nf rest oN B F X N T hk hd' hu G stp ts n0 pairs hst hlen hle hsp hret
  have inl : ∀ {nds : List Nd} {oN : Obj} {q : Addr × Obj}, q ∈ rest → q ∈ lam S D N2 (sortD H1 H2 H3 H4 k1 k2 k3 k4 N2 .none po tp nf tf) oN nds rest := fun h => .tail _ (.tail _ (.tail _ (List.mem_append_right _ h)))
  refine red_ok B F X N T hk hd' hu (l := stp) (vs := ts.map Value.ref) (n := n0) (inl hst) (fun i acc nx => acc = .ref S ∧ ∃ nds oN, nx = lam S D N2 (sortD H1 H2 H3 H4 k1 k2 k3 k4 N2 .none po tp nf tf) oN nds rest ∧ GOk prog w S D N2 nds oN rest ∧ nds.map Nd.v = (pairs.take i).foldl (fun v p => stepV v p.1 p.2) [] ∧ nds.length ≤ 2 * i ∧ bV (nds.map Nd.v) i)
    ⟨rfl, [], oN, rfl, G, by simp, by simp, fun e he => by cases he⟩ (fun i acc nx h' _ X' _ => ?_) (fun X' hN hq => is_init X' (hN (S, instObj 371 D) (.head _)) hq) (fun i acc nx ⟨_, nds, oN, e, _⟩ => e ▸ inl hst) ?_ ?_
  · exact ⟨_, _, _, _, X' (nat_lit 401) _ rfl⟩
  · rintro i v acc nx I oI g L1 m1 cn1 cs1 a1 cd1 h tk Q' E' hi ⟨rfl, nds, oN1, rfl, G1, V1, Z1, W1⟩ hI B1 X1 T1 F1 N1 hk1 hret1
    have hi2 : i < ts.length := by
      have := (List.getElem?_eq_some_iff.mp hi).1
      rwa [List.length_map] at this
    obtain ⟨x, y, tx, ty, k, e1, e2⟩ := hsp i ts[i] (List.getElem?_eq_getElem hi2)
    have ev : v = .ref ts[i] := by
      rw [List.getElem?_map, List.getElem?_eq_getElem hi2] at hi
      exact (Option.some.inj hi).symm
    subst ev
    have GI := G1.moreN (q := (I, oI)) (ents := sortD H1 H2 H3 H4 k1 k2 k3 k4 N2 .none po tp nf tf) hI
    refine added_ok (rest := (I, oI) :: rest) B1 F1 X1 (fun q hq => N1 q (lam_tail.mp hq)) T1 hk1 (by lia) (by lia) GI (st := ts[i]) (n := k) (.tail _ e2) (by lia) W1 (by lia) ?_
    rintro nds' oN' h' tk' V2 G2 F2 N2'
    refine hret1 _ _ h' tk' ⟨rfl, nds', oN', rfl, G2.sub fun p hp => .tail _ hp, ?_, ?_, ?_⟩ (fun q hq => ?_) F2 fun q hq => N2' q (lam_tail.mpr hq)
    · rw [V2, V1, List.take_add_one, e1, List.foldl_append]
      rfl
    · have := congrArg List.length V2
      rw [List.length_map] at this
      rw [this]
      have := stepV_len (nds.map Nd.v) x y
      rw [List.length_map] at this
      lia
    · rw [V2]; exact stepV_b x y W1
    · exact G2.notQ (ents := sortD H1 H2 H3 H4 k1 k2 k3 k4 N2 .none po tp nf tf) (q := (I, oI)) (.head _) (rest' := rest) (fun p hp => hI p (inl hp)) q hq
  · rintro acc nx h' tk ⟨rfl, nds, oN1, rfl, G1, V1, Z1, W1⟩ F1 N1
    rw [List.length_map, hlen, List.take_length] at V1
    rw [List.length_map, hlen] at Z1
    exact hret nds oN1 h' tk V1 (by lia) G1 F1 N1
end
end Mine
end
example (h : False) {prog : PySem.Program} {w : PySem.World} {A : PySem.Around} {Q E : PySem.Value → PySem.Shared → Prop} {s : PySem.Shared} {env : PySem.Env} {at0 : PySem.Pos} : PySem.wpAny (PySem.model prog w) A (PySem.eval (.Constant .none 0 at0) env) Q E s := by
  w_top off
  first | (walk1; fail) | exact h.elim
section
open PySem PySem.W PyProof.Rows PySem.Calls
set_option maxRecDepth 100000
set_option linter.unusedSectionVars false
namespace Mine
theorem fillL2 : PySem.Challenge.rw_ik0212_01 = PySem.Challenge.rw_ik0212_01 ∧ mkK.heap_1 = mkK.heap_1 := by
  k_fill
  exact ⟨rfl, rfl⟩
section
variable {prog : Program} {w : World} {S D N2 : Addr} {nds : List Nd} {oN : Obj} {rest : List (Addr × Obj)} {ents : List DictEntry}
theorem lam_cls (hN : oN.cls = .type "dict") : ∀ p ∈ lam S D N2 ents oN nds [], p.2.cls ≠ .none ∧ p.2.cls ≠ .type "code" := fun p hp => by
  simp only [lam, List.append_nil, List.mem_cons] at hp
  rcases hp with rfl | rfl | rfl | hp
  · exact ⟨by simp, by simp⟩
  · exact ⟨by simp, by simp⟩
  · exact ⟨by rw [hN]; simp, by rw [hN]; simp⟩
  · obtain ⟨d, _, hp⟩ := List.mem_flatMap.mp hp
    simp only [Nd.es, List.mem_cons, List.not_mem_nil, or_false] at hp
    rcases hp with rfl | rfl | rfl
    · exact ⟨by simp, by simp⟩
    · exact ⟨by simp [Nd.o, ndO], by simp [Nd.o, ndO]⟩
    · exact ⟨by simp, by simp⟩
theorem dict_cls {kvs : List (Str × Value)} (h : oN.IsDictOf (PySem.strKind prog w) kvs) : oN.cls = .type "dict" := let ⟨_, _, h, _⟩ := h; h.1
theorem notTab_of {o : Obj} (h : o.cls ≠ .none) : ¬ IsTab o := by rintro ⟨us, rfl, _⟩; exact h rfl
theorem no241 {h₀ h : Heap} {L : Addr} {news : List (Addr × Obj)} {ps : Array Value} (N : News h₀ L h news) (x : ((nat_lit 241, tabObj ps) : Addr × Obj) ∈ news) {p : Addr × Obj} (hp : p ∈ news) (hc : p.2.cls ≠ .none) : p.1 ≠ (nat_lit 241 : Nat) := fun q => by
  have h1 := (N _ hp).1
  rw [q] at h1
  have := h1.symm.trans (N _ x).1
  injection this with this
  rw [this] at hc
  exact hc rfl
theorem adr_mem {a : Addr} (h : a ∈ adrs S D N2 nds) : ∃ o, (a, o) ∈ lam S D N2 ents oN nds [] := by
  unfold adrs at h
  rcases List.mem_cons.mp h with rfl | h
  · exact ⟨_, .head _⟩
  rcases List.mem_cons.mp h with rfl | h
  · exact ⟨_, .tail _ (.head _)⟩
  rcases List.mem_cons.mp h with rfl | h
  · exact ⟨_, .tail _ (.tail _ (.head _))⟩
  rw [← grL_ad] at h
  obtain ⟨p, hp, rfl⟩ := List.mem_map.mp h
  exact ⟨p.2, .tail _ (.tail _ (.tail _ (List.mem_append_left _ hp)))⟩
theorem lam_adr {p : Addr × Obj} (h : p ∈ lam S D N2 ents oN nds []) : p.1 ∈ adrs S D N2 nds := by
  unfold adrs
  simp only [lam, List.append_nil, List.mem_cons] at h
  rcases h with rfl | rfl | rfl | h
  · exact .head _
  · exact .tail _ (.head _)
  · exact .tail _ (.tail _ (.head _))
  · rw [← grL_ad]
    exact .tail _ (.tail _ (.tail _ (List.mem_map_of_mem h)))
theorem lam_nil {p : Addr × Obj} : p ∈ lam S D N2 ents oN nds rest ↔ p ∈ lam S D N2 ents oN nds [] ∨ p ∈ rest := by
  have := lamMany (S := S) (D := D) (N2 := N2) (ents := ents) (oN := oN) (nds := nds) (rest := []) (p := p) (l := rest)
  rw [List.append_nil, List.mem_append] at this
  exact this.trans Or.comm
end
/-- the lists made in the rounds, as they stand in the ledger -/
noncomputable def EK (R : Addr) (nR : Nat) (As : List (Addr × List Value × Nat)) (rest0 : List (Addr × Obj)) : List (Addr × Obj) :=
  (R, W.listOf (As.map fun a => Value.ref a.1).toArray nR) :: (As.map (fun a => (a.1, W.listOf a.2.1.toArray a.2.2)) ++ rest0)
theorem EK_cls {R : Addr} {nR : Nat} {As : List (Addr × List Value × Nat)} {rest0 : List (Addr × Obj)} {p : Addr × Obj} (h : p ∈ EK R nR As rest0) : p.2.cls ≠ .none ∨ p ∈ rest0 := by
  unfold EK at h
  rcases List.mem_cons.mp h with rfl | h
  · exact .inl (by simp)
  · rcases List.mem_append.mp h with h | h
    · obtain ⟨a, _, rfl⟩ := List.mem_map.mp h
      exact .inl (by simp)
    · exact .inr h
noncomputable def vk (v : View) : Nat → View × List Str
  | 0 => (v, rdyS v)
  | k + 1 => rnd (vk v k).1 (vk v k).2
theorem vk_closed {v : View} (h : closedV v) : ∀ k, closedV (vk v k).1
  | 0 => h
  | k + 1 => closed_rnd (vk_closed h k)
theorem vk_nm (v : View) : ∀ k, (vk v k).1.map (·.1) = v.map (·.1)
  | 0 => rfl
  | k + 1 => (rnd_nm _ _).trans (vk_nm v k)
/-- a sorted round -/
noncomputable def SortedAs (r : List Str) (vs : List Value) : Prop := (vs.map sof).Perm r ∧ vs.Pairwise (fun x y => kof x < kof y) ∧ ∀ v ∈ vs, ∃ x t, v = .str x t
end Mine
end
example (h : False) {prog : PySem.Program} {w : PySem.World} {A : PySem.Around} {Q E : PySem.Value → PySem.Shared → Prop} {s : PySem.Shared} {env : PySem.Env} {at0 : PySem.Pos} : PySem.wpAny (PySem.model prog w) A (PySem.eval (.Constant .none 0 at0) env) Q E s := by
  w_top off
  first | (walk1; fail) | exact h.elim
section
open PySem PySem.W PyProof.Rows PySem.Calls
set_option maxRecDepth 100000
set_option linter.unusedSectionVars false
namespace Mine
theorem fillM8 : PySem.Challenge.rw_ik0212_01 = PySem.Challenge.rw_ik0212_01 ∧ mkK.heap_1 = mkK.heap_1 := by
  k_fill
  exact ⟨rfl, rfl⟩
section
variable {M : Model} {A : Around} {E : Value → Shared → Prop} {s : Shared} {env : Env}
/-- what a method called with a star must find -/
noncomputable def StarM (M : Model) (A : Around) (E : Value → Shared → Prop) (env : Env) (e : Expr) (Q : Value → Shared → Prop) (f : Value) (s : Shared) : Prop :=
  ∃ P : Heap → Prop, (∀ h, P h → ∃ k, (k = Keeper.frame ∨ k = Keeper.machine ∨ k = Keeper.boundFrame) ∧ Looks M h (keeperOf f) k) ∧ wpAny M A (eval e env) (fun v s₃ => StarOf M A E v (fun vs s₄ => P s₄.heap ∧ wpAny M A (call f ([] ++ vs)) Q E s₄) s₃) E s
theorem call_star {o e : Expr} {name : Str} {apos pos p : Pos} {Q : Value → Shared → Prop} (hbase : attributeBase o name env (eval o env) = eval o env)
    (h : wpAny M A (eval o env) (fun ov s₁ => wpAny M A (getAttr ov name true) (fun f s₂ => StarM M A E env e Q f s₂) E s₁) E s) :
    wpAny M A (eval (.Call (.Attribute o name apos) [.Starred e p] [] pos) env) Q E s := by
  rw [arm_eval_Call, hbase]
  refine wpAny_bind (wpAny_mono h (fun ov s₁ h₁ => wpAny_bind (wpAny_standAt ?_)) fun _ _ x => x)
  have hform : methodCallForm ([Expr.Starred e p].length + ([] : List Keyword).length) (backTo pos (starEach [Expr.Starred e p] env)) (backToKw pos (keywordEach [] env)) = false := rfl
  unfold methodCall
  rw [hform]
  refine wpAny_bind (wpAny_holding ?_)
  show wpAny M A (do let f ← getAttr ov name true; pure (f, ([] : List Value))) _ _ _
  refine wpAny_bind (wpAny_mono h₁ (fun f s₂ h₂ => wpAny_pure ?_) fun _ _ x => x)
  show wpAny M A (do let cp ← (pure pos : Sem Pos); callWith cp f [] (backTo pos (starEach [Expr.Starred e p] env)) []) _ _ _
  refine wpAny_bind (wpAny_pure ?_)
  obtain ⟨P, hk, h₂⟩ := h₂
  exact ks_call rfl hk (ks_lone h₂)
end
end Mine
end
example (h : False) {prog : PySem.Program} {w : PySem.World} {A : PySem.Around} {Q E : PySem.Value → PySem.Shared → Prop} {s : PySem.Shared} {env : PySem.Env} {at0 : PySem.Pos} : PySem.wpAny (PySem.model prog w) A (PySem.eval (.Constant .none 0 at0) env) Q E s := by
  w_top off
  first | (walk1; fail) | exact h.elim
section
open PySem PySem.W PyProof.Rows PySem.Calls
set_option maxRecDepth 100000
set_option linter.unusedSectionVars false
namespace Mine
theorem fillL3 : PySem.Challenge.rw_ik0212_01 = PySem.Challenge.rw_ik0212_01 ∧ mkK.heap_1 = mkK.heap_1 := by
  k_fill
  exact ⟨rfl, rfl⟩
theorem GOk.add2 {prog : Program} {w : World} {S D N2 : Addr} (ents : List DictEntry) {oN : Obj} {nds : List Nd} {rest : List (Addr × Obj)} {b b' q : Addr × Obj} (G : GOk prog w S D N2 nds oN (b :: rest)) (hb : b.1 = b'.1) (h : ∀ p ∈ lam S D N2 ents oN nds (b :: rest), p.1 ≠ q.1) : GOk prog w S D N2 nds oN (b' :: q :: rest) :=
  (G.moreN h).re fun p hp => by
    rcases List.mem_cons.mp hp with rfl | hp
    · exact ⟨_, .tail _ (.head _), hb⟩
    · rcases List.mem_cons.mp hp with rfl | hp
      · exact ⟨_, .head _, rfl⟩
      · exact ⟨p, .tail _ (.tail _ hp), rfl⟩
theorem nodup_cps : ∀ {l : List Str}, l.Nodup → (l.map fun x => x.cps.toList).Nodup
  | [], _ => .nil
  | x :: l, h => by
    rw [List.nodup_cons] at h
    rw [List.map_cons, List.nodup_cons]
    refine ⟨fun hm => ?_, nodup_cps h.2⟩
    obtain ⟨y, hy, e⟩ := List.mem_map.mp hm
    have : y = x := by
      obtain ⟨a⟩ := x
      obtain ⟨b⟩ := y
      have : b = a := Array.toList_inj.mp e
      rw [this]
    exact h.1 (this ▸ hy)
theorem news_swap {h₀ h : Heap} {L S D N2 : Addr} {ents : List DictEntry} {oN : Obj} {nds : List Nd} {rest : List (Addr × Obj)} {a b : Addr × Obj} (N : News h₀ L h (a :: lam S D N2 ents oN nds (b :: rest))) : News h₀ L h (lam S D N2 ents oN nds (b :: a :: rest)) := fun q hq => N q (by
  rcases List.mem_cons.mp (lam_tail.mp hq) with rfl | hq
  · exact .tail _ (lam_tail.mpr (.head _))
  · rcases List.mem_cons.mp (lam_tail.mp hq) with rfl | hq
    · exact .head _
    · exact .tail _ (lam_tail.mpr (.tail _ hq)))
structure PLr (prog : Program) (w : World) (S D N2 Rd R : Addr) (v0 : View) (Lb : Nat) (rest0 : List (Addr × Obj)) (k : Nat) (nds : List Nd) (oN : Obj) (vs : List Value) (As : List (Addr × List Value × Nat)) (nR : Nat) (Y : List (Addr × Obj)) : Prop where
  V : nds.map Nd.v = (vk v0 k).1
  r : vs.map sof = (vk v0 k).2
  tx : ∀ v ∈ vs, ∃ x t, v = .str x t
  G : ∀ n, GOk prog w S D N2 nds oN ((Rd, W.listOf vs.toArray n) :: Y)
  hR : ∀ p ∈ Y, p.1 ≠ Rd
  ek : ∀ p ∈ EK R nR As rest0, p ∈ Y
  ct : CtkTab Lb Y
  len : As.length = k
  srt : ∀ (i : Nat) a, As[i]? = some a → SortedAs (vk v0 i).2 a.2.1
  apR : ∀ p ∈ As.map (fun a => (a.1, W.listOf a.2.1.toArray a.2.2)) ++ rest0, p.1 ≠ R
section
variable {prog : Program} {w : World} {dp un : Nat} {gd : Option (List Code)} {cn : Str} {cs : Scope} {a : Addr} {ccd : Value} {cl : List (Str × Addr)} {outer : List Env} {A₀ : Around} {base h₀ : Heap} {L : Addr} {m : Str → Option Value} {news : List (Addr × Obj)} {s : Shared} {Q E : Value → Shared → Prop} {p : Program} {loose : List Str} {mean : ExcName → Option Value} {mg mb : Str → Option Value}
variable (B : Below A₀ base outer h₀) (F : Fr h₀ L s.heap m) (X : (mkK.heap_1 w.params).In h₀) (N : News h₀ L s.heap news) (T : Top p loose mean mg mb h₀) (XB : (mkK.heap_1 w.params).In base) (TB : Top p loose mean mg mb base) (KD : KtsDicts (outer.filterMap (·.frame)) h₀) (hk : cs.kind = .function) (hd' : dp ≤ 660) (hu : un ≤ 60)
include B F X N T XB TB KD hk hd' hu
set_option maxHeartbeats 8000000 in
theorem lr_ok {Lb : Nat} {rest0 : List (Addr × Obj)} {stp : Addr} {ts : List Addr} {n0 : Nat} {pairs : List (Str × Str)} (lev : Str → Nat) (hCb : CodeHd base (nat_lit 245) (nat_lit 241)) (hLb : ∃ o, base.get? Lb = some o) (h241 : 241 ≤ Lb) (hT0 : CtkTab Lb news)
  (hst : (stp, W.listOf (ts.map Value.ref).toArray n0) ∈ news) (hlen : ts.length = pairs.length) (hle : pairs.length ≤ 40) (hsp : ∀ (i : Nat) t, ts[i]? = some t → ∃ x y tx ty k, pairs[i]? = some (x, y) ∧ (t, tupO #[.str x tx, .str y ty] k) ∈ news)
  (hr0 : ∀ p ∈ rest0, p ∈ news ∧ p.1 ≠ (nat_lit 241 : Nat) ∧ (¬ IsTab p.2 ∨ @LE.le Nat _ p.1 Lb))
  (hcl : closedV (pairs.foldl (fun v p => stepV v p.1 p.2) [])) (hlev : ∀ e ∈ pairs.foldl (fun v p => stepV v p.1 p.2) [], ∀ y ∈ e.2.2, lev e.1 < lev y)
  (ok : ∀ k, k < 3 → RndOk (vk (pairs.foldl (fun v p => stepV v p.1 p.2) []) k).1 (vk (pairs.foldl (fun v p => stepV v p.1 p.2) []) k).2) (fin : (vk (pairs.foldl (fun v p => stepV v p.1 p.2) []) 3).2 = [])
  (hret : ∀ h₀' h' tk own R nR As, KtsTurn (outer.filterMap (·.frame)) h₀ h₀' → Fr h₀' L h' m → News h₀' L h' own → (∀ p ∈ EK R nR As rest0, p ∈ own) → CtkTab Lb own → As.length = 3 → (∀ (i : Nat) a, As[i]? = some a → SortedAs (vk (pairs.foldl (fun v p => stepV v p.1 p.2) []) i).2 a.2.1) → Below A₀ base outer h₀' → (mkK.heap_1 w.params).In h₀' → Top p loose mean mg mb h₀' → KtsDicts (outer.filterMap (·.frame)) h₀' → Q (.ref R) ⟨h', s.gens, s.drawn, tk, s.os⟩) :
  wpAny (model prog w) (ktrTop dp un gd cn cs L a ccd cl outer) (call (.ref 408) [.ref stp]) Q E s := by
  generalize Mine.clo = hCl
  revert prog w dp un gd cn cs a ccd cl outer A₀ base h₀ L m news s Q E p loose mean mg mb Lb rest0 stp ts n0 pairs lev
  intro prog w dp un gd cn cs a ccd cl outer A₀ base h₀ L m news s Q E p loose mean mg mb B F X N T XB TB KD hk hd' hu Lb rest0 stp ts n0 pairs lev hCb hLb h241 hT0 hst hlen hle hsp hr0 hcl hlev ok fin hret
  refine wpAny_call ?_
  refine' code_defT (binds := [(Str.ofString "steps", .ref stp)]) B F X N T XB TB KD ?kA ?kF ?kK ?k6 ?k7 ?k8 ?k9 ?kB ?_ ?c2 ?c3 ?c4 ?c5
  case kA => exact rfl
  case kF => exact rfl
  case kK => assumption
  case k6 => k_dflt k_is
  case k7 => k_dflt k_is
  case k8 => ktr_room
  case k9 => exact BindsTo.of_eq rfl
  case kB => exact locs rfl
  case c5 => decide
  case c2 => exact rfl
  case c3 => exact rfl
  case c4 => exact rfl
  intro g1 L1 h1 FG1 F1 N1 B1 X1 T1 D1
  refine gQ ?_
  rintro Q7 hQ7
  (repeat ((fail_if_success (with_reducible show wpAny _ _ (call (.ref 255) _) _ _ _)); (first | (k_unfold; (try dsimp only)) | walk1 | (dsimp only; walk1))))
  rename Fr g1 L1 _ _ => F5
  rename News g1 L1 _ _ => N5
  rename Obj.IsDictOf (PySem.strKind prog w) _ [] => hdN
  rename (_ == sysModules) = false => loN
  rename ∀ (p : Addr × Obj), p ∈ news → p.fst < _ => hf9
  refine red_srt (rest := news) B1 F5 X1 (fun q hq => N5 q (by
    simp only [lam, grL, List.flatMap_nil, List.nil_append, List.mem_cons] at hq
    rcases hq with h | h | h | h
    · exact h ▸ .tail _ (.head _)
    · exact h ▸ .tail _ (.tail _ (.head _))
    · exact h ▸ .head _
    · exact .tail _ (.tail _ (.tail _ h)))) T1 rfl (by show dp + 1 ≤ 680; lia) (by show un + 3 ≤ 80; lia) ⟨hdN, loN, .nil, ?gn, ?ga, fun d hd => by cases hd⟩ hst hlen hle hsp ?go
  case gn =>
    simp only [adrs, List.flatMap_nil, List.nodup_cons, List.mem_cons, List.not_mem_nil, or_false, not_or, not_false_eq_true, List.nodup_nil, and_true]
    refine ⟨⟨?_, ?_⟩, ?_⟩ <;> (refine ?_; rintro q; have q9 : @Eq Nat _ _ := q; lia)
  case ga =>
    intro p hp
    have hm : @LT.lt Nat _ p.1 (mx news) := mx_le.mp (Nat.le_refl _) p hp
    have hm2 : @LT.lt Nat _ p.1 _ := hf9 p hp
    simp only [adrs, List.flatMap_nil, List.mem_cons, List.not_mem_nil, or_false, not_or]
    refine ⟨?_, ?_, ?_⟩ <;> (refine ?_; rintro q; have q9 : @Eq Nat _ _ := q; lia)
  case go =>
    clear N5 F5 hdN loN
    intro nds1 oN1 h2 tk2 V1 Z1 G1 F2 N2
    (repeat ((fail_if_success (with_reducible show wpAny _ _ (call (.ref 326) _) _ _ _)); (first | (k_unfold; (try dsimp only)) | walk1 | (dsimp only; walk1))))
    have hcl1 := closed_nds (nds := nds1) (by rw [V1]; exact hcl)
    rename Fr g1 L1 _ _ => F3
    rename News g1 L1 _ _ => N3
    refine prep_ok (rest := news) B1 F3 X1 N3 T1 XB TB D1 rfl (by show dp + 1 ≤ 685; lia) (by show un + 3 ≤ 85; lia) G1 lev (fun d hd v hv => ⟨hcl1 d hd v hv, hlev d.v (by rw [← V1]; exact List.mem_map_of_mem hd) (sof v) (List.mem_map_of_mem hv)⟩) (by lia) ?_
    rintro g2 h4 tk4 Rd nRd T4 F4 N4 G4 ap4 B4 X4 P4 D4
    clear N3 F3
    (repeat ((fail_if_success (with_reducible show wpAny _ _ (exec (.While ..) _) _ _ _)); (first | (k_unfold; (try dsimp only)) | walk1 | (dsimp only; walk1))))
    rename Fr g2 L1 _ _ => F5
    rename News g2 L1 _ _ => N5
    rename _ ∧ _ ∧ _ ∧ mx (grL nds1 ++ _) ≤ _ => lt5
    have hlc : ∀ (R : Addr), R = R → True := fun _ _ => trivial
    obtain ⟨S, D, N2, R, H1, H2, H3, H4, t1, t2, t3, t4, tp, tf, mW, F6, ms, mr, N6, I6⟩ : ∃ (S D N2 R : Addr) (H1 H2 H3 H4 : Int) (t1 t2 t3 t4 tp tf : Tok) (mW : Str → Option Value), Fr g2 L1 _ mW ∧ mW (Str.ofString "sorter") = some (.ref S) ∧ mW (Str.ofString "rounds") = some (.ref R) ∧ News g2 L1 _ (lam S D N2 (sortD H1 H2 H3 H4 t1 t2 t3 t4 N2 (.ref Rd) 0 tp 0 tf) oN1 nds1 ((Rd, W.listOf (rdyV nds1).toArray nRd) :: (R, W.listOf #[] 0) :: news)) ∧ PLr prog w S D N2 Rd R (pairs.foldl (fun v p => stepV v p.1 p.2) []) Lb rest0 0 nds1 oN1 (rdyV nds1) [] 0 ((R, W.listOf #[] 0) :: news) := by
      refine ⟨_, _, _, _, _, _, _, _, _, _, _, _, _, _, _, F5, by rfl, by rfl, news_swap N5, V1, ?_, ?_, fun n => ?_, ?_, ?_, ?_, rfl, fun i a h => by simp at h, ?_⟩
      · rw [rdyV_sof, V1]; rfl
      · intro v hv
        obtain ⟨d, _, rfl⟩ := List.mem_map.mp hv
        exact ⟨_, _, rfl⟩
      · refine G4.add2 [] rfl ?_
        rintro p hp
        rcases List.mem_cons.mp hp with rfl | hp
        · exact Nat.ne_of_lt lt5.1
        · rcases List.mem_cons.mp hp with rfl | hp
          · exact Nat.ne_of_lt lt5.2.1
          · rcases List.mem_cons.mp hp with rfl | hp
            · exact Nat.ne_of_lt lt5.2.2.1
            · exact Nat.ne_of_lt (mx_le.mp lt5.2.2.2 p hp)
      · intro p hp
        rcases List.mem_cons.mp hp with rfl | hp
        · exact Nat.ne_of_gt (mx_le.mp lt5.2.2.2 (Rd, W.listOf (rdyV nds1).toArray nRd) (List.mem_append_right _ (.head _)))
        · exact ap4 p hp
      · intro p hp
        rcases List.mem_cons.mp hp with rfl | hp
        · exact .head _
        · exact .tail _ (hr0 p hp).1
      · exact hT0.mono fun p hp => .tail _ hp
      · intro p hp
        exact Nat.ne_of_lt (mx_le.mp lt5.2.2.2 p (List.mem_append_right _ (.tail _ (hr0 p hp).1)))
    clear N5 F5 lt5 hlc
    refine whl_start 0 ?_
    refine wh_ind (σ := Nat) (fun k s' => k ≤ 3 ∧ ∃ (h : Heap) (tk : Tok) (m : Str → Option Value) (nds : List Nd) (oN : Obj) (vs : List Value) (n : Nat) (po : Int) (tp tf : Tok) (As : List (Addr × List Value × Nat)) (nR : Nat) (Y : List (Addr × Obj)), s' = ⟨h, s.gens, s.drawn, tk, s.os⟩ ∧ Fr g2 L1 h m ∧ m (Str.ofString "sorter") = some (.ref S) ∧ m (Str.ofString "rounds") = some (.ref R) ∧
      News g2 L1 h (lam S D N2 (sortD H1 H2 H3 H4 t1 t2 t3 t4 N2 (.ref Rd) po tp po tf) oN nds ((Rd, W.listOf vs.toArray n) :: Y)) ∧ PLr prog w S D N2 Rd R (pairs.foldl (fun v p => stepV v p.1 p.2) []) Lb rest0 k nds oN vs As nR Y) (fun k => 3 - k) ?step 0 _ ⟨by lia, _, _, mW, nds1, oN1, rdyV nds1, nRd, 0, tp, tf, [], 0, _, rfl, F6, ms, mr, N6, I6⟩
    case step =>
      clear F6 ms mr N6 I6 mW tp tf
      (try clear G1 V1 Z1 hcl1 G4 ap4)
      intro k s' hh ih
      refine and2 hh ?_; rintro hk3 hb; clear hh; refine ex13 hb ?_; rintro h5 tk5 m5 nds oN vs n po tp tf As nR Y hc; clear hb
      refine and6 hc ?_; rintro e F7 ms mr N7 I7; clear hc; subst e
      refine whl_turn (k := 0) ?hE ?_
      case hE => first | passes_own | with_unfolding_all passes_own
      obtain ⟨mm, em⟩ := locs2 ms mr
      have F8 := F7
      rw [em] at F8
      clear F7
      have hvl : vs.length = (vk (pairs.foldl (fun v p => stepV v p.1 p.2) []) k).2.length := by rw [← I7.r, List.length_map]
      have hvz : vs.length ≤ 100 := by
        rw [hvl]
        rcases Nat.lt_or_ge k 3 with h | h
        · exact Nat.le_of_lt (Nat.lt_of_lt_of_le (ok k h).lt (by lia))
        · have : k = 3 := by lia
          subst this
          rw [fin]; exact Nat.zero_le _
      (repeat ((fail_if_success (with_reducible show wpAny _ _ (call (.ref 340) _) _ _ _)); (first | (k_unfold; (try dsimp only)) | walk1 | (dsimp only; walk1))))
      rename Fr g2 L1 _ _ => F9
      rename News g2 L1 _ _ => N9
      refine ia_ok (rest := Y) B4 F9 X4 N9 P4 rfl (by show dp + 1 ≤ 690; lia) (by show un + 3 ≤ 90; lia) (I7.G n) I7.hR hvz ?_
      rintro h6 tk6 F10 N10
      clear F9 N9
      rcases Nat.lt_or_ge k 3 with hlt | hge
      · have hne : vs ≠ [] := fun e => (ok k hlt).ne (List.length_eq_zero_iff.mp (by rw [← hvl, e]; rfl))
        have e9 : (!vs.isEmpty) = true := by cases vs with | nil => exact absurd rfl hne | cons => rfl
        rw [e9]
        (repeat ((fail_if_success (with_reducible show wpAny _ _ (call (.ref 333) _) _ _ _)); (first | (k_unfold; (try dsimp only)) | walk1 | (dsimp only; walk1))))
        rename Fr g2 L1 _ _ => F11
        rename News g2 L1 _ _ => N11
        have okk := ok k hlt
        have hvn : ∀ v ∈ vs, ∃ x t, v = .str x t ∧ x ∈ nds.map Nd.nm := fun v hv => by
          obtain ⟨x, t, rfl⟩ := I7.tx v hv
          refine ⟨x, t, rfl, ?_⟩
          have := okk.sub x (by rw [← I7.r]; exact List.mem_map_of_mem (f := sof) hv)
          rwa [← I7.V, view_nm] at this
        refine gr_ok (rest := Y) B4 F11 X4 N11 P4 rfl (by show dp + 1 ≤ 690; lia) (by show un + 3 ≤ 90; lia) (I7.G n) I7.hR hvn hvz hne ?_
        rintro nds' Tp n' tp' h7 tk7 V7 G7 ap7 F12 N12
        have N12' : News g2 L1 h7 ((R, W.listOf (As.map fun a => Value.ref a.1).toArray nR) :: (Tp, tupO vs.toArray 0) :: lam S D N2 (sortD H1 H2 H3 H4 t1 t2 t3 t4 N2 (.ref Rd) (po + vs.length) tp' po tf) oN nds' ((Tp, tupO vs.toArray 0) :: (Rd, W.listOf #[] n') :: Y)) := fun q hq => by
          rcases List.mem_cons.mp hq with rfl | hq
          · exact N12 _ (lam_nil.mpr (.inr (.tail _ (.tail _ (I7.ek _ (.head _))))))
          · rcases List.mem_cons.mp hq with rfl | hq
            · exact N12 _ (lam_nil.mpr (.inr (.head _)))
            · exact N12 _ hq
        clear F11 N11 N12
        (repeat ((fail_if_success (with_reducible show wpAny _ _ (call (.ref 246) _) _ _ _)); (first | (k_unfold; (try dsimp only)) | walk1 | (dsimp only; walk1))))
        rename Fr g2 L1 _ _ => F11
        rename News g2 L1 _ _ => N11
        obtain ⟨ps, hps, _⟩ := id I7.ct
        have hcls := lam_cls (S := S) (D := D) (N2 := N2) (nds := nds') (ents := sortD H1 H2 H3 H4 t1 t2 t3 t4 N2 (.ref Rd) (po + vs.length) tp' po tf) (dict_cls G7.dict)
        have m241 : ((nat_lit 241, tabObj ps) : Addr × Obj) ∈ (R, W.listOf (As.map fun a => Value.ref a.1).toArray nR) :: (Tp, tupO vs.toArray 0) :: lam S D N2 (sortD H1 H2 H3 H4 t1 t2 t3 t4 N2 (.ref Rd) (po + vs.length) tp' po tf) oN nds' ((Tp, tupO vs.toArray 0) :: (Rd, W.listOf #[] n') :: Y) := .tail _ <| .tail _ <| lam_nil.mpr (.inr (.tail _ (.tail _ hps)))
        refine ctk (Lb := Lb) (own0 := Y) (rest := (Tp, tupO vs.toArray 0) :: (Rd, W.listOf #[] n') :: (lam S D N2 (sortD H1 H2 H3 H4 t1 t2 t3 t4 N2 (.ref Rd) (po + vs.length) tp' po tf) oN nds' [] ++ EK R nR As rest0)) B4 F11 X4 N11 P4 rfl (by show dp + 1 + 60 < 1000; lia) (by show un + 3 + 700 < 9900; lia) (hCb.keeps B4.stays) I7.ct (fun p hp => .tail _ (.tail _ (lam_nil.mpr (.inr (.tail _ (.tail _ hp)))))) ?hr h241 (by obtain ⟨o, e⟩ := hLb; exact ⟨o, B4.stays _ _ e⟩) ?cv11
        case' cv11 => rintro own C h8 tk8 F13 N13 hsub hct hK
        rotate_left
        case hr =>
          have gen : ∀ p, p ∈ lam S D N2 (sortD H1 H2 H3 H4 t1 t2 t3 t4 N2 (.ref Rd) (po + vs.length) tp' po tf) oN nds' ((Tp, tupO vs.toArray 0) :: (Rd, W.listOf #[] n') :: Y) → p.2.cls ≠ .none → p ∈ (R, W.listOf (As.map fun a => Value.ref a.1).toArray nR) :: (Tp, tupO vs.toArray 0) :: lam S D N2 (sortD H1 H2 H3 H4 t1 t2 t3 t4 N2 (.ref Rd) (po + vs.length) tp' po tf) oN nds' ((Tp, tupO vs.toArray 0) :: (Rd, W.listOf #[] n') :: Y) ∧ p.1 ≠ (nat_lit 241 : Nat) ∧ (¬ IsTab p.2 ∨ @LE.le Nat _ p.1 Lb) := fun p hp hc => ⟨.tail _ (.tail _ hp), no241 N11 m241 (.tail _ (.tail _ hp)) hc, .inl (notTab_of hc)⟩
          intro p hp
          rcases List.mem_cons.mp hp with rfl | hp
          · exact gen _ (lam_nil.mpr (.inr (.head _))) (by simp)
          · rcases List.mem_cons.mp hp with rfl | hp
            · exact gen _ (lam_nil.mpr (.inr (.tail _ (.head _)))) (by simp)
            · rcases List.mem_append.mp hp with hp | hp
              · exact gen _ (lam_nil.mpr (.inl hp)) (hcls p hp).1
              · have hpY := lam_nil (S := S) (D := D) (N2 := N2) (nds := nds') (oN := oN) (ents := sortD H1 H2 H3 H4 t1 t2 t3 t4 N2 (.ref Rd) (po + vs.length) tp' po tf) (rest := (Tp, tupO vs.toArray 0) :: (Rd, W.listOf #[] n') :: Y) |>.mpr (.inr (.tail _ (.tail _ (I7.ek p hp))))
                rcases EK_cls hp with hc | hp
                · exact gen _ hpY hc
                · exact ⟨.tail _ (.tail _ hpY), (hr0 p hp).2⟩
        have mT := hsub _ (.head _)
        have mR := hsub _ (.tail _ (.head _))
        have mL : ∀ p ∈ lam S D N2 (sortD H1 H2 H3 H4 t1 t2 t3 t4 N2 (.ref Rd) (po + vs.length) tp' po tf) oN nds' [], p ∈ own := fun p hp => hsub p (.tail _ (.tail _ (List.mem_append_left _ hp)))
        have mE : ∀ p ∈ EK R nR As rest0, p ∈ own := fun p hp => hsub p (.tail _ (.tail _ (List.mem_append_right _ hp)))
        clear F11 N11 hsub
        (repeat ((fail_if_success (with_reducible show wpAny _ _ (call (.builtin "sorted") _ _) _ _ _)); (first | (k_unfold; (try dsimp only)) | walk1 | (dsimp only; walk1))))
        have hnd : (vs.map kof).Nodup := by
          have h1 := okk.nd
          rw [← I7.r] at h1
          have e : vs.map kof = (vs.map sof).map fun x => x.cps.toList := by
            rw [List.map_map]
            refine List.map_congr_left ?_
            rintro v hv
            obtain ⟨x, t, rfl⟩ := I7.tx v hv
            rfl
          rw [e]
          exact nodup_cps h1
        refine ksorted (own := own) (l := Tp) (vs := vs) (n0 := 0) B4 F13 X4 N13 P4 rfl (by show dp + 1 ≤ 800; lia) (by show un + 3 ≤ 900; lia) hK (fun p hp => hp) (N13 _ mT).1 I7.tx (by rw [hvl]; exact okk.lt) hnd (by show un + 3 + 2 ≤ 900; lia) ?_
        rintro D2 h9 tk9 c9 out F14 N14 lt14 hperm hpw
        have mRl := mE _ (.head _)
        have hct2 : CtkTab Lb (offL own (R :: Rd :: adrs S D N2 nds')) := ctk_off hct N13 fun a ha => by
          rcases List.mem_cons.mp ha with rfl | ha
          · exact ⟨_, mRl, by simp, fun ps e => by simp at e⟩
          · rcases List.mem_cons.mp ha with rfl | ha
            · exact ⟨_, mR, by simp, fun ps e => by simp at e⟩
            · obtain ⟨o, ho⟩ := adr_mem (oN := oN) (ents := sortD H1 H2 H3 H4 t1 t2 t3 t4 N2 (.ref Rd) (po + vs.length) tp' po tf) ha
              exact ⟨o, mL _ ho, (hcls _ ho).2, fun ps e => (hcls _ ho).1 (by rw [e])⟩
        have dR : D2 ≠ R := Nat.ne_of_gt (lt14 _ mRl)
        have dT : D2 ≠ Tp := Nat.ne_of_gt (lt14 _ mT)
        have tR : Tp ≠ R := fun q => by
          have h1 := (N13 _ mT).1
          rw [q] at h1
          have := h1.symm.trans (N13 _ mRl).1
          simp at this
        have hoR : ∀ p ∈ offL own [R], p.1 ≠ R := fun p hp q => (mem_off.mp hp).2 (by rw [q]; exact .head _)
        have N15 : News g2 L1 h9 ((R, W.listOf (As.map fun a => Value.ref a.1).toArray nR) :: (Tp, tupO vs.toArray 0) :: (D2, W.listOf out.toArray c9) :: offL own [R]) := fun q hq => by
          rcases List.mem_cons.mp hq with rfl | hq
          · exact N14 _ (.tail _ mRl)
          · rcases List.mem_cons.mp hq with rfl | hq
            · exact N14 _ (.tail _ mT)
            · rcases List.mem_cons.mp hq with rfl | hq
              · exact N14 _ (.head _)
              · exact N14 _ (.tail _ (mem_off.mp hq).1)
        clear N14
        have hAl : (As.map fun a => Value.ref a.1).toArray.size ≤ 1000 := by rw [List.size_toArray, List.length_map, I7.len]; lia
        generalize hZ1 : offL own [R] = Z1 at N15 hoR
        (repeat ((fail_if_success (with_reducible show wpAny _ _ (call (.builtin "list.append") _) _ _ _)); (first | (k_unfold; (try dsimp only)) | walk1 | (dsimp only; walk1))))
        rename Fr g2 L1 _ _ => F16
        rename News g2 L1 _ _ => N16
        have hAl2 : (As.map fun a => Value.ref a.1).length ≤ 1000 := by rw [List.length_map, I7.len]; lia
        refine' append_K F16 N16 ?U ?_ ?z
        case U => k_upd
        case z => rw [sizeLine_eq, List.size_toArray]; lia
        intro h10 F17 N17
        clear F16 N16
        have hRadr : R ∉ adrs S D N2 nds' := G7.apart (R, W.listOf (As.map fun a => Value.ref a.1).toArray nR) (.tail _ (.tail _ (I7.ek _ (.head _))))
        have hRRd : R ≠ Rd := I7.hR _ (I7.ek _ (.head _))
        have nS : S ≠ R := fun q => hRadr (q ▸ .head _)
        have nD : D ≠ R := fun q => hRadr (q ▸ .tail _ (.head _))
        have N18 : News g2 L1 h10 ((S, instObj 371 D) :: (D, dictOf (sortD H1 H2 H3 H4 t1 t2 t3 t4 N2 (.ref Rd) (po + vs.length) tp' po tf) 4) :: _) := fun q hq => by
          rcases List.mem_cons.mp hq with rfl | hq
          · exact N17 _ (.tail _ (.tail _ (.tail _ (by rw [← hZ1]; exact mem_off.mpr ⟨mL _ (.head _), by simpa using nS⟩))))
          · rcases List.mem_cons.mp hq with rfl | hq
            · exact N17 _ (.tail _ (.tail _ (.tail _ (by rw [← hZ1]; exact mem_off.mpr ⟨mL _ (.tail _ (.head _)), by simpa using nD⟩))))
            · exact N17 _ hq
        clear N17
        unfold sortD at N18
        (repeat ((fail_if_success (with_reducible show wpAny _ _ (eval (.Call ..) _) _ _ _)); (first | (k_unfold; (try dsimp only)) | walk1 | (dsimp only; walk1))))
        refine call_star rfl ?_
        (repeat ((fail_if_success (with_reducible show StarM _ _ _ _ _ _ _ _)); (first | (k_unfold; (try dsimp only)) | walk1 | (dsimp only; walk1))))
        rename Fr g2 L1 _ _ => F19
        rename News g2 L1 _ _ => N19
        rename S < _ ∧ _ => lq
        refine ⟨MethP (mkK.heap_1 w.params) _ 354 (.ref S), fun h X => keeps_M (by k_dflt k_is) h X, ?_⟩
        (repeat ((fail_if_success (with_reducible show StarOf _ _ _ _ _ _)); (first | (k_unfold; (try dsimp only)) | walk1 | (dsimp only; walk1))))
        refine star_seq F19 N19 (.tail _ (.tail _ (.tail _ (.tail _ (.head _))))) rfl rfl (.inr rfl) List.toList_toArray (by rw [List.size_toArray, sizeLine_eq]; lia) fun h11 F20 N20 => ⟨⟨(N20 _ (.head _)).1, X4.keeps F20.keep⟩, ?_⟩
        clear F19 N19
        refine call_meth N20 (.head _) ?_
        have enm : nds'.map Nd.nm = nds.map Nd.nm := by
          have := congrArg (List.map (·.1)) V7
          rw [view_nm] at this
          rw [this]
          exact (outV_nm _ _).trans (view_nm nds)
        have V8 : nds'.map Nd.v = outV (vk (pairs.foldl (fun v p => stepV v p.1 p.2) []) k).1 (vk (pairs.foldl (fun v p => stepV v p.1 p.2) []) k).2 := by rw [V7, I7.r, I7.V]; rfl
        have freshA : ∀ a ∈ adrs S D N2 nds', a ≠ D2 := fun a ha => by
          obtain ⟨o, ho⟩ := adr_mem (oN := oN) (ents := sortD H1 H2 H3 H4 t1 t2 t3 t4 N2 (.ref Rd) (po + vs.length) tp' po tf) ha
          exact Nat.ne_of_lt (lt14 _ (mL _ ho))
        have dRd : D2 ≠ Rd := Nat.ne_of_gt (lt14 _ mR)
        have hRdA : Rd ∉ adrs S D N2 nds' := G7.apart (Rd, W.listOf #[] n') (.tail _ (.head _))
        have GZ : ∀ n2 (vs2 : List Value), GOk prog w S D N2 nds' oN ((Rd, W.listOf vs2.toArray n2) :: ((R, W.listOf ((As ++ [(D2, out, c9)]).map fun a => Value.ref a.1).toArray (nR + 1)) :: (D2, W.listOf out.toArray c9) :: offL own (R :: Rd :: adrs S D N2 nds'))) := fun n2 vs2 => ⟨G7.dict, G7.lo, G7.names, G7.nodup, fun p hp => by
          rcases List.mem_cons.mp hp with rfl | hp
          · exact hRdA
          · rcases List.mem_cons.mp hp with rfl | hp
            · exact hRadr
            · rcases List.mem_cons.mp hp with rfl | hp
              · exact fun h => freshA _ h rfl
              · exact fun h => (mem_off.mp hp).2 (.tail _ (.tail _ h)), G7.txt⟩
        have hZR : ∀ p ∈ ((R, W.listOf ((As ++ [(D2, out, c9)]).map fun a => Value.ref a.1).toArray (nR + 1)) :: (D2, W.listOf out.toArray c9) :: offL own (R :: Rd :: adrs S D N2 nds')), p.1 ≠ Rd := fun p hp => by
          rcases List.mem_cons.mp hp with rfl | hp
          · exact hRRd
          · rcases List.mem_cons.mp hp with rfl | hp
            · exact dRd
            · exact fun q => (mem_off.mp hp).2 (by rw [q]; exact .tail _ (.head _))
        have inZ1 : ∀ p, p ∈ own → p.1 ≠ R → p ∈ Z1 := fun p hp hn => by rw [← hZ1]; exact mem_off.mpr ⟨hp, by simpa using hn⟩
        have N21 : News g2 L1 h11 (lam S D N2 (sortD H1 H2 H3 H4 t1 t2 t3 t4 N2 (.ref Rd) (po + vs.length) tp' po tf) oN nds' ((Rd, W.listOf ([] : List Value).toArray n') :: ((R, W.listOf ((As ++ [(D2, out, c9)]).map fun a => Value.ref a.1).toArray (nR + 1)) :: (D2, W.listOf out.toArray c9) :: offL own (R :: Rd :: adrs S D N2 nds')))) := fun q hq => by
          have low : ∀ p, p ∈ Z1 → News g2 L1 h11 [p] := fun p hp q hq => by
            rw [List.mem_singleton.mp hq]
            exact N20 _ (.tail _ (.tail _ (.tail _ (.tail _ (.tail _ (.tail _ hp))))))
          rcases lam_nil.mp hq with hq | hq
          · exact low q (inZ1 q (mL q hq) fun e => hRadr (e ▸ lam_adr hq)) q (.head _)
          · rcases List.mem_cons.mp hq with rfl | hq
            · exact low _ (inZ1 _ mR (Ne.symm hRRd)) _ (.head _)
            · rcases List.mem_cons.mp hq with rfl | hq
              · have ea : ((As ++ [(D2, out, c9)]).map fun a => Value.ref a.1).toArray = (As.map fun a => Value.ref a.1).toArray.push (.ref D2) := by simp
                rw [ea]
                exact N20 _ (.tail _ (.tail _ (.tail _ (.head _))))
              · rcases List.mem_cons.mp hq with rfl | hq
                · exact N20 _ (.tail _ (.tail _ (.tail _ (.tail _ (.tail _ (.head _))))))
                · exact low q (inZ1 q (mem_off.mp hq).1 fun e => (mem_off.mp hq).2 (by rw [e]; exact .head _)) q (.head _)
        clear N20
        refine dn_code (vs := []) (rest := ((R, W.listOf ((As ++ [(D2, out, c9)]).map fun a => Value.ref a.1).toArray (nR + 1)) :: (D2, W.listOf out.toArray c9) :: offL own (R :: Rd :: adrs S D N2 nds'))) B4 F20 X4 N21 P4 rfl (by show dp + 1 ≤ 690; lia) (by show un + 3 ≤ 90; lia) (GZ n' []) hZR (xs := vs) (fun v hv => by obtain ⟨x, t, e, hx⟩ := hvn v hv; exact ⟨x, t, e, by rw [enm]; exact hx⟩) hvz (fun v hv => by cases hv) (closed_nds (by rw [V8]; exact closed_outV _ (vk_closed hcl k))) (fun i x hi => ?_) (fun i => ?_) ?cv12
        case' cv12 => rintro nds'' vs'' n'' tf'' h12 tk12 W1 W2 W3 G12 F22 N22
        rotate_left
        · rw [I7.r] at hi ⊢
          rw [V8]
          exact okk.st i x hi
        · rw [I7.r, V8]
          exact okk.sz i
        (repeat ((fail_if_success (with_reducible show WhlRest _ _ _ _ _ _ _ _ _ _ _)); (first | (k_unfold; (try dsimp only)) | walk1 | (dsimp only; walk1))))
        rename Fr g2 L1 _ _ => F23
        rename News g2 L1 _ _ => N23
        have W12 : (vs.map sof).foldl dstep (nds'.map Nd.v, ([] : List Value).map sof) = vk (pairs.foldl (fun v p => stepV v p.1 p.2) []) (k + 1) := by rw [I7.r, V8]; rfl
        refine ih (k + 1) _ ⟨by lia, _, _, _, nds'', oN, vs'', n'', po + vs.length, tp', tf'', (As ++ [(D2, out, c9)]), nR + 1, ((R, W.listOf ((As ++ [(D2, out, c9)]).map fun a => Value.ref a.1).toArray (nR + 1)) :: (D2, W.listOf out.toArray c9) :: offL own (R :: Rd :: adrs S D N2 nds')), rfl, F23, by rfl, by rfl, N23, ⟨by rw [W1, W12], by rw [W2, W12], W3, fun n2 => G12.re fun p hp => ?_, hZR, fun p hp => ?_, ?_, by rw [List.length_append, I7.len]; rfl, fun i a hi => ?_, fun p hp => ?_⟩⟩ (by lia)
        · rcases List.mem_cons.mp hp with rfl | hp
          · exact ⟨_, .head _, rfl⟩
          · exact ⟨p, .tail _ hp, rfl⟩
        · unfold EK at hp
          have inO : ∀ p, p ∈ own → p.1 ≠ R → p.1 ≠ Rd → p.1 ∉ adrs S D N2 nds' → p ∈ ((R, W.listOf ((As ++ [(D2, out, c9)]).map fun a => Value.ref a.1).toArray (nR + 1)) :: (D2, W.listOf out.toArray c9) :: offL own (R :: Rd :: adrs S D N2 nds')) := fun p a b c d => .tail _ (.tail _ (mem_off.mpr ⟨a, fun h => by
            rcases List.mem_cons.mp h with h | h
            · exact b h
            · rcases List.mem_cons.mp h with h | h
              · exact c h
              · exact d h⟩))
          have old : ∀ p, p ∈ As.map (fun a => (a.1, W.listOf a.2.1.toArray a.2.2)) ++ rest0 → p ∈ ((R, W.listOf ((As ++ [(D2, out, c9)]).map fun a => Value.ref a.1).toArray (nR + 1)) :: (D2, W.listOf out.toArray c9) :: offL own (R :: Rd :: adrs S D N2 nds')) := fun p hp => inO p (mE p (.tail _ hp)) (I7.apR p hp) (I7.hR p (I7.ek p (.tail _ hp))) (G7.apart p (.tail _ (.tail _ (I7.ek p (.tail _ hp)))))
          rcases List.mem_cons.mp hp with rfl | hp
          · exact .head _
          · rcases List.mem_append.mp hp with hp | hp
            · rw [List.map_append] at hp
              rcases List.mem_append.mp hp with hp | hp
              · exact old p (List.mem_append_left _ hp)
              · rw [List.map_singleton, List.mem_singleton] at hp
                subst hp
                exact .tail _ (.head _)
            · exact old p (List.mem_append_right _ hp)
        · exact hct2.mono fun p hp => .tail _ (.tail _ hp)
        · rcases Nat.lt_or_ge i As.length with h | h
          · rw [List.getElem?_append_left h] at hi
            exact I7.srt i a hi
          · rw [List.getElem?_append_right h] at hi
            have hi0 : i - As.length = 0 := by
              have := (List.getElem?_eq_some_iff.mp hi).1
              simpa using this
            rw [hi0] at hi
            obtain rfl : (D2, out, c9) = a := by simpa using hi
            have : i = k := by have := I7.len; lia
            subst this
            refine ⟨?_, hpw, fun v hv => I7.tx v (hperm.mem_iff.mp hv)⟩
            rw [← I7.r]
            exact hperm.map sof
        · rw [List.map_append, List.append_assoc] at hp
          rcases List.mem_append.mp hp with hp | hp
          · exact I7.apR p (List.mem_append_left _ hp)
          · rcases List.mem_append.mp hp with hp | hp
            · rw [List.map_singleton, List.mem_singleton] at hp
              subst hp
              exact dR
            · exact I7.apR p (List.mem_append_right _ hp)
      · obtain rfl : k = 3 := by lia
        have hv0 : vs = [] := List.length_eq_zero_iff.mp (by rw [hvl, fin]; rfl)
        subst hv0
        rw [show (!([] : List Value).isEmpty) = false from rfl]
        (repeat (first | (k_unfold; (try dsimp only)) | walk1 | (dsimp only; walk1)))
        (try dsimp only)
        refine hQ7 _ _ ?_
        (repeat (first | (k_unfold; (try dsimp only)) | walk1 | (dsimp only; walk1)))
        dsimp only
        rename Fr g2 L1 _ _ => F12
        rename News g2 L1 _ _ => N12
        exact leaveT_ F12 N12 T4 fun h0 kT kF kN kB kX kP kD => hret h0 _ _ _ R nR As kT kF kN (fun p hp => lam_nil.mpr (.inr (.tail _ (I7.ek p hp)))) (I7.ct.mono fun p hp => lam_nil.mpr (.inr (.tail _ hp))) I7.len I7.srt kB kX kP kD
end
end Mine
end
example (h : False) {prog : PySem.Program} {w : PySem.World} {A : PySem.Around} {Q E : PySem.Value → PySem.Shared → Prop} {s : PySem.Shared} {env : PySem.Env} {at0 : PySem.Pos} : PySem.wpAny (PySem.model prog w) A (PySem.eval (.Constant .none 0 at0) env) Q E s := by
  w_top off
  first | (walk1; fail) | exact h.elim
section
open PySem PySem.W PyProof.Rows PySem.Calls
set_option maxRecDepth 100000
set_option linter.unusedSectionVars false
namespace Mine
theorem fillV3 : PySem.Challenge.rw_ik0212_01 = PySem.Challenge.rw_ik0212_01 ∧ mkK.heap_1 = mkK.heap_1 := by
  k_fill
  exact ⟨rfl, rfl⟩
inductive BadArg (S : List (Addr × Obj)) : Value → Prop
  | one {x : Addr} {v1 : Value} {n : Nat} (h : (x, tupO #[v1] n) ∈ S) : BadArg S (.ref x)
  | three {x : Addr} {v1 v2 v3 : Value} {n : Nat} (h : (x, tupO #[v1, v2, v3] n) ∈ S) : BadArg S (.ref x)
  | int (i : Int) (u : Tok) : BadArg S (.int i u)
theorem unpack_bad {prog : Program} {w : World} {A : Around} {E : Value → Shared → Prop} {s : Shared} {h₀ : Heap} {L : Addr} {news : List (Addr × Obj)} {v : Value} {Q : List Value → Shared → Prop} (N : News h₀ L s.heap news) (hv : BadArg news v) (hh : A.handled = none)
    (h : ∀ h' tk e X, (X = "TypeError" ∨ X = "ValueError") → Heap.NewExc s.heap h' e X → E (.ref e) { s with heap := h', toks := tk }) : wpAny (model prog w) A (unpackItems v 2 none) Q E s := by
  cases hv with
  | one q => exact unpack_few hh (News.isTup N q) fun h' tk e hx => h h' tk e _ (.inr rfl) hx
  | three q => exact unpack_many hh (News.isTup N q) fun h' tk e hx => h h' tk e _ (.inr rfl) hx
  | int i u => exact unpack_int hh fun h' tk e hx => h h' tk e _ (.inl rfl) hx
section
variable {prog : Program} {w : World} {dp un : Nat} {gd : Option (List Code)} {cn : Str} {cs : Scope} {a : Addr} {ccd : Value} {cl : List (Str × Addr)} {outer : List Env} {A₀ : Around} {base h₀ : Heap} {L : Addr} {m : Str → Option Value} {news : List (Addr × Obj)} {s : Shared} {Q E : Value → Shared → Prop} {p : Program} {loose : List Str} {mean : ExcName → Option Value} {mg mb : Str → Option Value}
variable (B : Below A₀ base outer h₀) (F : Fr h₀ L s.heap m) (X : (mkK.heap_1 w.params).In h₀) (N : News h₀ L s.heap news) (T : Top p loose mean mg mb h₀) (XB : (mkK.heap_1 w.params).In base) (TB : Top p loose mean mg mb base) (KD : KtsDicts (outer.filterMap (·.frame)) h₀) (hk : cs.kind = .function) (hd' : dp ≤ 690) (hu : un ≤ 90)
include B F X N T XB TB KD hk hd' hu
set_option maxHeartbeats 4000000 in
theorem build_bad {v : Value} (hv : BadArg news v)
  (hraise : ∀ g e h' tk, Fr h₀ L g m → RaisedSN base g (envX cn cs L a ccd cl :: outer) e (.type "TypeError") news h' → g.UpToSlots h' → E (.ref e) ⟨h', s.gens, s.drawn, tk, s.os⟩) :
  wpAny (model prog w) (ktrTop dp un gd cn cs L a ccd cl outer) (call (.ref 49) [v]) Q E s := by
  generalize Mine.clo = hCl
  revert prog w dp un gd cn cs a ccd cl outer A₀ base h₀ L m news s Q E p loose mean mg mb v
  intro prog w dp un gd cn cs a ccd cl outer A₀ base h₀ L m news s Q E p loose mean mg mb B F X N T XB TB KD hk hd' hu v hv hraise
  refine wpAny_call ?_
  refine' code_defT (binds := [(Str.ofString "localetuple", v)]) B F X N T XB TB KD ?kA ?kF ?kK ?k6 ?k7 ?k8 ?k9 ?kB ?_ ?c2 ?c3 ?c4 ?c5
  case kA => exact rfl
  case kF => exact rfl
  case kK => assumption
  case k6 => k_dflt k_is
  case k7 => k_dflt k_is
  case k8 => ktr_room
  case k9 => exact BindsTo.of_eq rfl
  case kB => exact locs rfl
  case c5 => decide
  case c2 => exact rfl
  case c3 => exact rfl
  case c4 => exact rfl
  intro g1 L1 h1 FG1 F1 N1 B1 X1 T1 D1
  (repeat ((fail_if_success (with_reducible show wpAny _ _ (assign _ _ _) _ _ _)); (first | (k_unfold; (try dsimp only)) | walk1 | (dsimp only; walk1))))
  rw [assign_Tuple]
  refine wpAny_bind (wpAny_standAt ?_)
  unfold unpack
  refine wpAny_bind (wpAny_holding ?_)
  refine unpack_bad N1 hv rfl ?_
  rintro h2 tk2 e2 Xn hX hx
  dsimp only
  refine' caughtTup hx F1 N1 B1 XB TB D1 KtsTurn.refl ?cTT ?cK
  case cTT => rcases hX with rfl | rfl <;> (kts_test)
  case cK =>
    intro h3 g3 o3 t3 T3 kt F3 N3 B3 X3 P3 D3 ho hd3
    (repeat ((fail_if_success (with_reducible show wpAny _ _ (exec (Stmt.Raise _ _ _) _) _ _ _)); (first | (k_unfold; (try dsimp only)) | walk1 | (dsimp only; walk1))))
    refine Raise_from PySem.F.excCall_TypeError PySem.F.excRaise_TypeError rfl ?_
    (repeat ((fail_if_success (with_reducible show _ ∧ wpAny _ _ _ _ _ _)); (first | (k_unfold; (try dsimp only)) | walk1 | (dsimp only; walk1))))
    refine ⟨rfl, ?_⟩
    (repeat ((fail_if_success (with_reducible show _ ∧ _)); (first | (k_unfold; (try dsimp only)) | walk1 | (dsimp only; walk1))))
    refine ⟨by simp [sizeLine_eq], ⟨o3, _, ho, hd3, rfl⟩, fun h4 e4 kp hnew ⟨o, vs, a0, q1, q2, q3, q4, q5⟩ => ?_⟩
    refine leave_anyS B3 kp hnew q1 q2 q3 q4 q5 F3 N3 ?_
    rintro h5 R up
    obtain ⟨R', up'⟩ := RaisedSN.back kt R up
    exact hraise g1 e4 h5 _ FG1 R' up'
end
end Mine
end
example (h : False) {prog : PySem.Program} {w : PySem.World} {A : PySem.Around} {Q E : PySem.Value → PySem.Shared → Prop} {s : PySem.Shared} {env : PySem.Env} {at0 : PySem.Pos} : PySem.wpAny (PySem.model prog w) A (PySem.eval (.Constant .none 0 at0) env) Q E s := by
  w_top off
  first | (walk1; fail) | exact h.elim
section
open PySem PySem.W PyProof.Rows PySem.Calls
set_option maxRecDepth 100000
set_option linter.unusedSectionVars false
namespace Mine
theorem fillV4 : PySem.Challenge.rw_ik0212_01 = PySem.Challenge.rw_ik0212_01 ∧ mkK.heap_1 = mkK.heap_1 := by
  k_fill
  exact ⟨rfl, rfl⟩
theorem RaisedSN.less {base g h : Heap} {l : List Env} {e : Addr} {cls : Value} {news news' : List (Addr × Obj)} (R : RaisedSN base g l e cls news h) (hs : ∀ p ∈ news', p ∈ news) : RaisedSN base g l e cls news' h := by
  obtain ⟨B, a0, h1, h2, h3, h4⟩ := R
  exact ⟨B, a0, h1, h2, fun q hq => h3 q (hs q hq), h4⟩
section
variable {prog : Program} {w : World} {dp un : Nat} {gd : Option (List Code)} {cn : Str} {cs : Scope} {a : Addr} {ccd : Value} {cl : List (Str × Addr)} {outer : List Env} {A₀ : Around} {base h₀ : Heap} {L : Addr} {m : Str → Option Value} {news : List (Addr × Obj)} {s : Shared} {Q E : Value → Shared → Prop} {p : Program} {loose : List Str} {mean : ExcName → Option Value} {mg mb : Str → Option Value}
variable (B : Below A₀ base outer h₀) (F : Fr h₀ L s.heap m) (X : (mkK.heap_1 w.params).In h₀) (N : News h₀ L s.heap news) (T : Top p loose mean mg mb h₀) (XB : (mkK.heap_1 w.params).In base) (TB : Top p loose mean mg mb base) (KD : KtsDicts (outer.filterMap (·.frame)) h₀) (hk : cs.kind = .function) (hd' : dp ≤ 690) (hu : un ≤ 90)
include B F X N T XB TB KD hk hd' hu
set_option maxHeartbeats 4000000 in
theorem build_si {x : Addr} {t1 u1 : Tok} {n : Nat} (hv : (x, tupO #[.str (Str.ofString "de") t1, .int 5 u1] n) ∈ news)
  (hraise : ∀ g e h' tk, Fr h₀ L g m → RaisedSN base g (envX cn cs L a ccd cl :: outer) e (.type "TypeError") news h' → g.UpToSlots h' → E (.ref e) ⟨h', s.gens, s.drawn, tk, s.os⟩) :
  wpAny (model prog w) (ktrTop dp un gd cn cs L a ccd cl outer) (call (.ref 49) [.ref x]) Q E s := by
  generalize Mine.clo = hCl
  revert prog w dp un gd cn cs a ccd cl outer A₀ base h₀ L m news s Q E p loose mean mg mb x t1 u1 n
  intro prog w dp un gd cn cs a ccd cl outer A₀ base h₀ L m news s Q E p loose mean mg mb B F X N T XB TB KD hk hd' hu x t1 u1 n hv hraise
  refine wpAny_call ?_
  refine' code_defT (binds := [(Str.ofString "localetuple", .ref x)]) B F X N T XB TB KD ?kA ?kF ?kK ?k6 ?k7 ?k8 ?k9 ?kB ?_ ?c2 ?c3 ?c4 ?c5
  case kA => exact rfl
  case kF => exact rfl
  case kK => assumption
  case k6 => k_dflt k_is
  case k7 => k_dflt k_is
  case k8 => ktr_room
  case k9 => exact BindsTo.of_eq rfl
  case kB => exact locs rfl
  case c5 => decide
  case c2 => exact rfl
  case c3 => exact rfl
  case c4 => exact rfl
  intro g1 L1 h1 FG1 F1 N1 B1 X1 T1 D1
  (repeat ((fail_if_success (with_reducible show wpAny _ _ (binaryOp Operator.Add (Value.str _ _) (Value.int _ _)) _ _ _)); (first | (k_unfold; (try dsimp only)) | walk1 | (dsimp only; walk1))))
  rename Fr g1 L1 _ _ => F2
  rename News g1 L1 _ _ => N2
  refine add_si rfl ?_
  rintro h2 tk2 e2 hx
  dsimp only
  refine' caughtTup hx F2 N2 B1 XB TB D1 KtsTurn.refl ?cTT ?cK
  case cTT => (kts_test)
  case cK =>
    intro h3 g3 o3 t3 T3 kt F3 N3 B3 X3 P3 D3 ho hd3
    (repeat ((fail_if_success (with_reducible show wpAny _ _ (exec (Stmt.Raise _ _ _) _) _ _ _)); (first | (k_unfold; (try dsimp only)) | walk1 | (dsimp only; walk1))))
    refine Raise_from PySem.F.excCall_TypeError PySem.F.excRaise_TypeError rfl ?_
    (repeat ((fail_if_success (with_reducible show _ ∧ wpAny _ _ _ _ _ _)); (first | (k_unfold; (try dsimp only)) | walk1 | (dsimp only; walk1))))
    refine ⟨rfl, ?_⟩
    (repeat ((fail_if_success (with_reducible show _ ∧ _)); (first | (k_unfold; (try dsimp only)) | walk1 | (dsimp only; walk1))))
    refine ⟨by simp [sizeLine_eq], ⟨o3, _, ho, hd3, rfl⟩, fun h4 e4 kp hnew ⟨o, vs, a0, q1, q2, q3, q4, q5⟩ => ?_⟩
    refine leave_anyS B3 kp hnew q1 q2 q3 q4 q5 F3 N3 ?_
    rintro h5 R up
    obtain ⟨R', up'⟩ := RaisedSN.back kt R up
    refine hraise g1 e4 h5 _ FG1 (RaisedSN.less R' fun p hp => ?_) up'
    exact hp
end
end Mine
end
example (h : False) {prog : PySem.Program} {w : PySem.World} {A : PySem.Around} {Q E : PySem.Value → PySem.Shared → Prop} {s : PySem.Shared} {env : PySem.Env} {at0 : PySem.Pos} : PySem.wpAny (PySem.model prog w) A (PySem.eval (.Constant .none 0 at0) env) Q E s := by
  w_top off
  first | (walk1; fail) | exact h.elim
section
open PySem PySem.W PyProof.Rows PySem.Calls
set_option maxRecDepth 100000
set_option linter.unusedSectionVars false
namespace Mine
theorem fillV5 : PySem.Challenge.rw_ik0212_01 = PySem.Challenge.rw_ik0212_01 ∧ mkK.heap_1 = mkK.heap_1 := by
  k_fill
  exact ⟨rfl, rfl⟩
section
variable {prog : Program} {w : World} {dp un : Nat} {gd : Option (List Code)} {cn : Str} {cs : Scope} {a : Addr} {ccd : Value} {cl : List (Str × Addr)} {outer : List Env} {A₀ : Around} {base h₀ : Heap} {L : Addr} {m : Str → Option Value} {news : List (Addr × Obj)} {s : Shared} {Q E : Value → Shared → Prop} {p : Program} {loose : List Str} {mean : ExcName → Option Value} {mg mb : Str → Option Value}
variable (B : Below A₀ base outer h₀) (F : Fr h₀ L s.heap m) (X : (mkK.heap_1 w.params).In h₀) (N : News h₀ L s.heap news) (T : Top p loose mean mg mb h₀) (XB : (mkK.heap_1 w.params).In base) (TB : Top p loose mean mg mb base) (KD : KtsDicts (outer.filterMap (·.frame)) h₀) (hk : cs.kind = .function) (hd' : dp ≤ 690) (hu : un ≤ 90)
include B F X N T XB TB KD hk hd' hu
noncomputable def NoArg (S : List (Addr × Obj)) (v : Value) : Prop := BadArg S v ∨ ∃ x t1 u1 n, v = .ref x ∧ (x, tupO #[.str (Str.ofString "de") t1, .int 5 u1] n) ∈ S
theorem build_no {v : Value} (hv : NoArg news v)
  (hraise : ∀ g e h' tk, Fr h₀ L g m → RaisedSN base g (envX cn cs L a ccd cl :: outer) e (.type "TypeError") news h' → g.UpToSlots h' → E (.ref e) ⟨h', s.gens, s.drawn, tk, s.os⟩) :
  wpAny (model prog w) (ktrTop dp un gd cn cs L a ccd cl outer) (call (.ref 49) [v]) Q E s := by
  rcases hv with hv | ⟨x, t1, u1, n, rfl, hv⟩
  · exact build_bad B F X N T XB TB KD hk hd' hu hv hraise
  · exact build_si B F X N T XB TB KD hk hd' hu hv hraise
end
section
variable {prog : Program} {w : World} {dp un : Nat} {gd : Option (List Code)} {cn : Str} {cs : Scope} {a : Addr} {ccd : Value} {cl : List (Str × Addr)} {outer : List Env} {A₀ : Around} {base h₀ : Heap} {L : Addr} {m : Str → Option Value} {news : List (Addr × Obj)} {s : Shared} {Q E : Value → Shared → Prop} {p : Program} {loose : List Str} {mean : ExcName → Option Value} {mg mb : Str → Option Value}
variable (B : Below A₀ base outer h₀) (F : Fr h₀ L s.heap m) (X : (mkK.heap_1 w.params).In h₀) (N : News h₀ L s.heap news) (T : Top p loose mean mg mb h₀) (XB : (mkK.heap_1 w.params).In base) (TB : Top p loose mean mg mb base) (KD : KtsDicts (outer.filterMap (·.frame)) h₀) (hk : cs.kind = .function) (hd' : dp ≤ 680) (hu : un ≤ 80)
include B F X N T XB TB KD hk hd' hu
set_option maxHeartbeats 4000000 in
theorem ref_no {v : Value} (hv : NoArg news v)
  (hret : ∀ h₀' h' tk, KtsTurn (outer.filterMap (·.frame)) h₀ h₀' → Fr h₀' L h' m → News h₀' L h' news → Below A₀ base outer h₀' → (mkK.heap_1 w.params).In h₀' → Top p loose mean mg mb h₀' → KtsDicts (outer.filterMap (·.frame)) h₀' → Q (.bool true) ⟨h', s.gens, s.drawn, tk, s.os⟩) :
  wpAny (model prog w) (ktrTop dp un gd cn cs L a ccd cl outer) (call (.ref 415) [v]) Q E s := by
  generalize Mine.clo = hCl
  revert prog w dp un gd cn cs a ccd cl outer A₀ base h₀ L m news s Q E p loose mean mg mb v
  intro prog w dp un gd cn cs a ccd cl outer A₀ base h₀ L m news s Q E p loose mean mg mb B F X N T XB TB KD hk hd' hu v hv hret
  refine wpAny_call ?_
  refine' code_defT (binds := [(Str.ofString "thing", v)]) B F X N T XB TB KD ?kA ?kF ?kK ?k6 ?k7 ?k8 ?k9 ?kB ?_ ?c2 ?c3 ?c4 ?c5
  case kA => exact rfl
  case kF => exact rfl
  case kK => assumption
  case k6 => k_dflt k_is
  case k7 => k_dflt k_is
  case k8 => ktr_room
  case k9 => exact BindsTo.of_eq rfl
  case kB => exact locs rfl
  case c5 => decide
  case c2 => exact rfl
  case c3 => exact rfl
  case c4 => exact rfl
  intro g1 L1 h1 FG1 F1 N1 B1 X1 T1 D1
  (repeat ((fail_if_success (with_reducible show wpAny _ _ (call (.ref 49) _) _ _ _)); (first | (k_unfold; (try dsimp only)) | walk1 | (dsimp only; walk1))))
  refine build_no B1 F1 X1 N1 T1 XB TB D1 rfl (by show dp + 1 ≤ 690; lia) (by show un + 3 ≤ 90; lia) hv ?_
  rintro g2 e2 h2 tk2 FG2 R2 U2
  dsimp only
  refine kts_lookSN R2 FG2 B1 U2 D1 ?_
  rintro h3 R3 U3
  refine' hit_SN0 R3 FG2 B1 U3 XB TB D1 KtsTurn.refl ?cTT ?cK
  case cTT => (kts_test)
  case cK =>
    intro h4 g4 kt F4 N4 B4 X4 P4 D4
    (repeat ((fail_if_success (with_reducible show LeaveT _ _ _ _ _ _ _ _ _ _ _ _ _ _ _ _ _)); (first | (k_unfold; (try dsimp only)) | walk1 | (dsimp only; walk1))))
    refine leaveT_ F4 N4 kt ?_
    rintro h₀' a1 a2 a3 a4 a5 a6 a7
    exact hret h₀' _ _ a1 a2 a3 a4 a5 a6 a7
set_option maxHeartbeats 4000000 in
theorem ref_yes {v : Value} (hv : ∃ x t1 t2 n, v = .ref x ∧ (x, tupO #[.str (Str.ofString "de") t1, .str (Str.ofString "a") t2] n) ∈ news)
  (hret : ∀ h₀' h' tk, KtsTurn (outer.filterMap (·.frame)) h₀ h₀' → Fr h₀' L h' m → News h₀' L h' news → Below A₀ base outer h₀' → (mkK.heap_1 w.params).In h₀' → Top p loose mean mg mb h₀' → KtsDicts (outer.filterMap (·.frame)) h₀' → Q (.bool false) ⟨h', s.gens, s.drawn, tk, s.os⟩) :
  wpAny (model prog w) (ktrTop dp un gd cn cs L a ccd cl outer) (call (.ref 415) [v]) Q E s := by
  generalize Mine.clo = hCl
  revert prog w dp un gd cn cs a ccd cl outer A₀ base h₀ L m news s Q E p loose mean mg mb v
  intro prog w dp un gd cn cs a ccd cl outer A₀ base h₀ L m news s Q E p loose mean mg mb B F X N T XB TB KD hk hd' hu v hv hret
  refine wpAny_call ?_
  refine' code_defT (binds := [(Str.ofString "thing", v)]) B F X N T XB TB KD ?kA ?kF ?kK ?k6 ?k7 ?k8 ?k9 ?kB ?_ ?c2 ?c3 ?c4 ?c5
  case kA => exact rfl
  case kF => exact rfl
  case kK => assumption
  case k6 => k_dflt k_is
  case k7 => k_dflt k_is
  case k8 => ktr_room
  case k9 => exact BindsTo.of_eq rfl
  case kB => exact locs rfl
  case c5 => decide
  case c2 => exact rfl
  case c3 => exact rfl
  case c4 => exact rfl
  intro g1 L1 h1 FG1 F1 N1 B1 X1 T1 D1
  obtain ⟨x, t1, t2, n, rfl, hx⟩ := hv
  (repeat ((fail_if_success (with_reducible show wpAny _ _ (call (.ref 49) _) _ _ _)); (first | (k_unfold; (try dsimp only)) | walk1 | (dsimp only; walk1))))
  refine build_tup B1 F1 X1 N1 T1 rfl (by ktr_room) (by ktr_units) (.some _ t1) (.some _ t2) (l := some (Str.ofString "de")) (e := some (Str.ofString "a")) (by decide +kernel) (by decide +kernel) hx ?_
  rintro t3 h3 tk3 F3 N3
  (repeat ((fail_if_success (with_reducible show LeaveT _ _ _ _ _ _ _ _ _ _ _ _ _ _ _ _ _)); (first | (k_unfold; (try dsimp only)) | walk1 | (dsimp only; walk1))))
  refine leaveT_ F3 N3 KtsTurn.refl ?_
  rintro h₀' a1 a2 a3 a4 a5 a6 a7
  exact hret h₀' _ _ a1 a2 a3 a4 a5 a6 a7
end
end Mine
end
example (h : False) {prog : PySem.Program} {w : PySem.World} {A : PySem.Around} {Q E : PySem.Value → PySem.Shared → Prop} {s : PySem.Shared} {env : PySem.Env} {at0 : PySem.Pos} : PySem.wpAny (PySem.model prog w) A (PySem.eval (.Constant .none 0 at0) env) Q E s := by
  w_top off
  first | (walk1; fail) | exact h.elim
section
open PySem PySem.W PyProof.Rows
set_option maxRecDepth 100000
set_option linter.unusedSectionVars false
namespace Mine
noncomputable def flatR (rs : List Row) : List Str := rs.flatMap fun r => [r.1, r.2.1, r.2.2]
theorem flatR_len (rs : List Row) : (flatR rs).length = 3 * rs.length := by
  unfold flatR
  induction rs with
  | nil => rfl
  | cons r rs ih =>
    rw [List.flatMap_cons, List.length_append, ih]
    show 3 + 3 * rs.length = 3 * (rs.length + 1)
    lia
theorem strsAre_of : ∀ {vs : List Value}, (∀ v ∈ vs, ∃ x t, v = .str x t) → StrsAre vs (vs.map sof)
  | [], _ => .nil
  | v :: vs, h => by
    obtain ⟨x, t, rfl⟩ := h v (.head _)
    exact .cons x t (strsAre_of fun v hv => h v (.tail _ hv))
section
variable {prog : Program} {w : World} {A : Around}
theorem comp_flat {E : Value → Shared → Prop} {s : Shared} {x y z : Str} {px py pz p1 p2 : Pos} {scope : Scope} {cl : List (Str × Addr)} {pos : Pos} {env : Env} {L l : Addr} {h₀ : Heap} {m : Str → Option Value} {news tl : List (Addr × Obj)} {vs : List Value} {rs : List Row} {k : Nat} {Q : Value → Shared → Prop}
    (F : Fr h₀ L s.heap m) (N : News h₀ L s.heap news) (hm : (l, listOf vs.toArray k) ∈ news) (hh : A.handled = none) (hr : RowsL tl vs rs) (htl : ∀ p ∈ tl, p ∈ news) (hsz : rs.length ≤ 1000)
    (hc : env.locals = L) (hv : m z = some (.ref l)) (hkf : env.scope.kind = .function) (hz : env.kindOf z = some .local) (hd : (z == ("__debug__" : Str)) = false)
    (hclos : closureFor scope env = pure cl) (hcell : ∀ y ∈ scope.names, y.2 ≠ .cell) (hkind : scope.kind = .function)
    (hnames : ∀ y ∈ scope.names, y.2 = .local → scope.names.lookup y.1 = some .local) (hx : scope.names.lookup x = some .local) (hy : scope.names.lookup y = some .local) (hxy : x ≠ y) (hdx : (x == ("__debug__" : Str)) = false) (hdy : (y == ("__debug__" : Str)) = false)
    (done : ∀ (ys : List Value) D k h tk, ys.map sof = flatR rs → (∀ v ∈ ys, ∃ x t, v = .str x t) → Fr h₀ L h m → News h₀ L h ((D, listOf ys.toArray k) :: news) → (∀ p ∈ news, p.1 ≠ D) → Q (.ref D) { s with heap := h, toks := tk }) :
    wpAny (model prog w) A (eval (two (.Name y p1) (.Name z pz) (.Name x p2) x y px py scope pos) env) Q E s := by
  generalize Mine.clo = hCl
  revert prog w A E s x y z px py pz p1 p2 scope cl pos env L l h₀ m news tl vs rs k Q
  intro prog w A E s x y z px py pz p1 p2 scope cl pos env L l h₀ m news tl vs rs k Q F N hm hh hr htl hsz hc hv hkf hz hd hclos hcell hkind hnames hx hy hxy hdx hdy done
  refine comp2_nm (fun i ys nx => nx = news ∧ ys.map sof = flatR (rs.take i) ∧ (∀ v ∈ ys, ∃ x t, v = .str x t) ∧ ys.length = 3 * i ∧ i ≤ vs.length) F N hm hh hc hv hkf hz hd hclos hcell hkind hnames hx hy hxy (fun _ _ => rfl) ⟨rfl, rfl, (fun _ h => by cases h), rfl, Nat.zero_le _⟩ ?_ ?_
  · rintro i v ys nx I oI oC D c k₁ m₂ h tk E' hP ⟨rfl, e1, e2, e3, e4⟩ hl nO hv2 F' N' n1 n2 n3 o1 o2 o3
    obtain ⟨r, hri, hR⟩ := hr.get hP
    obtain ⟨a, x1, x2, x3, t1, t2, t3, n, rfl, rfl, hin⟩ := rowX hR
    have N'' : News h₀ L h nx := fun p hp => N' p (.tail _ (.tail _ (.tail _ hp)))
    have hin' := htl _ hin
    refine nm_loc N' (c := c) rfl (.head _) nO hv2 (by simp [compEnvC, relabel, hkind]) (lookup_relabel_local hx) hdx ?_
    have hli : h.IsList a #[.str x1 t1, .str x2 t2, .str x3 t3] := ⟨_, (N'' _ hin').1, rfl, n, rfl⟩
    have hil := List.getElem?_eq_some_iff.mp hP
    have hrl := hr.length
    refine wpAny_pyIter_list hli ⟨rfl, rfl, rfl, h.objs.size, listIt a 0, 3, (fun i v => [Value.str x1 t1, .str x2 t2, .str x3 t3][i]? = some v), [(a, listOf [Value.str x1 t1, .str x2 t2, .str x3 t3].toArray n)], _, nx, fun i2 ys2 nx3 => nx3 = nx ∧ ys2 = ys ++ [Value.str x1 t1, .str x2 t2, .str x3 t3].take i2 ∧ i2 ≤ 3, rfl, Src.list hh (Nat.ne_of_lt (Heap.lt_size (N'' _ hin').1)) [Value.str x1 t1, .str x2 t2, .str x3 t3] n, F'.push _, ?_, ⟨rfl, rfl⟩, (fun p hp => by rw [List.mem_singleton.mp hp]; exact hin'), ?_, ?_, ?_, ?_, ⟨rfl, by simp, by lia⟩, ?_, ?_, ?_⟩
    · intro p hp
      have hpu := push_news F' N' (listIt a 0)
      rcases List.mem_cons.mp hp with rfl | hp
      · exact hpu _ (.tail _ (.head _))
      · rcases List.mem_cons.mp hp with rfl | hp
        · exact hpu _ (.tail _ (.tail _ (.head _)))
        · rcases List.mem_cons.mp hp with rfl | hp
          · exact hpu _ (.tail _ (.tail _ (.tail _ (.head _))))
          · rcases List.mem_cons.mp hp with rfl | hp
            · exact hpu _ (.head _)
            · exact hpu _ (.tail _ (.tail _ (.tail _ (.tail _ hp))))
    · exact fun p hp => ⟨o1 p hp, o2 p hp, o3 p hp, Nat.ne_of_lt (Heap.lt_size (N'' p hp).1)⟩
    · exact Nat.ne_of_gt (Heap.lt_size (N' _ (.head _)).1)
    · exact Nat.ne_of_gt (Heap.lt_size (N' _ (.tail _ (.head _))).1)
    · exact Nat.ne_of_gt (Heap.lt_size (N' _ (.tail _ (.tail _ (.head _)))).1)
    · rintro i2 ys2 nx3 ⟨_, rfl, h3⟩
      rw [sizeLine_eq, List.length_append, List.length_take]
      show ys.length + min i2 3 + 1 ≤ _
      lia
    · rintro ys2 nx3 ⟨rfl, rfl, _⟩
      refine ⟨fun p hp => by rw [List.mem_singleton.mp hp]; exact hl, rfl, ?_, ?_, ?_, hil.1⟩
      · rw [List.map_append, e1, take_snoc hri]
        unfold flatR
        rw [List.flatMap_append]
        rfl
      · intro v hv
        rcases List.mem_append.mp hv with hv | hv
        · exact e2 v hv
        · have : v = .str x1 t1 ∨ v = .str x2 t2 ∨ v = .str x3 t3 := by simpa using hv
          rcases this with rfl | rfl | rfl <;> exact ⟨_, _, rfl⟩
      · rw [List.length_append, e3]
        show 3 * i + 3 = _
        lia
    · rintro i2 v2 ys2 nx3 oJ oC' m₃ k2 h' tk' E'' hlt hP2 ⟨rfl, rfl, h3⟩ hC3 nO3 hy3 hx3 F3 N3 off
      refine nm_loc N3 (c := c) rfl (.head _) nO3 hy3 (by simp [compEnvC, relabel, hkind]) (lookup_relabel_local hy) hdy ?_
      refine ⟨h', tk', nx3, rfl, F3, N3, hC3, ?_, rfl, ?_, by lia⟩
      · intro q hq p hp
        have := off p hp
        simp only [List.mem_cons, List.not_mem_nil, or_false] at hq
        rcases hq with rfl | rfl | rfl | rfl
        · exact this.1
        · exact this.2.1
        · exact this.2.2.1
        · exact this.2.2.2
      · rw [List.append_assoc, take_snoc hP2]
  · rintro ys nx D k h tk ⟨rfl, e1, e2, _, _⟩ F' N' o
    rw [hr.length, List.take_length] at e1
    exact done ys D k h tk e1 e2 F' N' o
end
end Mine
end
example (h : False) {prog : PySem.Program} {w : PySem.World} {A : PySem.Around} {Q E : PySem.Value → PySem.Shared → Prop} {s : PySem.Shared} {env : PySem.Env} {at0 : PySem.Pos} : PySem.wpAny (PySem.model prog w) A (PySem.eval (.Constant .none 0 at0) env) Q E s := by
  w_top off
  first | (walk1; fail) | exact h.elim
section
open PySem PySem.W PyProof.Rows PySem.Calls
set_option maxRecDepth 100000
set_option linter.unusedSectionVars false
namespace Mine
noncomputable def mkV (ns : List Str) (np : Str → Int) (su : Str → List Str) : View := ns.map fun x => (x, np x, su x)
theorem mkV_nm (ns np su) : (mkV ns np su).map (·.1) = ns := by
  unfold mkV
  rw [List.map_map]
  exact List.map_id' ns
theorem mkV_congr {ns : List Str} {np np' : Str → Int} {su su' : Str → List Str} (h : ∀ x ∈ ns, np x = np' x) (h2 : ∀ x ∈ ns, su x = su' x) : mkV ns np su = mkV ns np' su' :=
  List.map_congr_left fun x hx => by rw [h x hx, h2 x hx]
noncomputable def upd {α : Type} (f : Str → α) (x : Str) (k : α) : Str → α := fun y => if y = x then k else f y
theorem mkV_set (ns np su) (x : Str) (k : Int) : setNp (mkV ns np su) x k = mkV ns (upd np x k) su := by
  unfold setNp mkV upd
  rw [List.map_map]
  refine List.map_congr_left fun y _ => ?_
  show (if y = x then (y, k, su y) else (y, np y, su y)) = _
  split <;> rfl
theorem mkV_dec (ns np su) (x : Str) : decNp (mkV ns np su) x = mkV ns (upd np x (np x - 1)) su := by
  unfold decNp mkV upd
  rw [List.map_map]
  refine List.map_congr_left fun y _ => ?_
  show (if y = x then (y, np y - 1, su y) else (y, np y, su y)) = _
  split
  · rename_i e; rw [e]
  · rfl
theorem mkV_npV (ns np su) (x : Str) (k : Nat) : npV (mkV ns np su) x k = mkV ns (upd np x (np x + k)) su := by
  unfold npV mkV upd
  rw [List.map_map]
  refine List.map_congr_left fun y _ => ?_
  show (if y = x then (y, np y + k, su y) else (y, np y, su y)) = _
  split
  · rename_i e; rw [e]
  · rfl
theorem mkV_suV (ns np su) (y x : Str) : suV (mkV ns np su) y x = mkV ns np (upd su y (su y ++ [x])) := by
  unfold suV mkV upd
  rw [List.map_map]
  refine List.map_congr_left fun z _ => ?_
  show (if z = y then (z, np z, su z ++ [x]) else (z, np z, su z)) = _
  split
  · rename_i e; rw [e]
  · rfl
theorem mkV_find {ns : List Str} (np su) {x : Str} (h : x ∈ ns) : (mkV ns np su).find? (fun e => decide (e.1 = x)) = some (x, np x, su x) := by
  unfold mkV
  induction ns with
  | nil => cases h
  | cons y r ih =>
    rw [List.map_cons, List.find?_cons]
    by_cases e : y = x
    · subst e; simp
    · have : decide ((y, np y, su y).1 = x) = false := decide_eq_false e
      rw [this]
      exact ih ((List.mem_cons.mp h).resolve_left fun q => e q.symm)
theorem mkV_npOf {ns : List Str} (np su) {x : Str} (h : x ∈ ns) : npOf (mkV ns np su) x = some (np x) := by
  unfold npOf; rw [mkV_find np su h]; rfl
theorem mkV_suOf {ns : List Str} (np su) {x : Str} (h : x ∈ ns) : suOf (mkV ns np su) x = su x := by
  unfold suOf; rw [mkV_find np su h]; rfl
noncomputable def insN (ns : List Str) (x : Str) : List Str := if x ∈ ns then ns else ns ++ [x]
theorem mkV_ins {ns : List Str} {np : Str → Int} {su : Str → List Str} {x : Str} (h : x ∉ ns → np x = 0 ∧ su x = []) : insV (mkV ns np su) x = mkV (insN ns x) np su := by
  by_cases hx : x ∈ ns
  · rw [insV_hit (by rw [mkV_nm]; exact hx)]
    unfold insN
    rw [if_pos hx]
  · rw [insV_new (by rw [mkV_nm]; exact hx)]
    unfold insN mkV
    rw [if_neg hx, List.map_append, List.map_singleton, (h hx).1, (h hx).2]
theorem insN_mem {ns : List Str} {x y : Str} : y ∈ insN ns x ↔ y ∈ ns ∨ y = x := by
  unfold insN
  split
  · constructor
    · exact .inl
    · rintro (h | rfl) <;> assumption
  · rw [List.mem_append, List.mem_singleton]
theorem insN_nodup {ns : List Str} {x : Str} (h : ns.Nodup) : (insN ns x).Nodup := by
  unfold insN
  split
  · exact h
  · rename_i hx
    rw [List.nodup_append]
    exact ⟨h, by simp, fun a ha b hb e => hx (by rw [List.mem_singleton] at hb; exact hb ▸ e ▸ ha)⟩
/-- the edges told so far -/
noncomputable def edges (ps : List (Str × Str)) : List (Str × Str) := ps.filter fun p => decide (p.1 ≠ p.2)
noncomputable def npE (ps : List (Str × Str)) (x : Str) : Int := (((edges ps).map (·.2)).count x : Nat)
noncomputable def suE (ps : List (Str × Str)) (x : Str) : List Str := ((edges ps).filter fun p => decide (p.1 = x)).map (·.2)
noncomputable def nsN (ns : List Str) (p : Str × Str) : List Str := if p.1 = p.2 then insN ns p.1 else insN (insN ns p.2) p.1
noncomputable def nsE (ps : List (Str × Str)) : List Str := ps.foldl nsN []
theorem edges_snoc (ps : List (Str × Str)) (p : Str × Str) : edges (ps ++ [p]) = if p.1 = p.2 then edges ps else edges ps ++ [p] := by
  unfold edges
  rw [List.filter_append]
  by_cases h : p.1 = p.2
  · rw [if_pos h]; simp [h]
  · rw [if_neg h]; simp [h]
theorem nsE_snoc (ps : List (Str × Str)) (p : Str × Str) : nsE (ps ++ [p]) = nsN (nsE ps) p := by
  unfold nsE
  rw [List.foldl_append]
  rfl
theorem nsN_mem {ns : List Str} {p : Str × Str} {x : Str} : x ∈ nsN ns p ↔ x ∈ ns ∨ x = p.1 ∨ x = p.2 := by
  unfold nsN
  split
  · rename_i h
    rw [insN_mem, ← h, or_self]
  · rw [insN_mem, insN_mem]
    constructor
    · rintro ((h | h) | h)
      · exact .inl h
      · exact .inr (.inr h)
      · exact .inr (.inl h)
    · rintro (h | h | h)
      · exact .inl (.inl h)
      · exact .inr h
      · exact .inl (.inr h)
theorem nsN_nodup {ns : List Str} {p : Str × Str} (h : ns.Nodup) : (nsN ns p).Nodup := by
  unfold nsN
  split
  · exact insN_nodup h
  · exact insN_nodup (insN_nodup h)
theorem snoc_ind {α : Type} {P : List α → Prop} (h0 : P []) (hs : ∀ l a, P l → P (l ++ [a])) (l : List α) : P l := by
  have : ∀ r : List α, P r.reverse := by
    intro r
    induction r with
    | nil => exact h0
    | cons a r ih => rw [List.reverse_cons]; exact hs _ _ ih
  have h := this l.reverse
  rwa [List.reverse_reverse] at h
theorem npE_none {ps : List (Str × Str)} {x : Str} (h : ∀ p ∈ ps, x ≠ p.1 ∧ x ≠ p.2) : npE ps x = 0 ∧ suE ps x = [] := by
  constructor
  · unfold npE
    rw [List.count_eq_zero.mpr]
    · rfl
    · intro hm
      obtain ⟨p, hp, e⟩ := List.mem_map.mp hm
      exact (h p (List.mem_filter.mp hp).1).2 e.symm
  · unfold suE
    rw [List.filter_eq_nil_iff.mpr]
    · rfl
    · intro p hp
      simp only [decide_eq_true_eq]
      exact fun e => (h p (List.mem_filter.mp hp).1).1 e.symm
theorem fold_spec : ∀ ps : List (Str × Str), ps.foldl (fun v p => stepV v p.1 p.2) [] = mkV (nsE ps) (npE ps) (suE ps) ∧ (nsE ps).Nodup ∧ ∀ x, x ∈ nsE ps ↔ ∃ p ∈ ps, x = p.1 ∨ x = p.2 := by
  refine snoc_ind ⟨rfl, .nil, fun x => ⟨(fun h => by cases h), fun ⟨p, h, _⟩ => by cases h⟩⟩ ?_
  rintro ps ⟨x, y⟩ ⟨h1, h2, h3⟩
  have hn : ∀ z, z ∉ nsE ps → npE ps z = 0 ∧ suE ps z = [] := fun z hz => npE_none fun p hp => ⟨fun e => hz ((h3 z).mpr ⟨p, hp, .inl e⟩), fun e => hz ((h3 z).mpr ⟨p, hp, .inr e⟩)⟩
  refine ⟨?_, by rw [nsE_snoc]; exact nsN_nodup h2, fun z => ?_⟩
  · rw [List.foldl_append, h1]
    show stepV (mkV (nsE ps) (npE ps) (suE ps)) x y = _
    rw [nsE_snoc]
    unfold stepV nsN
    by_cases e : x = y
    · subst e
      rw [if_pos rfl, if_pos rfl]
      show npV (insV (mkV (nsE ps) (npE ps) (suE ps)) x) x 0 = _
      rw [mkV_ins (hn x), mkV_npV]
      refine mkV_congr (fun z _ => ?_) fun z _ => ?_
      · unfold upd npE
        rw [edges_snoc, if_pos rfl]
        split
        · rename_i e; subst e; simp
        · rfl
      · unfold suE
        rw [edges_snoc, if_pos rfl]
    · rw [if_neg e, if_neg e]
      show suV (insV (npV (insV (mkV (nsE ps) (npE ps) (suE ps)) y) y 1) x) x y = _
      rw [mkV_ins (hn y), mkV_npV, mkV_ins (fun hx => ?_), mkV_suV]
      · refine mkV_congr (fun z _ => ?_) fun z _ => ?_
        · unfold upd npE
          rw [edges_snoc, if_neg e, List.map_append, List.count_append]
          by_cases hz : z = y
          · subst hz; simp
          · rw [if_neg hz]
            have : List.count z (List.map (·.2) [(x, y)]) = 0 := by simp [Ne.symm hz]
            rw [this]
            simp
        · unfold upd suE
          rw [edges_snoc, if_neg e, List.filter_append, List.map_append]
          by_cases hz : z = x
          · subst hz; simp
          · rw [if_neg hz]
            simp [Ne.symm hz]
      · have hx' : x ∉ nsE ps := fun h => hx (insN_mem.mpr (.inl h))
        refine ⟨?_, (hn x hx').2⟩
        unfold upd
        rw [if_neg e]
        exact (hn x hx').1
  · rw [nsE_snoc, nsN_mem, h3]
    constructor
    · rintro (⟨p, hp, h⟩ | h | h)
      · exact ⟨p, List.mem_append_left _ hp, h⟩
      · exact ⟨(x, y), by simp, .inl h⟩
      · exact ⟨(x, y), by simp, .inr h⟩
    · rintro ⟨p, hp, h⟩
      rcases List.mem_append.mp hp with hp | hp
      · exact .inl ⟨p, hp, h⟩
      · rw [List.mem_singleton] at hp
        subst hp
        exact .inr h
end Mine
end
example (h : False) {prog : PySem.Program} {w : PySem.World} {A : PySem.Around} {Q E : PySem.Value → PySem.Shared → Prop} {s : PySem.Shared} {env : PySem.Env} {at0 : PySem.Pos} : PySem.wpAny (PySem.model prog w) A (PySem.eval (.Constant .none 0 at0) env) Q E s := by
  w_top off
  first | (walk1; fail) | exact h.elim
section
open PySem PySem.W PyProof.Rows PySem.Calls
set_option maxRecDepth 100000
set_option linter.unusedSectionVars false
namespace Mine
/-- a graph whose edges raise the level by one -/
structure Gr (ns : List Str) (su : Str → List Str) (ind lv : Str → Nat) : Prop where
  nd : ns.Nodup
  cl : ∀ x ∈ ns, ∀ y ∈ su x, y ∈ ns
  up : ∀ x ∈ ns, ∀ y ∈ su x, lv y = lv x + 1
  cnt : ∀ (r : List Str) k, r.Nodup → (∀ x, x ∈ r ↔ x ∈ ns ∧ lv x = k) → ∀ y ∈ ns, lv y = k + 1 → (r.flatMap su).count y = ind y
  pos : ∀ y ∈ ns, lv y ≠ 0 → 0 < ind y
  zero : ∀ y ∈ ns, lv y = 0 → ind y = 0
noncomputable def St (ns : List Str) (su : Str → List Str) (ind lv : Str → Nat) (k : Nat) (v : View) (r : List Str) : Prop :=
  ∃ np, v = mkV ns np su ∧ (∀ z ∈ ns, np z = if lv z < k then -2 else if lv z = k then 0 else (ind z : Int)) ∧ r.Nodup ∧ ∀ y, y ∈ r ↔ y ∈ ns ∧ lv y = k
structure InvI (ns : List Str) (ind lv : Str → Nat) (k : Nat) (D : List Str) (np : Str → Int) (r : List Str) : Prop where
  np : ∀ y ∈ ns, lv y = k + 1 → np y = (ind y : Int) - D.count y
  nd : r.Nodup
  mem : ∀ y, y ∈ r ↔ y ∈ ns ∧ lv y = k + 1 ∧ D.count y = ind y
section
variable {ns : List Str} {su : Str → List Str} {ind lv : Str → Nat} {k : Nat}
theorem inner_ok {TL : List Str} (hT : ∀ y ∈ ns, lv y = k + 1 → TL.count y = ind y) : ∀ (ds D D' : List Str) (np : Str → Int) (r : List Str), TL = D ++ (ds ++ D') → (∀ y ∈ ds, y ∈ ns ∧ lv y = k + 1) → InvI ns ind lv k D np r →
    ∃ np' r', ds.foldl istep (mkV ns np su, r) = (mkV ns np' su, r') ∧ InvI ns ind lv k (D ++ ds) np' r' ∧ ∀ z, lv z ≠ k + 1 → np' z = np z := by
  intro ds
  induction ds with
  | nil => exact fun D D' np r _ _ I => ⟨np, r, rfl, by rw [List.append_nil]; exact I, fun _ _ => rfl⟩
  | cons y ds ih =>
    intro D D' np r hTL hds I
    obtain ⟨hy, hl⟩ := hds y (.head _)
    have hc : D.count y + 1 ≤ ind y := by
      rw [← hT y hy hl, hTL, List.count_append, List.count_append, List.count_cons]
      simp
      lia
    have hnp := I.np y hy hl
    have step : istep (mkV ns np su, r) y = (mkV ns (upd np y (np y - 1)) su, if np y - 1 = 0 then r ++ [y] else r) := by
      show (decNp (mkV ns np su) y, if npOf (decNp (mkV ns np su) y) y = some 0 then r ++ [y] else r) = _
      rw [mkV_dec, mkV_npOf _ _ hy]
      have : (some (upd np y (np y - 1) y) = some (0 : Int)) = (np y - 1 = 0) := by unfold upd; simp
      simp only [this]
    have cy : (D ++ [y]).count y = D.count y + 1 := by rw [List.count_append]; simp
    have cz : ∀ z, z ≠ y → (D ++ [y]).count z = D.count z := fun z hz => by rw [List.count_append, List.count_singleton]; simp [Ne.symm hz]
    have yr : y ∉ r := fun h => by
      have := (I.mem y).mp h
      lia
    have I1 : InvI ns ind lv k (D ++ [y]) (upd np y (np y - 1)) (if np y - 1 = 0 then r ++ [y] else r) := by
      refine ⟨fun z hz hlz => ?_, ?_, fun z => ?_⟩
      · unfold upd
        by_cases e : z = y
        · subst e
          rw [if_pos rfl, cy, hnp]
          lia
        · rw [if_neg e, cz z e]
          exact I.np z hz hlz
      · split
        · rw [List.nodup_append]
          exact ⟨I.nd, by simp, fun a ha b hb e => yr (by rw [List.mem_singleton] at hb; exact hb ▸ e ▸ ha)⟩
        · exact I.nd
      · by_cases e : z = y
        · subst e
          rw [cy]
          split
          · rename_i h0
            constructor
            · exact fun _ => ⟨hy, hl, by lia⟩
            · exact fun _ => by simp
          · rename_i h0
            constructor
            · exact fun h => absurd h yr
            · rintro ⟨_, _, h⟩
              exact absurd (by lia) h0
        · rw [cz z e, ← I.mem z]
          split
          · rw [List.mem_append, List.mem_singleton]
            constructor
            · rintro (h | h)
              · exact h
              · exact absurd h e
            · exact .inl
          · exact Iff.rfl
    obtain ⟨np', r', e1, e2, e3⟩ := ih (D ++ [y]) D' _ _ (by rw [hTL]; simp) (fun z hz => hds z (.tail _ hz)) I1
    refine ⟨np', r', ?_, by rw [List.append_assoc] at e2; exact e2, fun z hz => ?_⟩
    · rw [List.foldl_cons, step]
      exact e1
    · rw [e3 z hz]
      unfold upd
      rw [if_neg]
      rintro rfl
      exact hz hl
theorem outV_mk : ∀ (r : List Str) (np : Str → Int), outV (mkV ns np su) r = mkV ns (fun z => if z ∈ r then -1 else np z) su
  | [], np => mkV_congr (fun z _ => by simp) fun _ _ => rfl
  | x :: r, np => by
    show outV (setNp (mkV ns np su) x (-1)) r = _
    rw [mkV_set, outV_mk r]
    refine mkV_congr (fun z _ => ?_) fun _ _ => rfl
    unfold upd
    by_cases h : z ∈ r
    · simp [h]
    · by_cases e : z = x <;> simp [h, e]
theorem round_ok (G : Gr ns su ind lv) {v : View} {r : List Str} (S : St ns su ind lv k v r) :
    (∀ i x, r[i]? = some x → npOf ((r.take i).foldl dstep (outV v r, [])).1 x = some (-1)) ∧ (∀ i, ((r.take i).foldl dstep (outV v r, [])).2.length ≤ ns.length) ∧ St ns su ind lv (k + 1) (rnd v r).1 (rnd v r).2 := by
  obtain ⟨np, rfl, hnp, hnd, hmem⟩ := S
  have hT := G.cnt r k hnd hmem
  have main : ∀ P : List Str, (∃ xs, r = P ++ xs) → ∃ np' q, P.foldl dstep (outV (mkV ns np su) r, []) = (mkV ns np' su, q) ∧ InvI ns ind lv k (P.flatMap su) np' q ∧ ∀ z ∈ ns, lv z ≠ k + 1 → np' z = if z ∈ P then -2 else if z ∈ r then -1 else np z := by
    refine snoc_ind (fun _ => ⟨_, [], by rw [outV_mk]; rfl, ⟨fun y hy hl => ?_, .nil, fun y => ?_⟩, fun z _ _ => by simp⟩) ?_
    · have : y ∉ r := fun h => by have := (hmem y).mp h; lia
      rw [if_neg this, hnp y hy, if_neg (by lia), if_neg (by lia)]
      simp
    · constructor
      · exact fun h => by cases h
      · rintro ⟨hy, hl, h⟩
        have := G.pos y hy (by lia)
        simp at h
        lia
    · rintro P x ih ⟨xs, hr⟩
      obtain ⟨np1, q1, e1, I1, b1⟩ := ih ⟨x :: xs, by rw [hr]; simp⟩
      have hx : x ∈ r := by rw [hr]; simp
      obtain ⟨hxn, hxl⟩ := (hmem x).mp hx
      have I2 : InvI ns ind lv k (P.flatMap su) (upd np1 x (-2)) q1 := ⟨fun y hy hl => by
        unfold upd
        rw [if_neg (by rintro rfl; lia)]
        exact I1.np y hy hl, I1.nd, I1.mem⟩
      obtain ⟨np2, q2, e2, I3, b2⟩ := inner_ok (TL := r.flatMap su) (su := su) hT (su x) (P.flatMap su) (xs.flatMap su) _ _ (by rw [hr]; simp) (fun y hy => ⟨G.cl x hxn y hy, by rw [G.up x hxn y hy, hxl]⟩) I2
      refine ⟨np2, q2, ?_, by rw [List.flatMap_append]; simpa using I3, fun z hz hl => ?_⟩
      · rw [List.foldl_append, e1]
        show (suOf (mkV ns np1 su) x).foldl istep (setNp (mkV ns np1 su) x (-2), q1) = _
        rw [mkV_suOf _ _ hxn, mkV_set]
        exact e2
      · rw [b2 z hl]
        unfold upd
        by_cases e : z = x
        · subst e; simp
        · rw [if_neg e, b1 z hz hl]
          simp [e]
  refine ⟨fun i x hi => ?_, fun i => ?_, ?_⟩
  · obtain ⟨np', q, e, I, b⟩ := main (r.take i) ⟨r.drop i, (List.take_append_drop i r).symm⟩
    have hx := List.mem_of_getElem? hi
    obtain ⟨hxn, hxl⟩ := (hmem x).mp hx
    rw [e, mkV_npOf _ _ hxn, b x hxn (by lia), if_neg, if_pos hx]
    intro h
    obtain ⟨j, hj, e⟩ := List.mem_take_iff_getElem.mp h
    have hi2 := List.getElem?_eq_some_iff.mp hi
    have hij : j < i := by lia
    exact absurd (hi2.2.trans e.symm) (fun q => by
      have := (List.nodup_iff_pairwise_ne.mp hnd)
      rw [List.pairwise_iff_getElem] at this
      exact this j i (by lia) hi2.1 hij q.symm)
  · obtain ⟨np', q, e, I, b⟩ := main (r.take i) ⟨r.drop i, (List.take_append_drop i r).symm⟩
    rw [e]
    exact subLen I.nd fun y hy => ((I.mem y).mp hy).1
  · obtain ⟨np', q, e, I, b⟩ := main r ⟨[], by simp⟩
    have er : rnd (mkV ns np su) r = (mkV ns np' su, q) := e
    rw [er]
    refine ⟨np', rfl, fun z hz => ?_, I.nd, fun y => ?_⟩
    · by_cases h1 : lv z = k + 1
      · rw [I.np z hz h1, hT z hz h1, if_neg (by lia), if_pos h1]
        lia
      · rw [b z hz h1]
        by_cases h2 : lv z = k
        · rw [if_pos ((hmem z).mpr ⟨hz, h2⟩), if_pos (by lia)]
        · have hzr : z ∉ r := fun h => h2 ((hmem z).mp h).2
          rw [if_neg hzr, if_neg hzr, hnp z hz]
          by_cases h3 : lv z < k
          · rw [if_pos h3, if_pos (by lia)]
          · rw [if_neg h3, if_neg h2, if_neg (by lia), if_neg h1]
    · rw [I.mem y]
      constructor
      · rintro ⟨a, b, _⟩; exact ⟨a, b⟩
      · rintro ⟨a, b⟩; exact ⟨a, b, hT y a b⟩
end
end Mine
end
example (h : False) {prog : PySem.Program} {w : PySem.World} {A : PySem.Around} {Q E : PySem.Value → PySem.Shared → Prop} {s : PySem.Shared} {env : PySem.Env} {at0 : PySem.Pos} : PySem.wpAny (PySem.model prog w) A (PySem.eval (.Constant .none 0 at0) env) Q E s := by
  w_top off
  first | (walk1; fail) | exact h.elim
section
open PySem PySem.W PyProof.Rows PySem.Calls
set_option maxRecDepth 100000
set_option linter.unusedSectionVars false
namespace Mine
/-- a name's level: the dots before the first at-sign, and one for an at-sign -/
noncomputable def lvl (x : Str) : Nat := ((x.cps.toList.takeWhile fun c => c != 64).count 46) + (if x.cps.toList.contains 64 then 1 else 0)
noncomputable def pairsOf (T : List Trip) : List (Str × Str) := T.flatMap fun t => [(nm0 t.1, nm1 t.1 t.2.1), (nm1 t.1 t.2.1, nm2 t.1 t.2.1 t.2.2)]
theorem menu_lv : ∀ t ∈ menu, lvl (nm0 t.1) = 0 ∧ (nm0 t.1 ≠ nm1 t.1 t.2.1 → lvl (nm1 t.1 t.2.1) = lvl (nm0 t.1) + 1) ∧ (nm1 t.1 t.2.1 ≠ nm2 t.1 t.2.1 t.2.2 → lvl (nm2 t.1 t.2.1 t.2.2) = lvl (nm1 t.1 t.2.1) + 1) ∧ lvl (nm2 t.1 t.2.1 t.2.2) ≤ 2 ∧ lvl (nm1 t.1 t.2.1) ≤ 2 := by decide +kernel
theorem cnt_flat {y : Str} {r : List Str} (hr : r.Nodup) : ∀ E : List (Str × Str), (∀ p ∈ E, p.2 = y → p.1 ∈ r) → (r.flatMap fun x => (E.filter fun p => decide (p.1 = x)).map (·.2)).count y = (E.map (·.2)).count y
  | [], _ => by
    have : (r.flatMap fun x => (([] : List (Str × Str)).filter fun p => decide (p.1 = x)).map (·.2)) = [] := by
      rw [List.flatMap_eq_nil_iff]; intro x _; rfl
    rw [this]; rfl
  | p :: E, h => by
    have key : ∀ r : List Str, (r.flatMap fun x => ((p :: E).filter fun p => decide (p.1 = x)).map (·.2)).count y = (r.flatMap fun x => (E.filter fun p => decide (p.1 = x)).map (·.2)).count y + (if p.2 = y then r.count p.1 else 0) := by
      intro r
      induction r with
      | nil => simp
      | cons x r ih =>
        rw [List.flatMap_cons, List.flatMap_cons, List.count_append, List.count_append, ih, List.count_cons, List.filter_cons]
        by_cases e : p.1 = x
        · rw [if_pos (by simpa using e), List.map_cons, List.count_cons]
          by_cases e2 : p.2 = y
          · simp [e, e2]; lia
          · simp [e2]
        · rw [if_neg (by simpa using e)]
          have : (x == p.1) = false := by simpa using fun q : x = p.1 => e q.symm
          rw [this]
          simp
          lia
    rw [key, cnt_flat hr E fun p hp => h p (.tail _ hp), List.map_cons, List.count_cons]
    by_cases e2 : p.2 = y
    · rw [if_pos e2, List.Nodup.count hr, if_pos (h p (.head _) e2)]
      simp [e2]
    · rw [if_neg e2]
      simp [e2]
theorem edge_mem {ps : List (Str × Str)} {x y : Str} : y ∈ suE ps x ↔ (x, y) ∈ ps ∧ x ≠ y := by
  unfold suE edges
  simp only [List.mem_map, List.mem_filter, decide_eq_true_eq]
  constructor
  · rintro ⟨⟨a, b⟩, ⟨⟨h, h2⟩, rfl⟩, rfl⟩
    exact ⟨h, h2⟩
  · rintro ⟨h, h2⟩
    exact ⟨(x, y), ⟨⟨h, h2⟩, rfl⟩, rfl⟩
noncomputable def indE (ps : List (Str × Str)) (x : Str) : Nat := ((edges ps).map (·.2)).count x
theorem gr_of {ps : List (Str × Str)} (up : ∀ p ∈ ps, p.1 ≠ p.2 → lvl p.2 = lvl p.1 + 1) (src : ∀ p ∈ ps, ∀ y, (y = p.1 ∨ y = p.2) → lvl y ≠ 0 → ∃ q ∈ ps, q.1 ≠ q.2 ∧ q.2 = y) : Gr (nsE ps) (suE ps) (indE ps) lvl := by
  obtain ⟨_, hnd, hmem⟩ := fold_spec ps
  refine ⟨hnd, fun x hx y hy => ?_, fun x hx y hy => ?_, fun r k hr hrm y hy hl => ?_, fun y hy h0 => ?_, fun y hy h0 => ?_⟩
  · exact (hmem y).mpr ⟨_, (edge_mem.mp hy).1, .inr rfl⟩
  · exact up _ (edge_mem.mp hy).1 (edge_mem.mp hy).2
  · refine cnt_flat hr (edges ps) fun p hp e => ?_
    have hp' := List.mem_filter.mp hp
    have hne : p.1 ≠ p.2 := by simpa using hp'.2
    have := up p hp'.1 hne
    rw [e] at this
    exact (hrm p.1).mpr ⟨(hmem _).mpr ⟨p, hp'.1, .inl rfl⟩, by lia⟩
  · obtain ⟨p, hp, h⟩ := (hmem y).mp hy
    obtain ⟨q, hq, h1, h2⟩ := src p hp y h h0
    unfold indE
    rw [List.count_pos_iff]
    exact List.mem_map.mpr ⟨q, List.mem_filter.mpr ⟨hq, by simpa using h1⟩, h2⟩
  · unfold indE
    rw [List.count_eq_zero]
    intro h
    obtain ⟨p, hp, e⟩ := List.mem_map.mp h
    have hp' := List.mem_filter.mp hp
    have := up p hp'.1 (by simpa using hp'.2)
    rw [e] at this
    lia
end Mine
end
example (h : False) {prog : PySem.Program} {w : PySem.World} {A : PySem.Around} {Q E : PySem.Value → PySem.Shared → Prop} {s : PySem.Shared} {env : PySem.Env} {at0 : PySem.Pos} : PySem.wpAny (PySem.model prog w) A (PySem.eval (.Constant .none 0 at0) env) Q E s := by
  w_top off
  first | (walk1; fail) | exact h.elim
section
open PySem PySem.W PyProof.Rows PySem.Calls
set_option maxRecDepth 100000
set_option linter.unusedSectionVars false
namespace Mine
noncomputable def vF (ps : List (Str × Str)) : View := ps.foldl (fun v p => stepV v p.1 p.2) []
noncomputable def namesOf (T : List Trip) : List Str := T.flatMap fun t => [nm0 t.1, nm1 t.1 t.2.1, nm2 t.1 t.2.1 t.2.2]
theorem pairs_mem {T : List Trip} {p : Str × Str} : p ∈ pairsOf T ↔ ∃ t ∈ T, p = (nm0 t.1, nm1 t.1 t.2.1) ∨ p = (nm1 t.1 t.2.1, nm2 t.1 t.2.1 t.2.2) := by
  unfold pairsOf
  simp only [List.mem_flatMap, List.mem_cons, List.not_mem_nil, or_false]
theorem ns_names {T : List Trip} {y : Str} : y ∈ nsE (pairsOf T) ↔ y ∈ namesOf T := by
  rw [(fold_spec (pairsOf T)).2.2]
  unfold namesOf
  simp only [List.mem_flatMap, List.mem_cons, List.not_mem_nil, or_false]
  constructor
  · rintro ⟨p, hp, h⟩
    obtain ⟨t, ht, rfl | rfl⟩ := pairs_mem.mp hp
    · rcases h with h | h
      · exact ⟨t, ht, .inl h⟩
      · exact ⟨t, ht, .inr (.inl h)⟩
    · rcases h with h | h
      · exact ⟨t, ht, .inr (.inl h)⟩
      · exact ⟨t, ht, .inr (.inr h)⟩
  · rintro ⟨t, ht, h | h | h⟩
    · exact ⟨_, pairs_mem.mpr ⟨t, ht, .inl rfl⟩, .inl h⟩
    · exact ⟨_, pairs_mem.mpr ⟨t, ht, .inl rfl⟩, .inr h⟩
    · exact ⟨_, pairs_mem.mpr ⟨t, ht, .inr rfl⟩, .inr h⟩
theorem gr_trips {T : List Trip} (hT : ∀ t ∈ T, t ∈ menu) : Gr (nsE (pairsOf T)) (suE (pairsOf T)) (indE (pairsOf T)) lvl := by
  refine gr_of ?_ ?_
  · intro p hp hne
    obtain ⟨t, ht, rfl | rfl⟩ := pairs_mem.mp hp
    · exact (menu_lv t (hT t ht)).2.1 hne
    · exact (menu_lv t (hT t ht)).2.2.1 hne
  · intro p hp y hy h0
    obtain ⟨t, ht, h⟩ := pairs_mem.mp hp
    have m := menu_lv t (hT t ht)
    have e1 : (nm0 t.1, nm1 t.1 t.2.1) ∈ pairsOf T := pairs_mem.mpr ⟨t, ht, .inl rfl⟩
    have e2 : (nm1 t.1 t.2.1, nm2 t.1 t.2.1 t.2.2) ∈ pairsOf T := pairs_mem.mpr ⟨t, ht, .inr rfl⟩
    have c1 : lvl (nm1 t.1 t.2.1) ≠ 0 → ∃ q ∈ pairsOf T, q.1 ≠ q.2 ∧ q.2 = nm1 t.1 t.2.1 := fun hl => ⟨_, e1, fun q => hl (by rw [← (show nm0 t.1 = nm1 t.1 t.2.1 from q)]; exact m.1), rfl⟩
    have c2 : lvl (nm2 t.1 t.2.1 t.2.2) ≠ 0 → ∃ q ∈ pairsOf T, q.1 ≠ q.2 ∧ q.2 = nm2 t.1 t.2.1 t.2.2 := fun hl => by
      by_cases e : nm1 t.1 t.2.1 = nm2 t.1 t.2.1 t.2.2
      · rw [← e] at hl ⊢
        exact c1 hl
      · exact ⟨_, e2, e, rfl⟩
    rcases h with rfl | rfl
    · rcases hy with rfl | rfl
      · exact absurd m.1 h0
      · exact c1 h0
    · rcases hy with rfl | rfl
      · exact c1 h0
      · exact c2 h0
theorem st_zero {ps : List (Str × Str)} (G : Gr (nsE ps) (suE ps) (indE ps) lvl) : St (nsE ps) (suE ps) (indE ps) lvl 0 (vk (vF ps) 0).1 (vk (vF ps) 0).2 := by
  have e : vF ps = mkV (nsE ps) (npE ps) (suE ps) := (fold_spec ps).1
  have hr : rdyS (mkV (nsE ps) (npE ps) (suE ps)) = (nsE ps).filter fun x => decide (npE ps x = 0) := by
    unfold rdyS mkV
    rw [List.filter_map, List.map_map]
    exact List.map_id' _
  refine ⟨npE ps, e, fun z hz => ?_, ?_, fun y => ?_⟩
  · rw [if_neg (Nat.not_lt_zero _)]
    by_cases h : lvl z = 0
    · rw [if_pos h]
      have := G.zero z hz h
      unfold npE
      unfold indE at this
      rw [this]
      rfl
    · rw [if_neg h]
      rfl
  · show (rdyS (vF ps)).Nodup
    rw [e, hr]
    exact G.nd.filter _
  · show y ∈ rdyS (vF ps) ↔ _
    rw [e, hr, List.mem_filter]
    constructor
    · rintro ⟨h1, h2⟩
      refine ⟨h1, ?_⟩
      by_cases h : lvl y = 0
      · exact h
      · have := G.pos y h1 h
        have h3 : npE ps y = 0 := by simpa using h2
        unfold npE at h3
        unfold indE at this
        lia
    · rintro ⟨h1, h2⟩
      refine ⟨h1, ?_⟩
      have := G.zero y h1 h2
      have : npE ps y = 0 := by unfold npE; unfold indE at this; rw [this]; rfl
      simpa using this
theorem st_all {ps : List (Str × Str)} (G : Gr (nsE ps) (suE ps) (indE ps) lvl) : ∀ k, St (nsE ps) (suE ps) (indE ps) lvl k (vk (vF ps) k).1 (vk (vF ps) k).2
  | 0 => st_zero G
  | k + 1 => (round_ok G (st_all G k)).2.2
theorem names_len {T : List Trip} (hl : T.length ≤ 12) : (namesOf T).length ≤ 36 := by
  unfold namesOf
  rw [List.length_flatMap]
  have : (T.map fun t => [nm0 t.1, nm1 t.1 t.2.1, nm2 t.1 t.2.1 t.2.2].length).sum = 3 * T.length := by
    clear hl
    induction T with
    | nil => rfl
    | cons t T ih =>
      rw [List.map_cons, List.sum_cons, ih]
      show 3 + 3 * T.length = 3 * (T.length + 1)
      lia
  lia
theorem fixed_lv : ∀ k, k < 3 → ∃ y ∈ namesOf fixed, lvl y = k := by
  intro k hk
  have : k = 0 ∨ k = 1 ∨ k = 2 := by lia
  rcases this with rfl | rfl | rfl
  · exact (by decide +kernel : ∃ y ∈ namesOf fixed, lvl y = 0)
  · exact (by decide +kernel : ∃ y ∈ namesOf fixed, lvl y = 1)
  · exact (by decide +kernel : ∃ y ∈ namesOf fixed, lvl y = 2)
theorem law_rounds {T : List Trip} (hT : ∀ t ∈ T, t ∈ menu) (hf : ∃ U, T = fixed ++ U) (hl : T.length ≤ 12) :
    closedV (vF (pairsOf T)) ∧ (∀ e ∈ vF (pairsOf T), ∀ y ∈ e.2.2, lvl e.1 < lvl y) ∧ (∀ k, k < 3 → RndOk (vk (vF (pairsOf T)) k).1 (vk (vF (pairsOf T)) k).2) ∧ (vk (vF (pairsOf T)) 3).2 = [] ∧
    ∀ k, ((vk (vF (pairsOf T)) k).2).Nodup ∧ ∀ y, y ∈ (vk (vF (pairsOf T)) k).2 ↔ y ∈ namesOf T ∧ lvl y = k := by
  have G := gr_trips hT
  have e : vF (pairsOf T) = mkV (nsE (pairsOf T)) (npE (pairsOf T)) (suE (pairsOf T)) := (fold_spec (pairsOf T)).1
  have hlen : (nsE (pairsOf T)).length ≤ 36 := Nat.le_trans (subLen G.nd fun y hy => ns_names.mp hy) (names_len hl)
  have mem : ∀ k, ((vk (vF (pairsOf T)) k).2).Nodup ∧ ∀ y, y ∈ (vk (vF (pairsOf T)) k).2 ↔ y ∈ namesOf T ∧ lvl y = k := fun k => by
    obtain ⟨np, h1, h2, h3, h4⟩ := st_all G k
    exact ⟨h3, fun y => (h4 y).trans (by rw [ns_names])⟩
  refine ⟨?_, ?_, fun k hk => ?_, ?_, mem⟩
  · rw [e]
    intro d hd y hy
    obtain ⟨x, hx, rfl⟩ := List.mem_map.mp hd
    rw [mkV_nm]
    exact G.cl x hx y hy
  · rw [e]
    intro d hd y hy
    obtain ⟨x, hx, rfl⟩ := List.mem_map.mp hd
    have := G.up x hx y hy
    show lvl x < lvl y
    lia
  · have S := st_all G k
    have R := round_ok G S
    obtain ⟨np, h1, h2, h3, h4⟩ := S
    refine ⟨?_, ?_, h3, fun x hx => ?_, R.1, fun i => Nat.le_trans (R.2.1 i) (Nat.le_trans hlen (by decide))⟩
    · obtain ⟨U, rfl⟩ := hf
      obtain ⟨y, hy, hk2⟩ := fixed_lv k hk
      intro h0
      have : y ∈ (vk (vF (pairsOf (fixed ++ U))) k).2 := ((mem k).2 y).mpr ⟨by unfold namesOf at hy ⊢; rw [List.flatMap_append]; exact List.mem_append_left _ hy, hk2⟩
      rw [h0] at this
      cases this
    · have := subLen h3 fun y hy => ((h4 y).mp hy).1
      lia
    · rw [h1, mkV_nm]
      exact ((h4 x).mp hx).1
  · refine List.eq_nil_iff_forall_not_mem.mpr fun y hy => ?_
    obtain ⟨h1, h2⟩ := ((mem 3).2 y).mp hy
    unfold namesOf at h1
    obtain ⟨t, ht, h⟩ := List.mem_flatMap.mp h1
    have m := menu_lv t (hT t ht)
    simp only [List.mem_cons, List.not_mem_nil, or_false] at h
    rcases h with rfl | rfl | rfl
    · lia
    · lia
    · lia
end Mine
end
example (h : False) {prog : PySem.Program} {w : PySem.World} {A : PySem.Around} {Q E : PySem.Value → PySem.Shared → Prop} {s : PySem.Shared} {env : PySem.Env} {at0 : PySem.Pos} : PySem.wpAny (PySem.model prog w) A (PySem.eval (.Constant .none 0 at0) env) Q E s := by
  w_top off
  first | (walk1; fail) | exact h.elim
section
open PySem PySem.W PyProof.Rows PySem.Calls
set_option maxRecDepth 100000
set_option linter.unusedSectionVars false
namespace Mine
/-- the order of texts -/
noncomputable def leS (a b : Str) : Prop := ¬ b.cps.toList < a.cps.toList
noncomputable def ltS (a b : Str) : Prop := a.cps.toList < b.cps.toList
theorem leS_trans {a b c : Str} (h : leS a b) (g : leS b c) : leS a c := List.le_trans h g
theorem rising_pw : ∀ (l : List Str) (p : Str), risingS p l = true → (∀ x ∈ l, leS p x) ∧ l.Pairwise leS
  | [], _, _ => ⟨(fun _ h => by cases h), .nil⟩
  | x :: l, p, h => by
    simp only [risingS, Bool.and_eq_true, Bool.not_eq_true', ltCps_eq, decide_eq_false_iff_not] at h
    obtain ⟨a, b⟩ := rising_pw l x h.2
    refine ⟨fun y hy => ?_, List.pairwise_cons.mpr ⟨a, b⟩⟩
    rcases List.mem_cons.mp hy with rfl | hy
    · exact h.1
    · exact leS_trans h.1 (a y hy)
theorem sorted_pw {l : List Str} (h : sortedS l = true) : l.Pairwise leS := by
  cases l with
  | nil => exact .nil
  | cons x l =>
    obtain ⟨a, b⟩ := rising_pw l x h
    exact List.pairwise_cons.mpr ⟨a, b⟩
/-- each text once -/
noncomputable def dd (l : List Str) : List Str := l.foldl (fun acc x => if x ∈ acc then acc else acc ++ [x]) []
theorem dd_snoc (l : List Str) (x : Str) : dd (l ++ [x]) = if x ∈ dd l then dd l else dd l ++ [x] := by
  unfold dd
  rw [List.foldl_append]
  rfl
theorem dd_mem : ∀ (l : List Str) (x : Str), x ∈ dd l ↔ x ∈ l := by
  refine snoc_ind (fun x => Iff.rfl) fun l a ih x => ?_
  rw [dd_snoc, List.mem_append, List.mem_singleton]
  split
  · rename_i h
    rw [ih]
    constructor
    · exact .inl
    · rintro (h' | rfl)
      · exact h'
      · exact (ih _).mp h
  · rw [List.mem_append, List.mem_singleton, ih]
theorem str_ext {a b : Str} (h : a.cps.toList = b.cps.toList) : a = b := by
  obtain ⟨a⟩ := a
  obtain ⟨b⟩ := b
  exact congrArg _ (Array.toList_inj.mp h)
theorem dd_lt : ∀ (l : List Str), l.Pairwise leS → (dd l).Pairwise ltS := by
  refine snoc_ind (fun _ => .nil) fun l a ih h => ?_
  obtain ⟨h1, _, h3⟩ := List.pairwise_append.mp h
  rw [dd_snoc]
  split
  · exact ih h1
  · rename_i hn
    refine List.pairwise_append.mpr ⟨ih h1, List.pairwise_singleton .., fun x hx y hy => ?_⟩
    rw [List.mem_singleton] at hy
    subst hy
    have hle := h3 x ((dd_mem l x).mp hx) y (by simp)
    have hne : x.cps.toList ≠ y.cps.toList := fun e => hn (str_ext e ▸ hx)
    rcases Classical.em (x.cps.toList < y.cps.toList) with h | h
    · exact h
    · exact absurd (List.le_antisymm hle h) hne
theorem ltS_irrefl (a : Str) : ¬ ltS a a := List.lt_irrefl _
theorem ltS_unique : ∀ {l r : List Str}, l.Pairwise ltS → r.Pairwise ltS → (∀ x, x ∈ l ↔ x ∈ r) → l = r
  | [], [], _, _, _ => rfl
  | [], y :: r, _, _, h => by have := (h y).mpr (.head _); cases this
  | x :: l, [], _, _, h => by have := (h x).mp (.head _); cases this
  | x :: l, y :: r, hl, hr, h => by
    obtain ⟨a1, a2⟩ := List.pairwise_cons.mp hl
    obtain ⟨b1, b2⟩ := List.pairwise_cons.mp hr
    have e : x = y := by
      rcases List.mem_cons.mp ((h x).mp (.head _)) with e | hx
      · exact e
      · rcases List.mem_cons.mp ((h y).mpr (.head _)) with e | hy
        · exact e.symm
        · exact absurd (List.lt_trans (a1 y hy) (b1 x hx)) (List.lt_irrefl _)
    subst e
    refine congrArg _ (ltS_unique a2 b2 fun z => ?_)
    constructor
    · intro hz
      rcases List.mem_cons.mp ((h z).mp (.tail _ hz)) with rfl | hz'
      · exact absurd (a1 _ hz) (ltS_irrefl _)
      · exact hz'
    · intro hz
      rcases List.mem_cons.mp ((h z).mpr (.tail _ hz)) with rfl | hz'
      · exact absurd (b1 _ hz) (ltS_irrefl _)
      · exact hz'
/-- a round's sorted names are the names of its level, each once, in order -/
theorem round_names {T : List Trip} {nm r : List Str} {vs : List Value} {k : Nat} (hr : ∀ y, y ∈ r ↔ y ∈ namesOf T ∧ lvl y = k) (hs : SortedAs r vs) (hp : nm.Perm (namesOf T)) (ho : nm.Pairwise leS) : vs.map sof = (dd nm).filter fun x => decide (lvl x = k) := by
  obtain ⟨h1, h2, h3⟩ := hs
  refine ltS_unique ?_ ((dd_lt nm ho).filter _) fun x => ?_
  · rw [List.pairwise_map]
    refine h2.imp_of_mem fun {a b} ha hb h => ?_
    obtain ⟨x, t, rfl⟩ := h3 a ha
    obtain ⟨y, u, rfl⟩ := h3 b hb
    exact h
  · rw [h1.mem_iff, hr, List.mem_filter, dd_mem, hp.mem_iff]
    simp
end Mine
end
example (h : False) {prog : PySem.Program} {w : PySem.World} {A : PySem.Around} {Q E : PySem.Value → PySem.Shared → Prop} {s : PySem.Shared} {env : PySem.Env} {at0 : PySem.Pos} : PySem.wpAny (PySem.model prog w) A (PySem.eval (.Constant .none 0 at0) env) Q E s := by
  w_top off
  first | (walk1; fail) | exact h.elim
section
open PySem PySem.W PyProof.Rows PySem.Calls
set_option maxRecDepth 100000
set_option linter.unusedSectionVars false
namespace Mine
theorem news_c {h₀ h : Heap} {L a : Addr} {o : Obj} {l l' : List (Addr × Obj)} (N : News h₀ L h l) (hm : (a, o) ∈ l) (r : News h₀ L h l') : News h₀ L h ((a, o) :: l') := fun p hp => by
  rcases List.mem_cons.mp hp with rfl | hp
  · exact N _ hm
  · exact r p hp
theorem sof_of : ∀ {vs : List Value} {xs : List Str}, StrsAre vs xs → vs.map sof = xs ∧ ∀ v ∈ vs, ∃ x t, v = .str x t
  | _, _, .nil => ⟨rfl, fun _ h => by cases h⟩
  | _, _, .cons x t h => by
    obtain ⟨a, b⟩ := sof_of h
    refine ⟨by rw [List.map_cons, a]; rfl, fun v hv => ?_⟩
    rcases List.mem_cons.mp hv with rfl | hv
    · exact ⟨x, t, rfl⟩
    · exact b v hv
theorem strs_snoc : ∀ {vs : List Value} {xs : List Str}, StrsAre vs xs → ∀ (x : Str) (t : Tok), StrsAre (vs ++ [.str x t]) (xs ++ [x])
  | _, _, .nil, x, t => .cons x t .nil
  | _, _, .cons y u h, x, t => .cons y u (strs_snoc h x t)
theorem dat_strs (S : List (Addr × Obj)) : ∀ {vs : List Value}, (∀ v ∈ vs, ∃ x t, v = .str x t) → DatAll S vs ((vs.map sof).map Dat.str)
  | [], _ => .nil
  | v :: vs, h => by
    obtain ⟨x, t, rfl⟩ := h v (.head _)
    exact .cons (.str x t) (dat_strs S fun v hv => h v (.tail _ hv))
theorem flat_names (T : List Trip) : flatR (T.map rowOf) = namesOf T := by
  unfold flatR namesOf
  rw [List.flatMap_map]
  rfl
theorem names_in {T : List Trip} {x : Str} : x ∈ namesOf T ↔ ∃ t ∈ T, x = nm0 t.1 ∨ x = nm1 t.1 t.2.1 ∨ x = nm2 t.1 t.2.1 t.2.2 := by
  unfold namesOf
  simp only [List.mem_flatMap, List.mem_cons, List.not_mem_nil, or_false]
/-- the steps: pairs of texts -/
inductive StepsL (S : List (Addr × Obj)) : List Value → List (Str × Str) → Prop
  | nil : StepsL S [] []
  | cons {a : Addr} {x y : Str} {t u : Tok} {k : Nat} {vs : List Value} {ps : List (Str × Str)} (h : (a, tupO #[.str x t, .str y u] k) ∈ S) (r : StepsL S vs ps) : StepsL S (.ref a :: vs) ((x, y) :: ps)
theorem StepsL.mono {S S' : List (Addr × Obj)} {vs : List Value} {ps : List (Str × Str)} (h : StepsL S vs ps) (hs : ∀ p ∈ S, p ∈ S') : StepsL S' vs ps := by
  induction h with
  | nil => exact .nil
  | cons h _ ih => exact .cons (hs _ h) ih
theorem StepsL.app {S : List (Addr × Obj)} {vs ws : List Value} {ps qs : List (Str × Str)} (h : StepsL S vs ps) (g : StepsL S ws qs) : StepsL S (vs ++ ws) (ps ++ qs) := by
  induction h with
  | nil => exact g
  | cons h _ ih => exact .cons h ih
theorem StepsL.length {S : List (Addr × Obj)} {vs : List Value} {ps : List (Str × Str)} (h : StepsL S vs ps) : vs.length = ps.length := by
  induction h with
  | nil => rfl
  | cons h _ ih => simp [ih]
theorem StepsL.refs {S : List (Addr × Obj)} {vs : List Value} {ps : List (Str × Str)} (h : StepsL S vs ps) : ∃ ts : List Addr, vs = ts.map Value.ref ∧ ∀ (i : Nat) t, ts[i]? = some t → ∃ x y tx ty k, ps[i]? = some (x, y) ∧ (t, tupO #[.str x tx, .str y ty] k) ∈ S := by
  induction h with
  | nil => exact ⟨[], rfl, fun i t h => by simp at h⟩
  | @cons a x y t u k vs ps h _ ih =>
    obtain ⟨ts, rfl, hi⟩ := ih
    refine ⟨a :: ts, rfl, fun i t' h' => ?_⟩
    cases i with
    | zero =>
      rw [List.getElem?_cons_zero] at h'
      cases h'
      exact ⟨x, y, t, u, k, rfl, h⟩
    | succ i => exact hi i t' (by simpa using h')
theorem pairs_len (T : List Trip) : (pairsOf T).length = 2 * T.length := by
  unfold pairsOf
  induction T with
  | nil => rfl
  | cons t T ih =>
    rw [List.flatMap_cons, List.length_append, ih]
    show 2 + 2 * T.length = 2 * (T.length + 1)
    lia
theorem pairs_snoc (T : List Trip) (t : Trip) : pairsOf (T ++ [t]) = pairsOf T ++ [(nm0 t.1, nm1 t.1 t.2.1), (nm1 t.1 t.2.1, nm2 t.1 t.2.1 t.2.2)] := by
  unfold pairsOf
  rw [List.flatMap_append]
  simp
theorem steps_end {h₀ : Heap} {L : Addr} {m : Str → Option Value} {h : Heap} {s : Shared} {tk : Nat} {t c D I J : Addr} {x y : Str} {tx ty : Tok} {oC oD oI oJ : Obj} {nx nx3 : List (Addr × Obj)} {ys2 : List Value} {ps qs : List (Str × Str)} {k : Nat}
    (F : Fr h₀ L h m) (N : News h₀ L h ((t, { cls := .type "tuple", data := .seq #[.str x tx, .str y ty] k }) :: (c, oC) :: (D, oD) :: (I, oI) :: (J, oJ) :: nx3)) (la : @LT.lt Nat _ c t) (lb : @LT.lt Nat _ D t) (lc : @LT.lt Nat _ I t) (ld : @LT.lt Nat _ J t)
    (off : ∀ p ∈ nx3, p.1 ≠ c ∧ p.1 ≠ D ∧ p.1 ≠ I ∧ p.1 ≠ J) (hB1 : ∀ p ∈ nx, p ∈ nx3) {i : Nat} (hS : StepsL nx3 ys2 (ps ++ qs.take i)) (hx : qs[i]? = some (x, y)) (hi : i + 1 ≤ 2) :
    CompEnd h₀ L m [(c, oC), (D, oD), (I, oI), (J, oJ)] [] (fun nx3 => (∀ p ∈ nx, p ∈ nx3) ∧ StepsL nx3 (ys2 ++ [.ref t]) (ps ++ qs.take (i + 1)) ∧ i + 1 ≤ 2) s { s with heap := h, toks := tk } := by
  refine comp_end (nx' := []) ((t, { cls := .type "tuple", data := .seq #[.str x tx, .str y ty] k }) :: nx3) F N (fun p hp => ?_) (fun p hp => nomatch hp) (fun q hq p hp => ?_) ⟨fun p hp => .tail _ (hB1 p hp), ?_, hi⟩
  · simp only [List.mem_append, List.mem_cons, List.not_mem_nil, or_false] at hp ⊢
    rcases hp with (h | h | h | h) | h | h
    · exact .inr (.inl h)
    · exact .inr (.inr (.inl h))
    · exact .inr (.inr (.inr (.inl h)))
    · exact .inr (.inr (.inr (.inr (.inl h))))
    · exact .inl h
    · exact .inr (.inr (.inr (.inr (.inr h))))
  · simp only [List.mem_cons, List.not_mem_nil, or_false] at hq
    rcases List.mem_cons.mp hp with rfl | hp
    · rcases hq with rfl | rfl | rfl | rfl
      · exact Nat.ne_of_gt la
      · exact Nat.ne_of_gt lb
      · exact Nat.ne_of_gt lc
      · exact Nat.ne_of_gt ld
    · have := off p hp
      rcases hq with rfl | rfl | rfl | rfl
      · exact this.1
      · exact this.2.1
      · exact this.2.2.1
      · exact this.2.2.2
  · rw [take_snoc hx, ← List.append_assoc]
    exact (hS.mono fun p hp => .tail _ hp).app (.cons (.head _) .nil)
theorem ek_rest {R : Addr} {nR : Nat} {As : List (Addr × List Value × Nat)} {rest0 : List (Addr × Obj)} {p : Addr × Obj} (h : p ∈ rest0) : p ∈ EK R nR As rest0 := .tail _ (List.mem_append_right _ h)
structure NameOk (x : Str) : Prop where
  ok : PyData.strOk x = true
  len : x.length ≤ 64
  hd : (Txt.partition x "@").1.length ≤ 64
  sp : (Txt.split (Txt.partition x "@").1 ".").length ≤ 64
  at1 : (Builtin.Str.occurrences x "@" 0 x.length 1).isEmpty = false → ((Txt.split (Txt.partition x "@").1 ".").length : Int) - 0 = (lvl x : Nat)
  at0 : (Builtin.Str.occurrences x "@" 0 x.length 1).isEmpty = true → ((Txt.split (Txt.partition x "@").1 ".").length : Int) - 1 = (lvl x : Nat)
  lv : lvl x ≤ 2
theorem menu_nm : ∀ t ∈ menu, ∀ x ∈ [nm0 t.1, nm1 t.1 t.2.1, nm2 t.1 t.2.1 t.2.2], (Txt.partition x "@").1.length ≤ 64 ∧ (Txt.split (Txt.partition x "@").1 ".").length ≤ 64 ∧
    ((Builtin.Str.occurrences x "@" 0 x.length 1).isEmpty = false → ((Txt.split (Txt.partition x "@").1 ".").length : Int) - 0 = (lvl x : Nat)) ∧
    ((Builtin.Str.occurrences x "@" 0 x.length 1).isEmpty = true → ((Txt.split (Txt.partition x "@").1 ".").length : Int) - 1 = (lvl x : Nat)) := by decide +kernel
theorem names_ok {T : List Trip} (hT : ∀ t ∈ T, t ∈ menu) : ∀ x ∈ namesOf T, NameOk x := by
  intro x hx
  obtain ⟨t, ht, h⟩ := names_in.mp hx
  have m := menu_ok t (hT t ht)
  have l := menu_lv t (hT t ht)
  have n := menu_nm t (hT t ht) x (by rcases h with rfl | rfl | rfl <;> simp)
  rcases h with rfl | rfl | rfl
  · exact ⟨m.j.1, m.a, n.1, n.2.1, n.2.2.1, n.2.2.2, by rw [l.1]; decide⟩
  · exact ⟨m.j.2.1, m.c, n.1, n.2.1, n.2.2.1, n.2.2.2, l.2.2.2.2⟩
  · exact ⟨m.j.2.2, m.k, n.1, n.2.1, n.2.2.1, n.2.2.2, l.2.2.2.1⟩
/-- the names laid end to end, a blank behind each -/
noncomputable def joinS (l : List Str) : Str := l.foldl (fun so x => so ++ x ++ Str.ofString " ") (Str.ofString "")
theorem joinS_snoc (l : List Str) (x : Str) : joinS (l ++ [x]) = joinS l ++ x ++ Str.ofString " " := by
  unfold joinS
  rw [List.foldl_append]
  rfl
theorem len_app (a b : Str) : (a ++ b).length = a.length + b.length := by
  show (a.cps ++ b.cps).size = _
  rw [Array.size_append]
  rfl
theorem joinS_len : ∀ (l : List Str), (∀ x ∈ l, x.length ≤ 64) → (joinS l).length ≤ 65 * l.length := by
  refine snoc_ind (fun _ => Nat.le_refl _) fun l a ih h => ?_
  have h1 := ih fun x hx => h x (List.mem_append_left _ hx)
  have h2 := h a (by simp)
  rw [joinS_snoc, len_app, len_app, List.length_append, List.length_singleton]
  have : (Str.ofString " ").length = 1 := by decide
  lia
theorem sum_len : ∀ (l : List Str), (∀ x ∈ l, x.length ≤ 65) → (l.map (·.length)).sum ≤ 65 * l.length
  | [], _ => Nat.zero_le _
  | x :: l, h => by
    have h1 := sum_len l fun y hy => h y (.tail _ hy)
    have h2 := h x (.head _)
    rw [List.map_cons, List.sum_cons, List.length_cons]
    lia
theorem join_S : ∀ (l : List Str), Txt.join (Str.ofString "") (l.map fun x => x ++ Str.ofString " ") = joinS l := by
  intro l
  have e := eq_of_beq (join_plain_closes (Str.ofString "") (l.map fun x => x ++ Str.ofString " "))
  rw [e]
  clear e
  revert l
  refine snoc_ind rfl fun l a ih => ?_
  rw [List.map_append, List.map_singleton, FinIter.join_snoc, joinS_snoc, ih]
  split
  · rename_i h
    have : l = [] := List.map_eq_nil_iff.mp h
    subst this
    refine str_ext ?_
    show ((a ++ Str.ofString " ").cps).toList = ((#[] ++ a.cps) ++ (Str.ofString " ").cps).toList
    rw [Array.empty_append]
    rfl
  · refine str_ext ?_
    show ((joinS l).cps ++ (#[] : Array Nat) ++ (a.cps ++ (Str.ofString " ").cps)).toList = (((joinS l).cps ++ a.cps) ++ (Str.ofString " ").cps).toList
    simp
theorem two_in {T : List Trip} {nm : List Str} (hP : nm.Perm (namesOf T)) (hf : ∃ U, T = fixed ++ U) : ∃ y ∈ dd nm, lvl y = 2 := by
  obtain ⟨U, rfl⟩ := hf
  obtain ⟨y, hy, h⟩ := fixed_lv 2 (by decide)
  refine ⟨y, (dd_mem _ _).mpr (hP.mem_iff.mpr ?_), h⟩
  unfold namesOf at hy ⊢
  rw [List.flatMap_append]
  exact List.mem_append_left _ hy
theorem max_pos {T : List Trip} {nm : List Str} (hP : nm.Perm (namesOf T)) (hf : ∃ U, T = fixed ++ U) : 0 < ((dd nm).map fun x => ((lvl x : Nat) : Int)).length := by
  obtain ⟨y, hy, _⟩ := two_in hP hf
  rw [List.length_map]
  exact List.length_pos_of_mem hy
theorem max_two {T : List Trip} {nm : List Str} {M : Int} (hP : nm.Perm (namesOf T)) (hT : ∀ t ∈ T, t ∈ menu) (hf : ∃ U, T = fixed ++ U) (h1 : M ∈ (dd nm).map fun x => ((lvl x : Nat) : Int)) (h2 : ∀ a, a ∈ ((dd nm).map fun x => ((lvl x : Nat) : Int)) → a ≤ M) : M = 2 := by
  obtain ⟨y, hy, e⟩ := two_in hP hf
  have a := h2 _ (List.mem_map.mpr ⟨y, hy, rfl⟩)
  rw [e] at a
  obtain ⟨x, hx, rfl⟩ := List.mem_map.mp h1
  have b := (names_ok hT x (hP.mem_iff.mp ((dd_mem _ _).mp hx))).lv
  lia
theorem dat_snoc {S : List (Addr × Obj)} {v : Value} {d : Dat} (h : DatIn S v d) : ∀ {vs : List Value} {ds : List Dat}, DatAll S vs ds → DatAll S (vs ++ [v]) (ds ++ [d])
  | _, _, .nil => .cons h .nil
  | _, _, .cons a b => .cons a (dat_snoc h b)
theorem as_dat {S : List (Addr × Obj)} (f : Nat → List Str) : ∀ (As : List (Addr × List Value × Nat)), (∀ a ∈ As, (a.1, W.listOf a.2.1.toArray a.2.2) ∈ S) → (∀ (i : Nat) a, As[i]? = some a → a.2.1.map sof = f i ∧ ∀ v ∈ a.2.1, ∃ x t, v = .str x t) →
    DatAll S (As.map fun a => Value.ref a.1) ((List.range As.length).map fun k => Dat.list ((f k).map Dat.str)) := by
  refine snoc_ind (fun _ _ => .nil) fun l a ih h1 h2 => ?_
  rw [List.map_append, List.length_append, List.length_singleton, List.range_succ, List.map_append]
  have h3 := ih (fun b hb => h1 b (List.mem_append_left _ hb)) fun i b hb => h2 i b (by rw [List.getElem?_append_left (List.getElem?_eq_some_iff.mp hb).1]; exact hb)
  obtain ⟨e, hs⟩ := h2 l.length a (by simp)
  refine dat_snoc (.list (h1 a (by simp)) ?_) h3
  rw [← e]
  exact dat_strs S hs
theorem rounds_dat {S : List (Addr × Obj)} {T : List Trip} {nm : List Str} {v : View} {R nR : Nat} {As : List (Addr × List Value × Nat)} {rest0 : List (Addr × Obj)} (hE : ∀ p ∈ EK R nR As rest0, p ∈ S) (hl : As.length = 3)
    (hs : ∀ (i : Nat) a, As[i]? = some a → SortedAs (vk v i).2 a.2.1) (hr : ∀ k y, y ∈ (vk v k).2 ↔ y ∈ namesOf T ∧ lvl y = k) (hp : nm.Perm (namesOf T)) (ho : nm.Pairwise leS) :
    DatAll S (As.map fun a => Value.ref a.1) ((List.range 3).map fun k => Dat.list (((dd nm).filter fun x => decide (lvl x = k)).map Dat.str)) := by
  rw [← hl]
  exact as_dat (fun k => (dd nm).filter fun x => decide (lvl x = k)) As (fun a ha => hE _ (.tail _ (List.mem_append_left _ (List.mem_map.mpr ⟨a, ha, rfl⟩)))) fun i a hi => ⟨round_names (hr i) (hs i a hi) hp ho, (hs i a hi).2.2⟩
theorem rounds_ok {T : List Trip} {nm : List Str} {n : Nat} (hT : ∀ t ∈ T, t ∈ menu) (hp : nm.Perm (namesOf T)) : ∀ d ∈ (List.range n).map (fun k => Dat.list (((dd nm).filter fun x => decide (lvl x = k)).map Dat.str)), kqdOk 8 d = true := by
  intro d hd
  obtain ⟨k, _, rfl⟩ := List.mem_map.mp hd
  show ((((dd nm).filter fun x => decide (lvl x = k)).map Dat.str).all (kqdOk 7)) = true
  rw [List.all_eq_true]
  intro e he
  obtain ⟨x, hx, rfl⟩ := List.mem_map.mp he
  exact (names_ok hT x (hp.mem_iff.mp ((dd_mem _ _).mp (List.mem_filter.mp hx).1))).ok
section
variable {prog : Program} {w : World} {A : Around} {E : Value → Shared → Prop} {s : Shared} {h₀ : Heap} {L l : Addr} {m : Str → Option Value} {news : List (Addr × Obj)} {vs : List Value} {k : Nat} {Q : Value → Shared → Prop}
theorem len_N (N : News h₀ L s.heap news) (hm : (l, W.listOf vs.toArray k) ∈ news) (hb : vs.length ≤ 5000) (h : Q (.int (vs.length : Nat) (s.toks + 1)) { s with toks := s.toks + 1 + 1 }) : wpAny (model prog w) A (call (.builtin "len") [.ref l]) Q E s := by
  refine len_list (items := vs.toArray) ⟨_, (N _ hm).1, rfl, k, rfl⟩ (by rw [List.size_toArray]; lia) ?_
  rw [List.size_toArray]
  exact h
theorem item_N {value slice : Expr} {i : Nat} {u : Tok} {x : Value} (N : News h₀ L s.heap news) (hm : (l, W.listOf vs.toArray k) ∈ news) (hx : vs[i]? = some x) (hb : vs.length ≤ 5000) (h : Q x s)
    (hs : subscripted slice false (.ref l) (.int (i : Nat) u) = operate [.ref l, .int (i : Nat) u] (getItem (.ref l) (.int (i : Nat) u)) := by with_unfolding_all rfl) (hg : ∀ r, letTemporaryGo value (.ref l) r = pure () := by intro _; with_unfolding_all rfl) :
    wpAny (model prog w) A (subscriptTail value slice (.ref l) (.int (i : Nat) u)) Q E s := by
  have := (List.getElem?_eq_some_iff.mp hx).1
  exact item_list (items := vs.toArray) ⟨_, (N _ hm).1, rfl, k, rfl⟩ (by lia) (by lia) (by simpa using hx) h hs hg
theorem slice_N {value slice : Expr} {i : Nat} {u : Tok} (F : Fr h₀ L s.heap m) (N : News h₀ L s.heap news) (hm : (l, W.listOf vs.toArray k) ∈ news) (hb : vs.length ≤ 5000) (hi : i ≤ vs.length)
    (h : ∀ D h', Fr h₀ L h' m → News h₀ L h' ((D, W.listOf (vs.take i).toArray 0) :: news) → (∀ p ∈ news, @LT.lt Nat _ p.1 D) → Q (.ref D) { s with heap := h' })
    (hs : subscripted slice false (.ref l) (.ref s.heap.objs.size) = operate [.ref s.heap.objs.size, .ref l] (getItem (.ref l) (.ref s.heap.objs.size)) := by with_unfolding_all rfl)
    (ht : ∀ r, letTemporaryGo value (.ref l) r = pure () := by intro _; with_unfolding_all rfl) :
    wpAny (model prog w) A (subscriptTail value slice (.ref l) (.ref s.heap.objs.size)) Q E { s with heap := s.heap.push { cls := .type "slice", data := .fields #[.none, .int (i : Nat) u, .none] } } := by
  have e : slicePick vs.toArray none (some ((i : Nat) : Int)) none = (vs.take i).toArray := by
    have e : sliceBounds none (some ((i : Nat) : Int)) none vs.toArray.size = (((0 : Nat) : Int), ((i : Nat) : Int), 1) := by
      simp only [sliceBounds, Option.getD_none, show (1 : Int) > 0 by decide, if_true, if_neg (show ¬ (((i : Nat) : Int) < 0) by lia), List.size_toArray]
      congr 1
      congr 1
      lia
    rw [kmk_pick_nat _ e]
    simp
  refine slice_list F N ⟨_, (N _ hm).1, rfl, k, rfl⟩ .none (.int _ _) (fun h' F' N' => h _ h' F' ?_ fun p hp => Nat.lt_succ_of_lt (Heap.lt_size (N p hp).1)) hs ht (by rw [List.size_toArray, sizeLine_eq]; lia)
  rw [e] at N'
  exact N'
open Classical in
theorem notin_N {x : Str} {t : Tok} (N : News h₀ L s.heap news) (hm : (l, W.listOf vs.toArray k) ∈ news) (hst : ∀ v ∈ vs, ∃ x t, v = .str x t) (hok : ∀ y ∈ vs.map sof, PyData.strOk y = true) (hx : PyData.strOk x = true) (hu : A.units + 64 < cLine) (h : Q (.bool (!decide (x ∈ vs.map sof))) s) :
    wpAny (model prog w) A (compareOp .NotIn (.str x t) (.ref l)) Q E s := by
  refine kqd_notIn N hm rfl rfl (dat_strs [] hst) (fun p hp => nomatch hp) (d := .str x) (.str (news := []) x t) (fun p hp => nomatch hp) ?_ hx hu ?_
  · intro d hd
    obtain ⟨y, hy, rfl⟩ := List.mem_map.mp hd
    exact hok y hy
  · have : (Dat.str x ∈ (vs.map sof).map Dat.str) ↔ x ∈ vs.map sof := by
      simp
    rw [show decide (Dat.str x ∈ (vs.map sof).map Dat.str) = decide (x ∈ vs.map sof) from decide_eq_decide.mpr this]
    exact h
end
end Mine
end
example (h : False) {prog : PySem.Program} {w : PySem.World} {A : PySem.Around} {Q E : PySem.Value → PySem.Shared → Prop} {s : PySem.Shared} {env : PySem.Env} {at0 : PySem.Pos} : PySem.wpAny (PySem.model prog w) A (PySem.eval (.Constant .none 0 at0) env) Q E s := by
  w_top off
  first | (walk1; fail) | exact h.elim
section
open PySem PySem.W PyProof.Rows PySem.Calls
set_option maxRecDepth 100000
set_option linter.unusedSectionVars false
namespace Mine
local macro_rules | `(tactic| walk_at "eval Name") => `(tactic| (k_here; (with_reducible show wpAny _ _ (eval (Expr.Name _ _) (compEnvC _ _ _ _)) _ _ _); k_dflt (first
  | (refine' nm_loc ?N ?hc ?hm ?o ?v ?kk ?x ?d ?_; (case x => rfl); (case N => k_asm); (case hc => exact rfl); (case hm => k_mem); (case o => assumption); (case v => assumption); (case kk => rfl); (case d => decide +kernel))
  | (refine' nm_cell ?N ?hc ?hm ?o ?kk ?x ?d ?_; (case x => rfl); (case kk => rfl); (case hc => exact rfl); (case N => k_asm); (case hm => assumption); (case o => assumption); (case d => decide +kernel))
  | (refine' nm_free ?N ?hc ?hm ?o ?kk ?x ?d ?d2 ?_; (case x => rfl); (case N => k_asm); (case hc => rfl); (case hm => k_mem); (case o => assumption); (case kk => rfl); (case d => decide +kernel); (case d2 => decide +kernel))
  | (refine' LCgL.ld_global ?lgF ?lgX ?lgT ?lgE ?_; (case lgF => k_asm); (case lgX => k_asm); (case lgT => k_asm); (case lgE => k_is))
  | (refine' LCgL.ld_built ?lgF ?lgX ?lgT ?lgE ?lgB ?lgN ?_; (case lgF => k_asm); (case lgX => k_asm); (case lgT => k_asm); (case lgE => k_is); (case lgB => first | with_reducible exact boot_range | with_reducible exact boot_len | with_reducible exact boot_max | rfl); (case lgN => decide)))))
theorem fsi_list (elts : List Expr) (pos : Pos) (env : Env) (x : Value) : foldedSetIterable (.List elts pos) env x = pure x := rfl
set_option maxHeartbeats 40000000 in
theorem law_ok : PySem.Challenge.rw_ik0212_01.Holds := by
  w_on
  refine holds_law well ?_
  rintro said
  refine holds_open (q := vw) (loose := loos) (Xt := fun s => xlAt vw [] s && recOk [] s) (XP := XL vw []) (Yf := Hook.obs (kmHook mkK.heap_1 asL asK [241, 417])) (Ya := Hook.val (kmHook mkK.heap_1 asL asK [241, 417])) (YP := Hook.says (kmHook mkK.heap_1 asL asK [241, 417])) (N := 22036) left (Hook.of (kmHook mkK.heap_1 asL asK [241, 417])) (Hook.keeps (kmHook mkK.heap_1 asL asK [241, 417])) (fun s e => xl_of s (Bool.and_eq_true_iff.mp e).1) XL.keeps (by rfl) (by rfl) (by rfl) (fun s e => recFacts_of (Bool.and_eq_true_iff.mp e).2) (by rfl) (by first | assumption | decide +kernel) (by decide +kernel) ⟨rfl, rfl, rfl, rfl, rfl, by decide +kernel⟩ ?hw ?hc
  case hw => w_witness2
  case hc =>
  (k_go0)
  rename Top _ _ _ _ _ _ => T1
  rename CodeHd _ (_, _).1 _ => hCb
  rename News _ _ _ _ => N0
  rename Shared => s1
  rename_i wW s0 mg mb G_ Y_ fa_ o_ pm_ doc_ ho_ hg_ Xx_ V_ T_ B_ TE_ TW_ hcd_ ns hs_ hly_ hL_ hr_ hl2_ wa wb lA vsA wc hL2_ ra_ w1_ r0_ hIi hr2_ h63a hcb_ hD_ h1 tk1 wP wO wN hwP hwO hwN X0' X1' K1' F1' l0
  generalize Mine.clo = hCl
  revert wW s0 s1 mg mb fa_ o_ pm_ doc_ ns wa wb lA vsA wc h1 tk1 wP wO wN
  intro wW s0 s1 mg mb G_ Y_ fa_ o_ pm_ doc_ ho_ hg_ hT8 Xx_ V_ T_ B_ TE_ TW_ hT9 hcd_ ns hs_ hL_ wa wb lA vsA wc hL2_ ra_ w1_ r0_ hIi hr2_ h63a hD_ h1 tk1 wP wO wN hwP hwO hwN X0' X1' T1 K1' F1' lifted codeHd hCb N0 l0
  have l01 := l0.1
  have l02 := l0.2
  refine gQE ?_
  rintro Q9 E9 hQ9 hE9
  (repeat ((fail_if_success (with_reducible show wpAny _ _ (call (.ref 380) _) _ _ _)); (first | (k_unfold; (try dsimp only)) | walk1 | (dsimp only; walk1))))
  rename Fr _ _ _ _ => F1
  rename News _ _ _ _ => N1
  rename Below _ _ _ _ => B1
  rename IntsAre _ _ => hI
  rename Frag.In _ _ => X1
  rename ¬ _ < ((List.length _ : Nat) : Int) => h63
  refine items_ok B1 F1 X1 N1 T1 rfl (by decide) (by decide) (.head _) hI (by rw [List.length_take]; lia) ?go
  intro R0 tl0 ws0 h2 tk2 F2 N2 hT0 hlt0
  (try dsimp only)
  have hTm := drawn_menu (List.take 7 ‹List Int›)
  obtain ⟨T, hT⟩ : ∃ T, T = fixed ++ List.map itemOf (List.take 7 ‹List Int›) := ⟨_, rfl⟩
  have hTl : T.length ≤ 12 := by
    rw [hT, List.length_append, List.length_map, List.length_take]
    show 5 + _ ≤ 12
    lia
  have hTf : ∃ U, T = fixed ++ U := ⟨_, hT⟩
  rw [← hT] at hT0 hTm
  have hws := hT0.length
  clear hI h63 hT
  (repeat ((fail_if_success (with_reducible show wpAny _ _ (exec (Stmt.Assign [Expr.Name _ _] (Expr.ListComp _ _ _ _) _) _) _ _ _)); (first | (k_unfold; (try dsimp only)) | walk1 | (dsimp only; walk1))))
  rename Fr _ _ _ _ => F3
  rename News _ _ _ _ => N3
  refine' comp_nm_as (vs := ws0) (k := 0) (fun i ys tl => RowsL tl ys ((T.take i).map rowOf)) F3 N3 ?hm ?hh ?hc ?hv ?hkf ?hz ?hd ?hsw ?hclos ?hcell ?hkind ?hnames ?hxx ?hy ?hp ?hsz ?k0 ?turn ?done
  case k0 => exact .nil
  case hh => (exact rfl)
  case hc => (exact rfl)
  case hv => (rfl)
  case hm => (exact .head _)
  case hkf => (exact rfl)
  case hz => (exact rfl)
  case hd => (decide +kernel)
  case hsw => (with_unfolding_all rfl)
  case hclos => (with_unfolding_all rfl)
  case hcell => (decide)
  case hkind => (rfl)
  case hnames => (decide)
  case hxx => (decide)
  case hy => (rfl)
  case hp => (rfl)
  case hsz => (rw [sizeLine_eq]; lia)
  case turn =>
    intro I i v ys tl oI oC D c k m₂ h tk E' hP hK nO hv F' N' l1 l2 l3 l4 hyl
    obtain ⟨t, ht, hIs⟩ := hT0.get hP
    have hok := menu_ok t (hTm t (List.mem_of_getElem? ht))
    obtain ⟨_, _, _, _, _, _, _, _, rfl, rfl, hin, i1, i2, i3⟩ := tripX hIs
    refine wpAny_tests_nil ?_
    (try k_unfold)
    (try dsimp only)
    (repeat ((fail_if_success (with_reducible show wpAny _ _ (call (.ref 387) _) _ _ _)); (first | (k_unfold; (try dsimp only)) | walk1 | (dsimp only; walk1))))
    refine made_ok B1 F' X1 N' T1 rfl (by decide) (by decide) (by decide) (by decide) i1 i2 i3 hok.a hok.b (Nat.le_trans hok.c (by decide)) hok.d hok.f (.tail _ (.tail _ (.tail _ (List.mem_append_right _ (.tail _ (List.mem_append_left _ hin)))))) ?_
    intro r t1 t2 t3 h5 tk5 F5 N5 l5
    (try dsimp only)
    (repeat ((fail_if_success (with_reducible show EndG _ _ _ _ _ _ _ _ _ _)); (first | (k_unfold; (try dsimp only)) | walk1 | (dsimp only; walk1))))
    refine EndG.intro [_] (by k_asm) (by k_asm) own3 ?_ ?_
    · intro p hp
      rw [List.mem_singleton.mp hp]
      exact l5.1
    · rw [take_snoc ht, List.map_append]
      exact (hK.mono fun p hp => List.mem_append_right _ hp).app (.cons (.mk (.head _)) .nil)
  intro ys1 tl1 D1 k1 h4 tk4 hK1 F4 N4 l4 l5 hyl1
  rw [hws, List.take_length] at hK1
  (try dsimp only)
  (repeat ((fail_if_success (with_reducible show wpAny _ _ (exec (Stmt.Assign [Expr.Name _ _] (Expr.ListComp _ _ _ _) _) _) _ _ _)); (first | (k_unfold; (try dsimp only)) | walk1 | (dsimp only; walk1))))
  rename Fr _ _ _ _ => F6
  rename News _ _ _ _ => N6
  refine' comp_nm_as (vs := ws0) (k := 0) (fun i ys tl => RowsL tl ys ((T.take i).map rowOf)) F6 N6 ?hm2 ?hh2 ?hc2 ?hv2 ?hkf2 ?hz2 ?hd2 ?hsw2 ?hclos2 ?hcell2 ?hkind2 ?hnames2 ?hxx2 ?hy2 ?hp2 ?hsz2 ?k02 ?turn2 ?done2
  case k02 => exact .nil
  case hh2 => (exact rfl)
  case hc2 => (exact rfl)
  case hv2 => (rfl)
  case hm2 => (exact .tail _ (List.mem_append_right _ (.head _)))
  case hkf2 => (exact rfl)
  case hz2 => (exact rfl)
  case hd2 => (decide +kernel)
  case hsw2 => (with_unfolding_all rfl)
  case hclos2 => (with_unfolding_all rfl)
  case hcell2 => (decide)
  case hkind2 => (rfl)
  case hnames2 => (decide)
  case hxx2 => (decide)
  case hy2 => (rfl)
  case hp2 => (rfl)
  case hsz2 => (rw [sizeLine_eq]; lia)
  case turn2 =>
    intro I i v ys tl oI oC D c k m₂ h tk E' hP hK nO hv F' N' l1 l2 l3 l4 hyl
    obtain ⟨t, ht, hIs⟩ := hT0.get hP
    have hok := menu_ok t (hTm t (List.mem_of_getElem? ht))
    obtain ⟨_, _, _, _, _, _, _, _, rfl, rfl, hin, i1, i2, i3⟩ := tripX hIs
    refine wpAny_tests_nil ?_
    (try k_unfold)
    (try dsimp only)
    (repeat ((fail_if_success (with_reducible show wpAny _ _ (call (.ref 394) _) _ _ _)); (first | (k_unfold; (try dsimp only)) | walk1 | (dsimp only; walk1))))
    refine told_ok B1 F' X1 N' T1 rfl (by decide) (by decide) i1 i2 i3 hok.a hok.b hok.g (Nat.le_trans hok.c (by decide)) hok.h hok.d (.tail _ (.tail _ (.tail _ (List.mem_append_right _ (.tail _ (List.mem_append_right _ (.tail _ (List.mem_append_left _ hin)))))))) ?_
    intro r t1 t2 t3 h5 tk5 F5 N5 l5
    (try dsimp only)
    (repeat ((fail_if_success (with_reducible show EndG _ _ _ _ _ _ _ _ _ _)); (first | (k_unfold; (try dsimp only)) | walk1 | (dsimp only; walk1))))
    refine EndG.intro [_] (by k_asm) (by k_asm) own3 ?_ ?_
    · intro p hp
      rw [List.mem_singleton.mp hp]
      exact l5.1
    · rw [take_snoc ht, List.map_append]
      exact (hK.mono fun p hp => List.mem_append_right _ hp).app (.cons (hok.i ▸ .mk (.head _)) .nil)
  intro ys2 tl2 D2 k2 h5 tk5 hK2 F5 N5 l6 l7 hyl2
  rw [hws, List.take_length] at hK2
  (try dsimp only)
  (repeat ((fail_if_success (with_reducible show wpAny _ _ (compareOp _ _ _) _ _ _)); (first | (k_unfold; (try dsimp only)) | walk1 | (dsimp only; walk1))))
  (refine ne_same N5 (.tail _ (List.mem_append_right _ (.head _))) rfl (xs := ys1) rfl hK1.dat (fun p hp => .tail _ (List.mem_append_right _ (.tail _ (List.mem_append_left _ hp)))) (.head _) rfl (ys := ys2) rfl hK2.dat (fun p hp => .tail _ (List.mem_append_left _ hp)) (rows_ok hTm) (by ktr_units) ?_)
  (repeat ((fail_if_success (with_reducible show ite (false = true) _ _)); (first | (k_unfold; (try dsimp only)) | walk1 | (dsimp only; walk1))))
  (rw [if_neg Bool.false_ne_true])
  (repeat ((fail_if_success (with_reducible show wpAny _ _ (eval (Expr.ListComp _ _ _ _) _) _ _ _)); (first | (k_unfold; (try dsimp only)) | walk1 | (dsimp only; walk1))))
  rename Fr _ _ _ _ => F7
  rename News _ _ _ _ => N7
  (refine' comp_listG ?hh9 ?hclos3 ?hcell3 ?hkind3 ?hnames3 ?hxx3 ?hh3 ?hs9)
  case hs9 => (intro x)
              (exact fsi_list _ _ _ _)
  case hh9 => (exact rfl)
  case hclos3 => (with_unfolding_all rfl)
  case hcell3 => (decide)
  case hkind3 => (rfl)
  case hnames3 => (decide)
  case hxx3 => (decide)
  case hh3 =>
  (repeat ((fail_if_success (with_reducible show Exists _)); (first | (k_unfold; (try dsimp only)) | walk1 | (dsimp only; walk1))))
  rename Fr _ _ _ _ => F8
  rename News _ _ _ _ => N8
  (refine ⟨_, _, 0, _, _, fun i ys tl => ys = [Value.bool true, .bool true, .bool true, .bool true, .bool false].take i ∧ tl = [], rfl, F8, N8, .head _, ?sz4, ⟨rfl, rfl⟩, ?turn4, ?done4⟩)
  case sz4 => (show 5 ≤ sizeLine; rw [sizeLine_eq]; decide)
  case turn4 =>
    intro I i v ys tl oI oC D c k m₂ h tk E' hP hK nO hv F' N' l1 l2 l3 l4 hyl
    obtain ⟨rfl, rfl⟩ := hK
    refine wpAny_tests_nil ?_
    (try k_unfold)
    (try dsimp only)
    (repeat ((fail_if_success (with_reducible show wpAny _ _ (call (.ref 415) _) _ _ _)); (first | (k_unfold; (try dsimp only)) | walk1 | (dsimp only; walk1))))
    have h5 : i = 0 ∨ i = 1 ∨ i = 2 ∨ i = 3 ∨ i = 4 := by
      have := (List.getElem?_eq_some_iff.mp hP).1
      simp at this
      lia
    rcases h5 with rfl | rfl | rfl | rfl | rfl
    · obtain rfl := Option.some.inj hP
      refine ref_no B1 F' X1 N' T1 X1 T1 ktsDicts_nil rfl (by show callerA.depth + 1 ≤ 680; decide) (by show callerA.units + 3 ≤ 80; decide) (.inl (.one (by k_mem))) (?_)
      rintro h₀' h4 tk4 kt F10 N10 _ _ _ _
      obtain ⟨F11, N11⟩ := turn_nil kt F10 N10
      exact EndG.intro [] F11 N11 (fun p hp => by simpa using hp) (fun p hp => nomatch hp) ⟨rfl, rfl⟩
    · obtain rfl := Option.some.inj hP
      refine ref_no B1 F' X1 N' T1 X1 T1 ktsDicts_nil rfl (by show callerA.depth + 1 ≤ 680; decide) (by show callerA.units + 3 ≤ 80; decide) (.inl (.three (by k_mem))) (?_)
      rintro h₀' h4 tk4 kt F10 N10 _ _ _ _
      obtain ⟨F11, N11⟩ := turn_nil kt F10 N10
      exact EndG.intro [] F11 N11 (fun p hp => by simpa using hp) (fun p hp => nomatch hp) ⟨rfl, rfl⟩
    · obtain rfl := Option.some.inj hP
      refine ref_no B1 F' X1 N' T1 X1 T1 ktsDicts_nil rfl (by show callerA.depth + 1 ≤ 680; decide) (by show callerA.units + 3 ≤ 80; decide) (.inl (.int _ _)) (?_)
      rintro h₀' h4 tk4 kt F10 N10 _ _ _ _
      obtain ⟨F11, N11⟩ := turn_nil kt F10 N10
      exact EndG.intro [] F11 N11 (fun p hp => by simpa using hp) (fun p hp => nomatch hp) ⟨rfl, rfl⟩
    · obtain rfl := Option.some.inj hP
      refine ref_no B1 F' X1 N' T1 X1 T1 ktsDicts_nil rfl (by show callerA.depth + 1 ≤ 680; decide) (by show callerA.units + 3 ≤ 80; decide) (.inr ⟨_, _, _, _, rfl, by k_mem⟩) (?_)
      rintro h₀' h4 tk4 kt F10 N10 _ _ _ _
      obtain ⟨F11, N11⟩ := turn_nil kt F10 N10
      exact EndG.intro [] F11 N11 (fun p hp => by simpa using hp) (fun p hp => nomatch hp) ⟨rfl, rfl⟩
    · obtain rfl := Option.some.inj hP
      refine ref_yes B1 F' X1 N' T1 X1 T1 ktsDicts_nil rfl (by show callerA.depth + 1 ≤ 680; decide) (by show callerA.units + 3 ≤ 80; decide) ⟨_, _, _, _, rfl, by k_mem⟩ (?_)
      rintro h₀' h4 tk4 kt F10 N10 _ _ _ _
      obtain ⟨F11, N11⟩ := turn_nil kt F10 N10
      exact EndG.intro [] F11 N11 (fun p hp => by simpa using hp) (fun p hp => nomatch hp) ⟨rfl, rfl⟩
  case done4 =>
  intro ys3 tl3 D3 k3 h6 tk6 hK3 F9 N9 l8 l9 hyl3
  obtain ⟨rfl, rfl⟩ := hK3
  (try dsimp only)
  (repeat ((fail_if_success (with_reducible show wpAny _ _ (compareOp _ _ _) _ _ _)); (first | (k_unfold; (try dsimp only)) | walk1 | (dsimp only; walk1))))
  rename News _ _ _ _ => N10
  refine bools_ne N10 (.tail _ (.head _)) (.head _) (by ktr_units) ?_
  (repeat ((fail_if_success (with_reducible show ite (false = true) _ _)); (first | (k_unfold; (try dsimp only)) | walk1 | (dsimp only; walk1))))
  (rw [if_neg Bool.false_ne_true])
  (repeat ((fail_if_success (with_reducible show wpAny _ _ (eval (Expr.ListComp _ _ _ _) _) _ _ _)); (first | (k_unfold; (try dsimp only)) | walk1 | (dsimp only; walk1))))
  rename Fr _ _ _ _ => F11
  rename News _ _ _ _ => N11
  simp only [List.nil_append] at N11
  refine' comp_flat F11 N11 ?hm5 rfl hK2 ?htl5 ?hsz5 rfl ?hv5 rfl ?hz5 ?hd5 ?hclos5 ?hcell5 ?hkind5 ?hnames5 ?hxx5 ?hyy5 ?hxy5 ?hdx5 ?hdy5 ?done5
  case hm5 => (k_mem)
  case htl5 => intro p hp; (repeat (first | exact List.mem_append_left _ hp | refine List.Mem.tail _ ?_))
  case hsz5 => rw [List.length_map]; lia
  case hv5 => (rfl)
  case hz5 => (rfl)
  case hd5 => (decide +kernel)
  case hclos5 => (with_unfolding_all rfl)
  case hcell5 => (decide)
  case hkind5 => (rfl)
  case hnames5 => (decide)
  case hxx5 => (decide)
  case hyy5 => (decide)
  case hxy5 => (decide)
  case hdx5 => (decide +kernel)
  case hdy5 => (decide +kernel)
  intro nms Dn kn h8 tk8 en es8 F12 N12 on8
  (try dsimp only)
  (repeat ((fail_if_success (with_reducible show wpAny _ _ (call (Value.builtin "sorted") _) _ _ _)); (first | (k_unfold; (try dsimp only)) | walk1 | (dsimp only; walk1))))
  have hnl : nms.length = 3 * T.length := by rw [← List.length_map (f := sof), en, flatR_len, List.length_map]
  refine sorted_N_str F12 N12 ⟨_, (N12 _ (.head _)).1, rfl, _, rfl⟩ (strsAre_of es8) (by lia) ?_
  rintro h9 nmv nm9 e9 F13 N13 hS9 hp9 hs9
  (try dsimp only)
  (repeat ((fail_if_success (with_reducible show wpAny _ _ (exec (Stmt.Assign [Expr.Name _ _] (Expr.ListComp _ _ _ _) _) _) _ _ _)); (first | (k_unfold; (try dsimp only)) | walk1 | (dsimp only; walk1))))
  have e1L : @LT.lt Nat _ (s1.heap.objs.size + 1 + 1 + 1) D1 := ktn_ltOf l4 (s1.heap.objs.size + 1 + 1 + 1, wP) (by repeat (first | exact List.Mem.head _ | refine List.Mem.tail _ ?_ | refine List.mem_append_right _ ?_))
  have e2L : @LT.lt Nat _ (s1.heap.objs.size + 1 + 1 + 1) h8.objs.size := Heap.lt_size (N12 (s1.heap.objs.size + 1 + 1 + 1, wP) (by repeat (first | exact List.Mem.head _ | refine List.Mem.tail _ ?_ | refine List.mem_append_right _ ?_))).1
  have N14 : News _ _ h9 ((s1.heap.objs.size + 1, wN) :: (s1.heap.objs.size + 1 + 1, wO) :: (s1.heap.objs.size + 1 + 1 + 1, wP) :: (h8.objs.size + 1, W.listOf nmv.toArray e9) :: (D1, W.listOf ys1.toArray k1) :: (241, tabObj #[]) :: (417, tabObj #[]) :: tl1) := news_c N13 (by repeat (first | exact List.Mem.head _ | refine List.Mem.tail _ ?_ | refine List.mem_append_right _ ?_)) (news_c N13 (by repeat (first | exact List.Mem.head _ | refine List.Mem.tail _ ?_ | refine List.mem_append_right _ ?_)) (news_c N13 (by repeat (first | exact List.Mem.head _ | refine List.Mem.tail _ ?_ | refine List.mem_append_right _ ?_)) (news_c N13 (by repeat (first | exact List.Mem.head _ | refine List.Mem.tail _ ?_ | refine List.mem_append_right _ ?_)) (news_c N13 (by repeat (first | exact List.Mem.head _ | refine List.Mem.tail _ ?_ | refine List.mem_append_right _ ?_)) (news_c N13 (by repeat (first | exact List.Mem.head _ | refine List.Mem.tail _ ?_ | refine List.mem_append_right _ ?_)) (news_c N13 (by repeat (first | exact List.Mem.head _ | refine List.Mem.tail _ ?_ | refine List.mem_append_right _ ?_)) (news_sub N13 fun p hp => (by repeat (first | exact List.mem_append_left _ hp | exact hp | refine List.Mem.tail _ ?_ | refine List.mem_append_right _ ?_)))))))))
  clear N13
  obtain ⟨Nm, eNm⟩ : ∃ Nm, Nm = h8.objs.size + 1 := ⟨_, rfl⟩
  (rw [← eNm] at N14)
  have e3L : @LT.lt Nat _ (s1.heap.objs.size + 1 + 1 + 1) Nm := by rw [eNm]; exact Nat.lt_succ_of_lt e2L
  (refine storeX_C (c := s1.heap.objs.size + 1) (o := wN) F13 N14 rfl (.head ?uN) hwN ?goN)
  case uN =>
    intro p hp
    repeat (rcases List.mem_cons.mp hp with rfl | hp; exact neN (by show ¬ (_ : Nat) = _; lia))
    have := l5 p hp
    exact neN (by show ¬ (_ : Nat) = _; lia)
  case goN =>
  intro h10 oN F15 N15 dN
  (try dsimp only)
  (repeat ((fail_if_success (with_reducible show wpAny _ _ (exec (Stmt.Assign [Expr.Name _ _] (Expr.ListComp _ _ _ _) _) _) _ _ _)); (first | (k_unfold; (try dsimp only)) | walk1 | (dsimp only; walk1))))
  have hnmL : nmv.length ≤ 40 := by
    have e1 := hS9.length
    have e2 := hp9.length_eq
    rw [List.length_map] at e2
    lia
  rw [← eNm] at dN
  (refine wpAny_Assign_Name ?asO (by rfl))
  case asO =>
  (refine' comp_rangeG (L := s1.heap.objs.size) (h₀ := ghostOf s1.heap [(245, 241), (419, 417)]) ?hhA ?hclosA ?hcellA ?hkindA ?hnamesA ?hxA ?hA ?hsA)
  case hhA => (exact rfl)
  case hclosA => (with_unfolding_all rfl)
  case hcellA => (decide)
  case hkindA => (rfl)
  case hnamesA => (decide)
  case hxA => (decide)
  case hsA => intro x; (rfl)
  case hA =>
  (repeat ((fail_if_success (with_reducible show wpAny _ _ (call (Value.builtin "len") _) _ _ _)); (first | (k_unfold; (try dsimp only)) | walk1 | (dsimp only; walk1))))
  (refine len_N N15 (by k_mem) (by lia) ?_)
  (try dsimp only)
  (repeat ((fail_if_success (with_reducible show wpAny _ _ (call (Value.type "range") _) _ _ _)); (first | (k_unfold; (try dsimp only)) | walk1 | (dsimp only; walk1))))
  (refine range1_rows F15 N15 ?_)
  intro h11 tk11 ta1 ta2 ta3 hR11 F16 N16 _
  have hsofA := sof_of hS9
  have hnP : nm9.Perm (namesOf T) := by rw [← flat_names, ← en]; exact hp9
  have hnOk : ∀ x ∈ nm9, NameOk x := fun x hx => names_ok hTm x (hnP.mem_iff.mp hx)
  refine ⟨_, _, _, _, _, nmv.length, _, fun i ys tl => ys.map sof = dd (nm9.take i) ∧ (∀ v ∈ ys, ∃ x t, v = .str x t) ∧ tl = [], rfl, F16, N16, hR11, ?szA, ⟨rfl, (fun v hv => nomatch hv), rfl⟩, ?turnA, ?doneA⟩
  case szA => lia
  case turnA =>
    intro I i v ys tl oI oC D c k m₂ h tk E' hP hK nO hv F' N' l1 l2 l3 l4 hyl
    obtain ⟨hlt, t, rfl⟩ := hP
    obtain ⟨hK1a, hK2a, rfl⟩ := hK
    refine wpAny_tests_one ?_
    rw [List.nil_append] at N'
    obtain ⟨vI, hvI⟩ : ∃ vI, nmv[i]? = some vI := ⟨_, List.getElem?_eq_getElem hlt⟩
    obtain ⟨xI, tI, rfl⟩ := hsofA.2 vI (List.mem_of_getElem? hvI)
    have hnmI : nm9[i]? = some xI := by rw [← hsofA.1, List.getElem?_map, hvI]; rfl
    (repeat ((fail_if_success (with_reducible show wpAny _ _ (subscriptTail _ _ _ _) _ _ _)); (first | (k_unfold; (try dsimp only)) | walk1 | (dsimp only; walk1))))
    (refine item_N (s := ⟨_, _, _, _, _⟩) N' (by k_mem) hvI (by lia) ?_)
    (try dsimp only)
    (repeat ((fail_if_success (with_reducible show wpAny _ _ (subscriptTail _ _ _ _) _ _ _)); (first | (k_unfold; (try dsimp only)) | walk1 | (dsimp only; walk1))))
    (refine slice_N (s := ⟨_, _, _, _, _⟩) F' N' (by k_mem) (by lia) (by lia) ?_)
    intro Ds h12 F17 N17 lS
    (try dsimp only)
    (repeat ((fail_if_success (with_reducible show wpAny _ _ (compareOp _ _ _) _ _ _)); (first | (k_unfold; (try dsimp only)) | walk1 | (dsimp only; walk1))))
    have hIm : xI ∈ nm9 := List.mem_of_getElem? hnmI
    have hsofI : (List.take i nmv).map sof = nm9.take i := by rw [List.map_take, hsofA.1]
    (refine notin_N (s := ⟨_, _, _, _, _⟩) N17 (.head _) (fun v hv => hsofA.2 v (List.mem_of_mem_take hv)) (fun y hy => (hnOk y (by rw [hsofI] at hy; exact List.mem_of_mem_take hy)).ok) (hnOk xI hIm).ok (by ktr_units) ?_)
    rw [hsofI]
    by_cases hin : xI ∈ nm9.take i
    · rw [decide_eq_true hin]
      (repeat ((fail_if_success (with_reducible show EndG _ _ _ _ _ _ _ _ _ _)); (first | (k_unfold; (try dsimp only)) | walk1 | (dsimp only; walk1))))
      refine EndG.intro [] F17 N17 (fun p hp => .tail _ hp) (fun p hp => nomatch hp) ⟨?_, hK2a, rfl⟩
      rw [take_snoc hnmI, dd_snoc, if_pos ((dd_mem _ _).mpr hin)]
      exact hK1a
    · rw [decide_eq_false hin]
      (repeat ((fail_if_success (with_reducible show wpAny _ _ (subscriptTail _ _ _ _) _ _ _)); (first | (k_unfold; (try dsimp only)) | walk1 | (dsimp only; walk1))))
      (refine item_N (s := ⟨_, _, _, _, _⟩) N17 (by k_mem) hvI (by lia) ?_)
      refine EndG.intro [] F17 N17 (fun p hp => .tail _ hp) (fun p hp => nomatch hp) ⟨?_, ?_, rfl⟩
      · rw [take_snoc hnmI, dd_snoc, if_neg (fun q => hin ((dd_mem _ _).mp q)), List.map_append, hK1a]
        rfl
      · intro v hv
        rcases List.mem_append.mp hv with hv | hv
        · exact hK2a v hv
        · rw [List.mem_singleton.mp hv]
          exact ⟨_, _, rfl⟩
  case doneA =>
  rintro ysO tlO Oa kO h13 tk13 ⟨hO1, hO2, rfl⟩ F18 N18 l10 l11 hylO
  rw [show nmv.length = nm9.length from hS9.length, List.take_length] at hO1
  have l10' := ktn_ltOf l10
  have e4L : @LT.lt Nat _ (s1.heap.objs.size + 1 + 1 + 1) Oa := l10' (s1.heap.objs.size + 1 + 1 + 1, wP) (by repeat (first | exact List.Mem.head _ | refine List.Mem.tail _ ?_ | refine List.mem_append_right _ ?_))
  have N19 : News _ _ h13 ((s1.heap.objs.size + 1 + 1, wO) :: (s1.heap.objs.size + 1, oN) :: (s1.heap.objs.size + 1 + 1 + 1, wP) :: (Oa, W.listOf ysO.toArray kO) :: (Nm, W.listOf nmv.toArray e9) :: (D1, W.listOf ys1.toArray k1) :: (241, tabObj #[]) :: (417, tabObj #[]) :: tl1) := news_c N18 (by repeat (first | exact List.Mem.head _ | refine List.Mem.tail _ ?_ | refine List.mem_append_right _ ?_)) (news_c N18 (by repeat (first | exact List.Mem.head _ | refine List.Mem.tail _ ?_ | refine List.mem_append_right _ ?_)) (news_c N18 (by repeat (first | exact List.Mem.head _ | refine List.Mem.tail _ ?_ | refine List.mem_append_right _ ?_)) (news_c N18 (by repeat (first | exact List.Mem.head _ | refine List.Mem.tail _ ?_ | refine List.mem_append_right _ ?_)) (news_c N18 (by repeat (first | exact List.Mem.head _ | refine List.Mem.tail _ ?_ | refine List.mem_append_right _ ?_)) (news_c N18 (by repeat (first | exact List.Mem.head _ | refine List.Mem.tail _ ?_ | refine List.mem_append_right _ ?_)) (news_c N18 (by repeat (first | exact List.Mem.head _ | refine List.Mem.tail _ ?_ | refine List.mem_append_right _ ?_)) (news_c N18 (by repeat (first | exact List.Mem.head _ | refine List.Mem.tail _ ?_ | refine List.mem_append_right _ ?_)) (news_sub N18 fun p hp => (by repeat (first | exact List.mem_append_left _ hp | exact hp | refine List.Mem.tail _ ?_ | refine List.mem_append_right _ ?_))))))))))
  (try dsimp only)
  (refine storeX_C (c := s1.heap.objs.size + 1 + 1) (o := wO) F18 N19 rfl (.head ?uO) hwO ?goO)
  case uO =>
    intro p hp
    repeat (rcases List.mem_cons.mp hp with rfl | hp; exact neN (by show ¬ (_ : Nat) = _; lia))
    have := l5 p hp
    exact neN (by show ¬ (_ : Nat) = _; lia)
  case goO =>
  intro h14 oO F20 N20 dO
  (try dsimp only)
  (repeat ((fail_if_success (with_reducible show wpAny _ _ (exec (Stmt.Assign [Expr.Name _ _] (Expr.ListComp _ _ _ _) _) _) _ _ _)); (first | (k_unfold; (try dsimp only)) | walk1 | (dsimp only; walk1))))
  (refine wpAny_Assign_Name ?asP (by rfl))
  case asP =>
  (refine' comp_listG (L := s1.heap.objs.size) (h₀ := ghostOf s1.heap [(245, 241), (419, 417)]) ?hhB ?hclosB ?hcellB ?hkindB ?hnamesB ?hxB ?hB ?hsB)
  case hhB => (exact rfl)
  case hclosB => (with_unfolding_all rfl)
  case hcellB => (decide)
  case hkindB => (rfl)
  case hnamesB => (decide)
  case hxB => (decide)
  case hsB => intro x; (rfl)
  case hB =>
  (repeat ((fail_if_success (with_reducible show Exists _)); (first | (k_unfold; (try dsimp only)) | walk1 | (dsimp only; walk1))))
  have hyO : ysO.length ≤ 40 := by lia
  refine ⟨_, ysO, kO, _, _, fun i ys tl => IntsAre ys ((ysO.take i).map fun v => ((lvl (sof v) : Nat) : Int)) ∧ tl = [], rfl, F20, N20, by k_mem, ?szB, ⟨.nil, rfl⟩, ?turnP, ?doneP⟩
  case szB => rw [sizeLine_eq]; lia
  case turnP =>
    intro I i v ys tl oI oC D c k m₂ h tk E' hP hK nO hv F' N' l1 l2 l3 l4 hyl
    obtain ⟨hKa, rfl⟩ := hK
    rw [List.nil_append] at N'
    obtain ⟨x, t, rfl⟩ := hO2 v (List.mem_of_getElem? hP)
    refine wpAny_tests_nil ?_
    (try k_unfold)
    (try dsimp only)
    have hxO : NameOk x := hnOk x (by
      rw [← dd_mem, ← hO1]
      exact List.mem_map.mpr ⟨_, List.mem_of_getElem? hP, rfl⟩)
    (repeat ((fail_if_success (with_reducible show wpAny _ _ (call (Value.builtin "str.partition") _) _ _ _)); (first | (k_unfold; (try dsimp only)) | walk1 | (dsimp only; walk1))))
    (refine partitionN F' N' rfl ?_ (by have := hxO.len; rw [sizeLine_eq]; lia))
    intro ta tb tc h15 tk15 F21 N21
    (try dsimp only)
    (repeat ((fail_if_success (with_reducible show wpAny _ _ (call (Value.builtin "str.split") _) _ _ _)); (first | (k_unfold; (try dsimp only)) | walk1 | (dsimp only; walk1))))
    (refine splitN1 F21 N21 rfl ?_ (by have := hxO.hd; rw [sizeLine_eq]; lia))
    intro ls h16 tk16 els F22 N22
    (try dsimp only)
    (repeat ((fail_if_success (with_reducible show wpAny _ _ (call (Value.builtin "len") _) _ _ _)); (first | (k_unfold; (try dsimp only)) | walk1 | (dsimp only; walk1))))
    have elv : (strValues ls).length = (Txt.split (Txt.partition x "@").1 ".").length := by
      rw [← els]
      unfold strValues
      simp
    (refine len_N N22 (vs := strValues ls) (k := 0) (.head _) (by have := hxO.sp; lia) ?_)
    (try dsimp only)
    (repeat ((fail_if_success (with_reducible show EndG _ _ _ _ _ _ _ _ _ _)); (first | (k_unfold; (try dsimp only)) | walk1 | (dsimp only; walk1))))
    · refine EndG.intro [] F22 N22 (fun p hp => .tail _ (.tail _ hp)) (fun p hp => nomatch hp) ⟨?_, rfl⟩
      rw [take_snoc hP, List.map_append, elv, hxO.at0 (by assumption)]
      exact hKa.append (.cons _ _ .nil)
    · (repeat ((fail_if_success (with_reducible show EndG _ _ _ _ _ _ _ _ _ _)); (first | (k_unfold; (try dsimp only)) | walk1 | (dsimp only; walk1))))
      refine EndG.intro [] F22 N22 (fun p hp => .tail _ (.tail _ hp)) (fun p hp => nomatch hp) ⟨?_, rfl⟩
      rw [take_snoc hP, List.map_append, elv, hxO.at1 (by assumption)]
      exact hKa.append (.cons _ _ .nil)
  case doneP =>
  rintro ysP tlP Pa kP h17 tk17 ⟨hP1, rfl⟩ F23 N23 l12 l13 hylP
  rw [List.take_length] at hP1
  have l12' := ktn_ltOf l12
  have e5L : @LT.lt Nat _ (s1.heap.objs.size + 1 + 1 + 1) Pa := l12' (s1.heap.objs.size + 1 + 1 + 1, wP) (by repeat (first | exact List.Mem.head _ | refine List.Mem.tail _ ?_ | refine List.mem_append_right _ ?_))
  have N24 : News _ _ h17 ((s1.heap.objs.size + 1 + 1 + 1, wP) :: (s1.heap.objs.size + 1, oN) :: (s1.heap.objs.size + 1 + 1, oO) :: (Pa, W.listOf ysP.toArray kP) :: (Oa, W.listOf ysO.toArray kO) :: (Nm, W.listOf nmv.toArray e9) :: (D1, W.listOf ys1.toArray k1) :: (241, tabObj #[]) :: (417, tabObj #[]) :: tl1) := news_c N23 (by repeat (first | exact List.Mem.head _ | refine List.Mem.tail _ ?_ | refine List.mem_append_right _ ?_)) (news_c N23 (by repeat (first | exact List.Mem.head _ | refine List.Mem.tail _ ?_ | refine List.mem_append_right _ ?_)) (news_c N23 (by repeat (first | exact List.Mem.head _ | refine List.Mem.tail _ ?_ | refine List.mem_append_right _ ?_)) (news_c N23 (by repeat (first | exact List.Mem.head _ | refine List.Mem.tail _ ?_ | refine List.mem_append_right _ ?_)) (news_c N23 (by repeat (first | exact List.Mem.head _ | refine List.Mem.tail _ ?_ | refine List.mem_append_right _ ?_)) (news_c N23 (by repeat (first | exact List.Mem.head _ | refine List.Mem.tail _ ?_ | refine List.mem_append_right _ ?_)) (news_c N23 (by repeat (first | exact List.Mem.head _ | refine List.Mem.tail _ ?_ | refine List.mem_append_right _ ?_)) (news_c N23 (by repeat (first | exact List.Mem.head _ | refine List.Mem.tail _ ?_ | refine List.mem_append_right _ ?_)) (news_c N23 (by repeat (first | exact List.Mem.head _ | refine List.Mem.tail _ ?_ | refine List.mem_append_right _ ?_)) (news_sub N23 fun p hp => (by repeat (first | exact List.mem_append_left _ hp | exact hp | refine List.Mem.tail _ ?_ | refine List.mem_append_right _ ?_)))))))))))
  (try dsimp only)
  (refine storeX_C (c := s1.heap.objs.size + 1 + 1 + 1) (o := wP) F23 N24 rfl (.head ?uP) hwP ?goP)
  case uP =>
    intro p hp
    repeat (rcases List.mem_cons.mp hp with rfl | hp; exact neN (by show ¬ (_ : Nat) = _; lia))
    have := l5 p hp
    exact neN (by show ¬ (_ : Nat) = _; lia)
  case goP =>
  intro h18 oP F25 N25 dP
  (try dsimp only)
  (repeat ((fail_if_success (with_reducible show wpAny _ _ (eval (Expr.Lambda _ _ _ _) _) _ _ _)); (first | (k_unfold; (try dsimp only)) | walk1 | (dsimp only; walk1))))
  have hl241 : @LT.lt Nat _ 241 s1.heap.objs.size := l0.1
  have hl417 : @LT.lt Nat _ 417 s1.heap.objs.size := l0.2
  have N26 : News _ _ h18 ((417, tabObj #[]) :: (s1.heap.objs.size + 1, oN) :: (s1.heap.objs.size + 1 + 1, oO) :: (s1.heap.objs.size + 1 + 1 + 1, oP) :: (Pa, W.listOf ysP.toArray kP) :: (Oa, W.listOf ysO.toArray kO) :: (Nm, W.listOf nmv.toArray e9) :: (D1, W.listOf ys1.toArray k1) :: (241, tabObj #[]) :: tl1) := news_c N25 (by repeat (first | exact List.Mem.head _ | refine List.Mem.tail _ ?_ | refine List.mem_append_right _ ?_)) (news_c N25 (by repeat (first | exact List.Mem.head _ | refine List.Mem.tail _ ?_ | refine List.mem_append_right _ ?_)) (news_c N25 (by repeat (first | exact List.Mem.head _ | refine List.Mem.tail _ ?_ | refine List.mem_append_right _ ?_)) (news_c N25 (by repeat (first | exact List.Mem.head _ | refine List.Mem.tail _ ?_ | refine List.mem_append_right _ ?_)) (news_c N25 (by repeat (first | exact List.Mem.head _ | refine List.Mem.tail _ ?_ | refine List.mem_append_right _ ?_)) (news_c N25 (by repeat (first | exact List.Mem.head _ | refine List.Mem.tail _ ?_ | refine List.mem_append_right _ ?_)) (news_c N25 (by repeat (first | exact List.Mem.head _ | refine List.Mem.tail _ ?_ | refine List.mem_append_right _ ?_)) (news_c N25 (by repeat (first | exact List.Mem.head _ | refine List.Mem.tail _ ?_ | refine List.mem_append_right _ ?_)) (news_c N25 (by repeat (first | exact List.Mem.head _ | refine List.Mem.tail _ ?_ | refine List.mem_append_right _ ?_)) (news_sub N25 fun p hp => (by repeat (first | exact List.mem_append_left _ hp | exact hp | refine List.Mem.tail _ ?_ | refine List.mem_append_right _ ?_)))))))))))
  clear N25
  (refine kla_eval (by exact rfl) ?_)
  (refine kla_nest F25 N26 T1 hCb (by exact rfl) (.head ?uL) (by kn_triples) (by kn_among) (by exact rfl) ?_)
  case uL =>
    intro p hp
    repeat (rcases List.mem_cons.mp hp with rfl | hp; exact neN (by show ¬ (_ : Nat) = _; lia))
    have := l5 p hp
    exact neN (by show ¬ (_ : Nat) = _; lia)
  intro fL cL ocL vsL tL ctL h19 tk19 F27 N27 d1L d2L l14 l15
  (try dsimp only)
  (repeat ((fail_if_success (with_reducible show wpAny _ _ (call (Value.ref _) _) _ _ _)); (first | (k_unfold; (try dsimp only)) | walk1 | (dsimp only; walk1))))
  obtain ⟨K27, eK27, N28⟩ : ∃ K27, K27 = _ ∧ News _ _ h19 K27 := ⟨_, rfl, N27⟩
  clear N27
  (refine red_ok B1 F27 X1 N28 T1 rfl ?hdR ?huR (l := Nm) (vs := nmv) (n := e9) (by rw [eK27]; k_mem) (fun i acc nx => nx = K27 ∧ ∃ t, acc = .str (joinS (nm9.take i)) t) ⟨rfl, _, rfl⟩ ?hFR ?hisR ?hmR ?stepR ?retR)
  case hdR => show callerA.depth + 1 ≤ 680; decide
  case huR => show callerA.units + 3 ≤ 80; decide
  case hFR =>
    rintro i acc nx h' ⟨rfl, _⟩ _ hN
    exact ⟨_, _, _, _, hN (fL, _) (by rw [eK27]; exact .head _)⟩
  case hisR =>
    intro A Q E s' _ _ hq
    exact wpAny_is_other rfl (by intro q; cases q) hq
  case hmR =>
    rintro i acc nx ⟨rfl, _⟩
    rw [eK27]
    k_mem
  case stepR =>
    rintro i v acc nx I oI g L1 m1 cn1 cs1 a1 cd1 h tk Q' E' hi ⟨rfl, t, rfl⟩ hI B2 X2 T2 F29 N29 hk1 hret1
    obtain ⟨x, u, rfl⟩ := hsofA.2 v (List.mem_of_getElem? hi)
    have hnx : nm9[i]? = some x := by rw [← hsofA.1, List.getElem?_map, hi]; rfl
    have hjl : (joinS (nm9.take i)).length ≤ 65 * 40 := Nat.le_trans (joinS_len _ fun y hy => (hnOk y (List.mem_of_mem_take hy)).len) (Nat.mul_le_mul_left _ (by rw [List.length_take]; have := hS9.length; lia))
    have hxl := (hnOk x (List.mem_of_getElem? hnx)).len
    rw [eK27] at N29
    refine wpAny_call ?_
    (refine' kla_code ?k1 ?k2 ?k3 ?k4 ?k5 ?kA ?kF ?kK ?k6 ?k7 ?k8 ?k9 ?kB ?_ ?c2 ?c3 ?c4 ?c5; (case kA => exact rfl); (case kF => exact rfl); (case kK => exact hk1); (case k1 => k_asm); (case k2 => k_asm); (case k3 => k_asm); (case k4 => k_asm); (case k5 => k_asm); (case k6 => k_mem); (case k7 => exact codeRec_news (by k_asm) (by k_mem) (by assumption) (by assumption)); (case k8 => k_room); (case k9 => exact rfl); (case c5 => decide); (case kB => exact locs rfl); (case c2 => exact rfl); (case c3 => exact rfl); (case c4 => exact rfl); k_whole; intro g' L' h' FG' F' N' B' X' T'; (try dsimp only); (try k_lift B'))
    (repeat ((fail_if_success (with_reducible show wpAny _ _ (binaryOp _ _ _) _ _ _)); (first | (k_unfold; (try dsimp only)) | walk1 | (dsimp only; walk1))))
    refine add_str ?_ (by rw [sizeLine_eq]; lia)
    rintro t1 tk1
    (try dsimp only)
    (repeat ((fail_if_success (with_reducible show wpAny _ _ (binaryOp _ _ _) _ _ _)); (first | (k_unfold; (try dsimp only)) | walk1 | (dsimp only; walk1))))
    refine add_str (fun t2 tk2 => ?_) (by rw [len_app, sizeLine_eq]; have : (Str.ofString " ").length = 1 := (by decide); lia)
    (try dsimp only)
    (repeat ((first | (k_unfold; (try dsimp only)) | walk1 | (dsimp only; walk1))))
    rename Fr g L1 _ _ => F31
    rename News g L1 _ _ => N31
    exact hret1 _ nx _ _ ⟨rfl, t2, by rw [take_snoc hnx, joinS_snoc]⟩ hI F31 (by rw [eK27]; exact N31)
  case retR =>
  rintro acc nx h20 tk20 ⟨rfl, tJ, rfl⟩ F30 N30
  obtain ⟨psL, hpsL⟩ : ∃ psL, ((417 : Addr), tabObj psL) ∈ nx := ⟨_, by rw [eK27]; exact .tail _ (.tail _ (.head _))⟩
  rw [show nmv.length = nm9.length from hS9.length, List.take_length]
  (try dsimp only)
  rw [eK27] at N30
  (repeat ((fail_if_success (with_reducible show wpAny _ _ (eval (Expr.ListComp _ _ _ _) _) _ _ _)); (first | (k_unfold; (try dsimp only)) | walk1 | (dsimp only; walk1))))
  (refine' comp_listG (L := s1.heap.objs.size) (h₀ := ghostOf s1.heap [(245, 241), (419, 417)]) ?hhC ?hclosC ?hcellC ?hkindC ?hnamesC ?hxC ?hC ?hsC)
  case hhC => (exact rfl)
  case hclosC => (with_unfolding_all rfl)
  case hcellC => (decide)
  case hkindC => (rfl)
  case hnamesC => (decide)
  case hxC => (decide)
  case hsC => intro x; (rfl)
  case hC =>
  (repeat ((fail_if_success (with_reducible show Exists _)); (first | (k_unfold; (try dsimp only)) | walk1 | (dsimp only; walk1))))
  rename Fr _ _ _ _ => F32
  rename News _ _ _ _ => N32
  refine ⟨_, nmv, e9, _, _, fun i ys tl => StrsAre ys ((nm9.take i).map fun x => x ++ Str.ofString " ") ∧ tl = [], rfl, F32, N32, by k_mem, ?szC, ⟨.nil, rfl⟩, ?turnC, ?doneC⟩
  case szC => rw [sizeLine_eq]; lia
  case turnC =>
    intro I i v ys tl oI oC D c k m₂ h tk E' hP hK nO hv F' N' l1 l2 l3 l4 hyl
    obtain ⟨hKa, rfl⟩ := hK
    rw [List.nil_append] at N'
    obtain ⟨x, t, rfl⟩ := hsofA.2 v (List.mem_of_getElem? hP)
    have hnx : nm9[i]? = some x := by rw [← hsofA.1, List.getElem?_map, hP]; rfl
    have hxl := (hnOk x (List.mem_of_getElem? hnx)).len
    refine wpAny_tests_nil ?_
    (try k_unfold)
    (try dsimp only)
    (repeat ((fail_if_success (with_reducible show wpAny _ _ (binaryOp _ _ _) _ _ _)); (first | (k_unfold; (try dsimp only)) | walk1 | (dsimp only; walk1))))
    refine add_str (fun t2 tk2 => ?_) (by rw [sizeLine_eq]; have : (Str.ofString " ").length = 1 := (by decide); lia)
    (try dsimp only)
    (repeat ((fail_if_success (with_reducible show EndG _ _ _ _ _ _ _ _ _ _)); (first | (k_unfold; (try dsimp only)) | walk1 | (dsimp only; walk1))))
    refine EndG.intro [] F' N' (fun p hp => hp) (fun p hp => nomatch hp) ⟨?_, rfl⟩
    rw [take_snoc hnx, List.map_append]
    exact strs_snoc hKa _ _
  case doneC =>
  rintro ysJ tlJ Ja kJ h21 tk21 ⟨hJ1, rfl⟩ F33 N33 l16 l17 hylJ
  rw [show nmv.length = nm9.length from hS9.length, List.take_length] at hJ1
  (try dsimp only)
  (repeat ((fail_if_success (with_reducible show wpAny _ _ (call _ _) _ _ _)); (first | (k_unfold; (try dsimp only)) | walk1 | (dsimp only; walk1))))
  have hJl : ∀ x ∈ nm9.map (fun x => x ++ Str.ofString " "), x.length ≤ 65 := fun x hx => by
    obtain ⟨y, hy, rfl⟩ := List.mem_map.mp hx
    have := (hnOk y hy).len
    have h1 : (Str.ofString " ").length = 1 := by decide
    rw [len_app, h1]
    lia
  (refine join_list (items := ysJ.toArray) ⟨_, (N33 _ (.head _)).1, rfl, kJ, rfl⟩ hJ1 (by
    have h1 := sum_len _ hJl
    rw [List.length_map] at h1 ⊢
    have h2 : (Str.ofString "").length = 0 := by decide
    have := hS9.length
    rw [h2]
    lia) ?_)
  rintro t3 tk3
  rw [join_S]
  (try dsimp only)
  (repeat ((fail_if_success (with_reducible show wpAny _ _ (compareOp _ _ _) _ _ _)); (first | (k_unfold; (try dsimp only)) | walk1 | (dsimp only; walk1))))
  refine PyProof.Rows.ne_str ?_
  rw [bne_self_eq_false]
  (repeat ((fail_if_success (with_reducible show ite (false = true) _ _)); (first | (k_unfold; (try dsimp only)) | walk1 | (dsimp only; walk1))))
  (rw [if_neg Bool.false_ne_true])
  (repeat ((fail_if_success (with_reducible show wpAny _ _ (eval (Expr.ListComp _ _ _ _) _) _ _ _)); (first | (k_unfold; (try dsimp only)) | walk1 | (dsimp only; walk1))))
  rw [List.nil_append, ← eK27] at N33
  have N33b : News _ _ h21 nx := news_sub N33 fun p hp => .tail _ hp
  have N34 : News _ _ h21 ((417, tabObj psL) :: (s1.heap.objs.size + 1, oN) :: (s1.heap.objs.size + 1 + 1, oO) :: (s1.heap.objs.size + 1 + 1 + 1, oP) :: (Pa, W.listOf ysP.toArray kP) :: (Oa, W.listOf ysO.toArray kO) :: (D1, W.listOf ys1.toArray k1) :: (241, tabObj #[]) :: tl1) := news_c N33b hpsL (news_c N33b (by rw [eK27]; repeat (first | exact List.Mem.head _ | refine List.Mem.tail _ ?_ | refine List.mem_append_right _ ?_)) (news_c N33b (by rw [eK27]; repeat (first | exact List.Mem.head _ | refine List.Mem.tail _ ?_ | refine List.mem_append_right _ ?_)) (news_c N33b (by rw [eK27]; repeat (first | exact List.Mem.head _ | refine List.Mem.tail _ ?_ | refine List.mem_append_right _ ?_)) (news_c N33b (by rw [eK27]; repeat (first | exact List.Mem.head _ | refine List.Mem.tail _ ?_ | refine List.mem_append_right _ ?_)) (news_c N33b (by rw [eK27]; repeat (first | exact List.Mem.head _ | refine List.Mem.tail _ ?_ | refine List.mem_append_right _ ?_)) (news_c N33b (by rw [eK27]; repeat (first | exact List.Mem.head _ | refine List.Mem.tail _ ?_ | refine List.mem_append_right _ ?_)) (news_c N33b (by rw [eK27]; repeat (first | exact List.Mem.head _ | refine List.Mem.tail _ ?_ | refine List.mem_append_right _ ?_)) (news_sub N33b fun p hp => (by rw [eK27]; repeat (first | exact hp | refine List.Mem.tail _ ?_))))))))))
  obtain ⟨K34, eK34, N35⟩ : ∃ K, K = _ ∧ News _ _ h21 K := ⟨_, rfl, N34⟩
  clear N34
  (refine' comp2_nm (vs := ys1) (k := k1) (fun i ys nx => (∀ p ∈ K34, p ∈ nx) ∧ StepsL nx ys (pairsOf (T.take i)) ∧ i ≤ T.length) F33 N35 ?hm6 ?hh6 ?hc6 ?hv6 ?hkf6 ?hz6 ?hd6 ?hclos6 ?hcell6 ?hkind6 ?hnames6 ?hxx6 ?hyy6 ?hxy6 ?hs6 ?j06 ?turn6 ?done6)
  case hm6 => rw [eK34]; (k_mem)
  case hh6 => (exact rfl)
  case hc6 => (exact rfl)
  case hv6 => (rfl)
  case hkf6 => (exact rfl)
  case hz6 => (exact rfl)
  case hd6 => (decide +kernel)
  case hclos6 => (with_unfolding_all rfl)
  case hcell6 => (decide)
  case hkind6 => (rfl)
  case hnames6 => (decide)
  case hxx6 => (decide)
  case hyy6 => (decide)
  case hxy6 => (decide)
  case hs6 => intro _ _; (rfl)
  case j06 => exact ⟨fun p hp => hp, .nil, Nat.zero_le _⟩
  case turn6 =>
    rintro i v ys nx I oI oC D c k₁ m₂ h tk E' hP ⟨hA1, hA2, hA3⟩ hl nO hv2 F' N' n1 n2 n3 o1 o2 o3
    clear hCl
    obtain ⟨r, hri, hR⟩ := hK1.get hP
    (repeat ((fail_if_success (with_reducible show wpAny _ _ (call (Value.type "range") _) _ _ _)); (first | (k_unfold; (try dsimp only)) | walk1 | (dsimp only; walk1))))
    (refine range1_rows F' N' ?_)
    intro h23 tk23 tb1 tb2 tb3 hR23 F37 N37 _
    obtain ⟨tt, htt, rfl⟩ : ∃ tt, T[i]? = some tt ∧ rowOf tt = r := by
      rw [List.getElem?_map] at hri
      exact Option.map_eq_some_iff.mp hri
    obtain ⟨ra, rx1, rx2, rx3, rn, hrow, rfl⟩ : ∃ ra x1 x2 x3 n, (ra, W.listOf #[.str (nm0 tt.1) x1, .str (nm1 tt.1 tt.2.1) x2, .str (nm2 tt.1 tt.2.1 tt.2.2) x3] n) ∈ tl1 ∧ v = .ref ra := by
      cases hR with
      | mk h => exact ⟨_, _, _, _, _, h, rfl⟩
    have hrx : (ra, W.listOf #[.str (nm0 tt.1) rx1, .str (nm1 tt.1 tt.2.1) rx2, .str (nm2 tt.1 tt.2.1 tt.2.2) rx3] rn) ∈ nx := hA1 _ (by rw [eK34]; simp only [List.mem_cons, hrow, or_true])
    have hiT := (List.getElem?_eq_some_iff.mp htt).1
    have hA4 := hA2.length
    rw [pairs_len, List.length_take] at hA4
    have N37x : News _ _ h23 nx := fun p hp => N37 p (.tail _ (.tail _ (.tail _ hp)))
    (refine wpAny_pyIter_range hR23 (by decide) ⟨rfl, rfl, rfl, h23.objs.size, { cls := .type "range_iterator", data := .fields #[rawInt 0, rawInt ((2 : Nat) : Int), rawInt 1] }, 2, _, [], _, nx, fun i2 ys2 nx3 => (∀ p ∈ nx, p ∈ nx3) ∧ StepsL nx3 ys2 (pairsOf (T.take i) ++ [(nm0 tt.1, nm1 tt.1 tt.2.1), (nm1 tt.1 tt.2.1, nm2 tt.1 tt.2.1 tt.2.2)].take i2) ∧ i2 ≤ 2, rfl, Src.range rfl 2, F37.push _, ?np, rfl, (fun p hp => nomatch hp), ?off, ?q1, ?q2, ?q3, ⟨fun p hp => hp, by rw [List.take_zero, List.append_nil]; exact hA2, by lia⟩, ?klen, ?kend, ?tr2⟩)
    case np =>
      intro p hp
      have hpu := push_news F37 N37 ({ cls := .type "range_iterator", data := .fields #[rawInt 0, rawInt ((2 : Nat) : Int), rawInt 1] } : Obj)
      rcases List.mem_cons.mp hp with rfl | hp
      · exact hpu _ (.tail _ (.head _))
      · rcases List.mem_cons.mp hp with rfl | hp
        · exact hpu _ (.tail _ (.tail _ (.head _)))
        · rcases List.mem_cons.mp hp with rfl | hp
          · exact hpu _ (.tail _ (.tail _ (.tail _ (.head _))))
          · rcases List.mem_cons.mp hp with rfl | hp
            · exact hpu _ (.head _)
            · exact hpu _ (.tail _ (.tail _ (.tail _ (.tail _ hp))))
    case off => exact fun p hp => ⟨o1 p hp, o2 p hp, o3 p hp, Nat.ne_of_lt (Heap.lt_size (N37x p hp).1)⟩
    case q1 => exact Nat.ne_of_gt (Heap.lt_size (N37 _ (.head _)).1)
    case q2 => exact Nat.ne_of_gt (Heap.lt_size (N37 _ (.tail _ (.head _))).1)
    case q3 => exact Nat.ne_of_gt (Heap.lt_size (N37 _ (.tail _ (.tail _ (.head _)))).1)
    case klen =>
      rintro i2 ys2 nx3 ⟨_, hS, h3⟩
      have := hS.length
      rw [List.length_append, pairs_len, List.length_take, List.length_take] at this
      rw [sizeLine_eq, this]
      lia
    case kend =>
      rintro ys2 nx3 ⟨hB1, hB2, _⟩
      refine ⟨fun p hp => hB1 _ (by rw [List.mem_singleton.mp hp]; exact hl), fun p hp => hB1 p (hA1 p hp), ?_, by lia⟩
      rw [take_snoc htt, pairs_snoc]
      exact hB2
    case tr2 =>
      rintro i2 v2 ys2 nx3 oJ oC' m₃ k2 h' tk' E'' hlt ⟨t2, rfl⟩ ⟨hB1, hB2, hB3⟩ hC3 nO3 hy3 hx3 F3 N3 off
      have hi2 : i2 = 0 ∨ i2 = 1 := by lia
      have hrx3 := hB1 _ hrx
      rcases hi2 with rfl | rfl
      · (repeat ((fail_if_success (with_reducible show wpAny _ _ (subscriptTail _ _ _ _) _ _ _)); (first | (k_unfold; (try dsimp only)) | walk1 | (dsimp only; walk1))))
        (refine item_list (s := ⟨_, _, _, _, _⟩) (x := .str (nm0 tt.1) rx1) ⟨_, (N3 _ (.tail _ (.tail _ (.tail _ (.tail _ hrx3))))).1, rfl, rn, rfl⟩ (by decide) (by decide) rfl ?_)
        (try dsimp only)
        (repeat ((fail_if_success (with_reducible show wpAny _ _ (subscriptTail _ _ _ _) _ _ _)); (first | (k_unfold; (try dsimp only)) | walk1 | (dsimp only; walk1))))
        (refine item_list (s := ⟨_, _, _, _, _⟩) (x := .str (nm1 tt.1 tt.2.1) rx2) ⟨_, (N3 _ (.tail _ (.tail _ (.tail _ (.tail _ hrx3))))).1, rfl, rn, rfl⟩ (by decide) (by decide) rfl ?_)
        (try dsimp only)
        (repeat ((fail_if_success (with_reducible show CompEnd _ _ _ _ _ _ _ _)); (first | (k_unfold; (try dsimp only)) | walk1 | (dsimp only; walk1))))
        rename Fr _ _ _ _ => F40
        rename News _ _ _ _ => N40
        rename _ ∧ _ ∧ _ ∧ _ ∧ _ => lT
        obtain ⟨la, lb, lc, ld, _⟩ := lT
        exact steps_end F40 N40 la lb lc ld off hB1 hB2 rfl (by lia)
      · (repeat ((fail_if_success (with_reducible show wpAny _ _ (subscriptTail _ _ _ _) _ _ _)); (first | (k_unfold; (try dsimp only)) | walk1 | (dsimp only; walk1))))
        (refine item_list (s := ⟨_, _, _, _, _⟩) (x := .str (nm1 tt.1 tt.2.1) rx2) ⟨_, (N3 _ (.tail _ (.tail _ (.tail _ (.tail _ hrx3))))).1, rfl, rn, rfl⟩ (by decide) (by decide) rfl ?_)
        (try dsimp only)
        (repeat ((fail_if_success (with_reducible show wpAny _ _ (subscriptTail _ _ _ _) _ _ _)); (first | (k_unfold; (try dsimp only)) | walk1 | (dsimp only; walk1))))
        (refine item_list (s := ⟨_, _, _, _, _⟩) (x := .str (nm2 tt.1 tt.2.1 tt.2.2) rx3) ⟨_, (N3 _ (.tail _ (.tail _ (.tail _ (.tail _ hrx3))))).1, rfl, rn, rfl⟩ (by decide) (by decide) rfl ?_)
        (try dsimp only)
        (repeat ((fail_if_success (with_reducible show CompEnd _ _ _ _ _ _ _ _)); (first | (k_unfold; (try dsimp only)) | walk1 | (dsimp only; walk1))))
        rename Fr _ _ _ _ => F40
        rename News _ _ _ _ => N40
        rename _ ∧ _ ∧ _ ∧ _ ∧ _ => lT
        obtain ⟨la, lb, lc, ld, _⟩ := lT
        exact steps_end F40 N40 la lb lc ld off hB1 hB2 rfl (by lia)
  case done6 =>
  rintro ysS nxS Sa kS h22 tk22 ⟨hS1, hS2, _⟩ F36 N36 oS
  (try dsimp only)
  (repeat ((fail_if_success (with_reducible show wpAny _ _ (call (.ref 408) _) _ _ _)); (first | (k_unfold; (try dsimp only)) | walk1 | (dsimp only; walk1))))
  rw [show ys1.length = T.length from by rw [hK1.length, List.length_map], List.take_length] at hS2
  obtain ⟨ts, rfl, hts⟩ := hS2.refs
  have htsl : ts.length = (pairsOf T).length := by have := hS2.length; rw [List.length_map] at this; exact this
  have hlr := law_rounds hTm hTf hTl
  have hRR : ∀ p ∈ [((s1.heap.objs.size + 1 + 1 : Nat), oO), ((s1.heap.objs.size + 1 + 1 + 1 : Nat), oP), (Pa, W.listOf ysP.toArray kP), (Oa, W.listOf ysO.toArray kO), ((417 : Nat), tabObj psL)], p ∈ (Sa, W.listOf (List.map Value.ref ts).toArray kS) :: nxS ∧ p.1 ≠ (nat_lit 241 : Nat) ∧ (¬ IsTab p.2 ∨ @LE.le Nat _ p.1 419) := by
    intro p hp
    refine ⟨.tail _ (hS1 p (by rw [eK34]; simp only [List.mem_cons, List.not_mem_nil, or_false] at hp ⊢; rcases hp with h | h | h | h | h <;> simp only [h, true_or, or_true])), ?_⟩
    simp only [List.mem_cons, List.not_mem_nil, or_false] at hp
    rcases hp with rfl | rfl | rfl | rfl | rfl
    · exact ⟨neN (by show ¬ (s1.heap.objs.size + 1 + 1 : Nat) = 241; lia), .inl (by rintro ⟨vs, e, _⟩; have e' : oO = tabObj vs := e; rw [e'] at dO; cases dO)⟩
    · exact ⟨neN (by show ¬ (s1.heap.objs.size + 1 + 1 + 1 : Nat) = 241; lia), .inl (by rintro ⟨vs, e, _⟩; have e' : oP = tabObj vs := e; rw [e'] at dP; cases dP)⟩
    · exact ⟨neN (show @Ne Nat Pa 241 by lia), .inl (by rintro ⟨vs, e, _⟩; cases e)⟩
    · exact ⟨neN (show @Ne Nat Oa 241 by lia), .inl (by rintro ⟨vs, e, _⟩; cases e)⟩
    · exact ⟨(show @Ne Nat 417 241 by decide), .inr (show @LE.le Nat _ 417 419 by decide)⟩
  (refine lr_ok B1 F36 X1 N36 T1 X1 T1 ktsDicts_nil rfl (by show callerA.depth + 1 ≤ 660; decide) (by show callerA.units + 3 ≤ 60; decide) (Lb := 419) (pairs := pairsOf T) (stp := Sa) (ts := ts) (n0 := kS) lvl codeHd ?hLb (by decide) ?hT0 (.head _) htsl ?hle ?hsp hRR hlr.1 hlr.2.1 hlr.2.2.1 hlr.2.2.2.1 ?hret7)
  case hLb => obtain ⟨o, _, _, _, _, _, _, _, _, h, _⟩ := hCb; exact ⟨o, h⟩
  case hT0 => exact ⟨#[], .tail _ (hS1 _ (by rw [eK34]; repeat (first | exact List.Mem.head _ | refine List.Mem.tail _ ?_ | refine List.mem_append_right _ ?_))), trivial, fun v h => nomatch h⟩
  case hle => rw [pairs_len]; lia
  case hsp =>
    intro i t hi
    obtain ⟨x, y, tx, ty, k, a1, a2⟩ := hts i t hi
    exact ⟨x, y, tx, ty, k, a1, .tail _ a2⟩
  case hret7 =>
  rintro h0' h24 tk24 own R nR As kt F41 N41 hEK hCT hAl hAs _ _ _ _
  clear hCl
  obtain ⟨F42, N42⟩ := turn_nil kt F41 N41
  (try dsimp only)
  clear N36 F36 N35 F33 N33 N33b N28 F27
  have hEKc : ((s1.heap.objs.size + 1 + 1 : Nat), oO) ∈ own := hEK _ (ek_rest (by repeat (first | exact List.Mem.head _ | refine List.Mem.tail _ ?_ | refine List.mem_append_right _ ?_)))
  have hEKp : ((s1.heap.objs.size + 1 + 1 + 1 : Nat), oP) ∈ own := hEK _ (ek_rest (by repeat (first | exact List.Mem.head _ | refine List.Mem.tail _ ?_ | refine List.mem_append_right _ ?_)))
  have hEKP : (Pa, W.listOf ysP.toArray kP) ∈ own := hEK _ (ek_rest (by repeat (first | exact List.Mem.head _ | refine List.Mem.tail _ ?_ | refine List.mem_append_right _ ?_)))
  have hEKO : (Oa, W.listOf ysO.toArray kO) ∈ own := hEK _ (ek_rest (by repeat (first | exact List.Mem.head _ | refine List.Mem.tail _ ?_ | refine List.mem_append_right _ ?_)))
  have hEKL : ((417 : Nat), tabObj psL) ∈ own := hEK _ (ek_rest (by repeat (first | exact List.Mem.head _ | refine List.Mem.tail _ ?_ | refine List.mem_append_right _ ?_)))
  (refine' comp_rangeC (L := s1.heap.objs.size) (h₀ := ghostOf s1.heap [(245, 241), (419, 417)]) ?hhD ?hclosD ?hpcD ?hcfD ?hkindD ?hnamesD ?hxD ?hD ?hsD)
  case hhD => (exact rfl)
  case hclosD => (with_unfolding_all rfl)
  case hpcD => intro h; (rfl)
  case hcfD => intro n acc; (rfl)
  case hkindD => (rfl)
  case hnamesD => (decide)
  case hxD => (with_unfolding_all rfl)
  case hsD => intro x; (rfl)
  case hD =>
  (repeat ((fail_if_success (with_reducible show wpAny _ _ (call (Value.builtin "max") _) _ _ _)); (first | (k_unfold; (try dsimp only)) | walk1 | (dsimp only; walk1))))
  have hpO : (ysO.map fun v => ((lvl (sof v) : Nat) : Int)) = (dd nm9).map fun x => ((lvl x : Nat) : Int) := by
    rw [← hO1, List.map_map]
    rfl
  rw [hpO] at hP1
  (refine max_list_N rfl F42 N42 ⟨_, (N42 _ hEKP).1, rfl, kP, rfl⟩ hP1 (max_pos hnP hTf) (?_))
  rintro h25 M tM tk25 F43 N43 hM1 hM2
  obtain rfl : M = 2 := max_two hnP hTm hTf hM1 hM2
  (try dsimp only)
  (repeat ((fail_if_success (with_reducible show wpAny _ _ (call (Value.type "range") _) _ _ _)); (first | (k_unfold; (try dsimp only)) | walk1 | (dsimp only; walk1))))
  (refine range1_rows (n := ((3 : Nat) : Int)) F43 N43 ?_)
  intro h26 tk26 tc1 tc2 tc3 hR26 F44 N44 _
  refine ⟨_, _, _, _, _, 3, _, fun i ys tl => DatAll tl ys ((List.range i).map fun at_ => Dat.list (((dd nm9).filter fun x => decide (lvl x = at_)).map Dat.str)), rfl, F44, N44, hR26, by decide, .nil, ?turnD, ?doneD⟩
  case turnD =>
    intro I i t ys tl oI oC oX D c Cx k h tk E' hlt hK hX F' N' l1 l2 l3 l4 l5' hyl
    (refine' comp_rangeG (L := s1.heap.objs.size) (h₀ := ghostOf s1.heap [(245, 241), (419, 417)]) ?hhF ?hclosF ?hcellF ?hkindF ?hnamesF ?hxF ?hF ?hsF)
    case hhF => (exact rfl)
    case hclosF => (with_unfolding_all rfl)
    case hcellF => (decide)
    case hkindF => (rfl)
    case hnamesF => (decide)
    case hxF => (decide)
    case hsF => intro x; (rfl)
    case hF =>
    have hOm : ((s1.heap.objs.size + 1 + 1 : Nat), oO) ∈ (Cx, oX) :: (c, oC) :: (D, W.listOf ys.toArray k) :: (I, oI) :: (tl ++ own) := .tail _ (.tail _ (.tail _ (.tail _ (List.mem_append_right _ hEKc))))
    (repeat ((fail_if_success (with_reducible show wpAny _ _ (call (Value.builtin "len") _) _ _ _)); (first | (k_unfold; (try dsimp only)) | walk1 | (dsimp only; walk1))))
    have hPcm : ((s1.heap.objs.size + 1 + 1 + 1 : Nat), oP) ∈ (Cx, oX) :: (c, oC) :: (D, W.listOf ys.toArray k) :: (I, oI) :: (tl ++ own) := .tail _ (.tail _ (.tail _ (.tail _ (List.mem_append_right _ hEKp))))
    have hOl : (Oa, W.listOf ysO.toArray kO) ∈ (Cx, oX) :: (c, oC) :: (D, W.listOf ys.toArray k) :: (I, oI) :: (tl ++ own) := .tail _ (.tail _ (.tail _ (.tail _ (List.mem_append_right _ hEKO))))
    have hPl : (Pa, W.listOf ysP.toArray kP) ∈ (Cx, oX) :: (c, oC) :: (D, W.listOf ys.toArray k) :: (I, oI) :: (tl ++ own) := .tail _ (.tail _ (.tail _ (.tail _ (List.mem_append_right _ hEKP))))
    have hXm : (Cx, oX) ∈ (Cx, oX) :: (c, oC) :: (D, W.listOf ys.toArray k) :: (I, oI) :: (tl ++ own) := .head _
    (refine len_N (s := ⟨_, _, _, _, _⟩) N' hOl (by lia) ?_)
    (try dsimp only)
    (repeat ((fail_if_success (with_reducible show wpAny _ _ (call (Value.type "range") _) _ _ _)); (first | (k_unfold; (try dsimp only)) | walk1 | (dsimp only; walk1))))
    generalize eK46 : ((Cx, oX) :: (c, oC) :: (D, W.listOf ys.toArray k) :: (I, oI) :: (tl ++ own)) = K46 at N' hOm hPcm hOl hPl hXm
    (refine range1_rows (s := ⟨_, _, _, _, _⟩) F' N' ?_)
    intro h28 tk28 td1 td2 td3 hR28 F46 N46 _
    refine ⟨_, _, _, _, _, ysO.length, K46, fun j zs tl2 => zs.map sof = ((dd nm9).take j).filter (fun x => decide (lvl x = i)) ∧ (∀ v ∈ zs, ∃ x t, v = .str x t) ∧ tl2 = [], rfl, F46, N46, hR28, ?szF, ⟨rfl, (fun v hv => nomatch hv), rfl⟩, ?turnF, ?doneF⟩
    case szF => lia
    case turnF =>
      intro I2 j v zs tl2 oI2 oC2 D5 c2 k2 m2 h tk E'' hP hK nO hv F'' N'' l1 l2 l3 l4 hyl2
      obtain ⟨hlt2, t2, rfl⟩ := hP
      obtain ⟨hKa, hKb, rfl⟩ := hK
      rw [List.nil_append] at N''
      obtain ⟨vJ, hvJ⟩ : ∃ vJ, ysO[j]? = some vJ := ⟨_, List.getElem?_eq_getElem hlt2⟩
      obtain ⟨xJ, tJ, rfl⟩ := hO2 vJ (List.mem_of_getElem? hvJ)
      have hddJ : (dd nm9)[j]? = some xJ := by rw [← hO1, List.getElem?_map, hvJ]; rfl
      obtain ⟨tP, htP⟩ := hP1.get j ((lvl xJ : Nat) : Int) (by rw [List.getElem?_map, hddJ]; rfl)
      have hOm2 : ((s1.heap.objs.size + 1 + 1 : Nat), oO) ∈ (c2, oC2) :: (D5, W.listOf zs.toArray k2) :: (I2, oI2) :: K46 := .tail _ (.tail _ (.tail _ hOm))
      have hPcm2 : ((s1.heap.objs.size + 1 + 1 + 1 : Nat), oP) ∈ (c2, oC2) :: (D5, W.listOf zs.toArray k2) :: (I2, oI2) :: K46 := .tail _ (.tail _ (.tail _ hPcm))
      have hXm2 : (Cx, oX) ∈ (c2, oC2) :: (D5, W.listOf zs.toArray k2) :: (I2, oI2) :: K46 := .tail _ (.tail _ (.tail _ hXm))
      refine wpAny_tests_one ?_
      (repeat ((fail_if_success (with_reducible show wpAny _ _ (subscriptTail _ _ _ _) _ _ _)); (first | (k_unfold; (try dsimp only)) | walk1 | (dsimp only; walk1))))
      (refine item_N (s := ⟨_, _, _, _, _⟩) N'' (.tail _ (.tail _ (.tail _ hPl))) htP (by lia) ?_)
      (try dsimp only)
      (repeat ((fail_if_success (with_reducible show wpAny _ _ (compareOp _ _ _) _ _ _)); (first | (k_unfold; (try dsimp only)) | walk1 | (dsimp only; walk1))))
      refine PyProof.Rows.eq_int ?_
      by_cases he : lvl xJ = i
      · rw [show (((lvl xJ : Nat) : Int) == ((i : Nat) : Int)) = true from by simp [he]]
        (repeat ((fail_if_success (with_reducible show wpAny _ _ (subscriptTail _ _ _ _) _ _ _)); (first | (k_unfold; (try dsimp only)) | walk1 | (dsimp only; walk1))))
        (refine item_N (s := ⟨_, _, _, _, _⟩) N'' (.tail _ (.tail _ (.tail _ hOl))) hvJ (by lia) ?_)
        refine EndG.intro [] F'' N'' (fun p hp => hp) (fun p hp => nomatch hp) ⟨?_, ?_, rfl⟩
        · rw [take_snoc hddJ, List.map_append, hKa, List.filter_append, List.filter_cons, if_pos (by simpa using he)]
          rfl
        · intro v hv
          rcases List.mem_append.mp hv with hv | hv
          · exact hKb v hv
          · rw [List.mem_singleton.mp hv]
            exact ⟨_, _, rfl⟩
      · rw [show (((lvl xJ : Nat) : Int) == ((i : Nat) : Int)) = false from beq_eq_false_iff_ne.mpr fun q => he (Int.ofNat_inj.mp q)]
        (repeat ((fail_if_success (with_reducible show EndG _ _ _ _ _ _ _ _ _ _)); (first | (k_unfold; (try dsimp only)) | walk1 | (dsimp only; walk1))))
        refine EndG.intro [] F'' N'' (fun p hp => hp) (fun p hp => nomatch hp) ⟨?_, hKb, rfl⟩
        rw [take_snoc hddJ, List.filter_append, List.filter_cons, if_neg (by simpa using he), hKa]
        simp
    case doneF =>
      rintro zs tl2 D6 k6 h29 tk29 ⟨hZ1, hZ2, rfl⟩ F47 N47 l20 l21 _
      rw [show ysO.length = (dd nm9).length from by rw [← hO1, List.length_map], List.take_length] at hZ1
      refine EndG.intro [(D6, W.listOf zs.toArray k6)] F47 N47 (fun p hp => ?_) (fun p hp => ?_) ?_
      · rcases List.mem_append.mp hp with hp | hp
        · refine List.mem_cons_of_mem _ ?_
          rw [List.nil_append, ← eK46]
          exact List.mem_append_left (tl ++ own) hp
        · rcases List.mem_append.mp hp with hp | hp
          · rw [List.mem_singleton.mp hp]
            exact .head _
          · refine List.mem_cons_of_mem _ ?_
            rw [List.nil_append, ← eK46]
            exact .tail _ (.tail _ (.tail _ (.tail _ hp)))
      · rw [List.mem_singleton.mp hp]
        exact ktn_ltOf l20 _ hXm
      · rw [List.range_succ, List.map_append]
        refine dat_snoc (.list (List.mem_append_left _ (.head _)) ?_) (DatAll.mono (fun p hp => List.mem_append_right _ hp) hK)
        rw [← hZ1]
        exact dat_strs _ hZ2
  case doneD =>
  intro ysR tlR Ra kR h27 tk27 hR1 F45 N45 l18 l19 hylR
  (try dsimp only)
  have hDL := rounds_dat hEK hAl hAs (fun k y => (hlr.2.2.2.2 k).2 y) hnP (sorted_pw hs9)
  (refine eq_same N45 (.tail _ (List.mem_append_right _ (hEK _ (.head _)))) rfl rfl hDL (fun p hp => .tail _ (List.mem_append_right _ hp)) (.head _) rfl rfl hR1 (fun p hp => .tail _ (List.mem_append_left _ hp)) (rounds_ok hTm hnP) (by ktr_units) ?_)
  (try dsimp only)
  refine hQ9 _ _ ?_
  refine ⟨?_, ?_⟩
  · refine goodW_bool F45 (by assumption) (raisesW_false ?_) ?_
    · wrow_none_raised
    · kc_post
  · obtain ⟨ps, hps, _⟩ := hCT
    exact ⟨GrownAt.of N45 (.tail _ (List.mem_append_right _ hps)), GrownAt.of N45 (.tail _ (List.mem_append_right _ hEKL)), trivial⟩
end Mine
end
end
end

theorem PySem.Challenge.cw_ik0212_01_holds : PySem.Challenge.rw_ik0212_01.Holds :=
  Mine.law_ok
