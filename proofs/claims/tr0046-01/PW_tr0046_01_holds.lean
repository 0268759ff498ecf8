import PyProof.Rows.All
import Wide.All
import OpenK.AllK
import Wide.FinOn
import Lean
import PySem.Challenge.RW_tr0046_01
set_option Elab.async false
set_option compiler.extract_closed false
section
open PySem PySem.W PyProof.Rows
namespace Mine
set_option maxRecDepth 100000
set_option maxHeartbeats 8000000
/-! The program in a form of its own, equal to the given one (rw_eq): each statement of the text is taken out of the given program by its place. The kit's proofs that lay the text's words out grow with the square of the words in one piece. -/
def stA (i : Nat) : Stmt := PySem.Challenge.pw_tr0046_01.main.body.getD i (.Pass ⟨0, 0, 0, 0⟩)
def pw' : Program := { main := { body := [stA 0, stA 1, stA 2, stA 3, stA 4, stA 5, stA 6, stA 7, stA 8, stA 9, stA 10, stA 11, stA 12, stA 13, stA 14, stA 15, stA 16, stA 17, stA 18, stA 19, stA 20, stA 21, stA 22, stA 23, stA 24, stA 25, stA 26, stA 27, stA 28, stA 29, stA 30, stA 31, stA 32, stA 33, stA 34, stA 35, stA 36, stA 37, stA 38, stA 39, stA 40, stA 41, stA 42, stA 43, stA 44, stA 45, stA 46, stA 47, stA 48, stA 49, stA 50, stA 51, stA 52, stA 53, stA 54, stA 55, stA 56, stA 57, stA 58, stA 59, stA 60, Function.const _ (stA 61) (Stmt.FunctionDef (Function.const _ (Str.ofString "x") Stmt.FunctionDef)), stA 62, stA 63, stA 64, stA 65, stA 66, stA 67, stA 68, stA 69], scope := PySem.Challenge.pw_tr0046_01.main.scope, futureAnnotations := false, file := "/claim/cut.py", more := [] }, modules := [], parses := [], absent := [], harvested := [], given := PySem.Challenge.pw_tr0046_01.given }
def rw' : OpenLaw := { PySem.Challenge.rw_tr0046_01 with prog := pw' }
theorem rw_eq : PySem.Challenge.rw_tr0046_01 = rw' := by kernel_rfl
section
local macro_rules | `(tactic| o_head $_) => `(tactic| assumption)
theorem probe : rw'.row.Holds → True := fun h => by
  have : rw'.row.Holds := by k_head
  trivial
end
/-- the heap's part that the walks read, as the kit writes it out; one entry in a form that the kit lays no second text for -/
noncomputable def K2 : Params → Frag := by
  intro P
  refine (?f : probe.heap_1 P = ?p0 :: ?p1 :: ?p2 :: ?p3 :: ?p4 :: ?p5 :: ?p6 :: ?p7 :: ?p8 :: ?p9 :: ?p10 :: ?p11 :: ?p12 :: ?p13 :: ?p14 :: ?p15 :: ?p16 :: ?p17 :: ?p18 :: ?p19 :: ?p20 :: ?p21 :: ?p22 :: ?p23 :: ?p24 :: (?a, ?o) :: ?r → Frag) ?h
  case h => conv => lhs; whnf
  case f => exact fun _ => ?p0 :: ?p1 :: ?p2 :: ?p3 :: ?p4 :: ?p5 :: ?p6 :: ?p7 :: ?p8 :: ?p9 :: ?p10 :: ?p11 :: ?p12 :: ?p13 :: ?p14 :: ?p15 :: ?p16 :: ?p17 :: ?p18 :: ?p19 :: ?p20 :: ?p21 :: ?p22 :: ?p23 :: ?p24 :: (?a, Function.const _ ?o (Eq.refl (Str.ofString "name") : Str.ofString "name" = Str.ofString (id "name"))) :: ?r
/-- the text without the four statements that the kit's own view leaves out -/
def QV : Program := { pw' with main := { pw'.main with body := [stA 1, stA 3, stA 4, stA 5, stA 6, stA 7, stA 9, stA 10, stA 11, stA 12, stA 13, stA 14, stA 15, stA 16, stA 17, stA 18, stA 19, stA 20, stA 21, stA 22, stA 23, stA 24, stA 25, stA 26, stA 27, stA 28, stA 29, stA 30, stA 31, stA 32, stA 33, stA 34, stA 35, stA 36, stA 37, stA 38, stA 39, stA 40, stA 41, stA 42, stA 43, stA 44, stA 45, stA 46, stA 47, stA 48, stA 49, stA 50, stA 51, stA 52, stA 53, stA 54, stA 55, stA 56, stA 57, stA 58, stA 59, stA 61, stA 62, stA 63, stA 64, stA 65, stA 66, stA 67, stA 68, stA 69] } }

/-- the top's run on the heap as a tree -/
noncomputable def runS (st : SharedT → Thread → Option (SharedT × Thread)) (ok : Thread → Bool) (done : Thread → Bool) : Nat → SharedT → Thread → Option SharedT
  | 0, _, _ => none
  | n + 1, s, t => match done t with
    | true => some s
    | false => match ok t with
      | false => none
      | true => match st s t with
        | some (s', t') => runS st ok done n s' t'
        | none => none
theorem runS_of {tb : String → Option Builtin} {p : Program} {w : World} {n₀ : Nat} {ann : Option Value} : ∀ {n : Nat} {s s' : SharedT} {t : Thread}, runS (stepT (denote tb) p w) (stepOk n₀ ann) through n s t = some s' → topRun tb p w n₀ ann n s.abs t = some s'.abs
  | 0, _, _, _, h => by cases h
  | n + 1, s, s', t, h => by
    unfold runS at h
    unfold topRun
    cases he : through t with
    | true => rw [he] at h; cases h; rfl
    | false =>
      rw [he] at h
      cases hk : stepOk n₀ ann t with
      | false => rw [hk] at h; cases h
      | true =>
        rw [hk] at h
        cases hs : stepT (denote tb) p w s t with
        | none => rw [hs] at h; cases h
        | some r => obtain ⟨s₂, t₂⟩ := r; rw [hs] at h; rw [stepT_spec hs]; exact runS_of h
noncomputable def treeOf : List Obj → Nat → BT → BT
  | [], _, t => t
  | o :: r, i, t => treeOf r (i + 1) (t.ins i o)
noncomputable def T₀ (P : Params) : BT := treeOf (boot_heap P).objs.toList 0 .nil


theorem hT (P : Params) : boot_heap P = absHeap (T₀ P) 11 (boot_heap P).life := by kernel_rfl
/-- the top's run on the tree, from the start -/
noncomputable def runT (p : Program) (w : World) (os : OsState) : Option SharedT := runS (stepT (denote treeTable) p w) (stepOk 11 (some (.ref 6))) through 5626 ⟨T₀ w.params, 11, (boot_heap w.params).life, Array.mk [], boot_drawn, boot_toks, os⟩ (topStub p)
/-- one thing asked of the state behind the top -/
def Asks {β : Type} (p : Program) (f : World → Shared → β) (b : World → β) (w : World) : Prop := (fun os => (runT p w os).map fun s => f w s.abs) = fun _ => some (b w)
theorem asks_all {β : Type} {p : Program} {f : World → Shared → β} {b : World → β} (hf : ∀ w : World, Asks p f b (w.withFollow "special-get-raises" false)) (ht : ∀ w : World, Asks p f b (w.withFollow "special-get-raises" true)) (w : World) : Asks p f b w := byRow2 "special-get-raises" hf ht w
theorem left_T {p q : Program} {loose : List Str} {Xt : Shared → Bool} {α : Type} {Yf : Shared → α} {Ya : World → α} {g0 : Bool}
    (e : opening p = plainProg p.main.scope.names) (f : ∀ s, fenceModules? p s = some s)
    (size : ∀ w : World, ((boot_heap w.params).isNs mainGlobals && (Array.mk ([] : List GenState)).size == 0, (boot_heap w.params).nsMap mainGlobals "__annotations__") = (true, some (.ref 6)))
    (a1 : ∀ w : World, Asks p (fun w s => staticsOk (importedModules p.main.body) (boot_heap w.params) s.heap && namesBound p s.heap && gensDone s && laidKept (boot_heap w.params) s.heap) (fun _ => true) w)
    (a2 : ∀ w : World, Asks p (fun _ s => openSeen q loose (importedModules p.main.body) Xt g0 s) (fun _ => openGood q loose) w)
    (a3 : ∀ w : World, Asks p (fun _ s => Yf s) Ya w) : LeftO p q loose Xt Yf Ya 5626 g0 := fun w => by
  obtain ⟨⟨h, gs, d, k, os⟩, e1, e2⟩ := Option.map_eq_some_iff.mp (boot_open (N := 5626) e (by decide) f w)
  obtain ⟨rfl, rfl, rfl, rfl⟩ : h = boot_heap w.params ∧ gs = Array.mk [] ∧ d = boot_drawn ∧ k = boot_toks := by simpa using e2
  obtain ⟨z1, z3⟩ : _ ∧ _ := by simpa only [Prod.mk.injEq] using size w
  have z2 : (boot_heap w.params).objs.size = 11 := by
    rw [hT w.params]; exact absHeap_size _ _ _
  obtain ⟨s, hr, l1⟩ := Option.map_eq_some_iff.mp (congrFun (a1 w) os)
  obtain ⟨s2, hr2, l2⟩ := Option.map_eq_some_iff.mp (congrFun (a2 w) os)
  obtain ⟨s3, hr3, l3⟩ := Option.map_eq_some_iff.mp (congrFun (a3 w) os)
  obtain rfl := Option.some.inj (hr.symm.trans hr2)
  obtain rfl := Option.some.inj (hr.symm.trans hr3)
  have r0 := runS_of hr
  have r : topRun treeTable p w 11 (some (.ref 6)) 5626 ⟨boot_heap w.params, Array.mk [], boot_drawn, boot_toks, os⟩ (topStub p) = some s.abs := by
    rw [hT w.params]; exact r0
  have t : topFrom treeTable p w 5626 ⟨boot_heap w.params, Array.mk [], boot_drawn, boot_toks, os⟩ = some s.abs := by
    unfold topFrom
    dsimp only
    rw [z1, z2, z3, r]
    show (match staticsOk (importedModules p.main.body) (boot_heap w.params) s.abs.heap && namesBound p s.abs.heap && gensDone s.abs && laidKept (boot_heap w.params) s.abs.heap with | true => _ | false => _) = _
    have l1' : (staticsOk (importedModules p.main.body) (boot_heap w.params) s.abs.heap && namesBound p s.abs.heap && gensDone s.abs && laidKept (boot_heap w.params) s.abs.heap) = true := l1
    rw [l1']
  unfold openEnds
  rw [e1]
  show (topFrom treeTable p w 5626 _).map _ = _
  rw [t]
  exact congrArg some (Prod.ext l2 l3)
def asK : List Addr := [2, 3, 22, 24, 25, 27, 28, 29, 31, 32, 34, 35, 36, 38, 39, 41, 42, 43, 45, 46, 48, 49, 50, 51, 52, 53, 54, 57, 64, 65, 66, 67, 70, 77, 78, 79, 82, 89, 90, 91, 94, 96, 97, 99, 100, 101, 103, 104, 106, 107, 108, 111, 113, 114, 116, 117, 118, 120, 121, 123, 124, 125, 127, 128, 130, 131, 132, 135, 136, 137, 139, 140, 142, 143, 144, 146, 147, 149, 150, 151, 154, 155, 156, 159, 160, 161, 164, 165, 166, 169, 170]
theorem asK_eq (P : Params) : asK = (K2 P).map (·.1) := by kernel_rfl
theorem asks_pair {α β : Type} {p : Program} {f : World → Shared → α × β} {b : World → α × β} {w : World} (h1 : Asks p (fun w s => (f w s).1) (fun w => (b w).1) w) (h2 : Asks p (fun w s => (f w s).2) (fun w => (b w).2) w) : Asks p f b w := by
  unfold Asks at *
  funext os
  obtain ⟨s, hr, l1⟩ := Option.map_eq_some_iff.mp (congrFun h1 os)
  obtain ⟨s2, hr2, l2⟩ := Option.map_eq_some_iff.mp (congrFun h2 os)
  obtain rfl := Option.some.inj (hr.symm.trans hr2)
  show (runT p w os).map _ = _
  rw [hr]
  exact congrArg some (Prod.ext l1 l2)
theorem asks_split {α β : Type} {p : Program} {f : World → Shared → α} {g : World → Shared → β} {a : World → α} {b : World → β} {w : World} (h : Asks p (fun w s => (f w s, g w s)) (fun w => (a w, b w)) w) : Asks p f a w ∧ Asks p g b w := by
  unfold Asks at *
  refine ⟨funext fun os => ?_, funext fun os => ?_⟩ <;>
    (obtain ⟨s, hr, l⟩ := Option.map_eq_some_iff.mp (congrFun h os)
     show (runT p w os).map _ = _
     rw [hr]
     obtain ⟨l1, l2⟩ := Prod.mk.inj l
     exact congrArg some (by assumption))
theorem lqAf (w : World) : Asks pw' (fun w s => (staticsOk (importedModules pw'.main.body) (boot_heap w.params) s.heap && namesBound pw' s.heap && gensDone s && laidKept (boot_heap w.params) s.heap, (openSeen QV [Str.ofString "EXACT_TOKEN_TYPES"] (importedModules pw'.main.body) (fun s => xlAt QV [] s && recOk (RowW.records (OpenRow.toRowW (OpenLaw.row rw'))) s) true s).1, (openSeen QV [Str.ofString "EXACT_TOKEN_TYPES"] (importedModules pw'.main.body) (fun s => xlAt QV [] s && recOk (RowW.records (OpenRow.toRowW (OpenLaw.row rw'))) s) true s).2.1, (openSeen QV [Str.ofString "EXACT_TOKEN_TYPES"] (importedModules pw'.main.body) (fun s => xlAt QV [] s && recOk (RowW.records (OpenRow.toRowW (OpenLaw.row rw'))) s) true s).2.2.2.1, (openSeen QV [Str.ofString "EXACT_TOKEN_TYPES"] (importedModules pw'.main.body) (fun s => xlAt QV [] s && recOk (RowW.records (OpenRow.toRowW (OpenLaw.row rw'))) s) true s).2.2.2.2.1, (openSeen QV [Str.ofString "EXACT_TOKEN_TYPES"] (importedModules pw'.main.body) (fun s => xlAt QV [] s && recOk (RowW.records (OpenRow.toRowW (OpenLaw.row rw'))) s) true s).2.2.2.2.2.2.1, (openSeen QV [Str.ofString "EXACT_TOKEN_TYPES"] (importedModules pw'.main.body) (fun s => xlAt QV [] s && recOk (RowW.records (OpenRow.toRowW (OpenLaw.row rw'))) s) true s).2.2.2.2.2.2.2.1, (openSeen QV [Str.ofString "EXACT_TOKEN_TYPES"] (importedModules pw'.main.body) (fun s => xlAt QV [] s && recOk (RowW.records (OpenRow.toRowW (OpenLaw.row rw'))) s) true s).2.2.2.2.2.2.2.2, Hook.obs (kmHook K2 asK asK_eq [119]) s)) (fun w => (true, expectedOf QV, bltViewBooted, true, pinGoodD (drecsOf QV), plainGoodD QV [Str.ofString "EXACT_TOKEN_TYPES"], wideGood QV, clsGoodW QV [Str.ofString "EXACT_TOKEN_TYPES"], Hook.val (kmHook K2 asK asK_eq [119]) w)) (w.withFollow "special-get-raises" false) := by
  unfold Asks runT
  rw [PySem.W.Fast.te6613529449190102663, PySem.W.Fast.te10156331382660048174, PySem.W.Fast.te11892475500146522536, PySem.W.Fast.te14364793385576792824, PySem.W.Fast.te4187177175401517315, PySem.W.Fast.te5923862056798008813]
  kernel_rfl
theorem lq2f (w : World) : Asks pw' (fun _ s => (openSeen QV [Str.ofString "EXACT_TOKEN_TYPES"] (importedModules pw'.main.body) (fun s => xlAt QV [] s && recOk (RowW.records (OpenRow.toRowW (OpenLaw.row rw'))) s) true s).2.2.1) (fun _ => true) (w.withFollow "special-get-raises" false) := by
  unfold Asks runT
  rw [PySem.W.Fast.te6613529449190102663, PySem.W.Fast.te10156331382660048174, PySem.W.Fast.te11892475500146522536, PySem.W.Fast.te14364793385576792824, PySem.W.Fast.te4187177175401517315, PySem.W.Fast.te5923862056798008813]
  kernel_rfl
theorem lq5f (w : World) : Asks pw' (fun _ s => (openSeen QV [Str.ofString "EXACT_TOKEN_TYPES"] (importedModules pw'.main.body) (fun s => xlAt QV [] s && recOk (RowW.records (OpenRow.toRowW (OpenLaw.row rw'))) s) true s).2.2.2.2.2.1) (fun _ => plainGoodE QV (looseW QV [Str.ofString "EXACT_TOKEN_TYPES"])) (w.withFollow "special-get-raises" false) := by
  unfold Asks runT
  rw [PySem.W.Fast.te6613529449190102663, PySem.W.Fast.te10156331382660048174, PySem.W.Fast.te11892475500146522536, PySem.W.Fast.te14364793385576792824, PySem.W.Fast.te4187177175401517315, PySem.W.Fast.te5923862056798008813]
  kernel_rfl
theorem lqf (w : World) : Asks pw' (fun w s => staticsOk (importedModules pw'.main.body) (boot_heap w.params) s.heap && namesBound pw' s.heap && gensDone s && laidKept (boot_heap w.params) s.heap) (fun _ => true) (w.withFollow "special-get-raises" false) ∧ Asks pw' (fun _ s => openSeen QV [Str.ofString "EXACT_TOKEN_TYPES"] (importedModules pw'.main.body) (fun s => xlAt QV [] s && recOk (RowW.records (OpenRow.toRowW (OpenLaw.row rw'))) s) true s) (fun _ => openGood QV [Str.ofString "EXACT_TOKEN_TYPES"]) (w.withFollow "special-get-raises" false) ∧ Asks pw' (fun _ s => Hook.obs (kmHook K2 asK asK_eq [119]) s) (fun w => Hook.val (kmHook K2 asK asK_eq [119]) w) (w.withFollow "special-get-raises" false) := by
  obtain ⟨a1, h⟩ := asks_split (lqAf w)
  obtain ⟨c0, h⟩ := asks_split h
  obtain ⟨c1, h⟩ := asks_split h
  obtain ⟨c3, h⟩ := asks_split h
  obtain ⟨c4, h⟩ := asks_split h
  obtain ⟨c6, h⟩ := asks_split h
  obtain ⟨c7, h⟩ := asks_split h
  obtain ⟨c8, h⟩ := asks_split h
  exact ⟨a1, asks_pair c0 (asks_pair c1 (asks_pair (lq2f w) (asks_pair c3 (asks_pair c4 (asks_pair (lq5f w) (asks_pair c6 (asks_pair c7 (c8)))))))), h⟩
theorem lqAt (w : World) : Asks pw' (fun w s => (staticsOk (importedModules pw'.main.body) (boot_heap w.params) s.heap && namesBound pw' s.heap && gensDone s && laidKept (boot_heap w.params) s.heap, (openSeen QV [Str.ofString "EXACT_TOKEN_TYPES"] (importedModules pw'.main.body) (fun s => xlAt QV [] s && recOk (RowW.records (OpenRow.toRowW (OpenLaw.row rw'))) s) true s).1, (openSeen QV [Str.ofString "EXACT_TOKEN_TYPES"] (importedModules pw'.main.body) (fun s => xlAt QV [] s && recOk (RowW.records (OpenRow.toRowW (OpenLaw.row rw'))) s) true s).2.1, (openSeen QV [Str.ofString "EXACT_TOKEN_TYPES"] (importedModules pw'.main.body) (fun s => xlAt QV [] s && recOk (RowW.records (OpenRow.toRowW (OpenLaw.row rw'))) s) true s).2.2.2.1, (openSeen QV [Str.ofString "EXACT_TOKEN_TYPES"] (importedModules pw'.main.body) (fun s => xlAt QV [] s && recOk (RowW.records (OpenRow.toRowW (OpenLaw.row rw'))) s) true s).2.2.2.2.1, (openSeen QV [Str.ofString "EXACT_TOKEN_TYPES"] (importedModules pw'.main.body) (fun s => xlAt QV [] s && recOk (RowW.records (OpenRow.toRowW (OpenLaw.row rw'))) s) true s).2.2.2.2.2.2.1, (openSeen QV [Str.ofString "EXACT_TOKEN_TYPES"] (importedModules pw'.main.body) (fun s => xlAt QV [] s && recOk (RowW.records (OpenRow.toRowW (OpenLaw.row rw'))) s) true s).2.2.2.2.2.2.2.1, (openSeen QV [Str.ofString "EXACT_TOKEN_TYPES"] (importedModules pw'.main.body) (fun s => xlAt QV [] s && recOk (RowW.records (OpenRow.toRowW (OpenLaw.row rw'))) s) true s).2.2.2.2.2.2.2.2, Hook.obs (kmHook K2 asK asK_eq [119]) s)) (fun w => (true, expectedOf QV, bltViewBooted, true, pinGoodD (drecsOf QV), plainGoodD QV [Str.ofString "EXACT_TOKEN_TYPES"], wideGood QV, clsGoodW QV [Str.ofString "EXACT_TOKEN_TYPES"], Hook.val (kmHook K2 asK asK_eq [119]) w)) (w.withFollow "special-get-raises" true) := by
  unfold Asks runT
  rw [PySem.W.Fast.te6613529449190102663, PySem.W.Fast.te10156331382660048174, PySem.W.Fast.te11892475500146522536, PySem.W.Fast.te14364793385576792824, PySem.W.Fast.te4187177175401517315, PySem.W.Fast.te5923862056798008813]
  kernel_rfl
theorem lq2t (w : World) : Asks pw' (fun _ s => (openSeen QV [Str.ofString "EXACT_TOKEN_TYPES"] (importedModules pw'.main.body) (fun s => xlAt QV [] s && recOk (RowW.records (OpenRow.toRowW (OpenLaw.row rw'))) s) true s).2.2.1) (fun _ => true) (w.withFollow "special-get-raises" true) := by
  unfold Asks runT
  rw [PySem.W.Fast.te6613529449190102663, PySem.W.Fast.te10156331382660048174, PySem.W.Fast.te11892475500146522536, PySem.W.Fast.te14364793385576792824, PySem.W.Fast.te4187177175401517315, PySem.W.Fast.te5923862056798008813]
  kernel_rfl
theorem lq5t (w : World) : Asks pw' (fun _ s => (openSeen QV [Str.ofString "EXACT_TOKEN_TYPES"] (importedModules pw'.main.body) (fun s => xlAt QV [] s && recOk (RowW.records (OpenRow.toRowW (OpenLaw.row rw'))) s) true s).2.2.2.2.2.1) (fun _ => plainGoodE QV (looseW QV [Str.ofString "EXACT_TOKEN_TYPES"])) (w.withFollow "special-get-raises" true) := by
  unfold Asks runT
  rw [PySem.W.Fast.te6613529449190102663, PySem.W.Fast.te10156331382660048174, PySem.W.Fast.te11892475500146522536, PySem.W.Fast.te14364793385576792824, PySem.W.Fast.te4187177175401517315, PySem.W.Fast.te5923862056798008813]
  kernel_rfl
theorem lqt (w : World) : Asks pw' (fun w s => staticsOk (importedModules pw'.main.body) (boot_heap w.params) s.heap && namesBound pw' s.heap && gensDone s && laidKept (boot_heap w.params) s.heap) (fun _ => true) (w.withFollow "special-get-raises" true) ∧ Asks pw' (fun _ s => openSeen QV [Str.ofString "EXACT_TOKEN_TYPES"] (importedModules pw'.main.body) (fun s => xlAt QV [] s && recOk (RowW.records (OpenRow.toRowW (OpenLaw.row rw'))) s) true s) (fun _ => openGood QV [Str.ofString "EXACT_TOKEN_TYPES"]) (w.withFollow "special-get-raises" true) ∧ Asks pw' (fun _ s => Hook.obs (kmHook K2 asK asK_eq [119]) s) (fun w => Hook.val (kmHook K2 asK asK_eq [119]) w) (w.withFollow "special-get-raises" true) := by
  obtain ⟨a1, h⟩ := asks_split (lqAt w)
  obtain ⟨c0, h⟩ := asks_split h
  obtain ⟨c1, h⟩ := asks_split h
  obtain ⟨c3, h⟩ := asks_split h
  obtain ⟨c4, h⟩ := asks_split h
  obtain ⟨c6, h⟩ := asks_split h
  obtain ⟨c7, h⟩ := asks_split h
  obtain ⟨c8, h⟩ := asks_split h
  exact ⟨a1, asks_pair c0 (asks_pair c1 (asks_pair (lq2t w) (asks_pair c3 (asks_pair c4 (asks_pair (lq5t w) (asks_pair c6 (asks_pair c7 (c8)))))))), h⟩
section
local macro_rules | `(tactic| o_law) => `(tactic| refine holds_law (by rw [PySem.W.Fast.te9446332074065402090]; kernel_rfl) fun said => ?_)
local macro_rules | `(tactic| o_head ($_ $_ $_ $_ $_)) => do
  let hw := Lean.mkIdent `hw
  let hc := Lean.mkIdent `hc
  `(tactic| (refine PySem.W.holds_open (q := QV) (loose := [Str.ofString "EXACT_TOKEN_TYPES"]) (Xt := fun s => xlAt QV [] s && recOk (RowW.records (OpenRow.toRowW (OpenLaw.row rw'))) s) (XP := XL QV []) (Yf := Hook.obs (kmHook K2 asK asK_eq [119])) (Ya := Hook.val (kmHook K2 asK asK_eq [119])) (YP := Hook.says (kmHook K2 asK asK_eq [119])) (N := 5626) ?hl (Hook.of (kmHook K2 asK asK_eq [119])) (Hook.keeps (kmHook K2 asK asK_eq [119])) (fun s e => xl_of s (Bool.and_eq_true_iff.mp e).1) XL.keeps (by rfl) (by rfl) (by rfl) (fun s e => recFacts_of (Bool.and_eq_true_iff.mp e).2) (by rfl) (by first | assumption | decide +kernel) (by decide +kernel) ⟨rfl, rfl, rfl, rfl, rfl, by decide +kernel⟩ ?$hw ?$hc
             case hl => exact left_T (by kernel_rfl) (fun s => by kernel_rfl) (fun w => by kernel_rfl) (asks_all (fun w => (lqf w).1) (fun w => (lqt w).1)) (asks_all (fun w => (lqf w).2.1) (fun w => (lqt w).2.1)) (asks_all (fun w => (lqf w).2.2) (fun w => (lqt w).2.2))))
open_top hd for rw'
end
end Mine
end
theorem Mine.flushHead46 : if True then True else True := by (w_top off); first | (walk1; fail) | simp
section
namespace Mine
theorem x0_2 {P0 P1 : Prop} {G : Prop} (h : P0 ∧ P1) (c : P0 → P1 → G) : G := c h.1 h.2
theorem x0_3 {P0 P1 P2 : Prop} {G : Prop} (h : P0 ∧ P1 ∧ P2) (c : P0 → P1 → P2 → G) : G := c h.1 h.2.1 h.2.2
theorem x0_4 {P0 P1 P2 P3 : Prop} {G : Prop} (h : P0 ∧ P1 ∧ P2 ∧ P3) (c : P0 → P1 → P2 → P3 → G) : G := c h.1 h.2.1 h.2.2.1 h.2.2.2
theorem x0_5 {P0 P1 P2 P3 P4 : Prop} {G : Prop} (h : P0 ∧ P1 ∧ P2 ∧ P3 ∧ P4) (c : P0 → P1 → P2 → P3 → P4 → G) : G := c h.1 h.2.1 h.2.2.1 h.2.2.2.1 h.2.2.2.2
theorem x0_6 {P0 P1 P2 P3 P4 P5 : Prop} {G : Prop} (h : P0 ∧ P1 ∧ P2 ∧ P3 ∧ P4 ∧ P5) (c : P0 → P1 → P2 → P3 → P4 → P5 → G) : G := c h.1 h.2.1 h.2.2.1 h.2.2.2.1 h.2.2.2.2.1 h.2.2.2.2.2
theorem x0_7 {P0 P1 P2 P3 P4 P5 P6 : Prop} {G : Prop} (h : P0 ∧ P1 ∧ P2 ∧ P3 ∧ P4 ∧ P5 ∧ P6) (c : P0 → P1 → P2 → P3 → P4 → P5 → P6 → G) : G := c h.1 h.2.1 h.2.2.1 h.2.2.2.1 h.2.2.2.2.1 h.2.2.2.2.2.1 h.2.2.2.2.2.2
theorem x0_8 {P0 P1 P2 P3 P4 P5 P6 P7 : Prop} {G : Prop} (h : P0 ∧ P1 ∧ P2 ∧ P3 ∧ P4 ∧ P5 ∧ P6 ∧ P7) (c : P0 → P1 → P2 → P3 → P4 → P5 → P6 → P7 → G) : G := c h.1 h.2.1 h.2.2.1 h.2.2.2.1 h.2.2.2.2.1 h.2.2.2.2.2.1 h.2.2.2.2.2.2.1 h.2.2.2.2.2.2.2
theorem x0_9 {P0 P1 P2 P3 P4 P5 P6 P7 P8 : Prop} {G : Prop} (h : P0 ∧ P1 ∧ P2 ∧ P3 ∧ P4 ∧ P5 ∧ P6 ∧ P7 ∧ P8) (c : P0 → P1 → P2 → P3 → P4 → P5 → P6 → P7 → P8 → G) : G := c h.1 h.2.1 h.2.2.1 h.2.2.2.1 h.2.2.2.2.1 h.2.2.2.2.2.1 h.2.2.2.2.2.2.1 h.2.2.2.2.2.2.2.1 h.2.2.2.2.2.2.2.2
theorem x0_11 {P0 P1 P2 P3 P4 P5 P6 P7 P8 P9 P10 : Prop} {G : Prop} (h : P0 ∧ P1 ∧ P2 ∧ P3 ∧ P4 ∧ P5 ∧ P6 ∧ P7 ∧ P8 ∧ P9 ∧ P10) (c : P0 → P1 → P2 → P3 → P4 → P5 → P6 → P7 → P8 → P9 → P10 → G) : G := c h.1 h.2.1 h.2.2.1 h.2.2.2.1 h.2.2.2.2.1 h.2.2.2.2.2.1 h.2.2.2.2.2.2.1 h.2.2.2.2.2.2.2.1 h.2.2.2.2.2.2.2.2.1 h.2.2.2.2.2.2.2.2.2.1 h.2.2.2.2.2.2.2.2.2.2
theorem x0_12 {P0 P1 P2 P3 P4 P5 P6 P7 P8 P9 P10 P11 : Prop} {G : Prop} (h : P0 ∧ P1 ∧ P2 ∧ P3 ∧ P4 ∧ P5 ∧ P6 ∧ P7 ∧ P8 ∧ P9 ∧ P10 ∧ P11) (c : P0 → P1 → P2 → P3 → P4 → P5 → P6 → P7 → P8 → P9 → P10 → P11 → G) : G := c h.1 h.2.1 h.2.2.1 h.2.2.2.1 h.2.2.2.2.1 h.2.2.2.2.2.1 h.2.2.2.2.2.2.1 h.2.2.2.2.2.2.2.1 h.2.2.2.2.2.2.2.2.1 h.2.2.2.2.2.2.2.2.2.1 h.2.2.2.2.2.2.2.2.2.2.1 h.2.2.2.2.2.2.2.2.2.2.2
theorem x0_13 {P0 P1 P2 P3 P4 P5 P6 P7 P8 P9 P10 P11 P12 : Prop} {G : Prop} (h : P0 ∧ P1 ∧ P2 ∧ P3 ∧ P4 ∧ P5 ∧ P6 ∧ P7 ∧ P8 ∧ P9 ∧ P10 ∧ P11 ∧ P12) (c : P0 → P1 → P2 → P3 → P4 → P5 → P6 → P7 → P8 → P9 → P10 → P11 → P12 → G) : G := c h.1 h.2.1 h.2.2.1 h.2.2.2.1 h.2.2.2.2.1 h.2.2.2.2.2.1 h.2.2.2.2.2.2.1 h.2.2.2.2.2.2.2.1 h.2.2.2.2.2.2.2.2.1 h.2.2.2.2.2.2.2.2.2.1 h.2.2.2.2.2.2.2.2.2.2.1 h.2.2.2.2.2.2.2.2.2.2.2.1 h.2.2.2.2.2.2.2.2.2.2.2.2
theorem x0_14 {P0 P1 P2 P3 P4 P5 P6 P7 P8 P9 P10 P11 P12 P13 : Prop} {G : Prop} (h : P0 ∧ P1 ∧ P2 ∧ P3 ∧ P4 ∧ P5 ∧ P6 ∧ P7 ∧ P8 ∧ P9 ∧ P10 ∧ P11 ∧ P12 ∧ P13) (c : P0 → P1 → P2 → P3 → P4 → P5 → P6 → P7 → P8 → P9 → P10 → P11 → P12 → P13 → G) : G := c h.1 h.2.1 h.2.2.1 h.2.2.2.1 h.2.2.2.2.1 h.2.2.2.2.2.1 h.2.2.2.2.2.2.1 h.2.2.2.2.2.2.2.1 h.2.2.2.2.2.2.2.2.1 h.2.2.2.2.2.2.2.2.2.1 h.2.2.2.2.2.2.2.2.2.2.1 h.2.2.2.2.2.2.2.2.2.2.2.1 h.2.2.2.2.2.2.2.2.2.2.2.2.1 h.2.2.2.2.2.2.2.2.2.2.2.2.2
theorem x1_1 {α0 : Sort _} {P0 : α0 → Prop} {G : Prop} (h : ∃ a0, P0 a0) (c : ∀ a0, P0 a0 → G) : G := Exists.elim h fun a0 h => c a0 h
theorem x2_1 {α0 α1 : Sort _} {P0 : α0 → α1 → Prop} {G : Prop} (h : ∃ a0 a1, P0 a0 a1) (c : ∀ a0 a1, P0 a0 a1 → G) : G := Exists.elim h fun a0 h => Exists.elim h fun a1 h => c a0 a1 h
theorem x3_1 {α0 α1 α2 : Sort _} {P0 : α0 → α1 → α2 → Prop} {G : Prop} (h : ∃ a0 a1 a2, P0 a0 a1 a2) (c : ∀ a0 a1 a2, P0 a0 a1 a2 → G) : G := Exists.elim h fun a0 h => Exists.elim h fun a1 h => Exists.elim h fun a2 h => c a0 a1 a2 h
theorem x4_1 {α0 α1 α2 α3 : Sort _} {P0 : α0 → α1 → α2 → α3 → Prop} {G : Prop} (h : ∃ a0 a1 a2 a3, P0 a0 a1 a2 a3) (c : ∀ a0 a1 a2 a3, P0 a0 a1 a2 a3 → G) : G := Exists.elim h fun a0 h => Exists.elim h fun a1 h => Exists.elim h fun a2 h => Exists.elim h fun a3 h => c a0 a1 a2 a3 h
theorem x5_1 {α0 α1 α2 α3 α4 : Sort _} {P0 : α0 → α1 → α2 → α3 → α4 → Prop} {G : Prop} (h : ∃ a0 a1 a2 a3 a4, P0 a0 a1 a2 a3 a4) (c : ∀ a0 a1 a2 a3 a4, P0 a0 a1 a2 a3 a4 → G) : G := Exists.elim h fun a0 h => Exists.elim h fun a1 h => Exists.elim h fun a2 h => Exists.elim h fun a3 h => Exists.elim h fun a4 h => c a0 a1 a2 a3 a4 h
theorem x6_1 {α0 α1 α2 α3 α4 α5 : Sort _} {P0 : α0 → α1 → α2 → α3 → α4 → α5 → Prop} {G : Prop} (h : ∃ a0 a1 a2 a3 a4 a5, P0 a0 a1 a2 a3 a4 a5) (c : ∀ a0 a1 a2 a3 a4 a5, P0 a0 a1 a2 a3 a4 a5 → G) : G := Exists.elim h fun a0 h => Exists.elim h fun a1 h => Exists.elim h fun a2 h => Exists.elim h fun a3 h => Exists.elim h fun a4 h => Exists.elim h fun a5 h => c a0 a1 a2 a3 a4 a5 h
theorem x7_1 {α0 α1 α2 α3 α4 α5 α6 : Sort _} {P0 : α0 → α1 → α2 → α3 → α4 → α5 → α6 → Prop} {G : Prop} (h : ∃ a0 a1 a2 a3 a4 a5 a6, P0 a0 a1 a2 a3 a4 a5 a6) (c : ∀ a0 a1 a2 a3 a4 a5 a6, P0 a0 a1 a2 a3 a4 a5 a6 → G) : G := Exists.elim h fun a0 h => Exists.elim h fun a1 h => Exists.elim h fun a2 h => Exists.elim h fun a3 h => Exists.elim h fun a4 h => Exists.elim h fun a5 h => Exists.elim h fun a6 h => c a0 a1 a2 a3 a4 a5 a6 h
theorem x9_1 {α0 α1 α2 α3 α4 α5 α6 α7 α8 : Sort _} {P0 : α0 → α1 → α2 → α3 → α4 → α5 → α6 → α7 → α8 → Prop} {G : Prop} (h : ∃ a0 a1 a2 a3 a4 a5 a6 a7 a8, P0 a0 a1 a2 a3 a4 a5 a6 a7 a8) (c : ∀ a0 a1 a2 a3 a4 a5 a6 a7 a8, P0 a0 a1 a2 a3 a4 a5 a6 a7 a8 → G) : G := Exists.elim h fun a0 h => Exists.elim h fun a1 h => Exists.elim h fun a2 h => Exists.elim h fun a3 h => Exists.elim h fun a4 h => Exists.elim h fun a5 h => Exists.elim h fun a6 h => Exists.elim h fun a7 h => Exists.elim h fun a8 h => c a0 a1 a2 a3 a4 a5 a6 a7 a8 h
theorem x1_2 {α0 : Sort _} {P0 P1 : α0 → Prop} {G : Prop} (h : ∃ a0, P0 a0 ∧ P1 a0) (c : ∀ a0, P0 a0 → P1 a0 → G) : G := x1_1 h fun a0 h => x0_2 h (c a0)
theorem x1_3 {α0 : Sort _} {P0 P1 P2 : α0 → Prop} {G : Prop} (h : ∃ a0, P0 a0 ∧ P1 a0 ∧ P2 a0) (c : ∀ a0, P0 a0 → P1 a0 → P2 a0 → G) : G := x1_1 h fun a0 h => x0_3 h (c a0)
theorem x1_4 {α0 : Sort _} {P0 P1 P2 P3 : α0 → Prop} {G : Prop} (h : ∃ a0, P0 a0 ∧ P1 a0 ∧ P2 a0 ∧ P3 a0) (c : ∀ a0, P0 a0 → P1 a0 → P2 a0 → P3 a0 → G) : G := x1_1 h fun a0 h => x0_4 h (c a0)
theorem x1_6 {α0 : Sort _} {P0 P1 P2 P3 P4 P5 : α0 → Prop} {G : Prop} (h : ∃ a0, P0 a0 ∧ P1 a0 ∧ P2 a0 ∧ P3 a0 ∧ P4 a0 ∧ P5 a0) (c : ∀ a0, P0 a0 → P1 a0 → P2 a0 → P3 a0 → P4 a0 → P5 a0 → G) : G := x1_1 h fun a0 h => x0_6 h (c a0)
theorem x2_2 {α0 α1 : Sort _} {P0 P1 : α0 → α1 → Prop} {G : Prop} (h : ∃ a0 a1, P0 a0 a1 ∧ P1 a0 a1) (c : ∀ a0 a1, P0 a0 a1 → P1 a0 a1 → G) : G := x2_1 h fun a0 a1 h => x0_2 h (c a0 a1)
theorem x2_3 {α0 α1 : Sort _} {P0 P1 P2 : α0 → α1 → Prop} {G : Prop} (h : ∃ a0 a1, P0 a0 a1 ∧ P1 a0 a1 ∧ P2 a0 a1) (c : ∀ a0 a1, P0 a0 a1 → P1 a0 a1 → P2 a0 a1 → G) : G := x2_1 h fun a0 a1 h => x0_3 h (c a0 a1)
theorem x3_2 {α0 α1 α2 : Sort _} {P0 P1 : α0 → α1 → α2 → Prop} {G : Prop} (h : ∃ a0 a1 a2, P0 a0 a1 a2 ∧ P1 a0 a1 a2) (c : ∀ a0 a1 a2, P0 a0 a1 a2 → P1 a0 a1 a2 → G) : G := x3_1 h fun a0 a1 a2 h => x0_2 h (c a0 a1 a2)
theorem x3_3 {α0 α1 α2 : Sort _} {P0 P1 P2 : α0 → α1 → α2 → Prop} {G : Prop} (h : ∃ a0 a1 a2, P0 a0 a1 a2 ∧ P1 a0 a1 a2 ∧ P2 a0 a1 a2) (c : ∀ a0 a1 a2, P0 a0 a1 a2 → P1 a0 a1 a2 → P2 a0 a1 a2 → G) : G := x3_1 h fun a0 a1 a2 h => x0_3 h (c a0 a1 a2)
theorem x3_4 {α0 α1 α2 : Sort _} {P0 P1 P2 P3 : α0 → α1 → α2 → Prop} {G : Prop} (h : ∃ a0 a1 a2, P0 a0 a1 a2 ∧ P1 a0 a1 a2 ∧ P2 a0 a1 a2 ∧ P3 a0 a1 a2) (c : ∀ a0 a1 a2, P0 a0 a1 a2 → P1 a0 a1 a2 → P2 a0 a1 a2 → P3 a0 a1 a2 → G) : G := x3_1 h fun a0 a1 a2 h => x0_4 h (c a0 a1 a2)
theorem x3_5 {α0 α1 α2 : Sort _} {P0 P1 P2 P3 P4 : α0 → α1 → α2 → Prop} {G : Prop} (h : ∃ a0 a1 a2, P0 a0 a1 a2 ∧ P1 a0 a1 a2 ∧ P2 a0 a1 a2 ∧ P3 a0 a1 a2 ∧ P4 a0 a1 a2) (c : ∀ a0 a1 a2, P0 a0 a1 a2 → P1 a0 a1 a2 → P2 a0 a1 a2 → P3 a0 a1 a2 → P4 a0 a1 a2 → G) : G := x3_1 h fun a0 a1 a2 h => x0_5 h (c a0 a1 a2)
theorem x4_2 {α0 α1 α2 α3 : Sort _} {P0 P1 : α0 → α1 → α2 → α3 → Prop} {G : Prop} (h : ∃ a0 a1 a2 a3, P0 a0 a1 a2 a3 ∧ P1 a0 a1 a2 a3) (c : ∀ a0 a1 a2 a3, P0 a0 a1 a2 a3 → P1 a0 a1 a2 a3 → G) : G := x4_1 h fun a0 a1 a2 a3 h => x0_2 h (c a0 a1 a2 a3)
theorem x4_3 {α0 α1 α2 α3 : Sort _} {P0 P1 P2 : α0 → α1 → α2 → α3 → Prop} {G : Prop} (h : ∃ a0 a1 a2 a3, P0 a0 a1 a2 a3 ∧ P1 a0 a1 a2 a3 ∧ P2 a0 a1 a2 a3) (c : ∀ a0 a1 a2 a3, P0 a0 a1 a2 a3 → P1 a0 a1 a2 a3 → P2 a0 a1 a2 a3 → G) : G := x4_1 h fun a0 a1 a2 a3 h => x0_3 h (c a0 a1 a2 a3)
theorem x4_4 {α0 α1 α2 α3 : Sort _} {P0 P1 P2 P3 : α0 → α1 → α2 → α3 → Prop} {G : Prop} (h : ∃ a0 a1 a2 a3, P0 a0 a1 a2 a3 ∧ P1 a0 a1 a2 a3 ∧ P2 a0 a1 a2 a3 ∧ P3 a0 a1 a2 a3) (c : ∀ a0 a1 a2 a3, P0 a0 a1 a2 a3 → P1 a0 a1 a2 a3 → P2 a0 a1 a2 a3 → P3 a0 a1 a2 a3 → G) : G := x4_1 h fun a0 a1 a2 a3 h => x0_4 h (c a0 a1 a2 a3)
theorem x4_5 {α0 α1 α2 α3 : Sort _} {P0 P1 P2 P3 P4 : α0 → α1 → α2 → α3 → Prop} {G : Prop} (h : ∃ a0 a1 a2 a3, P0 a0 a1 a2 a3 ∧ P1 a0 a1 a2 a3 ∧ P2 a0 a1 a2 a3 ∧ P3 a0 a1 a2 a3 ∧ P4 a0 a1 a2 a3) (c : ∀ a0 a1 a2 a3, P0 a0 a1 a2 a3 → P1 a0 a1 a2 a3 → P2 a0 a1 a2 a3 → P3 a0 a1 a2 a3 → P4 a0 a1 a2 a3 → G) : G := x4_1 h fun a0 a1 a2 a3 h => x0_5 h (c a0 a1 a2 a3)
theorem x5_2 {α0 α1 α2 α3 α4 : Sort _} {P0 P1 : α0 → α1 → α2 → α3 → α4 → Prop} {G : Prop} (h : ∃ a0 a1 a2 a3 a4, P0 a0 a1 a2 a3 a4 ∧ P1 a0 a1 a2 a3 a4) (c : ∀ a0 a1 a2 a3 a4, P0 a0 a1 a2 a3 a4 → P1 a0 a1 a2 a3 a4 → G) : G := x5_1 h fun a0 a1 a2 a3 a4 h => x0_2 h (c a0 a1 a2 a3 a4)
theorem x5_3 {α0 α1 α2 α3 α4 : Sort _} {P0 P1 P2 : α0 → α1 → α2 → α3 → α4 → Prop} {G : Prop} (h : ∃ a0 a1 a2 a3 a4, P0 a0 a1 a2 a3 a4 ∧ P1 a0 a1 a2 a3 a4 ∧ P2 a0 a1 a2 a3 a4) (c : ∀ a0 a1 a2 a3 a4, P0 a0 a1 a2 a3 a4 → P1 a0 a1 a2 a3 a4 → P2 a0 a1 a2 a3 a4 → G) : G := x5_1 h fun a0 a1 a2 a3 a4 h => x0_3 h (c a0 a1 a2 a3 a4)
theorem x5_5 {α0 α1 α2 α3 α4 : Sort _} {P0 P1 P2 P3 P4 : α0 → α1 → α2 → α3 → α4 → Prop} {G : Prop} (h : ∃ a0 a1 a2 a3 a4, P0 a0 a1 a2 a3 a4 ∧ P1 a0 a1 a2 a3 a4 ∧ P2 a0 a1 a2 a3 a4 ∧ P3 a0 a1 a2 a3 a4 ∧ P4 a0 a1 a2 a3 a4) (c : ∀ a0 a1 a2 a3 a4, P0 a0 a1 a2 a3 a4 → P1 a0 a1 a2 a3 a4 → P2 a0 a1 a2 a3 a4 → P3 a0 a1 a2 a3 a4 → P4 a0 a1 a2 a3 a4 → G) : G := x5_1 h fun a0 a1 a2 a3 a4 h => x0_5 h (c a0 a1 a2 a3 a4)
theorem x5_6 {α0 α1 α2 α3 α4 : Sort _} {P0 P1 P2 P3 P4 P5 : α0 → α1 → α2 → α3 → α4 → Prop} {G : Prop} (h : ∃ a0 a1 a2 a3 a4, P0 a0 a1 a2 a3 a4 ∧ P1 a0 a1 a2 a3 a4 ∧ P2 a0 a1 a2 a3 a4 ∧ P3 a0 a1 a2 a3 a4 ∧ P4 a0 a1 a2 a3 a4 ∧ P5 a0 a1 a2 a3 a4) (c : ∀ a0 a1 a2 a3 a4, P0 a0 a1 a2 a3 a4 → P1 a0 a1 a2 a3 a4 → P2 a0 a1 a2 a3 a4 → P3 a0 a1 a2 a3 a4 → P4 a0 a1 a2 a3 a4 → P5 a0 a1 a2 a3 a4 → G) : G := x5_1 h fun a0 a1 a2 a3 a4 h => x0_6 h (c a0 a1 a2 a3 a4)
theorem x5_8 {α0 α1 α2 α3 α4 : Sort _} {P0 P1 P2 P3 P4 P5 P6 P7 : α0 → α1 → α2 → α3 → α4 → Prop} {G : Prop} (h : ∃ a0 a1 a2 a3 a4, P0 a0 a1 a2 a3 a4 ∧ P1 a0 a1 a2 a3 a4 ∧ P2 a0 a1 a2 a3 a4 ∧ P3 a0 a1 a2 a3 a4 ∧ P4 a0 a1 a2 a3 a4 ∧ P5 a0 a1 a2 a3 a4 ∧ P6 a0 a1 a2 a3 a4 ∧ P7 a0 a1 a2 a3 a4) (c : ∀ a0 a1 a2 a3 a4, P0 a0 a1 a2 a3 a4 → P1 a0 a1 a2 a3 a4 → P2 a0 a1 a2 a3 a4 → P3 a0 a1 a2 a3 a4 → P4 a0 a1 a2 a3 a4 → P5 a0 a1 a2 a3 a4 → P6 a0 a1 a2 a3 a4 → P7 a0 a1 a2 a3 a4 → G) : G := x5_1 h fun a0 a1 a2 a3 a4 h => x0_8 h (c a0 a1 a2 a3 a4)
theorem x6_3 {α0 α1 α2 α3 α4 α5 : Sort _} {P0 P1 P2 : α0 → α1 → α2 → α3 → α4 → α5 → Prop} {G : Prop} (h : ∃ a0 a1 a2 a3 a4 a5, P0 a0 a1 a2 a3 a4 a5 ∧ P1 a0 a1 a2 a3 a4 a5 ∧ P2 a0 a1 a2 a3 a4 a5) (c : ∀ a0 a1 a2 a3 a4 a5, P0 a0 a1 a2 a3 a4 a5 → P1 a0 a1 a2 a3 a4 a5 → P2 a0 a1 a2 a3 a4 a5 → G) : G := x6_1 h fun a0 a1 a2 a3 a4 a5 h => x0_3 h (c a0 a1 a2 a3 a4 a5)
theorem x6_7 {α0 α1 α2 α3 α4 α5 : Sort _} {P0 P1 P2 P3 P4 P5 P6 : α0 → α1 → α2 → α3 → α4 → α5 → Prop} {G : Prop} (h : ∃ a0 a1 a2 a3 a4 a5, P0 a0 a1 a2 a3 a4 a5 ∧ P1 a0 a1 a2 a3 a4 a5 ∧ P2 a0 a1 a2 a3 a4 a5 ∧ P3 a0 a1 a2 a3 a4 a5 ∧ P4 a0 a1 a2 a3 a4 a5 ∧ P5 a0 a1 a2 a3 a4 a5 ∧ P6 a0 a1 a2 a3 a4 a5) (c : ∀ a0 a1 a2 a3 a4 a5, P0 a0 a1 a2 a3 a4 a5 → P1 a0 a1 a2 a3 a4 a5 → P2 a0 a1 a2 a3 a4 a5 → P3 a0 a1 a2 a3 a4 a5 → P4 a0 a1 a2 a3 a4 a5 → P5 a0 a1 a2 a3 a4 a5 → P6 a0 a1 a2 a3 a4 a5 → G) : G := x6_1 h fun a0 a1 a2 a3 a4 a5 h => x0_7 h (c a0 a1 a2 a3 a4 a5)
theorem x7_6 {α0 α1 α2 α3 α4 α5 α6 : Sort _} {P0 P1 P2 P3 P4 P5 : α0 → α1 → α2 → α3 → α4 → α5 → α6 → Prop} {G : Prop} (h : ∃ a0 a1 a2 a3 a4 a5 a6, P0 a0 a1 a2 a3 a4 a5 a6 ∧ P1 a0 a1 a2 a3 a4 a5 a6 ∧ P2 a0 a1 a2 a3 a4 a5 a6 ∧ P3 a0 a1 a2 a3 a4 a5 a6 ∧ P4 a0 a1 a2 a3 a4 a5 a6 ∧ P5 a0 a1 a2 a3 a4 a5 a6) (c : ∀ a0 a1 a2 a3 a4 a5 a6, P0 a0 a1 a2 a3 a4 a5 a6 → P1 a0 a1 a2 a3 a4 a5 a6 → P2 a0 a1 a2 a3 a4 a5 a6 → P3 a0 a1 a2 a3 a4 a5 a6 → P4 a0 a1 a2 a3 a4 a5 a6 → P5 a0 a1 a2 a3 a4 a5 a6 → G) : G := x7_1 h fun a0 a1 a2 a3 a4 a5 a6 h => x0_6 h (c a0 a1 a2 a3 a4 a5 a6)
theorem x9_2 {α0 α1 α2 α3 α4 α5 α6 α7 α8 : Sort _} {P0 P1 : α0 → α1 → α2 → α3 → α4 → α5 → α6 → α7 → α8 → Prop} {G : Prop} (h : ∃ a0 a1 a2 a3 a4 a5 a6 a7 a8, P0 a0 a1 a2 a3 a4 a5 a6 a7 a8 ∧ P1 a0 a1 a2 a3 a4 a5 a6 a7 a8) (c : ∀ a0 a1 a2 a3 a4 a5 a6 a7 a8, P0 a0 a1 a2 a3 a4 a5 a6 a7 a8 → P1 a0 a1 a2 a3 a4 a5 a6 a7 a8 → G) : G := x9_1 h fun a0 a1 a2 a3 a4 a5 a6 a7 a8 h => x0_2 h (c a0 a1 a2 a3 a4 a5 a6 a7 a8)
theorem x9_4 {α0 α1 α2 α3 α4 α5 α6 α7 α8 : Sort _} {P0 P1 P2 P3 : α0 → α1 → α2 → α3 → α4 → α5 → α6 → α7 → α8 → Prop} {G : Prop} (h : ∃ a0 a1 a2 a3 a4 a5 a6 a7 a8, P0 a0 a1 a2 a3 a4 a5 a6 a7 a8 ∧ P1 a0 a1 a2 a3 a4 a5 a6 a7 a8 ∧ P2 a0 a1 a2 a3 a4 a5 a6 a7 a8 ∧ P3 a0 a1 a2 a3 a4 a5 a6 a7 a8) (c : ∀ a0 a1 a2 a3 a4 a5 a6 a7 a8, P0 a0 a1 a2 a3 a4 a5 a6 a7 a8 → P1 a0 a1 a2 a3 a4 a5 a6 a7 a8 → P2 a0 a1 a2 a3 a4 a5 a6 a7 a8 → P3 a0 a1 a2 a3 a4 a5 a6 a7 a8 → G) : G := x9_1 h fun a0 a1 a2 a3 a4 a5 a6 a7 a8 h => x0_4 h (c a0 a1 a2 a3 a4 a5 a6 a7 a8)
theorem x9_6 {α0 α1 α2 α3 α4 α5 α6 α7 α8 : Sort _} {P0 P1 P2 P3 P4 P5 : α0 → α1 → α2 → α3 → α4 → α5 → α6 → α7 → α8 → Prop} {G : Prop} (h : ∃ a0 a1 a2 a3 a4 a5 a6 a7 a8, P0 a0 a1 a2 a3 a4 a5 a6 a7 a8 ∧ P1 a0 a1 a2 a3 a4 a5 a6 a7 a8 ∧ P2 a0 a1 a2 a3 a4 a5 a6 a7 a8 ∧ P3 a0 a1 a2 a3 a4 a5 a6 a7 a8 ∧ P4 a0 a1 a2 a3 a4 a5 a6 a7 a8 ∧ P5 a0 a1 a2 a3 a4 a5 a6 a7 a8) (c : ∀ a0 a1 a2 a3 a4 a5 a6 a7 a8, P0 a0 a1 a2 a3 a4 a5 a6 a7 a8 → P1 a0 a1 a2 a3 a4 a5 a6 a7 a8 → P2 a0 a1 a2 a3 a4 a5 a6 a7 a8 → P3 a0 a1 a2 a3 a4 a5 a6 a7 a8 → P4 a0 a1 a2 a3 a4 a5 a6 a7 a8 → P5 a0 a1 a2 a3 a4 a5 a6 a7 a8 → G) : G := x9_1 h fun a0 a1 a2 a3 a4 a5 a6 a7 a8 h => x0_6 h (c a0 a1 a2 a3 a4 a5 a6 a7 a8)
theorem x9_7 {α0 α1 α2 α3 α4 α5 α6 α7 α8 : Sort _} {P0 P1 P2 P3 P4 P5 P6 : α0 → α1 → α2 → α3 → α4 → α5 → α6 → α7 → α8 → Prop} {G : Prop} (h : ∃ a0 a1 a2 a3 a4 a5 a6 a7 a8, P0 a0 a1 a2 a3 a4 a5 a6 a7 a8 ∧ P1 a0 a1 a2 a3 a4 a5 a6 a7 a8 ∧ P2 a0 a1 a2 a3 a4 a5 a6 a7 a8 ∧ P3 a0 a1 a2 a3 a4 a5 a6 a7 a8 ∧ P4 a0 a1 a2 a3 a4 a5 a6 a7 a8 ∧ P5 a0 a1 a2 a3 a4 a5 a6 a7 a8 ∧ P6 a0 a1 a2 a3 a4 a5 a6 a7 a8) (c : ∀ a0 a1 a2 a3 a4 a5 a6 a7 a8, P0 a0 a1 a2 a3 a4 a5 a6 a7 a8 → P1 a0 a1 a2 a3 a4 a5 a6 a7 a8 → P2 a0 a1 a2 a3 a4 a5 a6 a7 a8 → P3 a0 a1 a2 a3 a4 a5 a6 a7 a8 → P4 a0 a1 a2 a3 a4 a5 a6 a7 a8 → P5 a0 a1 a2 a3 a4 a5 a6 a7 a8 → P6 a0 a1 a2 a3 a4 a5 a6 a7 a8 → G) : G := x9_1 h fun a0 a1 a2 a3 a4 a5 a6 a7 a8 h => x0_7 h (c a0 a1 a2 a3 a4 a5 a6 a7 a8)
theorem i2 {α0 α1 : Sort _} {P : α0 → α1 → Prop} (a0 : α0) (a1 : α1) (h : P a0 a1) : ∃ a0 a1, P a0 a1 := ⟨a0, a1, h⟩
theorem i3 {α0 α1 α2 : Sort _} {P : α0 → α1 → α2 → Prop} (a0 : α0) (a1 : α1) (a2 : α2) (h : P a0 a1 a2) : ∃ a0 a1 a2, P a0 a1 a2 := ⟨a0, a1, a2, h⟩
theorem i4 {α0 α1 α2 α3 : Sort _} {P : α0 → α1 → α2 → α3 → Prop} (a0 : α0) (a1 : α1) (a2 : α2) (a3 : α3) (h : P a0 a1 a2 a3) : ∃ a0 a1 a2 a3, P a0 a1 a2 a3 := ⟨a0, a1, a2, a3, h⟩
theorem i5 {α0 α1 α2 α3 α4 : Sort _} {P : α0 → α1 → α2 → α3 → α4 → Prop} (a0 : α0) (a1 : α1) (a2 : α2) (a3 : α3) (a4 : α4) (h : P a0 a1 a2 a3 a4) : ∃ a0 a1 a2 a3 a4, P a0 a1 a2 a3 a4 := ⟨a0, a1, a2, a3, a4, h⟩
theorem i6 {α0 α1 α2 α3 α4 α5 : Sort _} {P : α0 → α1 → α2 → α3 → α4 → α5 → Prop} (a0 : α0) (a1 : α1) (a2 : α2) (a3 : α3) (a4 : α4) (a5 : α5) (h : P a0 a1 a2 a3 a4 a5) : ∃ a0 a1 a2 a3 a4 a5, P a0 a1 a2 a3 a4 a5 := ⟨a0, a1, a2, a3, a4, a5, h⟩
theorem i7 {α0 α1 α2 α3 α4 α5 α6 : Sort _} {P : α0 → α1 → α2 → α3 → α4 → α5 → α6 → Prop} (a0 : α0) (a1 : α1) (a2 : α2) (a3 : α3) (a4 : α4) (a5 : α5) (a6 : α6) (h : P a0 a1 a2 a3 a4 a5 a6) : ∃ a0 a1 a2 a3 a4 a5 a6, P a0 a1 a2 a3 a4 a5 a6 := ⟨a0, a1, a2, a3, a4, a5, a6, h⟩
theorem i8 {α0 α1 α2 α3 α4 α5 α6 α7 : Sort _} {P : α0 → α1 → α2 → α3 → α4 → α5 → α6 → α7 → Prop} (a0 : α0) (a1 : α1) (a2 : α2) (a3 : α3) (a4 : α4) (a5 : α5) (a6 : α6) (a7 : α7) (h : P a0 a1 a2 a3 a4 a5 a6 a7) : ∃ a0 a1 a2 a3 a4 a5 a6 a7, P a0 a1 a2 a3 a4 a5 a6 a7 := ⟨a0, a1, a2, a3, a4, a5, a6, a7, h⟩
theorem i9 {α0 α1 α2 α3 α4 α5 α6 α7 α8 : Sort _} {P : α0 → α1 → α2 → α3 → α4 → α5 → α6 → α7 → α8 → Prop} (a0 : α0) (a1 : α1) (a2 : α2) (a3 : α3) (a4 : α4) (a5 : α5) (a6 : α6) (a7 : α7) (a8 : α8) (h : P a0 a1 a2 a3 a4 a5 a6 a7 a8) : ∃ a0 a1 a2 a3 a4 a5 a6 a7 a8, P a0 a1 a2 a3 a4 a5 a6 a7 a8 := ⟨a0, a1, a2, a3, a4, a5, a6, a7, a8, h⟩
theorem i10 {α0 α1 α2 α3 α4 α5 α6 α7 α8 α9 : Sort _} {P : α0 → α1 → α2 → α3 → α4 → α5 → α6 → α7 → α8 → α9 → Prop} (a0 : α0) (a1 : α1) (a2 : α2) (a3 : α3) (a4 : α4) (a5 : α5) (a6 : α6) (a7 : α7) (a8 : α8) (a9 : α9) (h : P a0 a1 a2 a3 a4 a5 a6 a7 a8 a9) : ∃ a0 a1 a2 a3 a4 a5 a6 a7 a8 a9, P a0 a1 a2 a3 a4 a5 a6 a7 a8 a9 := ⟨a0, a1, a2, a3, a4, a5, a6, a7, a8, a9, h⟩
end Mine
end
theorem Mine.flushXE : if True then True else True := by (w_top off); first | (walk1; fail) | simp
section
open PySem PySem.W PySem.Calls PyProof.Rows
set_option maxRecDepth 100000
set_option maxHeartbeats 8000000
namespace Mine
noncomputable abbrev pr : Program := pw'
noncomputable abbrev sc (nm : List (Str × NameKind)) (mo : List (Str × Const)) : Scope := { kind := .function, names := nm, isGenerator := false, isCoroutine := false, more := mo }
noncomputable abbrev top (hdl : Option Value) (dp un : Nat) (gd : Option (List Code)) (cn : Str) (nm : List (Str × NameKind)) (mo : List (Str × Const)) (L a : Addr) (ccd : Value) (cl : List (Str × Addr)) (outer : List Env) : Around :=
  { handled := hdl, depth := dp, frames := some (envX cn (sc nm mo) L a ccd cl :: outer), guards := gd, units := un }
structure Cx (w : World) (p : Program) (loose : List Str) (mean : ExcName → Option Value) (mg mb : Str → Option Value) (outer : List Env) (A₀ : Around) (base h₀ : Heap) (L : Addr) (m : Str → Option Value) (h : Heap) (news : List (Addr × Obj)) : Prop where
  B : Below A₀ base outer h₀
  F : Fr h₀ L h m
  X : (K2 w.params).In h₀
  N : News h₀ L h news
  T : Top p loose mean mg mb h₀
  C : CodeHd base 123 119

/-- a bound of all of a ledger's addresses -/
noncomputable def Bnd (d : Nat) (l : List (Addr × Obj)) : Prop := ∀ p ∈ l, @LT.lt Nat _ p.1 d
theorem Bnd.ne {d e : Nat} {l : List (Addr × Obj)} (h : Bnd d l) (he : d ≤ e) : ∀ p ∈ l, p.1 ≠ e := fun p hp q => by
  have := h p hp
  rw [q] at this
  exact absurd this (Nat.not_lt_of_le he)
theorem Bnd.sub {d : Nat} {l l' : List (Addr × Obj)} (h : Bnd d l) (hs : ∀ p ∈ l', p ∈ l) : Bnd d l' := fun p hp => h p (hs p hp)
theorem Bnd.of {d : Nat} {l : List (Addr × Obj)} (h : AllLt d l) : Bnd d l := by
  induction l with
  | nil => exact fun _ hp => nomatch hp
  | cons q r ih =>
    obtain ⟨h1, h2⟩ := h
    intro p hp
    rcases List.mem_cons.mp hp with rfl | hp
    · exact h1
    · exact ih h2 p hp
end Mine
end
theorem Mine.flushBase46 : if True then True else True := by (w_top off); first | (walk1; fail) | simp
section
open PySem PySem.W PySem.Calls PyProof.Rows Builtin Builtin.ObjectAttr
set_option maxRecDepth 100000
set_option maxHeartbeats 8000000
namespace Mine
theorem slot_fsa : Slot "function" "__setattr__" "object.__setattr__" :=
  .of (owner := "object") (n := "__setattr__") (by rw [typeLookup_type, builtinLookup_eq_fast]; kernel_rfl) (by decide +kernel) (by decide +kernel) (by decide +kernel)
    (by first | exact .inl (by decide +kernel) | exact .inr (by decide +kernel)) (by rw [isSubtype_type]; kernel_rfl)
theorem fn_mro : mroOf (.type "function") = pure [.type "function", .type "object"] := by kernel_rfl
theorem fn_read : typeLookup (.type "function") (Str.ofString "read") = pure none := by rw [typeLookup_type, builtinLookup_eq_fast]; kernel_rfl
theorem fn_passes (self : Value) : refuseLoop self "__setattr__" [.type "function", .type "object"] = pure () := by kernel_rfl

theorem nd_update {α : Type} {M : Model} {A : Around} {Q : α → Shared → Prop} {E : Value → Shared → Prop} {s : Shared} {a : Addr} {p : Option Value} {f : Obj → Obj} {k : Unit → Sem α} {o : Obj} (ho : s.heap.get? a = some o)
    (h : wpAny M A (k ()) Q E { s with heap := s.heap.update a f }) : wpAny M A (.update a p f k) Q E s := fun Γ q hΓ => ⟨by rw [ho]; rfl, h Γ q hΓ⟩
section
variable {prog : Program} {w : World} {A : Around} {E : Value → Shared → Prop} {s : Shared} {h₀ : Heap} {L f : Addr} {m : Str → Option Value} {news : List (Addr × Obj)} {g : Obj → List (Addr × Obj)} {fd : FuncData} {sl : Array (Option Value)}
theorem fn_set {v : Value} {Q : Unit → Shared → Prop} (F : Fr h₀ L s.heap m) (N : News h₀ L s.heap news) (U : UpdF f ⟨.type "function", none, .func fd, sl⟩ news g)
    (h : ∀ dx h' tk, Fr h₀ L h' m → News h₀ L h' ((dx, dictOf [⟨PyData.keyHash w.params (Str.ofString "read"), .str (Str.ofString "read") tk, v⟩] 1) :: g ⟨.type "function", some dx, .func fd, sl⟩) → (∀ p ∈ news, p.1 < dx) → Q () { s with heap := h', toks := tk + 1 }) :
    wpAny (model prog w) A (setAttr (.ref f) (Str.ofString "read") v) Q E s := by
  obtain ⟨own, rest, rfl, hg, h1, h2⟩ := U.split
  have hf := (N (f, ⟨.type "function", none, .func fd, sl⟩) (List.mem_append_right _ (.head _))).1
  have lT : Looks (model prog w) s.heap (typeOf (.ref f)) (.type "function") := (Looks.ld hf).andThen .now
  refine wpAny_bind (wpAny_mkText (wpAny_bind (wpAny_bind (wpAny_bind (lT _ _ _ _ (fun _ _ e => e) ((Looks.of_pure slot_fsa.lookup) _ _ _ _ (fun _ _ e => e) (wpAny_holding ?_)))))))
  rw [PySem.F.store_object.slot.bind]
  refine wpAny_bind (wpAny_pure (wpAny_bind (wpAny_call ?_)))
  refine codeAny_call_builtin PySem.F.store_object.slot.plain PySem.F.store_object.entry (slot_fsa.check _ _ _ _ _ _ _ _ ⟨_, hf, rfl⟩ (PySem.F.store_object.args _ _ _) ?_)
  rw [List.singleton_append, osa_eq, refuse_eq]
  refine wpAny_bind (wpAny_bind (lT _ _ _ _ (fun _ _ e => e) (wpAny_bind ((Looks.of_pure fn_mro).here ?_))))
  rw [fn_passes]
  refine wpAny_pure (wpAny_bind (lT _ _ _ _ (fun _ _ e => e) (wpAny_bind ((Looks.of_pure fn_read).here (wpAny_bind (wpAny_pure ?_))))))
  clear lT
  obtain ⟨hh, gg, dd, t, os⟩ := s
  dsimp only at hf ⊢
  have k1 : typeHasDict (.type "function") = true := by decide +kernel
  have k2 : finalisedInACycleAlone "function" = false := by decide +kernel
  unfold storeInOwnDict ownStreamTells ownDictForStores instanceDict
  repeat lk
  have hfree : h₀.objs.size ≤ hh.objs.size := Nat.le_trans F.above (Nat.le_of_lt F.ns.lt)
  have F1 := F.push { cls := .type "dict", data := .dict #[] }
  have N1 := N.push F { cls := .type "dict", data := .dict #[] }
  have hne : ∀ p ∈ own ++ (f, ({ cls := .type "function", data := .func fd, slots := sl } : Obj)) :: rest, p.1 < hh.objs.size := fun p hp => Heap.lt_size (N p hp).1
  have N1' : News h₀ L _ (((hh.objs.size, ({ cls := .type "dict", data := .dict #[] } : Obj)) :: own) ++ (f, ({ cls := .type "function", data := .func fd, slots := sl } : Obj)) :: rest) := N1
  refine nd_update (N1' (f, _) (List.mem_append_right _ (.head _))).1 ?_
  obtain ⟨F2, N2⟩ := news_upd (f := fun o => { o with dict := some hh.objs.size }) F1 N1' (fun p hp => by
    rcases List.mem_cons.mp hp with rfl | hp
    · exact Nat.ne_of_gt (hne _ (List.mem_append_right _ (.head _)))
    · exact h1 p hp) h2 rfl rfl
  have D := (N2 (hh.objs.size, ({ cls := .type "dict", data := .dict #[] } : Obj)) (List.mem_append_left _ (.head _))).1
  refine nd_pure ?_
  unfold dictMade storeInDict newKeyGuard
  simp only [k2, Bool.false_eq_true, if_false]
  repeat lk
  refine nd_update D ?_
  have N2' : News h₀ L _ ([] ++ (hh.objs.size, dictOf [] 0) :: (own ++ (f, ({ cls := .type "function", dict := some hh.objs.size, data := .func fd, slots := sl } : Obj)) :: rest)) := N2
  obtain ⟨F3, N3⟩ := news_upd (f := Obj.putName (Str.ofString "read") (PyData.keyHash w.params (Str.ofString "read")) (.str (Str.ofString "read") (t + 1)) v) F2 N2' (fun _ hp => nomatch hp) (fun p hp => by
    have : p.1 < hh.objs.size := by
      rcases List.mem_append.mp hp with q | q
      · exact hne p (List.mem_append_left _ q)
      · rcases List.mem_cons.mp q with rfl | q
        · exact hne (f, ({ cls := .type "function", data := .func fd, slots := sl } : Obj)) (List.mem_append_right _ (.head _))
        · exact hne p (List.mem_append_right _ (.tail _ q))
    exact Nat.ne_of_lt this) (o' := dictOf [⟨PyData.keyHash w.params (Str.ofString "read"), .str (Str.ofString "read") (t + 1), v⟩] 1) (by rw [putName_dict]; rfl) rfl
  have D3 := (N3 (hh.objs.size, dictOf [⟨PyData.keyHash w.params (Str.ofString "read"), .str (Str.ofString "read") (t + 1), v⟩] 1) (.head _)).1
  refine nd_pure (wpAny_bind (wpAny_lookBehind D3 (pastItsLine_dict (by rw [sizeLine_eq]; show 1 ≤ _; omega)) (wpAny_pure ?_)))
  refine wpAny_pure (wpAny_pure ?_)
  refine h _ _ _ F3 ?_ hne
  rw [hg]
  exact N3
end
end Mine
end
theorem Mine.flushR1 : if True then True else True := by (w_top off); first | (walk1; fail) | simp
section
open PySem PySem.W PySem.Calls PyProof.Rows Builtin Builtin.ObjectAttr
set_option maxRecDepth 100000
set_option maxHeartbeats 8000000
namespace Mine
theorem slot_fga : Slot "function" "__getattribute__" "object.__getattribute__" :=
  .of (owner := "object") (n := "__getattribute__") (by rw [typeLookup_type, builtinLookup_eq_fast]; kernel_rfl) (by decide +kernel) (by decide +kernel) (by decide +kernel)
    (by first | exact .inl (by decide +kernel) | exact .inr (by decide +kernel)) (by rw [isSubtype_type]; kernel_rfl)
theorem fn_hook : typeLookup (.type "function") (Str.ofString "__getattr__") = pure none := by rw [typeLookup_type, builtinLookup_eq_fast]; kernel_rfl
theorem entry_oga : entryFor table "object.__getattribute__" = some Builtin.«object.__getattribute__» := entryFor_of_tree (by kernel_rfl)
theorem args_oga (a b : Value) : argsOk "object.__getattribute__" ⟨[a, b], []⟩ := by unfold argsOk; kernel_rfl
theorem fn_canon : (Manifest.canonical "object.__getattribute__" != "object.__getattribute__") = false := by decide +kernel
section
variable {prog : Program} {w : World} {A : Around} {E : Value → Shared → Prop} {h : Heap} {g : Array GenState} {d : Drawn} {t : Nat} {os : OsState} {f dx r : Addr} {fd : FuncData} {sl : Array (Option Value)} {hs : Int} {tk : Tok}
theorem fn_ga {R : Fin → Shared → Prop} (hf : h.get? f = some ⟨.type "function", some dx, .func fd, sl⟩) (hd : h.get? dx = some (dictOf [⟨hs, .str (Str.ofString "read") tk, .ref r⟩] 1))
    (hq : R (.done (.ret (.ref r))) ⟨h, g, d, t, os⟩) {t' : Tok} :
    wpAny (model prog w) A (Builtin.«object.__getattribute__» ⟨[.ref f, .str (Str.ofString "read") t'], []⟩) R E ⟨h, g, d, t, os⟩ := by
  have hl := Looks.of_pure (M := model prog w) (h := h) fn_read
  unfold Builtin.«object.__getattribute__» find ownThenClass inOwnDict ObjectAttr.ownDict inDict nsGet
  repeat lk
  exact hq
theorem fn_getm {pl : Sem Bool} {Q : Value × List Value → Shared → Prop} (hf : h.get? f = some ⟨.type "function", some dx, .func fd, sl⟩) (hd : h.get? dx = some (dictOf [⟨hs, .str (Str.ofString "read") tk, .ref r⟩] 1))
    (hq : Q (.ref r, []) ⟨h, g, d, t + 1, os⟩) : wpAny (model prog w) A (getMethod (.ref f) (Str.ofString "read") pl) Q E ⟨h, g, d, t, os⟩ := by
  have hlk := slot_fga.lookup
  have hT : ∀ t', (⟨h, g, d, t', os⟩ : Shared).TypeIs (.ref f) "function" := fun _ => ⟨_, hf, rfl⟩
  unfold getMethod
  refine wpAny_bind (wpAny_specialOf (hT _) hlk ?_)
  show wpAny _ _ (if (Manifest.canonical "object.__getattribute__" != "object.__getattribute__") = true then _ else _) _ _ _
  rw [fn_canon]
  simp only [Bool.false_eq_true, if_false]
  refine wpAny_bind (wpAny_specialOf (hT _) fn_hook ?_)
  simp only [Option.isSome_none, Bool.false_eq_true, if_false]
  refine wpAny_bind (wpAny_specialOf (hT _) fn_read ?_)
  unfold getAttr getAttrBy
  refine wpAny_bind (wpAny_bind (wpAny_mkText (wpAny_holding (wpAny_bind (wpAny_typeOf (hT _) (wpAny_bind (wpAny_of_eq hlk ?_)))))))
  show wpAny _ _ (getAttrByItsOwn (.ref f) (.str (Str.ofString "read") t) (.type "function") (.builtin "object.__getattribute__") true false) _ _ _
  unfold getAttrByItsOwn hookBefore callGetattribute boundAndCalled
  refine wpAny_bind (wpAny_of_eq (show (if onTheHeap (.type "function") then typeLookup (.type "function") "__getattr__" else pure none) = pure none from rfl) ?_)
  refine wpAny_bind (wpAny_attempt (wpAny_holding ?_))
  show wpAny _ _ (bindSpecial (.builtin "object.__getattribute__") (.ref f) >>= _) _ _ _
  refine wpAny_bind (wpAny_of_eq (slot_fga.bind _) ?_)
  refine wpAny_mono (Q := fun v s' => v = .ref r ∧ s' = ⟨h, g, d, t + 1, os⟩) (E := fun _ _ => False)
    (wpAny_call_entry slot_fga (hT _) entry_oga (fn_ga hf hd ⟨_, rfl, rfl, rfl⟩) (args_oga _ _)) (fun v s' hv => ?_) fun _ _ z => z.elim
  obtain ⟨rfl, rfl⟩ := hv
  exact wpAny_pure (wpAny_pure hq)
end
section
variable {prog : Program} {w : World} {A : Around} {E : Value → Shared → Prop} {s : Shared} {h₀ : Heap} {L f dx r : Addr} {m : Str → Option Value} {news : List (Addr × Obj)} {fd : FuncData} {sl : Array (Option Value)} {hs : Int} {tk : Tok}
theorem fn_getmK {pl : Sem Bool} {Q : Value × List Value → Shared → Prop} (N : News h₀ L s.heap news) (hf : (f, (⟨.type "function", some dx, .func fd, sl⟩ : Obj)) ∈ news) (hd : (dx, dictOf [⟨hs, .str (Str.ofString "read") tk, .ref r⟩] 1) ∈ news)
    (hq : Q (.ref r, []) { s with toks := s.toks + 1 }) : wpAny (model prog w) A (getMethod (.ref f) (Str.ofString "read") pl) Q E s := by
  have a := (N _ hf).1
  have b := (N _ hd).1
  obtain ⟨h, g, d, t, os⟩ := s
  exact fn_getm a b hq
end
end Mine
end
theorem Mine.flushR2 : if True then True else True := by (w_top off); first | (walk1; fail) | simp
section
open PySem PySem.W PySem.Calls PyProof.Rows
set_option maxRecDepth 100000
set_option maxHeartbeats 8000000
namespace Mine
/-- what does not change of a lexer -/
structure LexC where
  (l x d dx f r c2 al ca ct : Nat)
  (k1 k2 k3 t3 k4 k5 : Tok)
  (fd rfd : FuncData)
  (oc2 oca oct : Obj)
/-- what changes -/
structure LexS where
  (ln : Int) (t1 : Tok) (items : List Value) (e : Nat) (pos : Nat) (tp : Tok) (e2 : Nat)
noncomputable abbrev lexD (w : World) (C : LexC) (S : LexS) : Obj :=
  dictOf [⟨PyData.keyHash w.params (Str.ofString "lineno"), .str (Str.ofString "lineno") C.k1, .int S.ln S.t1⟩,
    ⟨PyData.keyHash w.params (Str.ofString "instream"), .str (Str.ofString "instream") C.k2, .ref C.f⟩,
    ⟨PyData.keyHash w.params (Str.ofString "whitespace"), .str (Str.ofString "whitespace") C.k3, .str (Str.ofString "\n\t\x0d ") C.t3⟩,
    ⟨PyData.keyHash w.params (Str.ofString "pushback"), .str (Str.ofString "pushback") C.k4, .ref C.l⟩] 4
noncomputable abbrev lexL (w : World) (C : LexC) (S : LexS) (news : List (Addr × Obj)) : List (Addr × Obj) :=
  (C.l, listOf S.items.toArray S.e) :: (C.x, instObj 52 C.d) :: (C.d, lexD w C S) ::
  (C.dx, dictOf [⟨PyData.keyHash w.params (Str.ofString "read"), .str (Str.ofString "read") C.k5, .ref C.r⟩] 1) ::
  (C.f, ⟨.type "function", some C.dx, .func C.fd, #[]⟩) :: (C.r, ⟨.type "function", none, .func C.rfd, #[]⟩) :: (C.c2, C.oc2) ::
  (C.al, listOf #[.int (S.pos : Int) S.tp] S.e2) :: (C.ca, C.oca) :: (C.ct, C.oct) :: news
structure LexO (C : LexC) (news : List (Addr × Obj)) : Prop where
  o1 : @LT.lt Nat _ C.ca C.al
  o2 : @LT.lt Nat _ C.ct C.al
  o3 : @LT.lt Nat _ C.al C.c2
  o4 : @LT.lt Nat _ C.c2 C.r
  o5 : @LT.lt Nat _ C.r C.f
  o6 : @LT.lt Nat _ C.f C.dx
  o7 : @LT.lt Nat _ C.dx C.d
  o8 : @LT.lt Nat _ C.d C.x
  o9 : @LT.lt Nat _ C.x C.l
  nd : ∀ p ∈ news, p.1 ≠ C.d
  nal : ∀ p ∈ news, p.1 ≠ C.al
  nl : ∀ p ∈ news, p.1 ≠ C.l
/-- the sign at a place, or the empty text behind the end -/
noncomputable def chr1 (T : Str) (i : Nat) : Str := ⟨((T.cps.toList.drop i).take 1).toArray⟩
noncomputable def ReadSpec (w : World) (C : LexC) (T : Str) : Prop :=
  ∀ {p : Program} {loose : List Str} {mean : ExcName → Option Value} {mg mb : Str → Option Value} {outer : List Env} {A₀ : Around} {base h₀ : Heap} {L : Addr} {m : Str → Option Value} {news : List (Addr × Obj)} {s : Shared}
  {hdl : Option Value} {dp un : Nat} {gd : Option (List Code)} {cn : Str} {nm : List (Str × NameKind)} {mo : List (Str × Const)} {a : Addr} {ccd : Value} {cl : List (Str × Addr)} {Q E : Value → Shared → Prop} {S : LexS} {t : Tok},
  Cx w p loose mean mg mb outer A₀ base h₀ L m s.heap (lexL w C S news) → LexO C news → dp + 2 < recursionLimit → un + 20 < cLine → S.pos < 1048576 →
  (∀ t' tp' e' h' tk', Fr h₀ L h' m → News h₀ L h' (lexL w C { S with pos := S.pos + 1, tp := tp', e2 := e' } news) → Q (.str (chr1 T S.pos) t') { s with heap := h', toks := tk' }) →
  wpAny (model pr w) (top hdl dp un gd cn nm mo L a ccd cl outer) (call (.ref C.r) [.int 1 t]) Q E s
theorem strQ {Q : Value → Shared → Prop} {a b : Str} {t : Tok} {s : Shared} (e : a = b) (h : Q (.str b t) s) : Q (.str a t) s := e ▸ h
theorem mem12 {a b c d e f g h i j k m : Addr × Obj} {l r : List (Addr × Obj)} (h1 : a ∈ l) (h2 : b ∈ l) (h3 : c ∈ l) (h4 : d ∈ l) (h5 : e ∈ l) (h6 : f ∈ l) (h7 : g ∈ l) (h8 : h ∈ l) (h9 : i ∈ l) (h10 : j ∈ l) (h12 : k ∈ l) (h13 : m ∈ l) (h11 : ∀ p ∈ r, p ∈ l) :
    ∀ p ∈ a :: b :: c :: d :: e :: f :: g :: h :: i :: j :: k :: m :: r, p ∈ l := by
  simp only [List.mem_cons]
  rintro p (rfl | rfl | rfl | rfl | rfl | rfl | rfl | rfl | rfl | rfl | rfl | rfl | hp) <;> first | assumption | exact h11 p hp
theorem mem10 {a b c d e f g h i j : Addr × Obj} {l r : List (Addr × Obj)} (h1 : a ∈ l) (h2 : b ∈ l) (h3 : c ∈ l) (h4 : d ∈ l) (h5 : e ∈ l) (h6 : f ∈ l) (h7 : g ∈ l) (h8 : h ∈ l) (h9 : i ∈ l) (h10 : j ∈ l) (h11 : ∀ p ∈ r, p ∈ l) :
    ∀ p ∈ a :: b :: c :: d :: e :: f :: g :: h :: i :: j :: r, p ∈ l := by
  simp only [List.mem_cons]
  rintro p (rfl | rfl | rfl | rfl | rfl | rfl | rfl | rfl | rfl | rfl | hp) <;> first | assumption | exact h11 p hp
end Mine
end
theorem Mine.flushLex0 : if True then True else True := by (w_top off); first | (walk1; fail) | simp
section
open PySem PySem.W PySem.Calls PyProof PyProof.Rows Builtin Builtin.Str
namespace Mine
theorem idx_list {α : Type} (l : List α) (a : Nat) : ∀ c, ((List.range c).map (fun k => a + k)).filterMap (fun k => l[k]?) = (l.drop a).take c
  | 0 => by simp
  | c + 1 => by
    rw [List.range_succ, List.map_append, List.filterMap_append, idx_list l a c, List.take_add_one]
    congr 1
    simp only [List.map_cons, List.map_nil, List.filterMap_cons, List.filterMap_nil, List.getElem?_drop]
    cases l[a + c]? <;> rfl
theorem clampN (i n : Nat) : max 0 (min (i : Int) (n : Int)) = ((min i n : Nat) : Int) := by
  have e : min (i : Int) (n : Int) = ((min i n : Nat) : Int) := by
    rcases Nat.le_total i n with h | h
    · rw [Nat.min_eq_left h, Int.min_eq_left (Int.ofNat_le.mpr h)]
    · rw [Nat.min_eq_right h, Int.min_eq_right (Int.ofNat_le.mpr h)]
  rw [e]
  exact Int.max_eq_right (Int.natCast_nonneg _)
theorem gapN (a b : Nat) : (if (a : Int) < (b : Int) then ((b : Int) - (a : Int) + 1 - 1) / 1 else 0).toNat = b - a := by
  rw [Int.add_sub_cancel, Int.ediv_one]
  split
  · exact Int.toNat_sub b a
  · rename_i h
    exact (Nat.sub_eq_zero_of_le (Int.ofNat_le.mp (Int.not_lt.mp h))).symm
theorem slice_idx (i j n : Nat) : strSliceIndices (some (i : Int)) (some (j : Int)) 1 n = (List.range (min j n - min i n)).map (fun k => min i n + k) := by
  unfold strSliceIndices sliceRange
  simp only [Int.not_lt.mpr (Int.natCast_nonneg i), Int.not_lt.mpr (Int.natCast_nonneg j), if_false, show ((1 : Int) > 0) by decide, if_true]
  rw [clampN, clampN, gapN]
  congr 1
  funext k
  rw [Int.one_mul]
  exact Int.toNat_natCast (min i n + k)
theorem cutN {α : Type} (l : List α) (i j : Nat) : (l.drop (min i l.length)).take (min j l.length - min i l.length) = (l.take j).drop i := by
  rw [List.drop_take]
  by_cases h : i < l.length
  · rw [Nat.min_eq_left (Nat.le_of_lt h)]
    by_cases g : j ≤ l.length
    · rw [Nat.min_eq_left g]
    · have g' := Nat.le_of_lt (Nat.lt_of_not_le g)
      rw [Nat.min_eq_right g', List.take_of_length_le (Nat.le_of_eq List.length_drop), List.take_of_length_le (Nat.le_trans (Nat.le_of_eq List.length_drop) (Nat.sub_le_sub_right g' i))]
  · have h' := Nat.le_of_not_lt h
    rw [Nat.min_eq_right h', List.drop_eq_nil_of_le (Nat.le_refl _), List.drop_eq_nil_of_le h', List.take_nil, List.take_nil]
theorem wholeN {α : Type} (l : List α) (i j : Nat) (h : min j l.length - min i l.length = l.length) : (l.take j).drop i = l := by
  cases l with
  | nil => simp
  | cons x r =>
    cases i with
    | zero =>
      rw [Nat.zero_min, Nat.sub_zero] at h
      rw [List.drop_zero, List.take_of_length_le (h ▸ Nat.min_le_left _ _)]
    | succ i =>
      have h1 : 0 < min (i + 1) (x :: r).length := Nat.lt_min.mpr ⟨Nat.succ_pos _, Nat.succ_pos _⟩
      have h2 : (x :: r).length ≤ min j (x :: r).length := Nat.le_trans (Nat.le_of_eq h.symm) (Nat.sub_le _ _)
      exact absurd h (Nat.ne_of_lt (Nat.lt_of_lt_of_le (Nat.sub_lt (Nat.lt_of_lt_of_le (Nat.succ_pos _) h2) h1) (Nat.min_le_right _ _)))
theorem slice_nat (x : Str) (i j : Nat) : Txt.slice x (some (i : Int)) (some (j : Int)) = ⟨((x.cps.toList.take j).drop i).toArray⟩ := by
  have hn : x.length = x.cps.toList.length := by simp [Str.length]
  have key : (strSliceIndices (some (i : Int)) (some (j : Int)) 1 x.length).filterMap (fun k => x.cps[k]?) = (x.cps.toList.take j).drop i := by
    rw [slice_idx]
    have := idx_list x.cps.toList (min i x.length) (min j x.length - min i x.length)
    simp only [Array.getElem?_toList] at this
    rw [this, hn]
    exact cutN _ i j
  unfold Txt.slice
  rw [key]
  split
  · rename_i h
    have hl : (strSliceIndices (some (i : Int)) (some (j : Int)) 1 x.length).length = x.length := by simpa using h
    rw [slice_idx, List.length_map, List.length_range, hn] at hl
    rw [wholeN _ i j hl]
  · rfl
theorem slice_chr1 (x : Str) (p : Nat) : Txt.slice x (some ((p : Int) + 1 - 1)) (some ((p : Int) + 1)) = chr1 x p := by
  rw [show (p : Int) + 1 - 1 = ((p : Nat) : Int) by omega, show (p : Int) + 1 = ((p + 1 : Nat) : Int) by omega, slice_nat]
  unfold chr1
  congr 2
  apply List.ext_getElem?
  intro k
  simp only [List.getElem?_take, List.getElem?_drop]
  by_cases h : k < 1
  · rw [if_pos h, if_pos (by omega)]
  · rw [if_neg h, if_neg (by omega)]
end Mine
end
theorem Mine.flushP1 : if True then True else True := by (w_top off); first | (walk1; fail) | simp
section
open PySem PySem.W PySem.Calls PyProof.Rows Builtin
set_option maxRecDepth 100000
set_option maxHeartbeats 8000000
namespace Mine
theorem slot_mcall : (typeLookup (.type "method") (Str.ofString "__call__")) = pure (some (.builtin "method.__call__")) := by rw [typeLookup_type, builtinLookup_eq_fast]; kernel_rfl
theorem slot_cinext : Slot "callable_iterator" "__next__" "callable_iterator.__next__" :=
  .of (owner := "callable_iterator") (n := "__next__") (by rw [typeLookup_type, builtinLookup_eq_fast]; kernel_rfl) (by decide +kernel) (by decide +kernel) (by decide +kernel)
    (by first | exact .inl (by decide +kernel) | exact .inr (by decide +kernel)) (by rw [isSubtype_type]; kernel_rfl)
theorem slot_ciiter : Slot "callable_iterator" "__iter__" "callable_iterator.__iter__" :=
  .of (owner := "callable_iterator") (n := "__iter__") (by rw [typeLookup_type, builtinLookup_eq_fast]; kernel_rfl) (by decide +kernel) (by decide +kernel) (by decide +kernel)
    (by first | exact .inl (by decide +kernel) | exact .inr (by decide +kernel)) (by rw [isSubtype_type]; kernel_rfl)
theorem entry_cinext : entryFor table "callable_iterator.__next__" = some Builtin.«callable_iterator.__next__» := entryFor_of_fast (by kernel_rfl)
theorem entry_ciiter : entryFor table "callable_iterator.__iter__" = some Builtin.«dict_keyiterator.__iter__» :=
  entryFor_alias (id' := "dict_keyiterator.__iter__") (by kernel_rfl) rfl (by decide +kernel) (by kernel_rfl)
theorem args_cinext (a : Value) : argsOk "callable_iterator.__next__" ⟨[a], []⟩ := by unfold argsOk; kernel_rfl
theorem args_ciiter (a : Value) : argsOk "callable_iterator.__iter__" ⟨[a], []⟩ := by unfold argsOk; kernel_rfl
theorem entry_iter : entryFor table "iter" = some Builtin.«iter» := entryFor_of_fast (by kernel_rfl)
theorem wpAny_callBorrowed {M : Model} {A : Around} {E : Value → Shared → Prop} {s : Shared} {f : Value} {pos : List Value} {Q : Value → Shared → Prop}
    (hc : codeAny M A (.call f ⟨pos, []⟩) (fun r s' => match r with | .ok (.ret v) => Q v s' | .ok _ => False | .error e => E e s') s) :
    wpAny M A (callBorrowed f pos) Q E s := fun Γ p hΓ => by
  unfold callBorrowed
  rw [Sem.wp_call]
  refine wpCode_mono (fun r s' h => ?_) (hc _ p rfl (hΓ.enter (.call f ⟨pos, []⟩) none p (by intro x; cases x)))
  rcases r with e | (v | _ | _ | _) <;> first | exact h.elim | (simp only [Sem.wp]; exact h)
noncomputable abbrev ciObj (q : Addr) (te : Tok) : Obj := { cls := .type "callable_iterator", data := .fields #[.ref q, .str (Str.ofString "") te, .bool false] }
theorem ci_type {h : Heap} {g d tk os} {it q : Addr} {te : Tok} (hit : h.get? it = some (ciObj q te)) : (⟨h, g, d, tk, os⟩ : Shared).TypeIs (.ref it) "callable_iterator" := ⟨_, hit, rfl⟩
section
variable {prog : Program} {w : World} {A : Around} {E : Value → Shared → Prop} {s : Shared} {h₀ : Heap} {L it q f : Addr} {m : Str → Option Value} {news : List (Addr × Obj)} {te : Tok} {self : Value}
/-- iter(a method, '') -/
theorem ci_make {Q : Value → Shared → Prop} (F : Fr h₀ L s.heap m) (N : News h₀ L s.heap news) (hq : (q, methodObj (.ref f) self) ∈ news)
    (h : ∀ it h', Fr h₀ L h' m → News h₀ L h' ((it, ciObj q te) :: news) → (∀ p ∈ news, p.1 < it) → Q (.ref it) { s with heap := h' }) :
    wpAny (model prog w) A (call (.builtin "iter") [.ref q, .str (Str.ofString "") te]) Q E s := by
  have hqo := (N _ hq).1
  refine call_function_entry (by decide +kernel) (by decide +kernel) entry_iter (by unfold argsOk; kernel_rfl) ?_
  unfold Builtin.«iter»
  refine wpAny_bind (m := someArgs "iter" 1 2 _) (wpAny_of_eq (a := [Value.ref q, Value.str (Str.ofString "") te]) (by first | rfl | kernel_rfl!) ?_)
  refine wpAny_bind (wpAny_specialOf (T := "method") ⟨_, hqo, rfl⟩ slot_mcall ?_)
  simp only [Option.isNone_some, Bool.false_eq_true, if_false]
  refine wpAny_bind (wpAny_rule (wpAny_bind (wpAny_newObj_type (wpAny_pure ⟨_, rfl, ?_⟩))))
  exact h _ _ (F.push _) (News.push F N _ rfl) (fun q hq => Heap.lt_size (N q hq).1)
theorem ci_iter {Q : Value → Shared → Prop} (hit : s.heap.get? it = some (ciObj q te)) (h : Q (.ref it) s) : wpAny (model prog w) A (pyIter (.ref it)) Q E s := by
  have hT : s.TypeIs (.ref it) "callable_iterator" := ⟨_, hit, rfl⟩
  refine wpAny_pyIter_slot hT slot_ciiter (wpAny_call_entry slot_ciiter hT entry_ciiter ?_ (args_ciiter _))
  show wpAny _ _ (ret (.ref it)) _ _ s
  exact wpAny_pure ⟨_, rfl, "callable_iterator", _, hT, slot_cinext.lookup, h⟩
theorem ci_borrows {M : Model} {h : Heap} {of : Obj} {fd : FuncData} (hq : h.get? q = some (methodObj (.ref f) self)) (hfo : h.get? f = some of) (hfd : of.data = .func fd) : Looks M h (borrowsExactly (.ref q)) true := by
  intro A Q E s k hQ
  have a := k _ _ hq
  have b := k _ _ hfo
  obtain ⟨h1, g1, d1, t1, o1⟩ := s
  dsimp only at a b
  unfold borrowsExactly
  repeat lk
  rw [hfd]
  repeat lk
  exact hQ
theorem ci_next {Q : Option Value → Shared → Prop} (hh : A.handled = none) (hit : s.heap.get? it = some (ciObj q te)) (hq : s.heap.get? q = some (methodObj (.ref f) self)) (hf : ∃ o fd, s.heap.get? f = some o ∧ o.data = .func fd)
    (hcall : codeAny (model prog w) A.in1 (.call (.ref f) ⟨[self], []⟩) (fun r s' => ∃ c t, r = .ok (.ret (.str c t)) ∧ s'.heap.get? it = some (ciObj q te) ∧ s'.heap.get? q = some (methodObj (.ref f) self) ∧
      (∃ o fd, s'.heap.get? f = some o ∧ o.data = .func fd) ∧ (Str.ofString "" ≠ c → Q (some (.str c t)) s') ∧
      (Str.ofString "" = c → ∀ h', (∀ b o, b ≠ it → s'.heap.get? b = some o → h'.get? b = some o) → Q none { s' with heap := h' })) s) :
    wpAny (model prog w) A (pyNext (.ref it)) Q E s := by
  have hT : s.TypeIs (.ref it) "callable_iterator" := ⟨_, hit, rfl⟩
  unfold pyNext
  refine wpAny_bind (wpAny_attempt (wpAny_callSpecial?_slot (name := Str.ofString "__next__") hT slot_cinext
    (wpAny_call_entry slot_cinext hT entry_cinext ?_ (args_cinext _))))
  obtain ⟨of, fd, hfo, hfd⟩ := hf
  obtain ⟨hh', gg, dd, t, os⟩ := s
  dsimp only at hit hq hfo
  have lb := ci_borrows (M := model prog w) hq hfo hfd
  unfold Builtin.«callable_iterator.__next__»
  refine wpAny_bind (wpAny_of_eq (a := (Value.ref it, [])) (by first | rfl | kernel_rfl!) ?_)
  refine wpAny_bind (wpAny_field hit rfl (x := .bool false) rfl ?_)
  rw [if_neg (by decide)]
  refine wpAny_bind (wpAny_field hit rfl (x := .ref q) rfl ?_)
  refine wpAny_bind (wpAny_attempt ?_)
  unfold callOutOfASlot
  refine wpAny_bind (lb.here ?_)
  simp only [if_true]
  refine wpAny_callBorrowed (method_call hq (codeAny_mono hcall fun r s' h => ?_))
  obtain ⟨c, t, rfl, hit', hq', hf', hs, hn⟩ := h
  dsimp only
  refine wpAny_bind (wpAny_field hit' rfl (x := .bool false) rfl ?_)
  rw [if_neg (by decide)]
  refine wpAny_bind (wpAny_field hit' rfl (x := .str (Str.ofString "") te) rfl (wpAny_bind (wpAny_holding (eqBool_str ?_))))
  obtain ⟨of', fd', hfo', hfd'⟩ := hf'
  have lb' := ci_borrows (M := model prog w) hq' hfo' hfd'
  by_cases hc : Str.ofString "" = c
  · rw [if_neg (by rw [hc]; simp)]
    refine wpAny_bind (wpAny_rule (wpAny_bind ?_))
    lk
    refine wpAny_bind (wpAny_field hit' rfl (x := .ref q) rfl ?_)
    refine wpAny_bind ?_
    unfold slotLetsGo
    refine wpAny_bind (lb'.here ?_)
    simp only [if_true]
    refine wpAny_pure ?_
    refine wpAny_bind (wpAny_setField_rec hit' (by simp) fun h1 hi1 hs1 => ?_)
    refine wpAny_bind (wpAny_setField_rec hi1 (by simp) fun h2 hi2 hs2 => ?_)
    refine wpAny_setField_rec hi2 (by simp) fun h3 hi3 hs3 => ?_
    show wpAny _ _ (newExc (.type "StopIteration") [] >>= _) _ _ _
    refine wpAny_bind ?_
    simp only [newExc, newTuple]
    refine wpAny_bind (wpAny_newObj_type ?_ (by size_fits))
    refine wpAny_bind (m := firstArgMember _ _) (wpAny_of_eq (a := Value.none) (by first | rfl | (simp only [firstArgMember]; rfl)) ?_)
    refine wpAny_newObj_type ?_ (by size_fits)
    simp only [raiseNew]
    refine wpAny_bind (wpAny_handled ?_)
    rw [show A.in1.handled = none from hh]
    refine wpAny_bind (wpAny_pure (wpAny_throw ?_))
    refine wpAny_bind (wpAny_isInstance (T := "StopIteration") (b := true) ⟨_, Heap.get?_push_size _ rfl, rfl⟩ isSubtype_stop ?_)
    refine wpAny_pure (hn hc _ fun b o hb e => ?_)
    exact Heap.get?_push_of_some _ (Heap.get?_push_of_some _ (hs3.extBut b o hb (hs2.extBut b o hb (hs1.extBut b o hb e))))
  · rw [if_pos (by simpa using hc)]
    exact wpAny_pure ⟨_, rfl, wpAny_pure (hs hc)⟩
end
end Mine
end
theorem Mine.flushR3 : if True then True else True := by (w_top off); first | (walk1; fail) | simp
section
open PySem PySem.W PySem.Calls PyProof.Rows
set_option maxRecDepth 100000
set_option maxHeartbeats 8000000
namespace Mine
section
variable {prog : Program} {w : World} {A₀ A : Around} {s : Shared} {base h₀ : Heap} {L a : Addr} {m : Str → Option Value} {cn : Str} {cs : Scope} {ccd : Value} {cl : List (Str × Addr)} {news : List (Addr × Obj)} {K : Frag} {p : Program} {loose : List Str} {mean : ExcName → Option Value} {mg mb : Str → Option Value}
    {R : Result → Shared → Prop} {name qual : Str} {params : Arguments} {body : List Stmt} {scope : Scope} {dV kV doc pm cdv ct oc : Value} {an od : Option Addr} {osl : Array (Option Value)} {f : Addr} {args : Args} {binds : List (Str × Value)}
theorem memX {b : Addr} (hm : b ∈ [envX cn cs L a ccd cl].filterMap (·.frame)) : b = L := by
  obtain ⟨env, he, hf⟩ := List.mem_filterMap.mp hm
  obtain rfl := List.mem_singleton.mp he
  exact (Option.some.inj hf).symm
/-- a def called from the law's own frame, whose raise may be caught within: the caller's frame may have cells -/
theorem code_defS0X (B : Below A₀ base [] h₀) (F : Fr h₀ L s.heap m) (X₀ : K.In h₀) (N : News h₀ L s.heap news) (T : Top p loose mean mg mb h₀) (hA : A.frames = some [envX cn cs L a ccd cl])
    (ho : K.lookup f = some ⟨oc, od, .func (fnOf name qual params body scope dV kV doc pm an cdv ct), osl⟩) (hcd : codeIn K cdv qual = true) (hroom : A.depth < recursionLimit)
    (hbind : BindsTo s (fnOf name qual params body scope dV kV doc pm an cdv ct) args binds) (hloc : ∀ y ∈ binds, scope.names.lookup y.1 = some .local)
    (h : ∀ g L' h₁, Fr h₀ L g m → Fr g L' h₁ (fun y => binds.reverse.lookup y) → News g L' h₁ news → Below A base [envX cn cs L a ccd cl] g → K.In g → Top p loose mean mg mb g → KtsDicts ([envX cn cs L a ccd cl].filterMap (·.frame)) g →
      wpAny (model prog w) (A.deeper (envOf qual scope L' f cdv)) (execs body (envOf qual scope L' f cdv))
        (fun fl s' => LeaveS0 ([envX cn cs L a ccd cl].filterMap (·.frame)) h₀ L m g R (match fl with | .ret v => v | _ => .none) s')
        (fun e s' => wpAny (model prog w) (A.deeper (envOf qual scope L' f cdv)) (leaving (envOf qual scope L' f cdv) e) (fun _ s'' => R (.error e) s'') (fun e' s'' => R (.error e') s'') s')
        { s with heap := h₁, toks := s.toks + binds.length })
    (hck : cs.kind = .function) (hco : scope.isCoroutine = false) (hgen : scope.isGenerator = false) (hk : scope.kind = .function)
    (hcell : ∀ x ∈ scope.names, x.2 ≠ .cell) : codeAny (model prog w) A (.call (.ref f) args) R s := by
  have X := X₀.keeps F.keep
  refine codeAny_call_def (fd := fnOf name qual params body scope dV kV doc pm an cdv ct) (body := body) (binds := binds) hroom (X _ _ ho) rfl (T.nolimit.keeps F.keep) (codeRec_of X hcd) rfl hbind hcell hloc (fun h₁ hns hk₁ => ?_) hco hgen hk
  have nm : ∀ b o, h₀.get? b = some o → b ∉ news.map (·.1) := fun b o e q => by
    obtain ⟨p, hp, rfl⟩ := List.mem_map.mp q
    rw [(N p hp).2.2] at e; cases e
  have st : h₀.StaysIn (hideAll s.heap (news.map (·.1))) := fun b o e => hideAll_get _ (F.keep b o e) (nm b o e)
  obtain ⟨oL, es, ep, hL, hLd, hLk, hLf⟩ := F.ns
  have nL : L ∉ news.map (·.1) := fun q => by
    obtain ⟨p, hp, e⟩ := List.mem_map.mp q
    exact (N p hp).2.1 e
  have hLg := hideAll_get (news.map (·.1)) hL nL
  have B₁ := pushX (env := envX cn cs L a ccd cl) B F rfl hck
  have hN : ∀ h', h'.get? L = some oL → Heap.Ns h' L m := fun h' e => ⟨oL, es, ep, e, hLd, hLk, hLf⟩
  have hNs : ∀ (sl : Array (Option Value)) h', h'.get? L = some { oL with slots := sl } → Heap.Ns h' L m := fun sl h' e => ⟨_, es, ep, e, hLd, hLk, hLf⟩
  have B₂ : Below A base [envX cn cs L a ccd cl] (hideAll s.heap (news.map (·.1))) := ⟨hA, fun b o e => st b o (B.stays b o e), funFrames_hideAll B₁.frames fun env he b hb hf => by
    obtain rfl := List.mem_singleton.mp he
    exact nL ((Option.some.inj hf : L = b) ▸ hb)⟩
  refine wpAny_mono (h _ s.heap.objs.size h₁ ⟨hN _ hLg, st, F.above⟩ ⟨hns, fun b o e => hk₁ b o (of_hideAll _ e), Nat.le_of_eq (hideAll_size _ _)⟩
    (fun p hp => ⟨hk₁ _ _ (N p hp).1, Nat.ne_of_lt (Heap.lt_size (N p hp).1), hideAll_none _ (List.mem_map_of_mem hp)⟩) B₂ (X₀.keeps st) (T.keeps st) (fun b hb => by
      obtain rfl := memX hb
      exact ⟨oL, es, ep, hLg, hLd⟩)) (fun fl s' hl => ?_) fun _ _ y => y
  obtain ⟨g', L', m', news', T', F', N', k⟩ := hl
  have nL₀ : h₀.get? L = none := kts_self F
  obtain ⟨sl, hs⟩ := T'.up hLg
  refine k ⟨hNs sl _ (F'.keep _ _ hs), fun b o e => F'.keep b o (T'.other b o (st b o e) (fun q => by
    have z := memX q
    rw [z, nL₀] at e
    cases e)), F.above⟩ fun p hp => ⟨(N' p hp).1, fun q => ?_, ?_⟩
  · have := (N' p hp).2.2; rw [q, hs] at this; cases this
  · cases q : h₀.get? p.1 with
    | none => rfl
    | some o =>
      obtain ⟨sl', hs'⟩ := T'.up (st _ _ q)
      have := (N' p hp).2.2
      rw [hs'] at this
      cases this
end
end Mine
end
theorem Mine.flushX1 : if True then True else True := by (w_top off); first | (walk1; fail) | simp
section
open PySem PySem.Spec PySem.W PySem.Calls PyProof.Rows PyProof.Rows.LCg
set_option maxRecDepth 100000
set_option maxHeartbeats 1000000
namespace Mine
section
variable {prog : Program} {w : World} {A : Around} {E : Value → Shared → Prop} {s : Shared} {h₀ : Heap} {L : Addr} {m : Str → Option Value} {env : Env}
theorem compLoop_gen {elt target iter : Expr} {ifs : List Expr} {scope : Scope} {pos : Pos} {it acc : Value} {env : Env} {R : Result → Shared → Prop} (I : Nat → Shared → Prop)
    (turn : ∀ n s, I n s → wpAny (model prog w) A (pyNext it) (fun r s₁ => match r with
      | none => R (.ok .next) s₁
      | some v => wpAny (model prog w) A (letOwnedTupleGo target it v) (fun _ s₁' => wpAny (model prog w) A (assign target env v) (fun _ s₂ =>
          wpAny (model prog w) A (forIn ifs true fun c r => if r = true then do let ok ← isTrue c env (eval c env); pure (ForInStep.yield ok) else pure (ForInStep.yield r)) (fun ok s₃ =>
            if ok = true then wpAny (model prog w) A (eval elt env) (fun x s₄ =>
              wpAny (model prog w) A (call (.builtin "list.append") [acc, x]) (fun _ s₅ => ∃ m, m < n ∧ I m s₅) (notedBy (model prog w) A env fun e s' => R (.error e) s') s₄) (notedBy (model prog w) A env fun e s' => R (.error e) s') s₃
            else ∃ m, m < n ∧ I m s₃) (notedBy (model prog w) A env fun e s' => R (.error e) s') s₂) (notedBy (model prog w) A env fun e s' => R (.error e) s') s₁') (notedBy (model prog w) A env fun e s' => R (.error e) s') s₁) (notedBy (model prog w) A env fun e s' => R (.error e) s') s)
    (n : Nat) (h : I n s) : codeAny (model prog w) A (.compLoop (.ListComp elt [⟨target, iter, ifs, 0⟩] scope pos) 0 it acc env) R s := by
  refine codeAny_loop rfl I (fun n s hI => ?_) n h
  show wpAny _ A ((compTurn (.ListComp elt [⟨target, iter, ifs, 0⟩] scope pos) 0 it acc env).onRaise (fun x => do noteFrame x env; theTreesLotGoes x)) _ _ s
  refine wpAny_noted ?_
  rw [compTurn_list]
  refine wpAny_bind (wpAny_standAt (wpAny_bind (wpAny_mono (turn n s hI) (fun r s₁ h₁ => ?_) fun _ _ h' => h')))
  cases r with
  | none => exact wpAny_pure h₁
  | some v =>
    refine wpAny_bind (wpAny_mono h₁ (fun _ s₁' h₁' => ?_) fun _ _ h' => h')
    refine wpAny_bind (wpAny_mono h₁' (fun _ s₂ h₂ => wpAny_bind (wpAny_mono h₂ (fun ok s₃ h₃ => ?_) fun _ _ h' => h')) fun _ _ h' => h')
    cases ok with
    | false => exact wpAny_pure ⟨rfl, h₃⟩
    | true =>
      exact wpAny_bind (wpAny_bind (wpAny_mono h₃ (fun x s₄ h₄ => wpAny_bind (wpAny_mono h₄ (fun _ s₅ h₅ => wpAny_pure (wpAny_pure ⟨rfl, h₅⟩)) fun _ _ h' => h')) fun _ _ h' => h'))
noncomputable abbrev testsS (ifs : List Expr) (env : Env) : Sem Bool := forIn ifs true fun c r => if r = true then do let ok ← isTrue c env (eval c env); pure (ForInStep.yield ok) else pure (ForInStep.yield r)
/-- what a turn of a comprehension hands on -/
noncomputable def CompE (h₀ : Heap) (L : Addr) (m : Str → Option Value) (s : Shared) (I : Addr) (oI : Obj) (C : Addr) (oC : Obj) (D : Addr) (oD : Obj) (J : List (Addr × Obj) → Prop) (s₂ : Shared) : Prop :=
  ∃ h' tk news', s₂ = { s with heap := h', toks := tk } ∧ Fr h₀ L h' m ∧ News h₀ L h' ((I, oI) :: (C, oC) :: (D, oD) :: news') ∧ Off3 I C D news' ∧ J news'
noncomputable def TurnG (prog : Program) (w : World) (A : Around) (h₀ : Heap) (L : Addr) (m : Str → Option Value) (s : Shared) (ifs : List Expr) (elt : Expr) (cenv : Addr → Env) (n : Nat) (P : Nat → Value → Prop) (Bd : Nat → Value → (Str → Option Value) → Prop)
    (inv : Nat → List Value → List (Addr × Obj) → Prop) : Prop :=
  ∀ i ys news v I oI C oC D m₂ h tk (E' : Value → Shared → Prop), i < n → inv i ys news → P i v → NsObj oC m₂ → Bd i v m₂ → Fr h₀ L h m → News h₀ L h ((I, oI) :: (C, oC) :: (D, lst ys) :: news) → Off3 I C D news →
    ((@Ne Nat I C) ∧ (@Ne Nat I D) ∧ (@Ne Nat C D)) →
    wpAny (model prog w) A (testsS ifs (cenv C)) (fun ok s₃ => if ok = true then wpAny (model prog w) A (eval elt (cenv C)) (fun y s₄ => CompE h₀ L m s I oI C oC D (lst ys) (inv (i + 1) (ys ++ [y])) s₄) E' s₃
      else CompE h₀ L m s I oI C oC D (lst ys) (inv (i + 1) ys) s₃) E' { s with heap := h, toks := tk }
/-- how the target takes the item -/
noncomputable def BindG (prog : Program) (w : World) (A : Around) (h₀ : Heap) (L : Addr) (s : Shared) (target : Expr) (cenv : Addr → Env) (n : Nat) (P : Nat → Value → Prop) (Bd : Nat → Value → (Str → Option Value) → Prop)
    (inv : Nat → List Value → List (Addr × Obj) → Prop) (St : Nat → Heap → Prop) (I : Addr) : Prop :=
  (∀ i h tk v, St i h → ∀ (Q : Unit → Shared → Prop) (E' : Value → Shared → Prop), Q () { s with heap := h, toks := tk } → wpAny (model prog w) A (letOwnedTupleGo target (.ref I) v) Q E' { s with heap := h, toks := tk }) ∧
  ∀ i ys v C h tk m' news (Q : Unit → Shared → Prop) (E' : Value → Shared → Prop), i < n → P i v → inv i ys news → h.Ns C m' → News h₀ L h news → (∀ p ∈ news, p.1 ≠ C) →
    (∀ h₃ tk₃ m₃, h₃.Ns C m₃ → Bd i v m₃ → (∀ b o, b ≠ C → h.get? b = some o → h₃.get? b = some o) → Q () { s with heap := h₃, toks := tk₃ }) → wpAny (model prog w) A (assign target (cenv C) v) Q E' { s with heap := h, toks := tk }

theorem block_G {elt iter target : Expr} {ifs : List Expr} {scope : Scope} {cl : List (Str × Addr)} {pos : Pos} {s₂ : Shared} {I : Addr} {fp : List Addr} {n : Nat} {P : Nat → Value → Prop} {Bd : Nat → Value → (Str → Option Value) → Prop} {St : Nat → Heap → Prop} {news : List (Addr × Obj)}
    {inv : Nat → List Value → List (Addr × Obj) → Prop} {RR : Value → Addr → Result → Shared → Prop}
    (W : Walks prog w A I fp [I] n P St) (hsz : n ≤ sizeLine) (hIo : ∀ i h, St i h → ∃ o, h.get? I = some o)
    (hSt : ∀ i ys h h' o nw, St i h → h.get? I = some o → h'.get? I = some o → (∀ b o, h₀.get? b = some o → h'.get? b = some o) → News h₀ L h' nw → inv i ys nw → St i h')
    (hcell : ∀ y ∈ scope.names, y.2 ≠ .cell) (hkind : scope.kind = .function) (hst : St 0 s₂.heap) (hfp : ∀ b ∈ fp, b < s₂.heap.objs.size)
    (F : Fr h₀ L s₂.heap m) (N : News h₀ L s₂.heap news) (hIL : L ≠ I) (hI₀ : h₀.get? I = none) (off : ∀ p ∈ news, p.1 ≠ I) (hinv : inv 0 [] news)
    (hb : BindG prog w A h₀ L s₂ target (fun C => compEnvC scope cl C env) n P Bd inv St I)
    (turn : TurnG prog w A h₀ L m s₂ ifs elt (fun C => compEnvC scope cl C env) n P Bd inv)
    (hRR : ∀ D C h tk m' ys news', Fr h₀ L h m → News h₀ L h ((D, lst ys) :: news') → Off1 D news' → h.Ns C m' → h₀.get? C = none → h₀.get? D = none → C ≠ L → D ≠ L → C ≠ D → (∀ p ∈ news', p.1 ≠ C) → inv n ys news' → RR (.ref D) C (.ok .next) { s₂ with heap := h, toks := tk }) :
    wpAny (model prog w) A (newList []) (fun acc s₃ => wpAny (model prog w) A (newFunctionEnv scope env.globals cl [] env.qual none .none (some env)) (fun cenv s₄ =>
      codeAny (model prog w) A (.compStart (.ListComp elt [⟨target, iter, ifs, 0⟩] scope pos) 0 (.ref I) acc { cenv with scope := relabel scope env }) (RR acc cenv.locals) s₄) E s₃) E s₂ := by
  refine wpAny_newObj_type (wpAny_newFunctionEnv hcell (by intro y hy; simp at hy) (fun h₁ hns₁ hsb₁ => ?_) hkind)
  dsimp only at hns₁ hsb₁ ⊢
  generalize hH2 : s₂.heap.push { cls := .type "list", dict := none, data := .seq ([] : List Value).toArray } = H2 at hns₁ hsb₁ ⊢
  have hC : H2.objs.size = s₂.heap.objs.size + 1 := by rw [← hH2, Heap.size_push]
  have hDC : s₂.heap.objs.size ≠ H2.objs.size := by rw [hC]; exact Nat.ne_of_lt (Nat.lt_succ_self _)
  have below : ∀ b, b < s₂.heap.objs.size → b ≠ H2.objs.size ∧ b ≠ s₂.heap.objs.size := fun b hb => ⟨by rw [hC]; exact Nat.ne_of_lt (Nat.lt_succ_of_lt hb), Nat.ne_of_lt hb⟩
  have hDf : s₂.heap.objs.size ∉ fp := fun hm => Nat.lt_irrefl _ (hfp _ hm)
  have hCf : H2.objs.size ∉ fp := fun hm => by have := hfp _ hm; rw [hC] at this; exact Nat.lt_irrefl _ (Nat.lt_of_succ_lt this)
  have hIf : I ∈ fp := W.sub I (List.mem_singleton.mpr rfl)
  have hIlt : I < s₂.heap.objs.size := hfp I hIf
  have old : ∀ b o, s₂.heap.get? b = some o → h₁.get? b = some o := fun b o e => hsb₁.extBut b o (below b (Heap.lt_size e)).1 (Heap.get?_push_of_some _ (hH2 ▸ Heap.get?_push_of_some _ e))
  have hacc : h₁.get? s₂.heap.objs.size = some (lst []) := hsb₁.extBut _ _ hDC (Heap.get?_push_of_some _ (hH2 ▸ Heap.get?_push_size _ rfl))
  have hst₁ : St 0 h₁ := W.frame _ _ _ hst fun b _ o e => old b o e
  have fresh : ∀ a, s₂.heap.objs.size ≤ a → s₂.heap.get? a = none := fun a ha => by
    cases e : s₂.heap.get? a with
    | none => rfl
    | some o' => exact absurd (Heap.lt_size e) (Nat.not_lt.mpr ha)
  have fresh₀ : ∀ a, s₂.heap.objs.size ≤ a → h₀.get? a = none := fun a ha => by
    cases e : h₀.get? a with
    | none => rfl
    | some o' => have := F.keep a o' e; rw [fresh a ha] at this; cases this
  have hD₀ : h₀.get? s₂.heap.objs.size = none := fresh₀ _ (Nat.le_refl _)
  have hC₀ : h₀.get? H2.objs.size = none := fresh₀ _ (by rw [hC]; exact Nat.le_succ _)
  have hLlt : L < s₂.heap.objs.size := F.ns.lt
  have hDL : s₂.heap.objs.size ≠ L := Ne.symm (below L hLlt).2
  have hCL : H2.objs.size ≠ L := Ne.symm (below L hLlt).1
  have hCI : I ≠ H2.objs.size := (below I hIlt).1
  have hDI : I ≠ s₂.heap.objs.size := (below I hIlt).2
  have off₀ : Off3 I H2.objs.size s₂.heap.objs.size news := Off3.of fun p hp => ⟨off p hp, (below _ (Heap.lt_size (N p hp).1)).1, (below _ (Heap.lt_size (N p hp).1)).2⟩
  first | (refine x0_2 hb ?_; (try clear hb); intro hlo hbd) | (refine x1_1 hb ?_; (try clear hb); intro hlo hbd) | obtain ⟨hlo, hbd⟩ := hb
  have loop : ∀ s₃ : Shared, s₃ = { s₂ with heap := h₁, toks := s₂.toks + ([] : List (Str × Value)).length } →
      codeAny (model prog w) A (.compLoop (.ListComp elt [⟨target, iter, ifs, 0⟩] scope pos) 0 (.ref I) (.ref s₂.heap.objs.size) (compEnvC scope cl H2.objs.size env))
        (RR (.ref s₂.heap.objs.size) H2.objs.size) s₃ := by
    rintro s₃ rfl
    refine compLoop_gen
      (fun k s' => ∃ h' tk i ys m' news', s' = { s₂ with heap := h', toks := tk } ∧ i ≤ n ∧ k = n + 1 - i ∧ ys.length ≤ i ∧ St i h' ∧ Fr h₀ L h' m ∧ h'.Ns H2.objs.size m' ∧ News h₀ L h' ((s₂.heap.objs.size, lst ys) :: news') ∧
        Off3 I H2.objs.size s₂.heap.objs.size news' ∧ inv i ys news') ?_ (n + 1)
      ⟨h₁, _, 0, [], _, news, rfl, Nat.zero_le _, rfl, Nat.le_refl _, hst₁, F.keeps old, hns₁, fun p hp => ?_, off₀, hinv⟩
    · rintro k s' ⟨h', tk, i, ys, m', news', rfl, hi, rfl, hyl, hst', F', hn', N', off', hinv'⟩
      by_cases hlt : i < n
      · refine W.item i _ _ _ hlt hst' fun v h₂ tk₂ hPv hst₂ hk₂ => ?_
        have off3 := off'.mem
        have N₂ : News h₀ L h₂ ((s₂.heap.objs.size, lst ys) :: news') := news_but N' hk₂ fun p hp => by
          rcases List.mem_cons.mp hp with rfl | hp
          · exact Ne.symm hDI
          · exact (off3 p hp).1
        refine hlo _ _ _ _ hst₂ _ _ ?_
        refine hbd i ys v H2.objs.size h₂ _ m' news' _ _ hlt hPv hinv' (hn'.at' fun o e => hk₂ _ o (by simpa using Ne.symm hCI) e) (fun p hp => N₂ p (List.mem_cons_of_mem _ hp)) (fun p hp => (off3 p hp).2.1) fun h₃ tk₃ m₃ hn₃ hB old3 => ?_
        have hst₃ : St (i + 1) h₃ := W.frame _ _ _ hst₂ fun b hb o e => old3 b o (fun q => hCf (by rw [← q]; exact hb)) e
        first | (refine x0_2 (hIo _ _ hst₃) ?_; intro oI heI) | (refine x1_1 (hIo _ _ hst₃) ?_; intro oI heI) | obtain ⟨oI, heI⟩ := hIo _ _ hst₃
        first | (refine x0_3 (ns_obj hn₃) ?_; intro oC heC hoC) | (refine x1_2 (ns_obj hn₃) ?_; intro oC heC hoC) | (refine x2_1 (ns_obj hn₃) ?_; intro oC heC hoC) | obtain ⟨oC, heC, hoC⟩ := ns_obj hn₃
        have F₂ : Fr h₀ L h₂ m := fr_but F' hk₂ hIL hI₀
        have F₃ : Fr h₀ L h₃ m := ⟨F₂.ns.at' fun o e => old3 _ o (Ne.symm hCL) e, fun b o e => old3 b o (fun q => by rw [q, hC₀] at e; cases e) (F₂.keep b o e), F₂.above⟩
        have N₃ : News h₀ L h₃ ((I, oI) :: (H2.objs.size, oC) :: (s₂.heap.objs.size, lst ys) :: news') := fun p hp => by
          rcases List.mem_cons.mp hp with rfl | hp
          · exact ⟨heI, Ne.symm hIL, hI₀⟩
          · rcases List.mem_cons.mp hp with rfl | hp
            · exact ⟨heC, hCL, hC₀⟩
            · have z := N₂ p hp
              refine ⟨old3 _ _ ?_ z.1, z.2⟩
              rcases List.mem_cons.mp hp with rfl | hp
              · exact hDC
              · exact (off3 p hp).2.1
        refine wpAny_mono (turn i ys news' v I oI H2.objs.size oC s₂.heap.objs.size _ h₃ _ _ hlt hinv' hPv hoC hB F₃ N₃ off' ⟨hCI, hDI, Ne.symm hDC⟩) (fun ok s₄ h₄ => ?_) fun _ _ e => e
        cases ok with
        | false =>
          rw [if_neg Bool.false_ne_true] at h₄
          rw [if_neg Bool.false_ne_true]
          first | (refine x0_8 h₄ ?_; (try clear h₄); intro h₄ tk₄ news₄ hq1 F₄ N₄ off₄ hJ₄) | (refine x1_7 h₄ ?_; (try clear h₄); intro h₄ tk₄ news₄ hq1 F₄ N₄ off₄ hJ₄) | (refine x2_6 h₄ ?_; (try clear h₄); intro h₄ tk₄ news₄ hq1 F₄ N₄ off₄ hJ₄) | (refine x3_5 h₄ ?_; (try clear h₄); intro h₄ tk₄ news₄ hq1 F₄ N₄ off₄ hJ₄) | (refine x4_4 h₄ ?_; (try clear h₄); intro h₄ tk₄ news₄ hq1 F₄ N₄ off₄ hJ₄) | (refine x5_3 h₄ ?_; (try clear h₄); intro h₄ tk₄ news₄ hq1 F₄ N₄ off₄ hJ₄) | (refine x6_2 h₄ ?_; (try clear h₄); intro h₄ tk₄ news₄ hq1 F₄ N₄ off₄ hJ₄) | (refine x7_1 h₄ ?_; (try clear h₄); intro h₄ tk₄ news₄ hq1 F₄ N₄ off₄ hJ₄) | obtain ⟨h₄, tk₄, news₄, hq1, F₄, N₄, off₄, hJ₄⟩ := h₄
          obtain rfl := hq1
          have zI := (N₄ (I, oI) List.mem_cons_self).1
          have zC := (N₄ (H2.objs.size, oC) (List.mem_cons_of_mem _ List.mem_cons_self)).1
          have N₄' : News h₀ L h₄ news₄ := fun p hp => N₄ p (List.mem_cons_of_mem _ (List.mem_cons_of_mem _ (List.mem_cons_of_mem _ hp)))
          have hst₄ : St (i + 1) h₄ := hSt _ _ _ _ _ _ hst₃ heI zI F₄.keep N₄' hJ₄
          exact ⟨n + 1 - (i + 1), by omega, h₄, tk₄, i + 1, ys, _, news₄, rfl, hlt, rfl, Nat.le_succ_of_le hyl, hst₄, F₄, hoC.ns zC, fun p hp => N₄ p (List.mem_cons_of_mem _ (List.mem_cons_of_mem _ hp)), off₄, hJ₄⟩
        | true =>
          rw [if_pos rfl] at h₄
          rw [if_pos rfl]
          refine wpAny_mono h₄ (fun y s₄ h₄ => ?_) fun _ _ e => e
          first | (refine x0_8 h₄ ?_; (try clear h₄); intro h₄ tk₄ news₄ hq2 F₄ N₄ off₄ hJ₄) | (refine x1_7 h₄ ?_; (try clear h₄); intro h₄ tk₄ news₄ hq2 F₄ N₄ off₄ hJ₄) | (refine x2_6 h₄ ?_; (try clear h₄); intro h₄ tk₄ news₄ hq2 F₄ N₄ off₄ hJ₄) | (refine x3_5 h₄ ?_; (try clear h₄); intro h₄ tk₄ news₄ hq2 F₄ N₄ off₄ hJ₄) | (refine x4_4 h₄ ?_; (try clear h₄); intro h₄ tk₄ news₄ hq2 F₄ N₄ off₄ hJ₄) | (refine x5_3 h₄ ?_; (try clear h₄); intro h₄ tk₄ news₄ hq2 F₄ N₄ off₄ hJ₄) | (refine x6_2 h₄ ?_; (try clear h₄); intro h₄ tk₄ news₄ hq2 F₄ N₄ off₄ hJ₄) | (refine x7_1 h₄ ?_; (try clear h₄); intro h₄ tk₄ news₄ hq2 F₄ N₄ off₄ hJ₄) | obtain ⟨h₄, tk₄, news₄, hq2, F₄, N₄, off₄, hJ₄⟩ := h₄
          obtain rfl := hq2
          have zI := (N₄ (I, oI) List.mem_cons_self).1
          have zC := (N₄ (H2.objs.size, oC) (List.mem_cons_of_mem _ List.mem_cons_self)).1
          have zD := (N₄ (s₂.heap.objs.size, lst ys) (List.mem_cons_of_mem _ (List.mem_cons_of_mem _ List.mem_cons_self))).1
          have N₄' : News h₀ L h₄ news₄ := fun p hp => N₄ p (List.mem_cons_of_mem _ (List.mem_cons_of_mem _ (List.mem_cons_of_mem _ hp)))
          have hst₄ : St (i + 1) h₄ := hSt _ _ _ _ _ _ hst₃ heI zI F₄.keep N₄' hJ₄
          refine append_at (hsz := by show ys.toArray.size ≤ sizeLine; rw [List.size_toArray]; exact Nat.le_trans hyl (Nat.le_trans hi hsz)) zD fun h₅ hs₅ hD₅ => ?_
          have off4 := off₄.mem
          refine ⟨n + 1 - (i + 1), by omega, h₅, tk₄, i + 1, ys ++ [y], _, news₄, rfl, hlt, rfl, by rw [List.length_append, List.length_singleton]; omega, W.frame _ _ _ hst₄ fun b hb o e => hs₅.extBut b o (fun q => hDf (q ▸ hb)) e, F₄.change hs₅ hDL hD₀,
            (hoC.ns zC).sameBut hs₅ (Ne.symm hDC), fun p hp => ?_, off₄, hJ₄⟩
          rcases List.mem_cons.mp hp with rfl | hp
          · exact ⟨hD₅.trans (congrArg some (lst_snoc ys y)), hDL, hD₀⟩
          · exact ⟨hs₅.extBut _ _ (off4 p hp).2.2 (N₄' p hp).1, (N₄' p hp).2⟩
      · obtain rfl : i = n := Nat.le_antisymm hi (Nat.not_lt.mp hlt)
        refine W.done _ _ _ hst' fun h₂ tk₂ hk₂ => ?_
        have off3 := off'.mem
        exact hRR _ _ h₂ tk₂ _ ys news' (fr_but F' hk₂ hIL hI₀) (news_but N' hk₂ fun p hp => by
          rcases List.mem_cons.mp hp with rfl | hp
          · exact Ne.symm hDI
          · exact (off3 p hp).1) off'.one (hn'.at' fun o e => hk₂ _ o (by simpa using Ne.symm hCI) e) hC₀ hD₀ hCL hDL (Ne.symm hDC) (fun p hp => (off3 p hp).2.1) hinv'
    · rcases List.mem_cons.mp hp with rfl | hp
      · exact ⟨hacc, hDL, hD₀⟩
      · exact ⟨old _ _ (N p hp).1, (N p hp).2⟩
  exact codeAny_compStart_list (loop _ rfl) (W.self 0 _ _ _ hst₁ (loop _ rfl))
end
end Mine
end
theorem Mine.flushKC : if True then True else True := by (w_top off); first | (walk1; fail) | simp
section
open PySem PySem.Spec PySem.W PySem.Calls PyProof.Rows PyProof.Rows.LCg
set_option maxRecDepth 100000
set_option maxHeartbeats 1000000
namespace Mine
section
variable {prog : Program} {w : World} {A : Around} {E : Value → Shared → Prop} {s : Shared} {h₀ : Heap} {L : Addr} {m : Str → Option Value} {env : Env}
/-- what is walked through: iter(xv) gives n items, the i-th with P i -/
noncomputable def OpenG (prog : Program) (w : World) (A : Around) (h₀ : Heap) (L : Addr) (m : Str → Option Value) (xv : Value) (s₁ : Shared) (n : Nat) (P : Nat → Value → Prop) (S : List (Addr × Obj) → Prop) (LI : Prop) (news : List (Addr × Obj)) : Prop :=
  ∀ (Q : Value → Shared → Prop) (E' : Value → Shared → Prop), (∀ I fp St h₂, Walks prog w A I fp [I] n P St → (∀ i h, St i h → ∃ o, h.get? I = some o) →
    (∀ i h h' o nw, St i h → h.get? I = some o → h'.get? I = some o → (∀ b o, h₀.get? b = some o → h'.get? b = some o) → News h₀ L h' nw → S nw → St i h') →
    (LI → ∀ i h, St i h → ∃ l j, h.IsListIter I l j) → St 0 h₂ → (∀ b ∈ fp, b < h₂.objs.size) → Fr h₀ L h₂ m → News h₀ L h₂ news → L ≠ I → h₀.get? I = none → (∀ p ∈ news, p.1 ≠ I) → Q (.ref I) { s₁ with heap := h₂ }) →
    wpAny (model prog w) A (pyIter xv) Q E' s₁
theorem OpenG.list {ax : Addr} {its : Array Value} {news : List (Addr × Obj)} (hh : A.handled = none) (F : Fr h₀ L s.heap m) (N : News h₀ L s.heap news) (S : SrcAt h₀ ax its news) :
    OpenG prog w A h₀ L m (.ref ax) s its.size (fun i v => its[i]? = some v) (SrcAt h₀ ax its) True news := fun Q E' k => by
  have hl := S.list F.keep N
  have hlt : ax < s.heap.objs.size := by obtain ⟨_, e, _⟩ := hl; exact Heap.lt_size e
  refine wpAny_pyIter_list hl ?_
  have up : ∀ b o, s.heap.get? b = some o → (s.heap.push { cls := .type "list_iterator", data := .fields #[.ref ax, .int 0 0] }).get? b = some o := fun b o e => Heap.get?_push_of_some _ e
  refine k _ _ _ _ (Walks.list hh s.heap.objs.size ax (Nat.ne_of_lt hlt) its) (fun i h st => by obtain ⟨o, e, _⟩ := st.1; exact ⟨o, e⟩) list_st (fun _ i h st => ⟨_, _, st.1⟩) ⟨⟨_, Heap.get?_push_size _ rfl, rfl, rfl⟩, hl.push _⟩ (fun b hb => ?_)
      (F.keeps up) (N.grown up) (Nat.ne_of_lt F.ns.lt) (next_is_new F) (fun p hp => Nat.ne_of_lt (Heap.lt_size (N p hp).1))
  show b < (s.heap.push _).objs.size
  rw [Heap.size_push]
  rcases List.mem_cons.mp hb with rfl | hb
  · exact Nat.lt_succ_self _
  · rw [List.mem_singleton.mp hb]; exact Nat.lt_succ_of_lt hlt
theorem rangeG_st {I : Addr} {a c : Int} {n : Nat} : ∀ i (h h' : Heap) (o : Obj) (nw : List (Addr × Obj)), IsRangeIter h I (a + (i : Nat) * c) ((n : Int) - (i : Nat)) c → h.get? I = some o → h'.get? I = some o → (∀ b o, h₀.get? b = some o → h'.get? b = some o) → News h₀ L h' nw → True → IsRangeIter h' I (a + (i : Nat) * c) ((n : Int) - (i : Nat)) c :=
  fun i h h' o nw st e e' _ _ _ => by
    have st' : h.get? I = some _ := st
    show h'.get? I = some _
    rw [e', ← e]; exact st'
theorem OpenG.range {r : Addr} {a b c : Int} {t u v : Tok} {n : Nat} {news : List (Addr × Obj)} (hh : A.handled = none) (F : Fr h₀ L s.heap m) (N : News h₀ L s.heap news)
    (hr : IsRange s.heap r a b c t u v) (hsm : Builtin.Range.small a b c = true) (hn : Builtin.Range.rangeSize a b c = ((n : Nat) : Int)) :
    OpenG prog w A h₀ L m (.ref r) s n (fun i v => ∃ t, v = .int (a + i * c) t) (fun _ => True) False news := fun Q E' k => by
  refine wpAny_pyIter_range hr hsm ?_
  refine k _ _ _ _ (Walks.range hh s.heap.objs.size a c n) (fun i h st => ⟨_, st⟩) rangeG_st (fun q => q.elim) (by show IsRangeIter _ _ _ _ _; rw [hn]; simpa using Heap.get?_push_size _ rfl) (fun b hb => ?_)
      (F.keeps fun _ _ e => Heap.get?_push_of_some _ e) (N.grown fun _ _ e => Heap.get?_push_of_some _ e) (Nat.ne_of_lt F.ns.lt) (next_is_new F) (fun p hp => Nat.ne_of_lt (Heap.lt_size (N p hp).1))
  rw [List.mem_singleton.mp hb]
  show s.heap.objs.size < (s.heap.push _).objs.size
  rw [Heap.size_push]; exact Nat.lt_succ_self _
theorem OpenG.str {x : Str} {t : Tok} {news : List (Addr × Obj)} (hh : A.handled = none) (F : Fr h₀ L s.heap m) (N : News h₀ L s.heap news) :
    OpenG prog w A h₀ L m (.str x t) s x.cps.size (SignAt x) (fun _ => True) False news := fun Q E' k => by
  have fin : ∀ (ty : String), (∀ A' : Around, A'.handled = none → Walks prog w A' s.heap.objs.size [s.heap.objs.size] [s.heap.objs.size] x.cps.size (SignAt x) (fun i h => h.IsStrIter s.heap.objs.size ty x t i)) →
      Q (.ref s.heap.objs.size) { s with heap := s.heap.push { cls := .type ty, data := .fields #[.str x t, .int 0 0] } } := fun ty W => by
    refine k _ _ _ _ (W A hh) (fun i h st => let ⟨o, ho, _⟩ := st; ⟨o, ho⟩) (fun i h h' o nw st e e' _ _ _ => by obtain ⟨o', ho', r⟩ := st; rw [e] at ho'; cases ho'; exact ⟨o, e', r⟩) (fun q => q.elim) ⟨_, Heap.get?_push_size _ rfl, rfl, rfl⟩ (fun b hb => ?_)
      (F.keeps fun _ _ e => Heap.get?_push_of_some _ e) (N.grown fun _ _ e => Heap.get?_push_of_some _ e) (Nat.ne_of_lt F.ns.lt) (next_is_new F) (fun p hp => Nat.ne_of_lt (Heap.lt_size (N p hp).1))
    rw [List.mem_singleton.mp hb]
    show s.heap.objs.size < (s.heap.push _).objs.size
    rw [Heap.size_push]; exact Nat.lt_succ_self _
  cases ha : x.cps.all (· < 128)
  · exact wpAny_pyIter_wide ha (fin _ (fun A' hA => Walks.strWide hA _ x t))
  · exact wpAny_pyIter_ascii ha (fin _ (fun A' hA => Walks.strAscii hA _ x t))
noncomputable def LOk (target : Expr) (P : Nat → Value → Prop) (LI : Prop) : Prop := (∀ it v, letOwnedTupleGo target it v = pure ()) ∨ (LI ∧ (∃ elts x1 pos, target = .Tuple elts x1 pos) ∧ ∀ i v, P i v → ∃ T, v = .ref T)
theorem lo_run {target : Expr} {P : Nat → Value → Prop} {LI : Prop} (hlo : LOk target P LI) {I : Addr} {St : Nat → Heap → Prop} (hLI : LI → ∀ i h, St i h → ∃ l j, h.IsListIter I l j) {i j : Nat} {v : Value} (hst : St i s.heap) (hP : P j v)
    {Q : Unit → Shared → Prop} (h : Q () s) : wpAny (model prog w) A (letOwnedTupleGo target (.ref I) v) Q E s := by
  rcases hlo with e | ⟨hl, ⟨elts, x1, pos, rfl⟩, hv⟩
  · rw [e]; exact wpAny_pure h
  · obtain ⟨T, rfl⟩ := hv _ _ hP
    first | (refine x0_3 (hLI hl _ _ hst) ?_; intro l j' hit) | (refine x1_2 (hLI hl _ _ hst) ?_; intro l j' hit) | (refine x2_1 (hLI hl _ _ hst) ?_; intro l j' hit) | obtain ⟨l, j', hit⟩ := hLI hl _ _ hst
    exact wpAny_letOwnedTupleGo_listiter hit h
theorem forLoop_gen {R : Result → Shared → Prop} {target it body orelse env} (I : Nat → Shared → Prop)
    (turn : ∀ n s, I n s → wpAny (model prog w) A (pyNext it) (fun r s₁ => match r with
      | none => wpAny (model prog w) A (execs orelse env) (fun f s₃ => R (.ok f) s₃) (notedBy (model prog w) A env fun e s' => R (.error e) s') s₁
      | some v => wpAny (model prog w) A (letOwnedTupleGo target it v) (fun _ s₁' => wpAny (model prog w) A (assign target env v) (fun _ s₂ => wpAny (model prog w) A (execs body env) (fun f s₃ => match f with
          | .next | .cont => ∃ m, m < n ∧ I m s₃
          | .brk => R (.ok .next) s₃
          | .ret v => R (.ok (.ret v)) s₃) (notedBy (model prog w) A env fun e s' => R (.error e) s') s₂) (notedBy (model prog w) A env fun e s' => R (.error e) s') s₁') (notedBy (model prog w) A env fun e s' => R (.error e) s') s₁) (notedBy (model prog w) A env fun e s' => R (.error e) s') s)
    (n : Nat) (h : I n s) : codeAny (model prog w) A (.forLoop target it body orelse env) R s := by
  refine codeAny_loop' rfl I (fun n s hI => ?_) n h
  show wpAny _ _ ((forTurn target it body orelse env).onRaise (fun x => do noteFrame x env; theTreesLotGoes x)) _ _ s
  refine wpAny_noted ?_
  simp only [forTurn]
  refine wpAny_bind (wpAny_standAt (wpAny_bind (wpAny_onRaise (wpAny_mono (turn n s hI) (fun r s₁ h₁ => ?_) fun _ _ h' => wpAny_standAt h'))))
  cases r with
  | none => exact wpAny_pure (.inr ⟨rfl, codeAny_block h₁⟩)
  | some v =>
    refine wpAny_bind (wpAny_mono h₁ (fun _ s₁' h₁' => ?_) fun _ _ h' => h')
    refine wpAny_bind (wpAny_mono h₁' (fun _ s₂ h₂ => wpAny_bind (wpAny_mono h₂ (fun f s₃ h₃ => ?_) fun _ _ h' => h')) fun _ _ h' => h')
    cases f with
    | next => exact wpAny_pure (.inl ⟨rfl, h₃⟩)
    | cont => exact wpAny_pure (.inl ⟨rfl, h₃⟩)
    | brk => exact wpAny_pure h₃
    | ret v => exact wpAny_pure h₃
noncomputable def LoopG (h₀ : Heap) (L : Addr) (s : Shared) (I : Addr) (oI : Obj) (inv : (Str → Option Value) → List (Addr × Obj) → Prop) (s₃ : Shared) : Prop :=
  ∃ h tk m' news', s₃ = { s with heap := h, toks := tk } ∧ Fr h₀ L h m' ∧ News h₀ L h ((I, oI) :: news') ∧ (∀ p ∈ news', p.1 ≠ I) ∧ inv m' news'
noncomputable def TurnF (prog : Program) (w : World) (A : Around) (h₀ : Heap) (L : Addr) (s : Shared) (env : Env) (target : Expr) (body : List Stmt) (n : Nat) (P : Nat → Value → Prop) (inv : Nat → (Str → Option Value) → List (Addr × Obj) → Prop) (Q : Flow → Shared → Prop) (E : Value → Shared → Prop) : Prop :=
  ∀ i m' news v I oI h tk, i < n → inv i m' news → P i v → Fr h₀ L h m' → News h₀ L h ((I, oI) :: news) → (∀ p ∈ news, p.1 ≠ I) →
    wpAny (model prog w) A (assign target env v) (fun _ s₂ => wpAny (model prog w) A (execs body env) (fun f s₃ => match f with
      | .next | .cont => LoopG h₀ L s I oI (inv (i + 1)) s₃
      | .brk => Q .next s₃
      | .ret r => Q (.ret r) s₃) E s₂) E { s with heap := h, toks := tk }
theorem for_G {target iter : Expr} {body : List Stmt} {pos : Pos} {Q : Flow → Shared → Prop} {n : Nat} {P : Nat → Value → Prop} {S : List (Addr × Obj) → Prop} {LI : Prop} (inv : Nat → (Str → Option Value) → List (Addr × Obj) → Prop)
    (hlo : LOk target P LI) (hSi : ∀ i m nw, inv i m nw → S nw)
    (hE : PassesOwn (model prog w) A env E)
    (h : wpAny (model prog w) A (eval iter env) (fun xv s₁ => ∃ h tk m' news, s₁ = { s with heap := h, toks := tk } ∧ OpenG prog w A h₀ L m' xv s₁ n P S LI news ∧ inv 0 m' news) E s)
    (turn : TurnF prog w A h₀ L s env target body n P inv Q E)
    (done : ∀ h tk m' news, inv n m' news → Fr h₀ L h m' → News h₀ L h news → Q .next { s with heap := h, toks := tk })
    (hs : ∀ x, foldedSetIterable iter env x = pure x := by intro _; rfl) :
    wpAny (model prog w) A (exec (.For target iter body [] pos) env) Q E s := by
  refine wpAny_For (wpAny_mono h (fun xv s₁ h₁ => ?_) fun _ _ z => z) hs
  first | (refine x0_7 h₁ ?_; (try clear h₁); intro h₁ tk m₁ news hq1 O hi) | (refine x1_6 h₁ ?_; (try clear h₁); intro h₁ tk m₁ news hq1 O hi) | (refine x2_5 h₁ ?_; (try clear h₁); intro h₁ tk m₁ news hq1 O hi) | (refine x3_4 h₁ ?_; (try clear h₁); intro h₁ tk m₁ news hq1 O hi) | (refine x4_3 h₁ ?_; (try clear h₁); intro h₁ tk m₁ news hq1 O hi) | (refine x5_2 h₁ ?_; (try clear h₁); intro h₁ tk m₁ news hq1 O hi) | (refine x6_1 h₁ ?_; (try clear h₁); intro h₁ tk m₁ news hq1 O hi) | obtain ⟨h₁, tk, m₁, news, hq1, O, hi⟩ := h₁
  obtain rfl := hq1
  refine O _ _ fun I fp St h₂ W hIo hSt hLI hst hfp F N hIL hI₀ off => ?_
  have hIf : I ∈ fp := W.sub I (List.mem_singleton.mpr rfl)
  refine forLoop_gen (R := fun r s' => match r with | .ok f => Q f s' | .error e => cameBackBy (model prog w) A env E e s')
    (fun k s' => ∃ i h tk m' news, s' = { s with heap := h, toks := tk } ∧ i ≤ n ∧ k = n + 1 - i ∧ St i h ∧ Fr h₀ L h m' ∧ News h₀ L h news ∧ (∀ p ∈ news, p.1 ≠ I) ∧ inv i m' news) ?_ (n + 1)
    ⟨0, h₂, tk, m₁, news, rfl, Nat.zero_le _, rfl, hst, F, N, off, hi⟩
  intro k s' hq2
  first | (refine x0_13 hq2 ?_; (try clear hq2); intro i h tk m' news hq3 hin hq4 hst' F' N' off' hi') | (refine x1_12 hq2 ?_; (try clear hq2); intro i h tk m' news hq3 hin hq4 hst' F' N' off' hi') | (refine x2_11 hq2 ?_; (try clear hq2); intro i h tk m' news hq3 hin hq4 hst' F' N' off' hi') | (refine x3_10 hq2 ?_; (try clear hq2); intro i h tk m' news hq3 hin hq4 hst' F' N' off' hi') | (refine x4_9 hq2 ?_; (try clear hq2); intro i h tk m' news hq3 hin hq4 hst' F' N' off' hi') | (refine x5_8 hq2 ?_; (try clear hq2); intro i h tk m' news hq3 hin hq4 hst' F' N' off' hi') | (refine x6_7 hq2 ?_; (try clear hq2); intro i h tk m' news hq3 hin hq4 hst' F' N' off' hi') | (refine x7_6 hq2 ?_; (try clear hq2); intro i h tk m' news hq3 hin hq4 hst' F' N' off' hi') | (refine x8_5 hq2 ?_; (try clear hq2); intro i h tk m' news hq3 hin hq4 hst' F' N' off' hi') | (refine x9_4 hq2 ?_; (try clear hq2); intro i h tk m' news hq3 hin hq4 hst' F' N' off' hi') | (refine x10_3 hq2 ?_; (try clear hq2); intro i h tk m' news hq3 hin hq4 hst' F' N' off' hi') | obtain ⟨i, h, tk, m', news, hq3, hin, hq4, hst', F', N', off', hi'⟩ := hq2
  obtain rfl := hq3
  obtain rfl := hq4
  refine wpAny_passesOwn hE ?_
  by_cases hlt : i < n
  · refine W.item i _ _ _ hlt hst' fun v h₃ tk₃ hPv hst₃ hk₃ => ?_
    first | (refine x0_2 (hIo _ _ hst₃) ?_; intro oI heI) | (refine x1_1 (hIo _ _ hst₃) ?_; intro oI heI) | obtain ⟨oI, heI⟩ := hIo _ _ hst₃
    have F₃ : Fr h₀ L h₃ m' := fr_but F' hk₃ hIL hI₀
    have N₃ : News h₀ L h₃ ((I, oI) :: news) := fun p hp => by
      rcases List.mem_cons.mp hp with rfl | hp
      · exact ⟨heI, Ne.symm hIL, hI₀⟩
      · exact news_but N' hk₃ off' p hp
    refine lo_run hlo hLI hst₃ hPv ?_
    refine wpAny_passesOwn hE (wpAny_mono (turn i m' news v I oI h₃ _ hlt hi' hPv F₃ N₃ off') (fun _ s₂ h₂ => ?_) fun _ _ z => z)
    refine wpAny_passesOwn hE (wpAny_mono h₂ (fun f s₃ h₃' => ?_) fun _ _ z => z)
    have nx : LoopG h₀ L s I oI (inv (i + 1)) s₃ → ∃ m, m < n + 1 - i ∧ ∃ i h tk m' news, s₃ = { s with heap := h, toks := tk } ∧ i ≤ n ∧ m = n + 1 - i ∧ St i h ∧ Fr h₀ L h m' ∧ News h₀ L h news ∧ (∀ p ∈ news, p.1 ≠ I) ∧ inv i m' news := by
      intro hq5
      first | (refine x0_9 hq5 ?_; (try clear hq5); intro h₄ tk₄ m₄ news₄ hq6 F₄ N₄ off₄ hi₄) | (refine x1_8 hq5 ?_; (try clear hq5); intro h₄ tk₄ m₄ news₄ hq6 F₄ N₄ off₄ hi₄) | (refine x2_7 hq5 ?_; (try clear hq5); intro h₄ tk₄ m₄ news₄ hq6 F₄ N₄ off₄ hi₄) | (refine x3_6 hq5 ?_; (try clear hq5); intro h₄ tk₄ m₄ news₄ hq6 F₄ N₄ off₄ hi₄) | (refine x4_5 hq5 ?_; (try clear hq5); intro h₄ tk₄ m₄ news₄ hq6 F₄ N₄ off₄ hi₄) | (refine x5_4 hq5 ?_; (try clear hq5); intro h₄ tk₄ m₄ news₄ hq6 F₄ N₄ off₄ hi₄) | (refine x6_3 hq5 ?_; (try clear hq5); intro h₄ tk₄ m₄ news₄ hq6 F₄ N₄ off₄ hi₄) | (refine x7_2 hq5 ?_; (try clear hq5); intro h₄ tk₄ m₄ news₄ hq6 F₄ N₄ off₄ hi₄) | (refine x8_1 hq5 ?_; (try clear hq5); intro h₄ tk₄ m₄ news₄ hq6 F₄ N₄ off₄ hi₄) | obtain ⟨h₄, tk₄, m₄, news₄, hq6, F₄, N₄, off₄, hi₄⟩ := hq5
      obtain rfl := hq6
      have N₄' : News h₀ L h₄ news₄ := fun p hp => N₄ p (List.mem_cons_of_mem _ hp)
      exact ⟨n + 1 - (i + 1), by omega, i + 1, h₄, tk₄, m₄, news₄, rfl, hlt, rfl, hSt _ _ _ _ _ hst₃ heI (N₄ (I, oI) List.mem_cons_self).1 F₄.keep N₄' (hSi _ _ _ hi₄), F₄, N₄', off₄, hi₄⟩
    cases f with
    | next => exact nx h₃'
    | cont => exact nx h₃'
    | brk => exact h₃'
    | ret _ => exact h₃'
  · obtain rfl : i = n := Nat.le_antisymm hin (Nat.not_lt.mp hlt)
    refine W.done _ _ _ hst' fun h₃ tk₃ hk₃ => ?_
    exact wpAny_execs_nil (done h₃ tk₃ m' news hi' (fr_but F' hk₃ hIL hI₀) (news_but N' hk₃ off'))
end
end Mine
end
theorem Mine.flushKD : if True then True else True := by (w_top off); first | (walk1; fail) | simp
section
open PySem PySem.Spec PySem.W PySem.Calls PyProof.Rows PyProof.Rows.LCg
set_option maxRecDepth 100000
set_option maxHeartbeats 1000000
namespace Mine
section
variable {prog : Program} {w : World} {A : Around} {E : Value → Shared → Prop} {s : Shared} {h₀ : Heap} {L : Addr} {m : Str → Option Value} {env : Env}
noncomputable def AssignG (prog : Program) (w : World) (A : Around) (h₀ : Heap) (L : Addr) (s : Shared) (target : Expr) (cenv : Addr → Env) (n : Nat) (P : Nat → Value → Prop) (Bd : Nat → Value → (Str → Option Value) → Prop)
    (inv : Nat → List Value → List (Addr × Obj) → Prop) : Prop :=
  ∀ i ys v C h tk m' news (Q : Unit → Shared → Prop) (E' : Value → Shared → Prop), i < n → P i v → inv i ys news → h.Ns C m' → News h₀ L h news → (∀ p ∈ news, p.1 ≠ C) →
    (∀ h₃ tk₃ m₃, h₃.Ns C m₃ → Bd i v m₃ → (∀ b o, b ≠ C → h.get? b = some o → h₃.get? b = some o) → Q () { s with heap := h₃, toks := tk₃ }) → wpAny (model prog w) A (assign target (cenv C) v) Q E' { s with heap := h, toks := tk }
theorem assign_name {x : Str} {px : Pos} {scope : Scope} {cl : List (Str × Addr)} {n : Nat} {P : Nat → Value → Prop} {inv : Nat → List Value → List (Addr × Obj) → Prop} (hkind : scope.kind = .function) (hx : scope.names.lookup x = some .local) :
    AssignG prog w A h₀ L s (.Name x px) (fun C => compEnvC scope cl C env) n P (fun _ v m₂ => m₂ x = some v) inv := by
  intro i ys v C h tk m' news Q E' _ _ _ hn _ _ k
  refine wpAny_assign_Name (wpAny_storeName_local (lookup_relabel_local hx) hn (fun h₃ hn₃ hs₃ => ?_) (by simp [compEnvC, relabel, hkind]))
  exact k _ _ _ hn₃ (by simp) fun b o hb e => hs₃.extBut b o hb e
theorem assign_pair {x x₂ : Str} {px px₂ tp : Pos} {tk} {scope : Scope} {cl : List (Str × Addr)} {n : Nat} {P : Nat → Value → Prop} {T : Nat → Value → Value → Prop} {inv : Nat → List Value → List (Addr × Obj) → Prop} (hh : A.handled = none) (hkind : scope.kind = .function)
    (hx : scope.names.lookup x = some .local) (hx₂ : scope.names.lookup x₂ = some .local) (hxx : x ≠ x₂)
    (hT : ∀ i ys v news, i < n → P i v → inv i ys news → ∃ t ot v₁ v₂ nt, v = .ref t ∧ T i v₁ v₂ ∧ (t, ot) ∈ news ∧ ot.cls = .type "tuple" ∧ ot.data = .seq #[v₁, v₂] nt) :
    AssignG prog w A h₀ L s (.Tuple [.Name x px, .Name x₂ px₂] tk tp) (fun C => compEnvC scope cl C env) n P (fun i _ m₂ => ∃ v₁ v₂, T i v₁ v₂ ∧ m₂ x = some v₁ ∧ m₂ x₂ = some v₂) inv := by
  intro i ys v C h tk m' news Q E' hi hP hinv hn N off k
  first | (refine x0_10 (hT i ys v news hi hP hinv) ?_; intro t ot v₁ v₂ nt hq1 hT' hmt hct hdt) | (refine x1_9 (hT i ys v news hi hP hinv) ?_; intro t ot v₁ v₂ nt hq1 hT' hmt hct hdt) | (refine x2_8 (hT i ys v news hi hP hinv) ?_; intro t ot v₁ v₂ nt hq1 hT' hmt hct hdt) | (refine x3_7 (hT i ys v news hi hP hinv) ?_; intro t ot v₁ v₂ nt hq1 hT' hmt hct hdt) | (refine x4_6 (hT i ys v news hi hP hinv) ?_; intro t ot v₁ v₂ nt hq1 hT' hmt hct hdt) | (refine x5_5 (hT i ys v news hi hP hinv) ?_; intro t ot v₁ v₂ nt hq1 hT' hmt hct hdt) | (refine x6_4 (hT i ys v news hi hP hinv) ?_; intro t ot v₁ v₂ nt hq1 hT' hmt hct hdt) | (refine x7_3 (hT i ys v news hi hP hinv) ?_; intro t ot v₁ v₂ nt hq1 hT' hmt hct hdt) | (refine x8_2 (hT i ys v news hi hP hinv) ?_; intro t ot v₁ v₂ nt hq1 hT' hmt hct hdt) | (refine x9_1 (hT i ys v news hi hP hinv) ?_; intro t ot v₁ v₂ nt hq1 hT' hmt hct hdt) | obtain ⟨t, ot, v₁, v₂, nt, hq1, hT', hmt, hct, hdt⟩ := hT i ys v news hi hP hinv
  obtain rfl := hq1
  have ht : IsTup h t #[v₁, v₂] := ⟨ot, (N _ hmt).1, hct, nt, hdt⟩
  refine assign_Tuple_tuple hh ht rfl rfl fun h₅ he => ?_
  have he' : ∀ b o, h.get? b = some o → h₅.get? b = some o := fun b o e => he b o (Nat.ne_of_lt (Heap.lt_size e)) e
  refine assignInOrder_cons (wpAny_assign_Name (wpAny_storeName_local (lookup_relabel_local hx) (hn.at' fun o e => he' _ o e) (fun h₆ hn₆ hs₆ => ?_) (by simp [compEnvC, relabel, hkind])))
  refine assignInOrder_cons (wpAny_assign_Name (wpAny_storeName_local (lookup_relabel_local hx₂) hn₆ (fun h₃ hn₃ hs₃ => ?_) (by simp [compEnvC, relabel, hkind])))
  refine assignInOrder_nil ?_
  exact k _ _ _ hn₃ ⟨v₁, v₂, hT', by simp [hxx], by simp⟩ fun b o hb e => hs₃.extBut b o hb (hs₆.extBut b o hb (he' b o e))

theorem ListComp_G {elt iter target : Expr} {ifs : List Expr} {scope : Scope} {cl : List (Str × Addr)} {pos : Pos} {Q : Value → Shared → Prop} {n : Nat} {P : Nat → Value → Prop} {Bd : Nat → Value → (Str → Option Value) → Prop} {S : List (Addr × Obj) → Prop} {LI : Prop}
    (inv : Nat → List Value → List (Addr × Obj) → Prop)
    (hclos : closureFor scope env = pure cl) (hcell : ∀ y ∈ scope.names, y.2 ≠ .cell) (hkind : scope.kind = .function)
    (hnames : ∀ y ∈ scope.names, y.2 = .local → scope.names.lookup y.1 = some .local)
    (hlo : LOk target P LI) (hSi : ∀ i ys nw, inv i ys nw → S nw) (hsz : n ≤ sizeLine)
    (hb : AssignG prog w A h₀ L s target (fun C => compEnvC scope cl C env) n P Bd inv)
    (h : wpAny (model prog w) A (eval iter env) (fun xv s₁ => ∃ h tk news, s₁ = { s with heap := h, toks := tk } ∧ OpenG prog w A h₀ L m xv s₁ n P S LI news ∧ inv 0 [] news) E s)
    (turn : TurnG prog w A h₀ L m s ifs elt (fun C => compEnvC scope cl C env) n P Bd inv)
    (done : ∀ D h tk ys news, inv n ys news → Fr h₀ L h m → News h₀ L h ((D, lst ys) :: news) → Off1 D news → Q (.ref D) { s with heap := h, toks := tk })
    (hs : ∀ x, foldedSetIterable iter env x = pure x := by intro _; rfl) :
    wpAny (model prog w) A (eval (.ListComp elt [⟨target, iter, ifs, 0⟩] scope pos) env) Q E s := by
  rw [eval_ListComp]
  refine wpAny_comprehension_free (use := none) rfl hs hclos hkind hnames (wpAny_mono h (fun xv s₁ h₁ => ?_) fun _ _ e => e)
  first | (refine x0_6 h₁ ?_; (try clear h₁); intro h₁ tk news hq2 O hi) | (refine x1_5 h₁ ?_; (try clear h₁); intro h₁ tk news hq2 O hi) | (refine x2_4 h₁ ?_; (try clear h₁); intro h₁ tk news hq2 O hi) | (refine x3_3 h₁ ?_; (try clear h₁); intro h₁ tk news hq2 O hi) | (refine x4_2 h₁ ?_; (try clear h₁); intro h₁ tk news hq2 O hi) | (refine x5_1 h₁ ?_; (try clear h₁); intro h₁ tk news hq2 O hi) | obtain ⟨h₁, tk, news, hq2, O, hi⟩ := h₁
  obtain rfl := hq2
  refine O _ _ fun I fp St h₂ W hIo hSt hLI hst hfp F N hIL hI₀ off => ?_
  refine block_G (inv := inv) W hsz hIo (fun i ys h h' o nw a b c d e f => hSt i h h' o nw a b c d e (hSi _ _ _ f)) hcell hkind hst hfp F N hIL hI₀ off hi ?_ turn ?_
  · exact ⟨fun i h tk v hst Q E' hq => by
      rcases hlo with e | ⟨hl, ⟨elts, x1, pos, rfl⟩, hv⟩
      · rw [e]; exact wpAny_pure hq
      · obtain ⟨l, j', hit⟩ := hLI hl _ _ hst
        cases v with
        | ref T => exact wpAny_letOwnedTupleGo_listiter hit hq
        | _ => exact wpAny_pure hq, hb⟩
  · intro D C h tk m' ys news' F' N' o1 hn hC₀ hD₀ hCL hDL hCD offC fin
    refine ⟨m', hn, fun h'' hs'' => done D h'' tk ys news' fin (F'.change hs'' hCL hC₀) (fun p hp => ?_) o1⟩
    refine ⟨hs''.extBut _ _ ?_ (N' p hp).1, (N' p hp).2⟩
    rcases List.mem_cons.mp hp with rfl | hp
    · exact Ne.symm hCD
    · exact offC p hp
theorem Assign_ListComp_G {elt iter target : Expr} {ifs : List Expr} {y : Str} {py spos : Pos} {scope : Scope} {cl : List (Str × Addr)} {pos : Pos} {Q : Flow → Shared → Prop} {n : Nat} {P : Nat → Value → Prop} {Bd : Nat → Value → (Str → Option Value) → Prop} {S : List (Addr × Obj) → Prop} {LI : Prop}
    (inv : Nat → List Value → List (Addr × Obj) → Prop) (hLe : env.locals = L)
    (hsw : swapsWith (.ListComp elt [⟨target, iter, ifs, 0⟩] scope pos) (some (.Name y py)) spos.line env = pure true)
    (hclos : closureFor scope env = pure cl) (hcell : ∀ y ∈ scope.names, y.2 ≠ .cell) (hkind : scope.kind = .function)
    (hnames : ∀ y ∈ scope.names, y.2 = .local → scope.names.lookup y.1 = some .local)
    (hy : env.kindOf y = some .local) (hp : (env.scope.kind == .class || (env.scope.kind == .module && env.locals != env.globals)) = false)
    (hlo : LOk target P LI) (hSi : ∀ i ys nw, inv i ys nw → S nw) (hsz : n ≤ sizeLine)
    (hb : AssignG prog w A h₀ L s target (fun C => compEnvC scope cl C env) n P Bd inv)
    (h : wpAny (model prog w) A (eval iter env) (fun xv s₁ => ∃ h tk news, s₁ = { s with heap := h, toks := tk } ∧ OpenG prog w A h₀ L m xv s₁ n P S LI news ∧ inv 0 [] news) E s)
    (turn : TurnG prog w A h₀ L m s ifs elt (fun C => compEnvC scope cl C env) n P Bd inv)
    (done : ∀ D h tk ys news, inv n ys news → Fr h₀ L h (fun z => if z = y then some (.ref D) else m z) → News h₀ L h ((D, lst ys) :: news) → Off1 D news → Q .next { s with heap := h, toks := tk })
    (hs : ∀ x, foldedSetIterable iter env x = pure x := by intro _; rfl) :
    wpAny (model prog w) A (exec (.Assign [.Name y py] (.ListComp elt [⟨target, iter, ifs, 0⟩] scope pos) spos) env) Q E s := by
  subst hLe
  rw [exec_Assign_Name_used _ _ _ _ hsw]
  refine wpAny_bind (wpAny_standAt (wpAny_bind ?_))
  show wpAny _ A (do let _ ← comprehension (.ListComp elt [⟨target, iter, ifs, 0⟩] scope pos) scope env _ (newList []) false (eval iter env) (some (assign (.Name y py) env))) _ _ s
  refine wpAny_bind (wpAny_mono (wpAny_comprehension_free (use := some (assign (.Name y py) env)) (Q := fun _ s' => Q .next s') rfl hs hclos hkind hnames
    (wpAny_mono h (fun xv s₁ h₁ => ?_) fun _ _ e => e)) (fun _ s' hq => wpAny_pure (wpAny_pure hq)) fun _ _ e => e)
  first | (refine x0_6 h₁ ?_; (try clear h₁); intro h₁ tk news hq3 O hi) | (refine x1_5 h₁ ?_; (try clear h₁); intro h₁ tk news hq3 O hi) | (refine x2_4 h₁ ?_; (try clear h₁); intro h₁ tk news hq3 O hi) | (refine x3_3 h₁ ?_; (try clear h₁); intro h₁ tk news hq3 O hi) | (refine x4_2 h₁ ?_; (try clear h₁); intro h₁ tk news hq3 O hi) | (refine x5_1 h₁ ?_; (try clear h₁); intro h₁ tk news hq3 O hi) | obtain ⟨h₁, tk, news, hq3, O, hi⟩ := h₁
  obtain rfl := hq3
  refine O _ _ fun I fp St h₂ W hIo hSt hLI hst hfp F N hIL hI₀ off => ?_
  refine block_G (inv := inv) W hsz hIo (fun i ys h h' o nw a b c d e f => hSt i h h' o nw a b c d e (hSi _ _ _ f)) hcell hkind hst hfp F N hIL hI₀ off hi ?_ turn ?_
  · exact ⟨fun i h tk v hst Q E' hq => by
      rcases hlo with e | ⟨hl, ⟨elts, x1, pos, rfl⟩, hv⟩
      · rw [e]; exact wpAny_pure hq
      · obtain ⟨l, j', hit⟩ := hLI hl _ _ hst
        cases v with
        | ref T => exact wpAny_letOwnedTupleGo_listiter hit hq
        | _ => exact wpAny_pure hq, hb⟩
  · intro D C h' tk m' ys news' F' N' o1 hn hC₀ hD₀ hCL hDL hCD offC fin
    show wpAny _ A (assign (.Name y py) env (.ref D)) _ _ _
    refine wpAny_assign_Name (wpAny_storeName_local hy F'.ns (fun h₂ hn₂ hs₂ => ?_) hp)
    have hL₀ : h₀.get? env.locals = none := Heap.get?_none_of_le F'.above
    have F₂ : Fr h₀ env.locals h₂ (fun z => if z = y then some (.ref D) else m z) := ⟨hn₂, fun b o e => hs₂.extBut b o (fun q => by rw [q, hL₀] at e; cases e) (F'.keep b o e), F'.above⟩
    refine ⟨m', hn.sameBut hs₂ hCL, fun h'' hs'' => done D h'' _ ys news' fin (F₂.change hs'' hCL hC₀) (fun p hp => ?_) o1⟩
    have z : h₂.get? p.1 = some p.2 := hs₂.extBut _ _ (N' p hp).2.1 (N' p hp).1
    refine ⟨hs''.extBut _ _ ?_ z, (N' p hp).2⟩
    rcases List.mem_cons.mp hp with rfl | hp
    · exact Ne.symm hCD
    · exact offC p hp
end
end Mine
end
theorem Mine.flushKE1 : if True then True else True := by (w_top off); first | (walk1; fail) | simp
section
open PySem PySem.Spec PySem.W PySem.Calls PyProof.Rows PyProof.Rows.LCg
set_option maxRecDepth 100000
set_option maxHeartbeats 1000000
namespace Mine
theorem range1_small {n : Nat} (hn : n ≤ 20) : Builtin.Range.small 0 (n : Int) 1 = true ∧ Builtin.Range.rangeSize 0 (n : Int) 1 = (n : Int) := by
  have : ∀ k : Fin 21, Builtin.Range.small 0 (k.val : Int) 1 = true ∧ Builtin.Range.rangeSize 0 (k.val : Int) 1 = (k.val : Int) := by decide
  exact this ⟨n, by omega⟩
section
variable {prog : Program} {w : World} {A : Around} {E : Value → Shared → Prop} {s : Shared} {h₀ : Heap} {L : Addr} {m : Str → Option Value}
theorem OpenG.range1 {r : Addr} {t u v : Tok} {n : Nat} {news : List (Addr × Obj)} (hn : n ≤ 20) (hh : A.handled = none) (F : Fr h₀ L s.heap m) (N : News h₀ L s.heap news)
    (hr : IsRange s.heap r 0 (n : Int) 1 t u v) : OpenG prog w A h₀ L m (.ref r) s n (fun i v => ∃ t, v = .int (i : Int) t) (fun _ => True) False news := fun Q E' k => by
  refine OpenG.range hh F N hr (range1_small hn).1 (range1_small hn).2 Q E' fun I fp St h₂ W a b c d e f g hh i j => ?_
  exact k I fp St h₂ { sub := W.sub, frame := W.frame, done := W.done, self := W.self, item := fun i s Q E hi st hQ => W.item i s Q E hi st fun v h' tk hP => hQ v h' tk (by obtain ⟨t, rfl⟩ := hP; exact ⟨t, by rw [Int.zero_add, Int.mul_one]⟩) } a b c d e f g hh i j
end
end Mine
end
theorem Mine.flushKF : if True then True else True := by (w_top off); first | (walk1; fail) | simp
section
open PySem PySem.Spec PySem.W PySem.Calls PyProof.Rows PyProof.Rows.LCg
set_option maxRecDepth 100000
set_option maxHeartbeats 1000000
namespace Mine
section
variable {prog : Program} {w : World} {A : Around} {E : Value → Shared → Prop} {s : Shared} {h₀ : Heap} {L : Addr} {m : Str → Option Value} {env : Env}
theorem for_GZ {Z : Type} {target iter : Expr} {body : List Stmt} {pos : Pos} {Q : Flow → Shared → Prop} {n : Nat} {P : Z → Nat → Value → Prop} {S : Z → List (Addr × Obj) → Prop} {LI : Prop} (inv : Z → Nat → (Str → Option Value) → List (Addr × Obj) → Prop)
    (hlo : ∀ z, LOk target (P z) LI) (hSi : ∀ z i m nw, inv z i m nw → S z nw)
    (hE : PassesOwn (model prog w) A env E)
    (h : wpAny (model prog w) A (eval iter env) (fun xv s₁ => ∃ z h tk m' news, s₁ = { s with heap := h, toks := tk } ∧ OpenG prog w A h₀ L m' xv s₁ n (P z) (S z) LI news ∧ inv z 0 m' news) E s)
    (turn : ∀ z, TurnF prog w A h₀ L s env target body n (P z) (inv z) Q E)
    (done : ∀ z h tk m' news, inv z n m' news → Fr h₀ L h m' → News h₀ L h news → Q .next { s with heap := h, toks := tk })
    (hs : ∀ x, foldedSetIterable iter env x = pure x := by intro _; rfl) :
    wpAny (model prog w) A (exec (.For target iter body [] pos) env) Q E s := by
  refine wpAny_For (wpAny_mono h (fun xv s₁ h₁ => ?_) fun _ _ z => z) hs
  first | (refine x0_8 h₁ ?_; (try clear h₁); intro z h₁ tk m₁ news hq1 O hi) | (refine x1_7 h₁ ?_; (try clear h₁); intro z h₁ tk m₁ news hq1 O hi) | (refine x2_6 h₁ ?_; (try clear h₁); intro z h₁ tk m₁ news hq1 O hi) | (refine x3_5 h₁ ?_; (try clear h₁); intro z h₁ tk m₁ news hq1 O hi) | (refine x4_4 h₁ ?_; (try clear h₁); intro z h₁ tk m₁ news hq1 O hi) | (refine x5_3 h₁ ?_; (try clear h₁); intro z h₁ tk m₁ news hq1 O hi) | (refine x6_2 h₁ ?_; (try clear h₁); intro z h₁ tk m₁ news hq1 O hi) | (refine x7_1 h₁ ?_; (try clear h₁); intro z h₁ tk m₁ news hq1 O hi) | obtain ⟨z, h₁, tk, m₁, news, hq1, O, hi⟩ := h₁
  obtain rfl := hq1
  refine O _ _ fun I fp St h₂ W hIo hSt hLI hst hfp F N hIL hI₀ off => ?_
  have hIf : I ∈ fp := W.sub I (List.mem_singleton.mpr rfl)
  refine forLoop_gen (R := fun r s' => match r with | .ok f => Q f s' | .error e => cameBackBy (model prog w) A env E e s')
    (fun k s' => ∃ i h tk m' news, s' = { s with heap := h, toks := tk } ∧ i ≤ n ∧ k = n + 1 - i ∧ St i h ∧ Fr h₀ L h m' ∧ News h₀ L h news ∧ (∀ p ∈ news, p.1 ≠ I) ∧ inv z i m' news) ?_ (n + 1)
    ⟨0, h₂, tk, m₁, news, rfl, Nat.zero_le _, rfl, hst, F, N, off, hi⟩
  intro k s' hq2
  first | (refine x0_13 hq2 ?_; (try clear hq2); intro i h tk m' news hq3 hin hq4 hst' F' N' off' hi') | (refine x1_12 hq2 ?_; (try clear hq2); intro i h tk m' news hq3 hin hq4 hst' F' N' off' hi') | (refine x2_11 hq2 ?_; (try clear hq2); intro i h tk m' news hq3 hin hq4 hst' F' N' off' hi') | (refine x3_10 hq2 ?_; (try clear hq2); intro i h tk m' news hq3 hin hq4 hst' F' N' off' hi') | (refine x4_9 hq2 ?_; (try clear hq2); intro i h tk m' news hq3 hin hq4 hst' F' N' off' hi') | (refine x5_8 hq2 ?_; (try clear hq2); intro i h tk m' news hq3 hin hq4 hst' F' N' off' hi') | (refine x6_7 hq2 ?_; (try clear hq2); intro i h tk m' news hq3 hin hq4 hst' F' N' off' hi') | (refine x7_6 hq2 ?_; (try clear hq2); intro i h tk m' news hq3 hin hq4 hst' F' N' off' hi') | (refine x8_5 hq2 ?_; (try clear hq2); intro i h tk m' news hq3 hin hq4 hst' F' N' off' hi') | (refine x9_4 hq2 ?_; (try clear hq2); intro i h tk m' news hq3 hin hq4 hst' F' N' off' hi') | (refine x10_3 hq2 ?_; (try clear hq2); intro i h tk m' news hq3 hin hq4 hst' F' N' off' hi') | obtain ⟨i, h, tk, m', news, hq3, hin, hq4, hst', F', N', off', hi'⟩ := hq2
  obtain rfl := hq3
  obtain rfl := hq4
  refine wpAny_passesOwn hE ?_
  by_cases hlt : i < n
  · refine W.item i _ _ _ hlt hst' fun v h₃ tk₃ hPv hst₃ hk₃ => ?_
    first | (refine x0_2 (hIo _ _ hst₃) ?_; intro oI heI) | (refine x1_1 (hIo _ _ hst₃) ?_; intro oI heI) | obtain ⟨oI, heI⟩ := hIo _ _ hst₃
    have F₃ : Fr h₀ L h₃ m' := fr_but F' hk₃ hIL hI₀
    have N₃ : News h₀ L h₃ ((I, oI) :: news) := fun p hp => by
      rcases List.mem_cons.mp hp with rfl | hp
      · exact ⟨heI, Ne.symm hIL, hI₀⟩
      · exact news_but N' hk₃ off' p hp
    refine lo_run (hlo z) hLI hst₃ hPv ?_
    refine wpAny_passesOwn hE (wpAny_mono (turn z i m' news v I oI h₃ _ hlt hi' hPv F₃ N₃ off') (fun _ s₂ h₂ => ?_) fun _ _ z => z)
    refine wpAny_passesOwn hE (wpAny_mono h₂ (fun f s₃ h₃' => ?_) fun _ _ z => z)
    have nx : LoopG h₀ L s I oI (inv z (i + 1)) s₃ → ∃ m, m < n + 1 - i ∧ ∃ i h tk m' news, s₃ = { s with heap := h, toks := tk } ∧ i ≤ n ∧ m = n + 1 - i ∧ St i h ∧ Fr h₀ L h m' ∧ News h₀ L h news ∧ (∀ p ∈ news, p.1 ≠ I) ∧ inv z i m' news := by
      intro hq5
      first | (refine x0_9 hq5 ?_; (try clear hq5); intro h₄ tk₄ m₄ news₄ hq6 F₄ N₄ off₄ hi₄) | (refine x1_8 hq5 ?_; (try clear hq5); intro h₄ tk₄ m₄ news₄ hq6 F₄ N₄ off₄ hi₄) | (refine x2_7 hq5 ?_; (try clear hq5); intro h₄ tk₄ m₄ news₄ hq6 F₄ N₄ off₄ hi₄) | (refine x3_6 hq5 ?_; (try clear hq5); intro h₄ tk₄ m₄ news₄ hq6 F₄ N₄ off₄ hi₄) | (refine x4_5 hq5 ?_; (try clear hq5); intro h₄ tk₄ m₄ news₄ hq6 F₄ N₄ off₄ hi₄) | (refine x5_4 hq5 ?_; (try clear hq5); intro h₄ tk₄ m₄ news₄ hq6 F₄ N₄ off₄ hi₄) | (refine x6_3 hq5 ?_; (try clear hq5); intro h₄ tk₄ m₄ news₄ hq6 F₄ N₄ off₄ hi₄) | (refine x7_2 hq5 ?_; (try clear hq5); intro h₄ tk₄ m₄ news₄ hq6 F₄ N₄ off₄ hi₄) | (refine x8_1 hq5 ?_; (try clear hq5); intro h₄ tk₄ m₄ news₄ hq6 F₄ N₄ off₄ hi₄) | obtain ⟨h₄, tk₄, m₄, news₄, hq6, F₄, N₄, off₄, hi₄⟩ := hq5
      obtain rfl := hq6
      have N₄' : News h₀ L h₄ news₄ := fun p hp => N₄ p (List.mem_cons_of_mem _ hp)
      exact ⟨n + 1 - (i + 1), by omega, i + 1, h₄, tk₄, m₄, news₄, rfl, hlt, rfl, hSt _ _ _ _ _ hst₃ heI (N₄ (I, oI) List.mem_cons_self).1 F₄.keep N₄' (hSi z _ _ _ hi₄), F₄, N₄', off₄, hi₄⟩
    cases f with
    | next => exact nx h₃'
    | cont => exact nx h₃'
    | brk => exact h₃'
    | ret _ => exact h₃'
  · obtain rfl : i = n := Nat.le_antisymm hin (Nat.not_lt.mp hlt)
    refine W.done _ _ _ hst' fun h₃ tk₃ hk₃ => ?_
    exact wpAny_execs_nil (done z h₃ tk₃ m' news hi' (fr_but F' hk₃ hIL hI₀) (news_but N' hk₃ off'))
end
end Mine
end
theorem Mine.flushKG : if True then True else True := by (w_top off); first | (walk1; fail) | simp
section
open PySem PySem.Spec PySem.W PySem.Calls PyProof.Rows PyProof.Rows.LCg
namespace Mine
section
variable {prog : Program} {w : World} {A : Around} {E : Value → Shared → Prop} {s : Shared} {h₀ : Heap} {L : Addr}
/-- a fact that the walk's rules do not look into -/
structure Hid (p : Prop) : Prop where
  out : p
/-- a post as a letter: a proof repeats its post at each name that it takes up -/
theorem opaq {M : Model} {α : Type} {t : Sem α} {Q : α → Shared → Prop} (h : ∀ KQ : α → Shared → Prop, Hid (∀ v s', Q v s' → KQ v s') → wpAny M A t KQ E s) : wpAny M A t Q E s := h Q ⟨fun _ _ h => h⟩
/-- the post of a raise as a letter -/
theorem nameE {M : Model} {α : Type} {t : Sem α} {Q : α → Shared → Prop} (h : ∀ KE : Value → Shared → Prop, KE = E → wpAny M A t Q KE s) : wpAny M A t Q E s := h E rfl
theorem passE {M : Model} {env : Env} {KE Q₁ E₁ : Value → Shared → Prop} (h : KE = fun e s' => wpAny M A (leaving env e) (fun _ s'' => Q₁ e s'') E₁ s') : PassesOwn M A env KE := h ▸ PassesOwn.leaving
theorem opaqT {M : Model} {target : Expr} {env : Env} {v : Value} {body : List Stmt} {Q : Flow → Shared → Prop} (h : ∀ KQ : Flow → Shared → Prop, Hid (∀ f s', Q f s' → KQ f s') → wpAny M A (assign target env v) (fun _ s₂ => wpAny M A (execs body env) KQ E s₂) E s) :
    wpAny M A (assign target env v) (fun _ s₂ => wpAny M A (execs body env) Q E s₂) E s := h Q ⟨fun _ _ h => h⟩
theorem opaqG {env : Env} {elt : Expr} {Q : Value → Shared → Prop} {Z : Shared → Prop} (h : ∀ KQ : Value → Shared → Prop, Hid (∀ y s', Q y s' → KQ y s') → wpAny (model prog w) A (eval elt env) KQ E s) :
    wpAny (model prog w) A (testsS [] env) (fun ok s₃ => if ok = true then wpAny (model prog w) A (eval elt env) Q E s₃ else Z s₃) E s := by
  refine wpAny_tests_nil ?_
  rw [if_pos rfl]
  exact h Q ⟨fun _ _ h => h⟩
theorem opaqG1 {M : Model} {env : Env} {ifs : List Expr} {elt : Expr} {Q : Value → Shared → Prop} {Z : Shared → Prop} (h : ∀ (KQ : Value → Shared → Prop) (KZ : Shared → Prop), Hid (∀ y s', Q y s' → KQ y s') → Hid (∀ s', Z s' → KZ s') → wpAny M A (testsS ifs env) (fun ok s₃ => if ok = true then wpAny M A (eval elt env) KQ E s₃ else KZ s₃) E s) :
    wpAny M A (testsS ifs env) (fun ok s₃ => if ok = true then wpAny M A (eval elt env) Q E s₃ else Z s₃) E s := h Q Z ⟨fun _ _ h => h⟩ ⟨fun _ h => h⟩
theorem LoopG.mk {I : Addr} {oI : Obj} {inv : (Str → Option Value) → List (Addr × Obj) → Prop} {h : Heap} {tk : Nat} {m' : Str → Option Value} {nw : List (Addr × Obj)} (F : Fr h₀ L h m') (N : News h₀ L h ((I, oI) :: nw)) (o : ∀ p ∈ nw, p.1 ≠ I) (i : inv m' nw) :
    LoopG h₀ L s I oI inv { s with heap := h, toks := tk } := ⟨_, _, _, _, rfl, F, N, o, i⟩
theorem CompE.mk {m : Str → Option Value} {I C D : Addr} {oI oC oD : Obj} {J : List (Addr × Obj) → Prop} {h : Heap} {tk : Nat} {nw : List (Addr × Obj)} (F : Fr h₀ L h m) (N : News h₀ L h ((I, oI) :: (C, oC) :: (D, oD) :: nw)) (o : Off3 I C D nw) (i : J nw) :
    CompE h₀ L m s I oI C oC D oD J { s with heap := h, toks := tk } := ⟨_, _, _, rfl, F, N, o, i⟩
end
end Mine
end
theorem Mine.flushOQ : if True then True else True := by (w_top off); first | (walk1; fail) | simp
section
set_option maxRecDepth 100000
namespace Mine
/-- a rule: head and the two symbols of the body -/
noncomputable abbrev Rule := Nat × Nat × Nat
noncomputable def bodyR (r : Rule) : List Nat := [r.2.1, r.2.2]
noncomputable def innR (r : Rule) : List Nat := (bodyR r).filter fun s => decide (256 ≤ s)
noncomputable def lc (P : List Nat) (r : Rule) : Nat := ((innR r).filter fun s => decide (s ∉ P)).length
noncomputable def keysH (hs : List (Nat × Nat)) : List Nat := hs.map (·.1)
noncomputable def insH (hs : List (Nat × Nat)) (x h : Nat) : List (Nat × Nat) := if x ∈ keysH hs then hs else hs ++ [(x, h)]
noncomputable def initH (rs : List Rule) : List (Nat × Nat) := rs.foldl (fun hs r => if lc [] r = 0 then insH hs r.1 1 else hs) []
noncomputable def popH (rs : List Rule) (P : List Nat) (a h : Nat) (hs : List (Nat × Nat)) : List (Nat × Nat) := rs.foldl (fun hs r => if a ∈ bodyR r ∧ lc P r = 0 then insH hs r.1 (h + 1) else hs) hs
noncomputable def hsT (rs : List Rule) : Nat → List (Nat × Nat)
  | 0 => initH rs
  | t + 1 => match (hsT rs t)[t]? with
    | some (a, h) => popH rs (keysH ((hsT rs t).take (t + 1))) a h (hsT rs t)
    | none => hsT rs t
noncomputable def hOf (hs : List (Nat × Nat)) (x : Nat) : Nat := ((hs.find? fun p => p.1 == x).map (·.2)).getD 0
noncomputable def maxH (hs : List (Nat × Nat)) (l : List Nat) : Nat := l.foldr (fun s m => max (hOf hs s) m) 0

theorem lc_zero {P : List Nat} {r : Rule} : lc P r = 0 ↔ ∀ s ∈ innR r, s ∈ P := by
  unfold lc
  rw [List.length_eq_zero_iff, List.filter_eq_nil_iff]
  simp
theorem hOf_mem {hs : List (Nat × Nat)} (hn : (keysH hs).Nodup) {x h : Nat} (hm : (x, h) ∈ hs) : hOf hs x = h := by
  induction hs with
  | nil => cases hm
  | cons p r ih =>
    unfold keysH at hn
    rw [List.map_cons, List.nodup_cons] at hn
    rcases List.mem_cons.mp hm with rfl | hm'
    · simp [hOf]
    · have : p.1 ≠ x := fun q => hn.1 (List.mem_map.mpr ⟨_, hm', q.symm⟩)
      have hb : (p.1 == x) = false := by simpa using this
      unfold hOf
      rw [List.find?_cons, hb]
      exact ih hn.2 hm'
theorem hOf_app {hs l : List (Nat × Nat)} {x : Nat} (hx : x ∈ keysH hs) : hOf (hs ++ l) x = hOf hs x := by
  unfold hOf
  rw [List.find?_append]
  obtain ⟨p, hp, e⟩ := List.mem_map.mp hx
  cases hf : hs.find? fun p => p.1 == x with
  | none =>
    rw [List.find?_eq_none] at hf
    exact absurd (by simpa using e) (hf p hp)
  | some q => rfl
theorem maxH_app {hs l : List (Nat × Nat)} : ∀ {b : List Nat}, (∀ s ∈ b, s ∈ keysH hs) → maxH (hs ++ l) b = maxH hs b
  | [], _ => rfl
  | s :: r, h => by
    show max _ (maxH _ r) = max _ (maxH _ r)
    rw [hOf_app (h s (List.mem_cons_self)), maxH_app fun s hs => h s (List.mem_cons_of_mem _ hs)]
theorem maxH_le {hs : List (Nat × Nat)} {m : Nat} : ∀ {b : List Nat}, (∀ s ∈ b, hOf hs s ≤ m) → maxH hs b ≤ m
  | [], _ => Nat.zero_le _
  | s :: r, h => by
    show max _ (maxH _ r) ≤ m
    exact Nat.max_le.mpr ⟨h s List.mem_cons_self, maxH_le fun s hs => h s (List.mem_cons_of_mem _ hs)⟩
theorem le_maxH {hs : List (Nat × Nat)} {s : Nat} : ∀ {b : List Nat}, s ∈ b → hOf hs s ≤ maxH hs b
  | x :: r, h => by
    show hOf hs s ≤ max (hOf hs x) (maxH hs r)
    rcases List.mem_cons.mp h with rfl | h
    · exact Nat.le_max_left _ _
    · exact Nat.le_trans (le_maxH h) (Nat.le_max_right _ _)
theorem keysH_app (a b : List (Nat × Nat)) : keysH (a ++ b) = keysH a ++ keysH b := List.map_append

/-- what holds of every line -/
structure BaseH (rs : List Rule) (hs : List (Nat × Nat)) : Prop where
  nodup : (keysH hs).Nodup
  heads : ∀ x ∈ keysH hs, ∃ r ∈ rs, r.1 = x
  sorted : hs.Pairwise fun p q => p.2 ≤ q.2
  idx : ∀ i (hi : i < hs.length), hs[i].2 ≤ i + 1
  sound : ∀ i (hi : i < hs.length), ∃ r ∈ rs, r.1 = hs[i].1 ∧ (∀ s ∈ innR r, s ∈ keysH (hs.take i)) ∧ hs[i].2 = 1 + maxH hs (innR r)
/-- one rule's head goes to the line -/
theorem BaseH.add {rs : List Rule} {hs : List (Nat × Nat)} (B : BaseH rs hs) {h : Nat} (htop : ∀ p ∈ hs, p.2 ≤ h + 1) (hl : h ≤ hs.length) {r : Rule} (hr : r ∈ rs) (hin : ∀ s ∈ innR r, s ∈ keysH hs) (hm : maxH hs (innR r) = h) (hx : r.1 ∉ keysH hs) :
    BaseH rs (hs ++ [(r.1, h + 1)]) := by
  have ha : ∀ i (hi : i < hs.length), (hs ++ [(r.1, h + 1)])[i]'(by simp; omega) = hs[i] := fun i hi => List.getElem_append_left hi
  refine ⟨?_, ?_, ?_, ?_, ?_⟩
  · rw [keysH_app]
    refine List.nodup_append.mpr ⟨B.nodup, by simp [keysH], ?_⟩
    intro x hx1 y hy
    have : y = r.1 := by simpa [keysH] using hy
    subst this
    intro q
    exact hx (q ▸ hx1)
  · intro x hx1
    rw [keysH_app] at hx1
    rcases List.mem_append.mp hx1 with hx1 | hx1
    · exact B.heads x hx1
    · exact ⟨r, hr, (by simpa [keysH] using hx1 : x = r.1).symm⟩
  · rw [List.pairwise_append]
    refine ⟨B.sorted, List.pairwise_singleton _ _, fun p hp q hq => ?_⟩
    rw [List.mem_singleton] at hq
    subst hq
    exact htop p hp
  · intro i hi
    rw [List.length_append, List.length_singleton] at hi
    by_cases hlt : i < hs.length
    · rw [ha i hlt]; exact B.idx i hlt
    · have : i = hs.length := by omega
      subst this
      rw [List.getElem_append_right (Nat.le_refl _)]
      simp
      omega
  · intro i hi
    rw [List.length_append, List.length_singleton] at hi
    by_cases hlt : i < hs.length
    · rw [ha i hlt]
      obtain ⟨r', h1, h2, h3, h4⟩ := B.sound i hlt
      refine ⟨r', h1, h2, ?_, ?_⟩
      · rw [List.take_append_of_le_length (Nat.le_of_lt hlt)]; exact h3
      · rw [maxH_app (fun s hs' => ?_)]
        · exact h4
        · obtain ⟨p, hp, e⟩ := List.mem_map.mp (h3 s hs')
          exact List.mem_map.mpr ⟨p, List.mem_of_mem_take hp, e⟩
    · have : i = hs.length := by omega
      subst this
      rw [List.getElem_append_right (Nat.le_refl _)]
      refine ⟨r, hr, by simp, ?_, ?_⟩
      · rw [List.take_append_of_le_length (Nat.le_refl _), List.take_length]; exact hin
      · rw [maxH_app hin, hm]
        simp
        omega
/-- a pass over the rules -/
theorem passH {rs : List Rule} {hs0 : List (Nat × Nat)} {h : Nat} (c : Rule → Prop) [DecidablePred c] (hl : h ≤ hs0.length)
    (hc : ∀ r ∈ rs, c r → (∀ s ∈ innR r, s ∈ keysH hs0) ∧ maxH hs0 (innR r) = h) : ∀ (l : List Rule) (ext : List (Nat × Nat)), (∀ r ∈ l, r ∈ rs) → BaseH rs (hs0 ++ ext) → (∀ p ∈ hs0 ++ ext, p.2 ≤ h + 1) → (∀ p ∈ ext, p.2 = h + 1) →
      ∃ ext', l.foldl (fun hs r => if c r then insH hs r.1 (h + 1) else hs) (hs0 ++ ext) = hs0 ++ (ext ++ ext') ∧ BaseH rs (hs0 ++ (ext ++ ext')) ∧ (∀ p ∈ hs0 ++ (ext ++ ext'), p.2 ≤ h + 1) ∧ (∀ p ∈ ext ++ ext', p.2 = h + 1) ∧
        ∀ r ∈ l, c r → r.1 ∈ keysH (hs0 ++ (ext ++ ext'))
  | [], ext, _, B, ht, he => ⟨[], by simp, by simpa using B, by simpa using ht, by simpa using he, fun _ hr => nomatch hr⟩
  | r :: l, ext, hsub, B, ht, he => by
    have hr := hsub r List.mem_cons_self
    have hsub' : ∀ r ∈ l, r ∈ rs := fun r' h' => hsub r' (List.mem_cons_of_mem _ h')
    rw [List.foldl_cons]
    by_cases hcr : c r
    · rw [if_pos hcr]
      obtain ⟨h1, h2⟩ := hc r hr hcr
      by_cases hx : r.1 ∈ keysH (hs0 ++ ext)
      · rw [show insH (hs0 ++ ext) r.1 (h + 1) = hs0 ++ ext from if_pos hx]
        obtain ⟨ext', e, B', t', e', k'⟩ := passH c hl hc l ext hsub' B ht he
        refine ⟨ext', e, B', t', e', fun r' hr' hc' => ?_⟩
        rcases List.mem_cons.mp hr' with rfl | hr'
        · rw [← List.append_assoc, keysH_app]; exact List.mem_append_left _ hx
        · exact k' r' hr' hc'
      · rw [show insH (hs0 ++ ext) r.1 (h + 1) = hs0 ++ ext ++ [(r.1, h + 1)] from if_neg hx]
        have B2 : BaseH rs (hs0 ++ (ext ++ [(r.1, h + 1)])) := by
          rw [← List.append_assoc]
          refine B.add ht (Nat.le_trans hl (by simp)) hr (fun s hs => ?_) ?_ hx
          · rw [keysH_app]; exact List.mem_append_left _ (h1 s hs)
          · rw [maxH_app h1]; exact h2
        have t2 : ∀ p ∈ hs0 ++ (ext ++ [(r.1, h + 1)]), p.2 ≤ h + 1 := fun p hp => by
          rw [← List.append_assoc] at hp
          rcases List.mem_append.mp hp with hp | hp
          · exact ht p hp
          · rw [List.mem_singleton] at hp; subst hp; exact Nat.le_refl _
        have e2 : ∀ p ∈ ext ++ [(r.1, h + 1)], p.2 = h + 1 := fun p hp => by
          rcases List.mem_append.mp hp with hp | hp
          · exact he p hp
          · rw [List.mem_singleton] at hp; subst hp; rfl
        obtain ⟨ext', e, B', t', e', k'⟩ := passH c hl hc l (ext ++ [(r.1, h + 1)]) hsub' B2 t2 e2
        rw [List.append_assoc]
        refine ⟨[(r.1, h + 1)] ++ ext', by rw [e]; simp, by simpa using B', by simpa using t', by simpa using e', fun r' hr' hc' => ?_⟩
        rcases List.mem_cons.mp hr' with rfl | hr'
        · exact List.mem_map.mpr ⟨(r'.1, h + 1), by simp, rfl⟩
        · have := k' r' hr' hc'
          simpa using this
    · rw [if_neg hcr]
      obtain ⟨ext', e, B', t', e', k'⟩ := passH c hl hc l ext hsub' B ht he
      refine ⟨ext', e, B', t', e', fun r' hr' hc' => ?_⟩
      rcases List.mem_cons.mp hr' with rfl | hr'
      · exact absurd hc' hcr
      · exact k' r' hr' hc'
theorem keysH_take_sub {hs : List (Nat × Nat)} {n : Nat} {x : Nat} (h : x ∈ keysH (hs.take n)) : x ∈ keysH hs := by
  obtain ⟨p, hp, e⟩ := List.mem_map.mp h
  exact List.mem_map.mpr ⟨p, List.mem_of_mem_take hp, e⟩
theorem sortedH_le {hs : List (Nat × Nat)} (hs' : hs.Pairwise fun p q => p.2 ≤ q.2) {i j : Nat} (hij : i ≤ j) (hj : j < hs.length) : (hs[i]'(by omega)).2 ≤ hs[j].2 := by
  rcases Nat.lt_or_ge i j with h | h
  · exact List.pairwise_iff_getElem.mp hs' i j (by omega) hj h
  · obtain rfl : i = j := by omega
    exact Nat.le_refl _
/-- the invariant of the line: t popped, H the height of the last one -/
structure InvH (rs : List Rule) (t H : Nat) (hs : List (Nat × Nat)) : Prop where
  base : BaseH rs hs
  tle : t ≤ hs.length
  top : ∀ p ∈ hs, p.2 ≤ H + 1
  low : ∀ p ∈ hs.drop t, H ≤ p.2
  compl : ∀ r ∈ rs, (∀ s ∈ innR r, s ∈ keysH (hs.take t)) → r.1 ∈ keysH hs ∧ hOf hs r.1 ≤ 1 + maxH hs (innR r)
theorem hOf_of_mem {hs : List (Nat × Nat)} (hn : (keysH hs).Nodup) {x : Nat} (hx : x ∈ keysH hs) : (x, hOf hs x) ∈ hs := by
  obtain ⟨⟨y, h⟩, hp, rfl⟩ := List.mem_map.mp hx
  rw [hOf_mem hn hp]; exact hp
theorem initH_inv (rs : List Rule) : InvH rs 0 0 (initH rs) := by
  have B0 : BaseH rs ([] ++ []) := ⟨List.nodup_nil, (fun _ h => nomatch h), List.Pairwise.nil, fun i hi => absurd hi (Nat.not_lt_zero i), fun i hi => absurd hi (Nat.not_lt_zero i)⟩
  have nil_of : ∀ r : Rule, lc [] r = 0 → innR r = [] := fun r h => by
    rw [lc_zero] at h
    exact List.eq_nil_iff_forall_not_mem.mpr fun s hs => nomatch h s hs
  obtain ⟨ext, e, B, t, _, k⟩ := passH (rs := rs) (hs0 := []) (h := 0) (fun r => lc [] r = 0) (Nat.le_refl _) (fun r _ hc => by
    rw [nil_of r hc]
    exact ⟨(fun _ h => nomatch h), rfl⟩) rs [] (fun _ h => h) B0 (fun _ h => nomatch h) (fun _ h => nomatch h)
  have e' : initH rs = ext := by
    have : initH rs = [] ++ ([] ++ ext) := e
    simpa using this
  simp only [List.nil_append] at B t k
  rw [e']
  refine ⟨B, Nat.zero_le _, t, fun _ _ => Nat.zero_le _, fun r hr hin => ?_⟩
  have hc : lc [] r = 0 := lc_zero.mpr fun s hs => by simpa [keysH] using hin s hs
  have hk := k r hr hc
  refine ⟨hk, ?_⟩
  have := t _ (hOf_of_mem B.nodup hk)
  dsimp only at this
  omega
theorem popH_inv {rs : List Rule} {t H : Nat} {hs : List (Nat × Nat)} (hNT : ∀ r ∈ rs, 256 ≤ r.1) (I : InvH rs t H hs) {a h : Nat} (hg : hs[t]? = some (a, h)) :
    InvH rs (t + 1) h (popH rs (keysH (hs.take (t + 1))) a h hs) ∧ ∃ ext, popH rs (keysH (hs.take (t + 1))) a h hs = hs ++ ext := by
  obtain ⟨ht, he⟩ := List.getElem?_eq_some_iff.mp hg
  have B := I.base
  have hidx : h ≤ t + 1 := by have := B.idx t ht; rw [he] at this; exact this
  have hmem : (a, h) ∈ hs := he ▸ List.getElem_mem ht
  have hHh : H ≤ h := by
    refine I.low (a, h) ?_
    rw [← he]
    exact List.mem_drop_iff_getElem.mpr ⟨0, by omega, by simp⟩
  have hpop : ∀ s ∈ keysH (hs.take (t + 1)), hOf hs s ≤ h := fun s hs' => by
    obtain ⟨p, hp, rfl⟩ := List.mem_map.mp hs'
    obtain ⟨i, hi, e⟩ := List.getElem_of_mem hp
    rw [List.length_take] at hi
    rw [List.getElem_take] at e
    have hp' : (p.1, p.2) ∈ hs := List.mem_of_mem_take hp
    rw [hOf_mem B.nodup hp', ← e]
    have := sortedH_le B.sorted (i := i) (j := t) (by omega) ht
    rw [he] at this
    exact this
  have ha : 256 ≤ a := by
    obtain ⟨r, hr, e⟩ := B.heads a (List.mem_map.mpr ⟨_, hmem, rfl⟩)
    rw [← e]; exact hNT r hr
  have inn_of : ∀ r : Rule, a ∈ bodyR r → a ∈ innR r := fun r hb => List.mem_filter.mpr ⟨hb, by simpa using ha⟩
  have hha : hOf hs a = h := hOf_mem B.nodup hmem
  obtain ⟨ext, e, B', t', e', k⟩ := passH (rs := rs) (hs0 := hs) (h := h) (fun r => a ∈ bodyR r ∧ lc (keysH (hs.take (t + 1))) r = 0) (by omega) (fun r _ hc => by
    have hz := lc_zero.mp hc.2
    refine ⟨fun s hs' => keysH_take_sub (hz s hs'), Nat.le_antisymm (maxH_le fun s hs' => hpop s (hz s hs')) ?_⟩
    have := le_maxH (hs := hs) (inn_of r hc.1)
    rw [hha] at this; exact this) rs [] (fun _ h => h) (by simpa using B) (fun p hp => by
      have := I.top p (by simpa using hp)
      omega) (fun _ h => nomatch h)
  simp only [List.nil_append] at e B' t' e' k
  have e2 : popH rs (keysH (hs.take (t + 1))) a h hs = hs ++ ext := by
    have : popH rs (keysH (hs.take (t + 1))) a h hs = List.foldl (fun hs_1 r => if a ∈ bodyR r ∧ lc (keysH (hs.take (t + 1))) r = 0 then insH hs_1 r.1 (h + 1) else hs_1) (hs ++ []) rs := by rw [List.append_nil]; rfl
    rw [this]; exact e
  rw [e2]
  have htk : (hs ++ ext).take (t + 1) = hs.take (t + 1) := List.take_append_of_le_length (by omega)
  refine ⟨⟨B', by simp; omega, t', fun p hp => ?_, fun r hr hin => ?_⟩, ext, rfl⟩
  · obtain ⟨i, hi, ei⟩ := List.mem_drop_iff_getElem.mp hp
    have hj : t + 1 + i < (hs ++ ext).length := by omega
    have := sortedH_le B'.sorted (i := t) (j := t + 1 + i) (by omega) hj
    rw [List.getElem_append_left ht, he] at this
    rw [← ei]
    simpa [Nat.add_comm] using this
  · rw [htk] at hin
    have hsub : ∀ s ∈ innR r, s ∈ keysH hs := fun s hs' => keysH_take_sub (hin s hs')
    by_cases hai : a ∈ innR r
    · have hk := k r hr ⟨(List.mem_filter.mp hai).1, lc_zero.mpr hin⟩
      refine ⟨hk, ?_⟩
      have h1 := t' _ (hOf_of_mem B'.nodup hk)
      dsimp only at h1
      have h2 := le_maxH (hs := hs ++ ext) hai
      rw [hOf_app (hsub a hai), hha] at h2
      omega
    · have hin' : ∀ s ∈ innR r, s ∈ keysH (hs.take t) := fun s hs' => by
        have := hin s hs'
        rw [List.take_add_one, hg, keysH_app] at this
        rcases List.mem_append.mp this with q | q
        · exact q
        · have : s = a := by simpa [keysH] using q
          exact absurd (this ▸ hs') hai
      obtain ⟨h1, h2⟩ := I.compl r hr hin'
      refine ⟨by rw [keysH_app]; exact List.mem_append_left _ h1, ?_⟩
      rw [hOf_app h1, maxH_app hsub]
      exact h2
end Mine
end
theorem Mine.flushPL : if True then True else True := by (w_top off); first | (walk1; fail) | simp
section
set_option maxRecDepth 100000
namespace Mine
theorem hsT_inv {rs : List Rule} (hNT : ∀ r ∈ rs, 256 ≤ r.1) : ∀ t, ∃ k H, InvH rs k H (hsT rs t) ∧ (k = t ∨ (k = (hsT rs t).length ∧ k ≤ t))
  | 0 => ⟨0, 0, initH_inv rs, .inl rfl⟩
  | t + 1 => by
    obtain ⟨k, H, I, hk⟩ := hsT_inv hNT t
    have hT : hsT rs (t + 1) = match (hsT rs t)[t]? with
      | some (a, h) => popH rs (keysH ((hsT rs t).take (t + 1))) a h (hsT rs t)
      | none => hsT rs t := rfl
    rw [hT]
    cases hg : (hsT rs t)[t]? with
    | none =>
      have hl := List.getElem?_eq_none_iff.mp hg
      refine ⟨k, H, I, .inr ?_⟩
      dsimp only
      rcases hk with rfl | ⟨h1, h2⟩
      · have := I.tle
        exact ⟨by omega, by omega⟩
      · exact ⟨h1, by omega⟩
    | some p =>
      obtain ⟨a, h⟩ := p
      have hl := (List.getElem?_eq_some_iff.mp hg).1
      rcases hk with rfl | ⟨h1, h2⟩
      · exact ⟨k + 1, h, (popH_inv hNT I hg).1, .inl rfl⟩
      · omega
theorem keys_le {hs : List (Nat × Nat)} (hn : (keysH hs).Nodup) (hk : ∀ x ∈ keysH hs, 256 ≤ x ∧ x ≤ 259) : hs.length ≤ 4 := by
  have h1 : (keysH hs).length ≤ [256, 257, 258, 259].length := List.Nodup.length_le_of_subset hn (fun x hx => by
    obtain ⟨a, b⟩ := hk x hx
    have : x = 256 ∨ x = 257 ∨ x = 258 ∨ x = 259 := by omega
    rcases this with rfl | rfl | rfl | rfl <;> simp)
  simpa [keysH] using h1
theorem hsT_base {rs : List Rule} (hNT : ∀ r ∈ rs, 256 ≤ r.1 ∧ r.1 ≤ 259) (t : Nat) : BaseH rs (hsT rs t) ∧ (hsT rs t).length ≤ 4 ∧ ∀ x ∈ keysH (hsT rs t), 256 ≤ x ∧ x ≤ 259 := by
  obtain ⟨k, H, I, _⟩ := hsT_inv (fun r hr => (hNT r hr).1) t
  have hk : ∀ x ∈ keysH (hsT rs t), 256 ≤ x ∧ x ≤ 259 := fun x hx => by
    obtain ⟨r, hr, e⟩ := I.base.heads x hx
    rw [← e]; exact hNT r hr
  exact ⟨I.base, keys_le I.base.nodup hk, hk⟩
theorem hsT_fin {rs : List Rule} (hNT : ∀ r ∈ rs, 256 ≤ r.1 ∧ r.1 ≤ 259) : ∀ r ∈ rs, (∀ s ∈ innR r, s ∈ keysH (hsT rs 4)) → r.1 ∈ keysH (hsT rs 4) ∧ hOf (hsT rs 4) r.1 ≤ 1 + maxH (hsT rs 4) (innR r) := by
  obtain ⟨k, H, I, hk⟩ := hsT_inv (fun r hr => (hNT r hr).1) 4
  obtain ⟨_, hl, _⟩ := hsT_base hNT 4
  have hkl : k = (hsT rs 4).length := by
    have := I.tle
    rcases hk with rfl | ⟨h1, _⟩ <;> omega
  intro r hr hin
  refine I.compl r hr ?_
  rw [hkl, List.take_length]
  exact hin
/-- the heights that a rule asks, of the rules whose nonterminals were all found -/
noncomputable def askH (rs : List Rule) (hs : List (Nat × Nat)) (x : Nat) : List Nat := (rs.filter fun r => decide (r.1 = x) && (innR r).all fun s => decide (s ∈ keysH hs)).map fun r => maxH hs (innR r)
theorem foldl_min_le : ∀ {l : List Nat} {d m : Nat}, m ∈ l ∨ d ≤ m → l.foldl min d ≤ m
  | [], _, _, h => by rcases h with h | h; exact nomatch h; exact h
  | a :: r, d, m, h => by
    rw [List.foldl_cons]
    apply foldl_min_le
    rcases h with h | h
    · rcases List.mem_cons.mp h with rfl | h
      · exact .inr (Nat.min_le_right _ _)
      · exact .inl h
    · exact .inr (Nat.le_trans (Nat.min_le_left _ _) h)
theorem le_foldl_min : ∀ {l : List Nat} {d m : Nat}, (∀ x ∈ l, m ≤ x) → m ≤ d → m ≤ l.foldl min d
  | [], _, _, _, h => h
  | a :: r, d, m, h, hd => by
    rw [List.foldl_cons]
    exact le_foldl_min (fun x hx => h x (List.mem_cons_of_mem _ hx)) (Nat.le_min.mpr ⟨hd, h a List.mem_cons_self⟩)
/-- each height is one more than the least that a rule of it asks -/
theorem due_law {rs : List Rule} (hNT : ∀ r ∈ rs, 256 ≤ r.1 ∧ r.1 ≤ 259) : ∀ p ∈ hsT rs 4, 1 + (askH rs (hsT rs 4) p.1).foldl min 99 = p.2 := by
  intro p hp
  obtain ⟨B, hl, _⟩ := hsT_base hNT 4
  obtain ⟨i, hi, rfl⟩ := List.getElem_of_mem hp
  obtain ⟨r, hr, h1, h2, h3⟩ := B.sound i hi
  have hidx := B.idx i hi
  have hsub : ∀ s ∈ innR r, s ∈ keysH (hsT rs 4) := fun s hs => keysH_take_sub (h2 s hs)
  have hm : maxH (hsT rs 4) (innR r) ∈ askH rs (hsT rs 4) (hsT rs 4)[i].1 := by
    refine List.mem_map.mpr ⟨r, List.mem_filter.mpr ⟨hr, ?_⟩, rfl⟩
    simp only [Bool.and_eq_true, decide_eq_true_eq, List.all_eq_true]
    exact ⟨h1, hsub⟩
  have a1 := foldl_min_le (d := 99) (.inl hm)
  have a2 : (hsT rs 4)[i].2 - 1 ≤ (askH rs (hsT rs 4) (hsT rs 4)[i].1).foldl min 99 := by
    refine le_foldl_min (fun x hx => ?_) (by omega)
    obtain ⟨r', hr', rfl⟩ := List.mem_map.mp hx
    obtain ⟨hr1, hr2⟩ := List.mem_filter.mp hr'
    simp only [Bool.and_eq_true, decide_eq_true_eq, List.all_eq_true] at hr2
    have := (hsT_fin hNT r' hr1 hr2.2).2
    rw [hr2.1, hOf_mem B.nodup (show ((hsT rs 4)[i].1, (hsT rs 4)[i].2) ∈ hsT rs 4 from List.getElem_mem hi)] at this
    omega
  omega
/-- the symbols of a choice -/
noncomputable def heldH (c : Nat) : List Nat := ((List.range 4).filter fun k => decide (c / 2 ^ k % 2 = 1)).map fun k => 256 + k
noncomputable def openH (rs : List Rule) (c : Nat) : List Nat := (rs.filter fun r => decide (r.1 ∉ heldH c) && ((innR r).filter fun s => decide (s ∉ heldH c)).isEmpty).map (·.1)
noncomputable def commonH (rs : List Rule) : List Nat := (List.range 16).foldl (fun com c => if (openH rs c).isEmpty then com.filter (fun s => decide (s ∈ heldH c)) else com) [256, 257, 258, 259]
theorem openH_nil {rs : List Rule} {c : Nat} : (openH rs c).isEmpty = true ↔ ∀ r ∈ rs, (∀ s ∈ innR r, s ∈ heldH c) → r.1 ∈ heldH c := by
  unfold openH
  rw [List.isEmpty_iff, List.map_eq_nil_iff, List.filter_eq_nil_iff]
  constructor
  · intro h r hr hin
    have := h r hr
    simp only [Bool.and_eq_true, decide_eq_true_eq, List.isEmpty_iff, List.filter_eq_nil_iff, not_and] at this
    by_cases hx : r.1 ∈ heldH c
    · exact hx
    · exact absurd (fun s hs => by simpa using hin s hs) (this hx)
  · intro h r hr
    simp only [Bool.and_eq_true, decide_eq_true_eq, List.isEmpty_iff, List.filter_eq_nil_iff, not_and]
    intro hx hin
    exact hx (h r hr fun s hs => by simpa using hin s hs)
theorem foldl_common {rs : List Rule} : ∀ (l : List Nat) (com : List Nat), l.foldl (fun com c => if (openH rs c).isEmpty then com.filter (fun s => decide (s ∈ heldH c)) else com) com = com.filter fun s => l.all fun c => !(openH rs c).isEmpty || decide (s ∈ heldH c)
  | [], com => (List.filter_eq_self.mpr fun _ _ => rfl).symm
  | c :: r, com => by
    rw [List.foldl_cons, foldl_common r]
    by_cases h : (openH rs c).isEmpty = true
    · rw [if_pos h, List.filter_filter]
      congr 1
      funext s
      simp [h, Bool.and_comm]
    · rw [if_neg h]
      congr 1
      funext s
      simp [h]
theorem choice_of (f : Nat → Bool) : ∃ c, c < 16 ∧ ∀ s, (256 ≤ s ∧ s ≤ 259) → (s ∈ heldH c ↔ f s = true) := by
  have key : ∀ b0 b1 b2 b3 : Bool, ∃ c : Fin 16, (256 ∈ heldH c.val ↔ b0 = true) ∧ (257 ∈ heldH c.val ↔ b1 = true) ∧ (258 ∈ heldH c.val ↔ b2 = true) ∧ (259 ∈ heldH c.val ↔ b3 = true) := by
    intro b0 b1 b2 b3
    refine ⟨⟨b0.toNat + 2 * b1.toNat + 4 * b2.toNat + 8 * b3.toNat, by cases b0 <;> cases b1 <;> cases b2 <;> cases b3 <;> decide⟩, ?_⟩
    cases b0 <;> cases b1 <;> cases b2 <;> cases b3 <;> decide
  obtain ⟨⟨c, hc⟩, h0, h1, h2, h3⟩ := key (f 256) (f 257) (f 258) (f 259)
  refine ⟨c, hc, fun s hs => ?_⟩
  have : s = 256 ∨ s = 257 ∨ s = 258 ∨ s = 259 := by omega
  rcases this with rfl | rfl | rfl | rfl <;> assumption
/-- those found are those in every closed set -/
theorem common_law {rs : List Rule} (hNT : ∀ r ∈ rs, 256 ≤ r.1 ∧ r.1 ≤ 259) (hin : ∀ r ∈ rs, ∀ s ∈ innR r, s ≤ 259) : commonH rs = [256, 257, 258, 259].filter fun s => decide (s ∈ keysH (hsT rs 4)) := by
  unfold commonH
  rw [foldl_common]
  apply List.filter_congr
  intro s hs
  obtain ⟨B, hl, hk⟩ := hsT_base hNT 4
  have hs' : 256 ≤ s ∧ s ≤ 259 := by simp at hs; omega
  have inn_ge : ∀ r : Rule, ∀ s ∈ innR r, 256 ≤ s := fun r s h => by simpa using (List.mem_filter.mp h).2
  apply Bool.eq_iff_iff.mpr
  simp only [List.all_eq_true, List.mem_range, Bool.or_eq_true, Bool.not_eq_true', decide_eq_true_eq]
  constructor
  · intro h
    obtain ⟨c, hc, hcc⟩ := choice_of fun s => decide (s ∈ keysH (hsT rs 4))
    have hcl : (openH rs c).isEmpty = true := openH_nil.mpr fun r hr hi => by
      rw [hcc r.1 (hNT r hr)]
      simp only [decide_eq_true_eq]
      refine (hsT_fin hNT r hr fun s' hs'' => ?_).1
      have := hi s' hs''
      rw [hcc s' ⟨inn_ge r s' hs'', hin r hr s' hs''⟩] at this
      simpa using this
    rcases h c hc with h | h
    · rw [hcl] at h; cases h
    · rw [hcc s hs'] at h
      simpa using h
  · intro h c hc
    by_cases ho : (openH rs c).isEmpty = true
    · right
      have cl := openH_nil.mp ho
      have : ∀ n i (hi : i < (hsT rs 4).length), i < n → (hsT rs 4)[i].1 ∈ heldH c := by
        intro n
        induction n with
        | zero => intro i _ h; exact absurd h (Nat.not_lt_zero i)
        | succ n ih =>
          intro i hi _
          obtain ⟨r, hr, h1, h2, _⟩ := B.sound i hi
          rw [← h1]
          refine cl r hr fun s' hs'' => ?_
          obtain ⟨p, hp, e⟩ := List.mem_map.mp (h2 s' hs'')
          obtain ⟨j, hj, ej⟩ := List.getElem_of_mem hp
          rw [List.length_take] at hj
          rw [List.getElem_take] at ej
          rw [← e, ← ej]
          exact ih j (by omega) (by omega)
      obtain ⟨p, hp, rfl⟩ := List.mem_map.mp h
      obtain ⟨i, hi, rfl⟩ := List.getElem_of_mem hp
      exact this (i + 1) i hi (Nat.lt_succ_self i)
    · left
      simpa using ho
end Mine
end
theorem Mine.flushPM : if True then True else True := by (w_top off); first | (walk1; fail) | simp
section
set_option maxRecDepth 100000
namespace Mine
theorem nodup_insH {hs : List (Nat × Nat)} (h : (keysH hs).Nodup) (x k : Nat) : (keysH (insH hs x k)).Nodup := by
  unfold insH
  split
  · exact h
  · rename_i hx
    rw [keysH_app]
    exact List.nodup_append.mpr ⟨h, by simp [keysH], fun a ha b hb => by
      have : b = x := by simpa [keysH] using hb
      rintro rfl
      exact hx (this ▸ ha)⟩
theorem nodup_fold (c : Rule → Prop) [DecidablePred c] (k : Nat) : ∀ (l : List Rule) (hs : List (Nat × Nat)), (keysH hs).Nodup → (keysH (l.foldl (fun hs r => if c r then insH hs r.1 k else hs) hs)).Nodup
  | [], _, h => h
  | r :: l, hs, h => nodup_fold c k l _ (by
    dsimp only
    split
    · exact nodup_insH h _ _
    · exact h)
theorem len_insH (hs : List (Nat × Nat)) (x k : Nat) : (insH hs x k).length ≤ hs.length + 1 := by
  unfold insH
  split
  · omega
  · simp
theorem len_fold (c : Rule → Prop) [DecidablePred c] (k : Nat) : ∀ (l : List Rule) (hs : List (Nat × Nat)), (l.foldl (fun hs r => if c r then insH hs r.1 k else hs) hs).length ≤ hs.length + l.length
  | [], _ => Nat.le_refl _
  | r :: l, hs => by
    rw [List.foldl_cons]
    refine Nat.le_trans (len_fold c k l _) ?_
    have := len_insH hs r.1 k
    split <;> simp only [List.length_cons] <;> omega
theorem fold_step (c : Rule → Prop) [DecidablePred c] (k : Nat) {rs : List Rule} {z : List (Nat × Nat)} {i : Nat} (hi : i < rs.length) :
    (rs.take (i + 1)).foldl (fun hs r => if c r then insH hs r.1 k else hs) z = if c rs[i] then insH ((rs.take i).foldl (fun hs r => if c r then insH hs r.1 k else hs) z) rs[i].1 k else (rs.take i).foldl (fun hs r => if c r then insH hs r.1 k else hs) z := by
  rw [List.take_add_one, List.getElem?_eq_getElem hi, Option.toList_some, List.foldl_append]
  rfl
theorem prefix_insH (hs : List (Nat × Nat)) (x k : Nat) : ∃ e, insH hs x k = hs ++ e := by
  unfold insH
  split
  · exact ⟨[], by simp⟩
  · exact ⟨_, rfl⟩
theorem prefix_fold (c : Rule → Prop) [DecidablePred c] (k : Nat) : ∀ (l : List Rule) (hs : List (Nat × Nat)), ∃ e, l.foldl (fun hs r => if c r then insH hs r.1 k else hs) hs = hs ++ e
  | [], hs => ⟨[], by simp⟩
  | r :: l, hs => by
    rw [List.foldl_cons]
    obtain ⟨e, h⟩ := prefix_fold c k l (if c r then insH hs r.1 k else hs)
    rw [h]
    split
    · obtain ⟨e2, h2⟩ := prefix_insH hs r.1 k
      exact ⟨e2 ++ e, by rw [h2, List.append_assoc]⟩
    · exact ⟨e, rfl⟩
/-- what is left of a body when one more symbol is struck out -/
theorem lc_count {P : List Nat} {a : Nat} (ha : 256 ≤ a) (hP : a ∉ P) (r : Rule) : lc P r = lc (P ++ [a]) r + (bodyR r).count a := by
  obtain ⟨h, x, y⟩ := r
  unfold lc innR bodyR
  simp only [List.filter_filter, List.count_cons, List.count_nil]
  have e : ∀ s : Nat, (decide (s ∉ P) && decide (256 ≤ s)) = (decide (s ∉ P ++ [a]) && decide (256 ≤ s) || s == a) := fun s => by
    by_cases hs : s = a
    · subst hs; simp [hP, ha]
    · simp [hs]
  have f : ∀ s : Nat, s = a → (decide (s ∉ P ++ [a]) && decide (256 ≤ s)) = false := fun s hs => by subst hs; simp
  by_cases hx : x = a <;> by_cases hy : y = a
  · subst hx; subst hy
    simp [ha, hP]
  · subst hx
    simp [ha, hP, List.filter_cons, hy]
  · subst hy
    simp [ha, hP, List.filter_cons, hx]
    split <;> simp
  · simp [List.filter_cons, hx, hy]
theorem lc_same {P : List Nat} {a : Nat} {r : Rule} (h : a ∉ bodyR r) : lc (P ++ [a]) r = lc P r := by
  obtain ⟨h', x, y⟩ := r
  have hx : ¬ x = a := fun q => h (by simp [bodyR, q])
  have hy : ¬ y = a := fun q => h (by simp [bodyR, q])
  unfold lc
  congr 1
  apply List.filter_congr
  intro s hs
  have hs' : s = x ∨ s = y := by
    have := (List.mem_filter.mp hs).1
    simpa [bodyR] using this
  have : ¬ s = a := by rcases hs' with rfl | rfl <;> assumption
  simp [this]
theorem hsT_succ {rs : List Rule} {t a h : Nat} (e : (hsT rs t)[t]? = some (a, h)) : hsT rs (t + 1) = popH rs (keysH ((hsT rs t).take (t + 1))) a h (hsT rs t) := by
  show (match (hsT rs t)[t]? with | some (a, h) => popH rs (keysH ((hsT rs t).take (t + 1))) a h (hsT rs t) | none => hsT rs t) = _
  rw [e]
theorem hsT_stop {rs : List Rule} {t : Nat} (e : (hsT rs t)[t]? = none) : hsT rs (t + 1) = hsT rs t := by
  show (match (hsT rs t)[t]? with | some (a, h) => popH rs (keysH ((hsT rs t).take (t + 1))) a h (hsT rs t) | none => hsT rs t) = _
  rw [e]
theorem hsT_prefix {rs : List Rule} (t : Nat) : ∃ e, hsT rs (t + 1) = hsT rs t ++ e := by
  cases h : (hsT rs t)[t]? with
  | none => exact ⟨[], by rw [hsT_stop h]; simp⟩
  | some p =>
    obtain ⟨a, k⟩ := p
    rw [hsT_succ h]
    exact prefix_fold _ _ _ _
/-- where the line is empty, all turns give the same -/
theorem hsT_stay {rs : List Rule} {t : Nat} (e : (hsT rs t).length ≤ t) : ∀ k, hsT rs (t + k) = hsT rs t
  | 0 => rfl
  | k + 1 => by
    have ih := hsT_stay e k
    have : (hsT rs (t + k))[t + k]? = none := List.getElem?_eq_none (by rw [ih]; omega)
    rw [← Nat.add_assoc, hsT_stop this, ih]
theorem keysH_take_succ {hs : List (Nat × Nat)} {t a h : Nat} (e : hs[t]? = some (a, h)) : keysH (hs.take (t + 1)) = keysH (hs.take t) ++ [a] := by
  rw [List.take_add_one, e, keysH_app]
  rfl
theorem not_in_take {hs : List (Nat × Nat)} {t a h : Nat} (hn : (keysH hs).Nodup) (e : hs[t]? = some (a, h)) : a ∉ keysH (hs.take t) := by
  have h1 := keysH_take_succ e
  have : (keysH (hs.take (t + 1))).Nodup := by
    have : keysH (hs.take (t + 1)) = (keysH hs).take (t + 1) := List.map_take ..
    rw [this]
    exact hn.sublist (List.take_sublist _ _)
  rw [h1] at this
  have := (List.nodup_append.mp this).2.2
  intro q
  exact this a q a (by simp) rfl
end Mine
end
theorem Mine.flushPN : if True then True else True := by (w_top off); first | (walk1; fail) | simp
section
open PySem PySem.W PySem.Calls PyProof.Rows PyProof.Rows.LCg
namespace Mine
local macro_rules | `(tactic| k_room) => `(tactic| first | ktr_room | (dsimp only [Around.deeper, Around.mark]; omega))
section
local macro_rules | `(tactic| k_all) => `(tactic| first | assumption | exact Bnd.ne (by assumption) (by omega))
section
open PySem PySem.W PySem.Calls PyProof.Rows
set_option maxRecDepth 100000
set_option maxHeartbeats 8000000
section
theorem fillC1 : rw' = rw' ∧ K2 = K2 := by
  k_fill
  exact ⟨rfl, rfl⟩
local macro_rules | `(tactic| walk_at "setAttr ref") => `(tactic| (k_here; k_dflt (refine' fn_set ?k1 ?k2 ?k3 ?_; (case k1 | k2 => k_asm); (case k3 => k_updF)); intro dx' h' tk' F' N' l1; (try dsimp only at N'); (try k_lt l1); (try k_sweep)))
theorem tab119 {h₀ h : Heap} {L P : Addr} {ps : Array Value} {news : List (Addr × Obj)} (N : News h₀ L h news) (hm : (P, tabObj ps) ∈ news) : ∃ ps, News h₀ L h [(P, tabObj ps)] :=
  ⟨ps, fun p hp => by rw [List.mem_singleton.mp hp]; exact N _ hm⟩
theorem c_lexer {w : World} {p : Program} {loose : List Str} {mean : ExcName → Option Value} {mg mb : Str → Option Value} {outer : List Env} {A₀ : Around} {base h₀ : Heap} {L : Addr} {m : Str → Option Value} {news : List (Addr × Obj)} {s : Shared}
  {hdl : Option Value} {dp un : Nat} {gd : Option (List Code)} {cn : Str} {nm : List (Str × NameKind)} {mo : List (Str × Const)} {a : Addr} {ccd : Value} {cl : List (Str × Addr)} {Q E : Value → Shared → Prop}
  (cx : Cx w p loose mean mg mb outer A₀ base h₀ L m s.heap ((119, tabObj #[]) :: news)) (hd : dp + 12 < recursionLimit) (hu : un + 60 < cLine)
  (hn : ∀ p ∈ news, p.1 ≠ 119)
  (x : Str) (t : Tok) (hx : x.length < 1048576)
  (hQ : ∀ C t1 tp h' tk' t9, C.rfd.code = .ref C.c2 → C.rfd.closure = [(Str.ofString "text", C.ct), (Str.ofString "at", C.ca)] → C.oca.data = .cell (some (.ref C.al)) → C.oct.data = .cell (some (.str x t9)) → ReadSpec w C x → LexO C news → (∀ p ∈ news, @LT.lt Nat _ p.1 C.ca ∧ @LT.lt Nat _ p.1 C.ct) → Fr h₀ L h' m → News h₀ L h' (lexL w C ⟨1, t1, [], 0, 0, tp, 0⟩ news) → (∃ ps, News h₀ L h' [(119, tabObj ps)]) → Q (.ref C.x) { s with heap := h', toks := tk' }) :
  wpAny (model pr w) (top hdl dp un gd cn nm mo L a ccd cl outer) (call (.ref 124) [.str x t]) Q E s := by
  first | (refine x0_6 cx ?_; (try clear cx); intro B F X N T C) | (refine x1_5 cx ?_; (try clear cx); intro B F X N T C) | (refine x2_4 cx ?_; (try clear cx); intro B F X N T C) | (refine x3_3 cx ?_; (try clear cx); intro B F X N T C) | (refine x4_2 cx ?_; (try clear cx); intro B F X N T C) | (refine x5_1 cx ?_; (try clear cx); intro B F X N T C) | obtain ⟨B, F, X, N, T, C⟩ := cx
  refine wpAny_call ?_
  k_dflt k_enter
  refine nameE fun KE hKE => ?_
  have hPE := passE hKE
  try rw [← hKE]
  clear hKE
  rename _ ∧ AllLt _ news => lN
  have hB := Bnd.of lN.2
  k_steps
  rename Fr h₀ L _ m => kF
  rename News h₀ L _ ((_, _) :: (_, _) :: (_, _) :: (_, _) :: (_, _) :: _) => kN
  rename _ = Data.cell (some (Value.ref _)) => hcell
  refine' hQ ⟨_, _, _, _, _, _, _, _, _, _, _, _, _, _, _, _, _, _, _, _, _⟩ _ _ _ _ _ ?e1 ?e2 ?e3 ?e4 ?sp ?o ?bd kF (cb_drop kN (mem10 ?m1 ?m2 ?m3 ?m4 ?m5 ?m6 ?m7 ?m8 ?m9 ?m10 ?m11)) ?tb
  case tb => exact tab119 kN (by k_mem)
  case m1 => k_mem
  case m2 => k_mem
  case m3 => k_mem
  case m4 => k_mem
  case m5 => k_mem
  case m6 => k_mem
  case e1 => exact rfl
  case e2 => exact rfl
  case e3 => exact hcell
  case e4 => assumption
  case m7 => k_mem
  case m8 => k_mem
  case m9 => k_mem
  case m10 => k_mem
  case m11 => (intro p hp; repeat (first | exact hp | refine List.Mem.tail _ ?_))
  case bd =>
    intro p hp
    have := hB p hp
    dsimp only
    exact ⟨Nat.lt_of_lt_of_le this (by omega), Nat.lt_of_lt_of_le this (by omega)⟩
  case o =>
    refine ⟨by dsimp only; omega, by dsimp only; omega, by dsimp only; omega, by dsimp only; omega, by dsimp only; omega, by dsimp only; omega, by dsimp only; omega, by dsimp only; omega, by dsimp only; omega, ?_, ?_, ?_⟩
    all_goals exact Bnd.ne hB (by dsimp only; omega)
  case sp =>
    intro p loose mean mg mb outer A₀ base h₀ L m news s hdl dp un gd cn nm mo a ccd cl Q E S t cx O hd hu hp hQ
    first | (refine x0_6 cx ?_; (try clear cx); intro B F X N T C) | (refine x1_5 cx ?_; (try clear cx); intro B F X N T C) | (refine x2_4 cx ?_; (try clear cx); intro B F X N T C) | (refine x3_3 cx ?_; (try clear cx); intro B F X N T C) | (refine x4_2 cx ?_; (try clear cx); intro B F X N T C) | (refine x5_1 cx ?_; (try clear cx); intro B F X N T C) | obtain ⟨B, F, X, N, T, C⟩ := cx
    first | (refine x0_12 O ?_; (try clear O); intro o1 o2 o3 o4 o5 o6 o7 o8 o9 nd nal nl) | (refine x1_11 O ?_; (try clear O); intro o1 o2 o3 o4 o5 o6 o7 o8 o9 nd nal nl) | (refine x2_10 O ?_; (try clear O); intro o1 o2 o3 o4 o5 o6 o7 o8 o9 nd nal nl) | (refine x3_9 O ?_; (try clear O); intro o1 o2 o3 o4 o5 o6 o7 o8 o9 nd nal nl) | (refine x4_8 O ?_; (try clear O); intro o1 o2 o3 o4 o5 o6 o7 o8 o9 nd nal nl) | (refine x5_7 O ?_; (try clear O); intro o1 o2 o3 o4 o5 o6 o7 o8 o9 nd nal nl) | (refine x6_6 O ?_; (try clear O); intro o1 o2 o3 o4 o5 o6 o7 o8 o9 nd nal nl) | (refine x7_5 O ?_; (try clear O); intro o1 o2 o3 o4 o5 o6 o7 o8 o9 nd nal nl) | (refine x8_4 O ?_; (try clear O); intro o1 o2 o3 o4 o5 o6 o7 o8 o9 nd nal nl) | (refine x9_3 O ?_; (try clear O); intro o1 o2 o3 o4 o5 o6 o7 o8 o9 nd nal nl) | (refine x10_2 O ?_; (try clear O); intro o1 o2 o3 o4 o5 o6 o7 o8 o9 nd nal nl) | obtain ⟨o1, o2, o3, o4, o5, o6, o7, o8, o9, nd, nal, nl⟩ := O
    dsimp only [lexL] at N o1 o2 o3 o4 o5 o6 o7 o8 o9 nd nal nl hQ ⊢
    refine wpAny_call ?_
    k_dflt kn_enter
    k_steps
    refine' strQ ?_ (hQ _ _ _ _ _ (by k_asm) (by k_asm))
    exact slice_chr1 _ _
end
end
theorem flushC1 : if True then True else True := by (w_top off); first | (walk1; fail) | simp
section
local macro_rules | `(tactic| walk_at "getMethod ref") => `(tactic| (k_here; k_dflt (refine' fn_getmK ?k1 ?k2 ?k3 ?_; (case k1 => k_asm); (case k2 | k3 => k_mem))))
section
open PySem PySem.W PySem.Calls PyProof.Rows
set_option maxRecDepth 100000
set_option maxHeartbeats 8000000
section
theorem fill : rw' = rw' ∧ K2 = K2 := by
  k_fill
  exact ⟨rfl, rfl⟩
theorem chr1_len (T : Str) (i : Nat) : (chr1 T i).length ≤ 1 := by unfold chr1 Str.length; simp; omega
theorem c_rc {w : World} {p : Program} {loose : List Str} {mean : ExcName → Option Value} {mg mb : Str → Option Value} {outer : List Env} {A₀ : Around} {base h₀ : Heap} {L : Addr} {m : Str → Option Value} {news : List (Addr × Obj)} {s : Shared}
  {hdl : Option Value} {dp un : Nat} {gd : Option (List Code)} {cn : Str} {nm : List (Str × NameKind)} {mo : List (Str × Const)} {a : Addr} {ccd : Value} {cl : List (Str × Addr)} {R : Result → Shared → Prop}
  {C : LexC} {S : LexS} {T : Str} (hR : ReadSpec w C T) (O : LexO C news)
  (cx : Cx w p loose mean mg mb outer A₀ base h₀ L m s.heap (lexL w C S news)) (hd : dp + 12 < recursionLimit) (hu : un + 60 < cLine)
  (hp : S.pos < 1048576) (hl : 0 ≤ S.ln ∧ S.ln ≤ S.pos + 1)
  (hQ : ∀ t' t1' tp' e' h' tk' (ln' : Int), 0 ≤ ln' ∧ ln' ≤ S.pos + 2 → (chr1 T S.pos).length ≤ 1 → Fr h₀ L h' m → News h₀ L h' (lexL w C { S with pos := S.pos + 1, tp := tp', e2 := e', ln := ln', t1 := t1' } news) → R (.ok (.ret (.str (chr1 T S.pos) t'))) { s with heap := h', toks := tk' }) :
  codeAny (model pr w) (top hdl dp un gd cn nm mo L a ccd cl outer) (.call (.ref 35) ⟨[.ref C.x], []⟩) R s := by
  first | (refine x0_6 cx ?_; (try clear cx); intro B F X N T C0) | (refine x1_5 cx ?_; (try clear cx); intro B F X N T C0) | (refine x2_4 cx ?_; (try clear cx); intro B F X N T C0) | (refine x3_3 cx ?_; (try clear cx); intro B F X N T C0) | (refine x4_2 cx ?_; (try clear cx); intro B F X N T C0) | (refine x5_1 cx ?_; (try clear cx); intro B F X N T C0) | obtain ⟨B, F, X, N, T, C0⟩ := cx
  first | (refine x0_12 (id O) ?_; intro o1 o2 o3 o4 o5 o6 o7 o8 o9 nd nal nl) | (refine x1_11 (id O) ?_; intro o1 o2 o3 o4 o5 o6 o7 o8 o9 nd nal nl) | (refine x2_10 (id O) ?_; intro o1 o2 o3 o4 o5 o6 o7 o8 o9 nd nal nl) | (refine x3_9 (id O) ?_; intro o1 o2 o3 o4 o5 o6 o7 o8 o9 nd nal nl) | (refine x4_8 (id O) ?_; intro o1 o2 o3 o4 o5 o6 o7 o8 o9 nd nal nl) | (refine x5_7 (id O) ?_; intro o1 o2 o3 o4 o5 o6 o7 o8 o9 nd nal nl) | (refine x6_6 (id O) ?_; intro o1 o2 o3 o4 o5 o6 o7 o8 o9 nd nal nl) | (refine x7_5 (id O) ?_; intro o1 o2 o3 o4 o5 o6 o7 o8 o9 nd nal nl) | (refine x8_4 (id O) ?_; intro o1 o2 o3 o4 o5 o6 o7 o8 o9 nd nal nl) | (refine x9_3 (id O) ?_; intro o1 o2 o3 o4 o5 o6 o7 o8 o9 nd nal nl) | (refine x10_2 (id O) ?_; intro o1 o2 o3 o4 o5 o6 o7 o8 o9 nd nal nl) | obtain ⟨o1, o2, o3, o4, o5, o6, o7, o8, o9, nd, nal, nl⟩ := id O
  dsimp only [lexL] at N hQ
  k_dflt k_enter
  k_steps
  refine' hR ⟨?b, ?f, ?x, ?n, ?t, ?c⟩ O ?d ?u hp ?_
  case b => k_asm
  case f => k_asm
  case x => k_asm
  case n => k_asm
  case t => k_asm
  case c => k_asm
  case d => ktr_room
  case u => ktr_units
  intro t1 tp1 e1 h1 tk1 F1 N1
  dsimp only [lexL] at N1
  k_steps
  all_goals (refine' hQ _ _ _ _ _ _ _ ?_ (chr1_len _ _) (by k_asm) (by k_asm); (try dsimp only); omega)
theorem fn35 (P : Params) : ∃ o fd, (Mine.K2 P).lookup 35 = some o ∧ o.data = .func fd := ⟨_, _, rfl, rfl⟩
/-- the next sign of the iterator -/
theorem LexO.drop2 {C : LexC} {a b : Addr × Obj} {news : List (Addr × Obj)} (O : LexO C (a :: b :: news)) : LexO C news :=
  ⟨O.o1, O.o2, O.o3, O.o4, O.o5, O.o6, O.o7, O.o8, O.o9, fun p hp => O.nd p (List.mem_cons_of_mem _ (List.mem_cons_of_mem _ hp)), fun p hp => O.nal p (List.mem_cons_of_mem _ (List.mem_cons_of_mem _ hp)), fun p hp => O.nl p (List.mem_cons_of_mem _ (List.mem_cons_of_mem _ hp))⟩
theorem lexL_wk {w : World} {C : LexC} {S : LexS} {a b p : Addr × Obj} {news : List (Addr × Obj)} (hp : p ∈ lexL w C S news) : p ∈ lexL w C S (a :: b :: news) := by
  have hp' : p ∈ lexL w C S [] ++ news := hp
  show p ∈ lexL w C S [] ++ (a :: b :: news)
  exact List.mem_append.mpr ((List.mem_append.mp hp').imp id fun h => List.mem_cons_of_mem _ (List.mem_cons_of_mem _ h))
theorem lexL_m0 {w : World} {C : LexC} {S : LexS} {a : Addr × Obj} {news : List (Addr × Obj)} : a ∈ lexL w C S (a :: news) := List.mem_append_right (lexL w C S []) List.mem_cons_self
theorem lexL_m1 {w : World} {C : LexC} {S : LexS} {a b : Addr × Obj} {news : List (Addr × Obj)} : b ∈ lexL w C S (a :: b :: news) := List.mem_append_right (lexL w C S []) (List.mem_cons_of_mem _ List.mem_cons_self)
theorem lexL_ne {w : World} {C : LexC} {S : LexS} {I : Addr} {news : List (Addr × Obj)} (O : LexO C news) (h : @LT.lt Nat _ C.l I) (hn : ∀ p ∈ news, p.1 ≠ I) : ∀ p ∈ lexL w C S news, p.1 ≠ I := by
  have f9 : @LT.lt Nat _ C.x I := Nat.lt_trans O.o9 h
  have f8 : @LT.lt Nat _ C.d I := Nat.lt_trans O.o8 f9
  have f7 : @LT.lt Nat _ C.dx I := Nat.lt_trans O.o7 f8
  have f6 : @LT.lt Nat _ C.f I := Nat.lt_trans O.o6 f7
  have f5 : @LT.lt Nat _ C.r I := Nat.lt_trans O.o5 f6
  have f4 : @LT.lt Nat _ C.c2 I := Nat.lt_trans O.o4 f5
  have f3 : @LT.lt Nat _ C.al I := Nat.lt_trans O.o3 f4
  have f2 : @LT.lt Nat _ C.ct I := Nat.lt_trans O.o2 f3
  have f1 : @LT.lt Nat _ C.ca I := Nat.lt_trans O.o1 f3
  exact List.forall_mem_cons.mpr ⟨Nat.ne_of_lt h, List.forall_mem_cons.mpr ⟨Nat.ne_of_lt f9, List.forall_mem_cons.mpr ⟨Nat.ne_of_lt f8, List.forall_mem_cons.mpr ⟨Nat.ne_of_lt f7, List.forall_mem_cons.mpr ⟨Nat.ne_of_lt f6, List.forall_mem_cons.mpr ⟨Nat.ne_of_lt f5, List.forall_mem_cons.mpr ⟨Nat.ne_of_lt f4, List.forall_mem_cons.mpr ⟨Nat.ne_of_lt f3, List.forall_mem_cons.mpr ⟨Nat.ne_of_lt f1, List.forall_mem_cons.mpr ⟨Nat.ne_of_lt f2, hn⟩⟩⟩⟩⟩⟩⟩⟩⟩⟩
theorem lex_next {w : World} {p : Program} {loose : List Str} {mean : ExcName → Option Value} {mg mb : Str → Option Value} {outer : List Env} {A₀ : Around} {base h₀ : Heap} {L : Addr} {m : Str → Option Value} {news : List (Addr × Obj)} {s : Shared}
  {dp un : Nat} {gd : Option (List Code)} {cn : Str} {nm : List (Str × NameKind)} {mo : List (Str × Const)} {a : Addr} {ccd : Value} {cl : List (Str × Addr)} {Q : Option Value → Shared → Prop} {E : Value → Shared → Prop}
  {C : LexC} {S : LexS} {T : Str} {it q : Addr} {te : Tok} (hR : ReadSpec w C T) (O : LexO C ((it, ciObj q te) :: (q, methodObj (.ref 35) (.ref C.x)) :: news))
  (cx : Cx w p loose mean mg mb outer A₀ base h₀ L m s.heap (lexL w C S ((it, ciObj q te) :: (q, methodObj (.ref 35) (.ref C.x)) :: news))) (hd : dp + 12 < recursionLimit) (hu : un + 61 < cLine)
  (hp : S.pos < 1048576) (hl : 0 ≤ S.ln ∧ S.ln ≤ S.pos + 1) (hit : @LT.lt Nat _ C.l it) (hnn : ∀ p ∈ news, p.1 ≠ it)
  (hs : Str.ofString "" ≠ chr1 T S.pos → ∀ t' t1' tp' e' h' tk' (ln' : Int), 0 ≤ ln' ∧ ln' ≤ S.pos + 2 → Fr h₀ L h' m → News h₀ L h' (lexL w C { S with pos := S.pos + 1, tp := tp', e2 := e', ln := ln', t1 := t1' } ((it, ciObj q te) :: (q, methodObj (.ref 35) (.ref C.x)) :: news)) → Q (some (.str (chr1 T S.pos) t')) { s with heap := h', toks := tk' })
  (hn : Str.ofString "" = chr1 T S.pos → ∀ t1' tp' e' h' tk' (ln' : Int), 0 ≤ ln' ∧ ln' ≤ S.pos + 2 → Fr h₀ L h' m → News h₀ L h' (lexL w C { S with pos := S.pos + 1, tp := tp', e2 := e', ln := ln', t1 := t1' } news) → Q none { s with heap := h', toks := tk' }) :
  wpAny (model pr w) (top none dp un gd cn nm mo L a ccd cl outer) (pyNext (.ref it)) Q E s := by
  have N := cx.N
  have hI := (N (it, ciObj q te) lexL_m0).1
  have hq := (N (q, methodObj (.ref 35) (.ref C.x)) lexL_m1).1
  have hK : ∀ h : Heap, (∀ b o, h₀.get? b = some o → h.get? b = some o) → ∃ o fd, h.get? 35 = some o ∧ o.data = .func fd := fun h k => by
    first | (refine x0_4 (fn35 w.params) ?_; intro o fd e1 e2) | (refine x1_3 (fn35 w.params) ?_; intro o fd e1 e2) | (refine x2_2 (fn35 w.params) ?_; intro o fd e1 e2) | (refine x3_1 (fn35 w.params) ?_; intro o fd e1 e2) | obtain ⟨o, fd, e1, e2⟩ := fn35 w.params
    exact ⟨o, fd, k _ _ (cx.X _ _ e1), e2⟩
  refine ci_next rfl hI hq (hK _ cx.F.keep) ?_
  refine c_rc (un := un + 1) hR O cx hd (by omega) hp hl fun t' t1' tp' e' h' tk' ln' hb _ F' N' => ⟨_, t', rfl, ?_, ?_, hK _ F'.keep, fun hc => hs hc t' t1' tp' e' h' tk' ln' hb F' N', fun hc h'' k => ?_⟩
  · exact (N' (it, ciObj q te) lexL_m0).1
  · exact (N' (q, methodObj (.ref 35) (.ref C.x)) lexL_m1).1
  · have hLn : L ≠ it := fun e => (N (it, ciObj q te) lexL_m0).2.1 e.symm
    have hbn : h₀.get? it = none := (N (it, ciObj q te) lexL_m0).2.2
    have hx : Heap.ExtBut it h' h'' := fun b o hb e => k b o hb e
    refine hn hc t1' tp' e' h'' tk' ln' hb ⟨F'.ns.extBut hx hLn, fun b o e => hx b o (fun z => by rw [z, hbn] at e; cases e) (F'.keep b o e), F'.above⟩ fun p hp => ?_
    have hpi : p.1 ≠ it := lexL_ne (O.drop2) hit hnn p hp
    have hm : p ∈ lexL w C { S with pos := S.pos + 1, tp := tp', e2 := e', ln := ln', t1 := t1' } ((it, ciObj q te) :: (q, methodObj (.ref 35) (.ref C.x)) :: news) := lexL_wk hp
    exact ⟨hx _ _ hpi (N' p hm).1, (N' p hm).2⟩
end
end
theorem flushC2 : if True then True else True := by (w_top off); first | (walk1; fail) | simp
section
open PySem PySem.W PySem.Calls PyProof.Rows
set_option maxRecDepth 100000
set_option maxHeartbeats 8000000
section
/-- the locals of get_token -/
noncomputable abbrev lm (slf fit tok ch : Option Value) : Str → Option Value := fun y => if y = Str.ofString "ch" then ch else if y = Str.ofString "token" then tok else if y = Str.ofString "fiter" then fit else if y = Str.ofString "self" then slf else none
theorem frExt {h₀ h : Heap} {L : Addr} {m m' : Str → Option Value} (F : Fr h₀ L h m) (e : ∀ y, m y = m' y) : Fr h₀ L h m' := (funext e : m = m') ▸ F
noncomputable abbrev acS (ac : List Nat) : Str := ⟨ac.toArray⟩
/-- where the loop stands -/
structure Stand (w : World) (C : LexC) (it q : Addr) (te : Tok) (news : List (Addr × Obj)) (g : Heap) (L : Addr) (s₀ : Shared) (pos : Nat) (ac : List Nat) (s : Shared) : Prop where
  st : ∃ h tk, ∃ S : LexS, ∃ m tt cv, s = { s₀ with heap := h, toks := tk } ∧ S.pos = pos ∧ S.items = [] ∧ (0 ≤ S.ln ∧ S.ln ≤ S.pos + 1) ∧ Fr g L h m ∧ (∀ y, m y = lm (some (.ref C.x)) (some (.ref it)) (some (.str (acS ac) tt)) cv y) ∧
    News g L h (lexL w C S ((it, ciObj q te) :: (q, methodObj (.ref 35) (.ref C.x)) :: news))
noncomputable def LoopE (I : Nat → Nat → List Nat → Prop) (n : Nat) (w : World) (C : LexC) (it q : Addr) (te : Tok) (news : List (Addr × Obj)) (g : Heap) (L : Addr) (s₀ : Shared) (s : Shared) : Prop :=
  ∃ k pos ac, k < n ∧ I k pos ac ∧ Stand w C it q te news g L s₀ pos ac s
theorem Stand.mk' {w : World} {C : LexC} {it q : Addr} {te : Tok} {news : List (Addr × Obj)} {g : Heap} {L : Addr} {s₀ : Shared} {pos : Nat} {ac : List Nat} {s : Shared} {h : Heap} {tk : Nat} {S : LexS} {m : Str → Option Value} {tt : Tok} {cv : Option Value}
    (hs : s = { s₀ with heap := h, toks := tk }) (hS : S.pos = pos) (hI : S.items = []) (hl : 0 ≤ S.ln ∧ S.ln ≤ S.pos + 1) (F : Fr g L h m) (hm : ∀ y, m y = lm (some (.ref C.x)) (some (.ref it)) (some (.str (acS ac) tt)) cv y)
    (N : News g L h (lexL w C S ((it, ciObj q te) :: (q, methodObj (.ref 35) (.ref C.x)) :: news))) : Stand w C it q te news g L s₀ pos ac s := ⟨⟨h, tk, S, m, tt, cv, hs, hS, hI, hl, F, hm, N⟩⟩
theorem LoopE.mk' {I : Nat → Nat → List Nat → Prop} {n : Nat} {w : World} {C : LexC} {it q : Addr} {te : Tok} {news : List (Addr × Obj)} {g : Heap} {L : Addr} {s₀ s : Shared} (k pos : Nat) (ac : List Nat) (h1 : k < n) (h2 : I k pos ac) (h3 : Stand w C it q te news g L s₀ pos ac s) : LoopE I n w C it q te news g L s₀ s := ⟨k, pos, ac, h1, h2, h3⟩
theorem lex_for {w : World} {p : Program} {loose : List Str} {mean : ExcName → Option Value} {mg mb : Str → Option Value} {outer : List Env} {A₀ : Around} {base g : Heap} {L : Addr} {news : List (Addr × Obj)} {s₀ s : Shared}
  {dp un : Nat} {gd : Option (List Code)} {cn : Str} {nm : List (Str × NameKind)} {mo : List (Str × Const)} {a : Addr} {ccd : Value} {cl : List (Str × Addr)} {Q : Flow → Shared → Prop} {E : Value → Shared → Prop}
  {C : LexC} {T : Str} {it q : Addr} {te : Tok} (hR : ReadSpec w C T) (O : LexO C ((it, ciObj q te) :: (q, methodObj (.ref 35) (.ref C.x)) :: news))
  (B : Below A₀ base outer g) (X : (Mine.K2 w.params).In g) (TT : Top p loose mean mg mb g) (C0 : CodeHd base 123 119) (hd : dp + 12 < recursionLimit) (hu : un + 61 < cLine)
  (hit : @LT.lt Nat _ C.l it) (hnn : ∀ p ∈ news, p.1 ≠ it)
  {px py pp : Pos} {body : List Stmt} (I : Nat → Nat → List Nat → Prop) {n₀ pos₀ : Nat} {ac₀ : List Nat} (h0 : I n₀ pos₀ ac₀) (hb : ∀ n pos ac, I n pos ac → pos < 1048000)
  (hst : Stand w C it q te news g L s₀ pos₀ ac₀ s)
  (turn : ∀ n pos ac, I n pos ac → Str.ofString "" ≠ chr1 T pos → ∀ h tk (S : LexS) m tt t', S.pos = pos + 1 → S.items = [] → (0 ≤ S.ln ∧ S.ln ≤ S.pos + 1) →
    Fr g L h m → (∀ y, m y = lm (some (.ref C.x)) (some (.ref it)) (some (.str (acS ac) tt)) (some (.str (chr1 T pos) t')) y) →
    News g L h (lexL w C S ((it, ciObj q te) :: (q, methodObj (.ref 35) (.ref C.x)) :: news)) →
    wpAny (model pr w) (top none dp un gd cn nm mo L a ccd cl outer) (execs body (envX cn (sc nm mo) L a ccd cl)) (fun f s₃ => match f with
      | .next | .cont => LoopE I n w C it q te news g L s₀ s₃
      | .brk => Q .next s₃
      | .ret r => Q (.ret r) s₃) E { s₀ with heap := h, toks := tk })
  (done : ∀ n pos ac, I n pos ac → Str.ofString "" = chr1 T pos → ∀ h tk (S : LexS) m tt cv, S.pos = pos + 1 → S.items = [] → (0 ≤ S.ln ∧ S.ln ≤ S.pos + 1) →
    Fr g L h m → (∀ y, m y = lm (some (.ref C.x)) (some (.ref it)) (some (.str (acS ac) tt)) cv y) → News g L h (lexL w C S news) → Q .next { s₀ with heap := h, toks := tk })
  (hE : PassesOwn (model pr w) (top none dp un gd cn nm mo L a ccd cl outer) (envX cn (sc nm mo) L a ccd cl) E)
  (hx : (envX cn (sc nm mo) L a ccd cl).kindOf (Str.ofString "ch") = some .local) (hy : (envX cn (sc nm mo) L a ccd cl).kindOf (Str.ofString "fiter") = some .local) :
  wpAny (model pr w) (top none dp un gd cn nm mo L a ccd cl outer) (exec (.For (.Name (Str.ofString "ch") px) (.Name (Str.ofString "fiter") py) body [] pp) (envX cn (sc nm mo) L a ccd cl)) Q E s := by
  first | (refine x0_13 hst.st ?_; intro h tk S m tt cv hq1 hS hI hl F hm N) | (refine x1_12 hst.st ?_; intro h tk S m tt cv hq1 hS hI hl F hm N) | (refine x2_11 hst.st ?_; intro h tk S m tt cv hq1 hS hI hl F hm N) | (refine x3_10 hst.st ?_; intro h tk S m tt cv hq1 hS hI hl F hm N) | (refine x4_9 hst.st ?_; intro h tk S m tt cv hq1 hS hI hl F hm N) | (refine x5_8 hst.st ?_; intro h tk S m tt cv hq1 hS hI hl F hm N) | (refine x6_7 hst.st ?_; intro h tk S m tt cv hq1 hS hI hl F hm N) | (refine x7_6 hst.st ?_; intro h tk S m tt cv hq1 hS hI hl F hm N) | (refine x8_5 hst.st ?_; intro h tk S m tt cv hq1 hS hI hl F hm N) | (refine x9_4 hst.st ?_; intro h tk S m tt cv hq1 hS hI hl F hm N) | (refine x10_3 hst.st ?_; intro h tk S m tt cv hq1 hS hI hl F hm N) | obtain ⟨h, tk, S, m, tt, cv, hq1, hS, hI, hl, F, hm, N⟩ := hst.st
  obtain rfl := hq1
  refine wpAny_For (nameX_L F (by rw [hm]; rfl) (ci_iter (N (it, ciObj q te) lexL_m0).1 ?_) rfl hy) (by intro _; rfl)
  refine codeAny_forLoop (R := fun r s' => match r with | .ok f => Q f s' | .error e => cameBackBy (model pr w) (top none dp un gd cn nm mo L a ccd cl outer) (envX cn (sc nm mo) L a ccd cl) E e s') (fun k s' => ∃ pos ac, I k pos ac ∧ Stand w C it q te news g L s₀ pos ac s') ?_ n₀ ⟨_, _, h0, hst⟩
  intro n s' hq2
  first | (refine x0_4 hq2 ?_; intro pos ac hi hst') | (refine x1_3 hq2 ?_; intro pos ac hi hst') | (refine x2_2 hq2 ?_; intro pos ac hi hst') | (refine x3_1 hq2 ?_; intro pos ac hi hst') | obtain ⟨pos, ac, hi, hst'⟩ := hq2
  try clear hq2
  first | (refine x0_13 hst'.st ?_; intro h tk S m tt cv hq3 hq4 hI hl F hm N) | (refine x1_12 hst'.st ?_; intro h tk S m tt cv hq3 hq4 hI hl F hm N) | (refine x2_11 hst'.st ?_; intro h tk S m tt cv hq3 hq4 hI hl F hm N) | (refine x3_10 hst'.st ?_; intro h tk S m tt cv hq3 hq4 hI hl F hm N) | (refine x4_9 hst'.st ?_; intro h tk S m tt cv hq3 hq4 hI hl F hm N) | (refine x5_8 hst'.st ?_; intro h tk S m tt cv hq3 hq4 hI hl F hm N) | (refine x6_7 hst'.st ?_; intro h tk S m tt cv hq3 hq4 hI hl F hm N) | (refine x7_6 hst'.st ?_; intro h tk S m tt cv hq3 hq4 hI hl F hm N) | (refine x8_5 hst'.st ?_; intro h tk S m tt cv hq3 hq4 hI hl F hm N) | (refine x9_4 hst'.st ?_; intro h tk S m tt cv hq3 hq4 hI hl F hm N) | (refine x10_3 hst'.st ?_; intro h tk S m tt cv hq3 hq4 hI hl F hm N) | obtain ⟨h, tk, S, m, tt, cv, hq3, hq4, hI, hl, F, hm, N⟩ := hst'.st
  obtain rfl := hq3
  obtain rfl := hq4
  have hpos := hb _ _ _ hi
  refine wpAny_passesOwn hE (wpAny_mono (E := E) (lex_next (s := { s₀ with heap := h, toks := tk }) hR O ⟨B, F, X, N, TT, C0⟩ hd hu (by omega) hl hit hnn (Q := fun r s₁ => match r with
    | none => Q .next s₁
    | some v => wpAny (model pr w) (top none dp un gd cn nm mo L a ccd cl outer) (storeName (envX cn (sc nm mo) L a ccd cl) (Str.ofString "ch") v) (fun _ s₂ => wpAny (model pr w) (top none dp un gd cn nm mo L a ccd cl outer) (execs body (envX cn (sc nm mo) L a ccd cl)) (fun f s₃ => match f with
      | .next | .cont => LoopE I n w C it q te news g L s₀ s₃
      | .brk => Q .next s₃
      | .ret r => Q (.ret r) s₃) E s₂) E s₁) ?_ ?_) (fun r s₁ hr => ?_) fun _ _ z => z)
  · intro hc t' t1' tp' e' h' tk' ln' hb' F' N'
    refine storeX_L F' N' (fun h'' F'' N'' => ?_) rfl hx
    refine turn n S.pos ac hi hc h'' _ { S with pos := S.pos + 1, tp := tp', e2 := e', ln := ln', t1 := t1' } _ tt t' rfl hI (by (try dsimp only); omega) F'' (fun y => ?_) N''
    by_cases hy : y = Str.ofString "ch"
    · simp [hy, lm]
    · rw [if_neg hy, hm]; simp [hy, lm]
  · intro hc t1' tp' e' h' tk' ln' hb' F' N'
    exact done n S.pos ac hi hc h' _ { S with pos := S.pos + 1, tp := tp', e2 := e', ln := ln', t1 := t1' } _ tt cv rfl hI (by (try dsimp only); omega) F' hm N'
  · cases r with
    | none => exact wpAny_execs_nil hr
    | some y =>
      refine wpAny_passesOwn hE (wpAny_assign_Name (wpAny_mono hr (fun _ s₂ h₂ => ?_) fun _ _ z => z))
      refine wpAny_passesOwn hE (wpAny_mono h₂ (fun f s₃ h₃ => ?_) fun _ _ z => z)
      cases f with
      | next => obtain ⟨k, pos, ac, h1, h2, h3⟩ := h₃; exact ⟨k, h1, pos, ac, h2, h3⟩
      | cont => obtain ⟨k, pos, ac, h1, h2, h3⟩ := h₃; exact ⟨k, h1, pos, ac, h2, h3⟩
      | brk => exact h₃
      | ret _ => exact h₃
end
end
theorem flushL1 : if True then True else True := by (w_top off); first | (walk1; fail) | simp
section
open PySem PySem.W PySem.Calls PyProof.Rows
section
noncomputable def isWs (c : Nat) : Prop := c = 10 ∨ c = 9 ∨ c = 13 ∨ c = 32
noncomputable def encQ (c : Nat) : List Nat := if c = 34 ∨ c = 92 then [92, c] else [c]
noncomputable def encU (c : Nat) : List Nat := if c = 34 ∨ c = 92 ∨ c = 32 then [92, c] else [c]
/-- what get_token reads -/
inductive Tk : List Nat → List Nat → List Nat → Prop
  | eof : Tk [] [] []
  | ws {c rem r rest} : isWs c → Tk rem r rest → Tk (c :: rem) r rest
  | quoted {rs rest} : Tk (34 :: (rs.flatMap encQ ++ 34 :: rest)) rs rest
  | plain {c rs v rest} : isWs v → (∀ x ∈ c :: rs, x ≠ 10 ∧ x ≠ 9 ∧ x ≠ 13) → Tk ((c :: rs).flatMap encU ++ v :: rest) (c :: rs) rest
section
variable {T : Str} {pos c : Nat} {rem r rest : List Nat}
theorem chr1_cons (h : T.cps.toList.drop pos = c :: rem) : chr1 T pos = acS [c] := by
  unfold chr1 acS; rw [h]; rfl
theorem drop_succ (h : T.cps.toList.drop pos = c :: rem) : T.cps.toList.drop (pos + 1) = rem := by
  rw [← List.drop_drop, h]; rfl
theorem chr1_nil (h : T.cps.toList.drop pos = []) : Str.ofString "" = chr1 T pos := by
  unfold chr1; rw [h]; decide
theorem chr1_ne (h : Str.ofString "" ≠ chr1 T pos) : ∃ c rem, T.cps.toList.drop pos = c :: rem := by
  cases e : T.cps.toList.drop pos with
  | nil => exact absurd (chr1_nil e) h
  | cons c rem => exact ⟨c, rem, rfl⟩
theorem chr1_eq (h : Str.ofString "" = chr1 T pos) : T.cps.toList.drop pos = [] := by
  cases e : T.cps.toList.drop pos with
  | nil => rfl
  | cons c rem =>
    rw [chr1_cons e] at h
    have : ([] : List Nat) = [c] := by
      have := congrArg (fun s : Str => s.cps.toList) h
      simpa [acS, show (Str.ofString "").cps.toList = [] by decide] using this
    cases this
theorem drop_len (h : T.cps.toList.drop pos = c :: rem) : pos < T.cps.size := by
  have := congrArg List.length h
  simp at this
  omega
theorem ws_in (c : Nat) : (Builtin.Str.occurrences (Str.ofString "\n\t\x0d ") (acS [c]) 0 (Str.ofString "\n\t\x0d ").length 1).isEmpty = true ↔ ¬ isWs c := by
  have h := StrLaws.found_one (Str.ofString "\n\t\x0d ") c
  have e : (Str.ofString "\n\t\x0d ").cps.toList = [10, 9, 13, 32] := by decide
  rw [e] at h
  show (Builtin.Str.occurrences (Str.ofString "\n\t\x0d ") ⟨#[c]⟩ 0 (Str.ofString "\n\t\x0d ").length 1).isEmpty = true ↔ _
  have hi : c ∈ [10, 9, 13, 32] ↔ isWs c := by simp [isWs]
  by_cases hw : isWs c
  · rw [decide_eq_true (hi.mpr hw)] at h
    simp only [Bool.not_eq_true'] at h
    simp [h, hw]
  · rw [decide_eq_false (fun q => hw (hi.mp q))] at h
    simp only [Bool.not_eq_false'] at h
    simp [h, hw]
theorem ac_beq (c d : Nat) : ((acS [c] == acS [d]) = true) ↔ c = d := by simp [acS]
theorem s34 : Str.ofString "\"" = acS [34] := by decide
theorem s92 : Str.ofString "\\" = acS [92] := by decide
theorem eq34 : ((acS [c] == Str.ofString "\"") = true) ↔ c = 34 := by rw [s34, ac_beq]
theorem eq92 : ((acS [c] == Str.ofString "\\") = true) ↔ c = 92 := by rw [s92, ac_beq]
theorem ac_app (a : List Nat) (c : Nat) : acS a ++ acS [c] = acS (a ++ [c]) := by
  show (⟨a.toArray ++ #[c]⟩ : Str) = ⟨(a ++ [c]).toArray⟩
  simp
theorem encU_head (x : Nat) : ∃ t, (encU x = x :: t ∧ t = [] ∧ x ≠ 34 ∧ x ≠ 92 ∧ x ≠ 32) ∨ (encU x = 92 :: t ∧ t = [x] ∧ (x = 34 ∨ x = 92 ∨ x = 32)) := by
  unfold encU
  split
  · rename_i h; exact ⟨[x], .inr ⟨rfl, rfl, h⟩⟩
  · rename_i h; simp only [not_or] at h; exact ⟨[], .inl ⟨rfl, rfl, h.1, h.2.1, h.2.2⟩⟩
theorem Tk.ws_of (hw : isWs c) (h : Tk (c :: rem) r rest) : Tk rem r rest := by
  generalize hl : c :: rem = l at h
  cases h with
  | eof => cases hl
  | ws a b => cases hl; exact b
  | quoted => cases hl; exact absurd hw (by unfold isWs; decide)
  | plain hv hx =>
    rename_i x rs v
    have hx0 := hx x (.head _)
    obtain ⟨t, ⟨e, -, h1, h2, h3⟩ | ⟨e, -, -⟩⟩ := encU_head x
    · rw [List.flatMap_cons, e] at hl
      cases hl
      rcases hw with q | q | q | q
      · exact absurd q hx0.1
      · exact absurd q hx0.2.1
      · exact absurd q hx0.2.2
      · exact absurd q h3
    · rw [List.flatMap_cons, e] at hl
      cases hl
      first | exact absurd hw (by unfold isWs; decide) | exact hw.elim hx0.1 fun hw => hw.elim hx0.2.1 fun hw => hw.elim hx0.2.2 h3 | exact hw.elim hx0.1 fun hw => hw.elim hx0.2.1 fun hw => hw.elim hx0.2.2 h2 | exact hw.elim hx0.1 fun hw => hw.elim hx0.2.1 fun hw => hw.elim hx0.2.2 h1 | (unfold isWs at hw; omega)
theorem Tk.quoted_of (h : Tk (34 :: rem) r rest) : rem = r.flatMap encQ ++ 34 :: rest := by
  generalize hl : 34 :: rem = l at h
  cases h with
  | eof => cases hl
  | ws a b => cases hl; exact absurd a (by unfold isWs; decide)
  | quoted => cases hl; rfl
  | plain hv hx =>
    rename_i x rs v
    obtain ⟨t, ⟨e, -, h1, h2, h3⟩ | ⟨e, -, -⟩⟩ := encU_head x
    · rw [List.flatMap_cons, e] at hl
      cases hl
      exact absurd rfl h1
    · rw [List.flatMap_cons, e] at hl
      cases hl
theorem Tk.plain_of (hw : ¬ isWs c) (h34 : c ≠ 34) (h : Tk (c :: rem) r rest) : ∃ x rs v, r = x :: rs ∧ isWs v ∧ (∀ y ∈ r, y ≠ 10 ∧ y ≠ 9 ∧ y ≠ 13) ∧ c :: rem = encU x ++ (rs.flatMap encU ++ v :: rest) := by
  generalize hl : c :: rem = l at h
  cases h with
  | eof => cases hl
  | ws a b => cases hl; exact absurd a hw
  | quoted => cases hl; exact absurd rfl h34
  | plain hv hx =>
    rename_i x rs v
    exact ⟨x, rs, v, rfl, hv, hx, by rw [List.flatMap_cons, List.append_assoc]⟩
theorem Tk.eof_of (h : Tk [] r rest) : r = [] ∧ rest = [] := by
  generalize hl : ([] : List Nat) = l at h
  cases h with
  | eof => exact ⟨rfl, rfl⟩
  | ws => cases hl
  | quoted => cases hl
  | plain hv hx =>
    rename_i x rs v
    obtain ⟨t, ⟨e, -⟩ | ⟨e, -⟩⟩ := encU_head x <;> (rw [List.flatMap_cons, e] at hl; cases hl)
theorem len_flat {f : Nat → List Nat} (hf : ∀ x, 1 ≤ (f x).length) : ∀ l : List Nat, l.length ≤ (l.flatMap f).length
  | [] => by simp
  | x :: l => by rw [List.flatMap_cons, List.length_append, List.length_cons]; have := hf x; have := len_flat hf l; omega
theorem encQ_len (x : Nat) : 1 ≤ (encQ x).length := by unfold encQ; split <;> simp
theorem encU_len (x : Nat) : 1 ≤ (encU x).length := by unfold encU; split <;> simp
theorem Tk.len (h : Tk rem r rest) : r.length ≤ rem.length := by
  induction h with
  | eof => exact Nat.le_refl _
  | ws _ _ ih => rw [List.length_cons]; omega
  | quoted =>
    rename_i rs rest
    have := len_flat encQ_len rs
    simp only [List.length_cons, List.length_append]; omega
  | plain =>
    rename_i x rs v rest h1 h2
    have := len_flat encU_len (x :: rs)
    simp only [List.length_cons, List.length_append] at this ⊢; omega
theorem lm_tok {a b tok ch v : Option Value} {y : Str} : (if y = Str.ofString "token" then v else lm a b tok ch y) = lm a b v ch y := by
  by_cases h : y = Str.ofString "token"
  · subst h; rfl
  · simp [lm, h]
theorem lm_tokch {a b tok ch u v : Option Value} {y : Str} : (if y = Str.ofString "token" then v else if y = Str.ofString "ch" then u else lm a b tok ch y) = lm a b v u y := by
  by_cases h : y = Str.ofString "token"
  · subst h; rfl
  · by_cases h2 : y = Str.ofString "ch"
    · subst h2; rfl
    · simp [lm, h, h2]
theorem lexL_drop {w : World} {C : LexC} {S : LexS} {a b : Addr × Obj} {news : List (Addr × Obj)} : ∀ p ∈ lexL w C S news, p ∈ lexL w C S (a :: b :: news) := by
  intro p hp
  have hp' : p ∈ lexL w C S [] ++ news := hp
  show p ∈ lexL w C S [] ++ (a :: b :: news)
  exact List.mem_append.mpr ((List.mem_append.mp hp').imp id fun h => List.mem_cons_of_mem _ (List.mem_cons_of_mem _ h))
/-- a unit of a quoted word -/
theorem unitQ {todo : List Nat} (h : c :: rem = todo.flatMap encQ ++ 34 :: rest) :
    (c = 34 ∧ todo = [] ∧ rem = rest) ∨ (∃ x t, todo = x :: t ∧ c = 92 ∧ rem = x :: (t.flatMap encQ ++ 34 :: rest)) ∨ (∃ t, todo = c :: t ∧ c ≠ 34 ∧ c ≠ 92 ∧ rem = t.flatMap encQ ++ 34 :: rest) := by
  cases todo with
  | nil => cases h; exact .inl ⟨rfl, rfl, rfl⟩
  | cons x t =>
    rw [List.flatMap_cons] at h
    by_cases hx : x = 34 ∨ x = 92
    · rw [show encQ x = [92, x] by unfold encQ; rw [if_pos hx]] at h
      cases h
      exact .inr (.inl ⟨x, t, rfl, rfl, rfl⟩)
    · rw [show encQ x = [x] by unfold encQ; rw [if_neg hx]] at h
      cases h
      exact .inr (.inr ⟨t, rfl, fun e => hx (.inl e), fun e => hx (.inr e), rfl⟩)
/-- a unit of a plain word -/
theorem unitU {todo : List Nat} {v : Nat} (hv : isWs v) (ht : ∀ x ∈ todo, x ≠ 10 ∧ x ≠ 9 ∧ x ≠ 13) (h : c :: rem = todo.flatMap encU ++ v :: rest) :
    (isWs c ∧ todo = [] ∧ rem = rest) ∨ (∃ x t, todo = x :: t ∧ c = 92 ∧ ¬ isWs c ∧ rem = x :: (t.flatMap encU ++ v :: rest)) ∨ (∃ t, todo = c :: t ∧ ¬ isWs c ∧ c ≠ 34 ∧ c ≠ 92 ∧ rem = t.flatMap encU ++ v :: rest) := by
  cases todo with
  | nil => cases h; exact .inl ⟨hv, rfl, rfl⟩
  | cons x t =>
    rw [List.flatMap_cons] at h
    by_cases hx : x = 34 ∨ x = 92 ∨ x = 32
    · rw [show encU x = [92, x] by unfold encU; rw [if_pos hx]] at h
      cases h
      exact .inr (.inl ⟨x, t, rfl, rfl, by unfold isWs; decide, rfl⟩)
    · rw [show encU x = [x] by unfold encU; rw [if_neg hx]] at h
      cases h
      have := ht c (.head _)
      exact .inr (.inr ⟨t, rfl, fun h => h.elim this.1 fun h => h.elim this.2.1 fun h => h.elim this.2.2 fun h => hx (.inr (.inr h)), fun e => hx (.inl e), fun e => hx (.inr (.inl e)), rfl⟩)
end
end
end
theorem flushPl1 : if True then True else True := by (w_top off); first | (walk1; fail) | simp
section
open PySem PySem.W PySem.Calls PyProof.Rows
set_option maxRecDepth 100000
set_option maxHeartbeats 8000000
section
theorem fill2 : rw' = rw' ∧ K2 = K2 := by
  k_fill
  exact ⟨rfl, rfl⟩
theorem gA {p pos T : Nat} (hh : p + (T - p) = pos + (T - pos)) (hp : pos < 1040000) (hT : T < 1000000) : p < 1048000 := by omega
theorem gB {S p l X : Nat} (h : p + (l + 1 + 1) = X) (e : S = p + 1) : S + 1 + l = X := by omega
theorem gC {S p l X : Nat} (h : p + (l + 1) = X) (e : S = p + 1) : S ≤ X + 1 := by omega
theorem gE {p l X : Nat} (h : p + (l + 1) = X) : p + 1 + l = X := by omega
theorem gF {x : Int} {n : Nat} (h : 0 ≤ x ∧ x ≤ (n : Int) + 1) : 0 ≤ x ∧ x ≤ ((n + 1 : Nat) : Int) + 1 := by omega
theorem gU {un a b : Nat} (hu : un + 70 < cLine) (h : a + b ≤ 70) : un + a + b < cLine := Nat.lt_of_le_of_lt (by omega) hu
theorem gF2 {x : Int} {n : Nat} (h : 0 ≤ x ∧ x ≤ (n : Int) + 2) : 0 ≤ x ∧ x ≤ ((n + 1 : Nat) : Int) + 1 := by omega
theorem gP2 {S p T : Nat} (hS : S = p + 1) (h : p < T) (hT : T < 1000000) : S < 1048576 := by omega
local macro_rules | `(tactic| walk_at "call builtin:iter") => `(tactic| (k_here; k_dflt (refine' ci_make ?k1 ?k2 ?k3 ?_; (case k1 | k2 => k_asm); (case k3 => k_mem)); intro it' h' F' N' l1; (have lB : Bnd it' _ := fun p hp => l1 p hp); (try k_lt l1); (try k_sweep)))
local macro_rules | `(tactic| walk_at "call ref") => `(tactic| (k_here; (with_reducible show wpAny _ _ (call (Value.ref 35) _) _ _ _); refine wpAny_call ?_; k_dflt (refine' c_rc (S := ⟨_, _, _, _, _, _, _⟩) ?hR ?O ⟨?B, ?F, ?X, ?N, ?T, ?C⟩ ?d ?u ?p ?l ?_; (case hR => assumption); (case N => k_asm); (case O => assumption); (case B | F | X | T | C => k_asm); (case d => ktr_room); (case u => first | exact gU (a := 3) (b := 60) (by assumption) (by decide) | ktr_units); (case p | l => ((try dsimp only); first | assumption | exact gP2 (by assumption) (by assumption) (by assumption) | omega))); intro t' t1' tp' e' h' tk' ln' hb' hz' F' N'; (try dsimp only [lexL] at N'); (try dsimp only at hb' hz' ⊢); (try k_sweep)))
theorem mkO {w : World} {C : LexC} {S : LexS} {g h : Heap} {L : Addr} {news : List (Addr × Obj)} {it q : Nat} {a b : Obj} (O : LexO C news) (_N : News g L h (lexL w C S ((it, a) :: (q, b) :: news))) (hi : @LT.lt Nat _ C.l it) (hq : @LT.lt Nat _ C.l q) : LexO C ((it, a) :: (q, b) :: news) := by
  first | (refine x0_12 O ?_; (try clear O); intro o1 o2 o3 o4 o5 o6 o7 o8 o9 nd nal nl) | (refine x1_11 O ?_; (try clear O); intro o1 o2 o3 o4 o5 o6 o7 o8 o9 nd nal nl) | (refine x2_10 O ?_; (try clear O); intro o1 o2 o3 o4 o5 o6 o7 o8 o9 nd nal nl) | (refine x3_9 O ?_; (try clear O); intro o1 o2 o3 o4 o5 o6 o7 o8 o9 nd nal nl) | (refine x4_8 O ?_; (try clear O); intro o1 o2 o3 o4 o5 o6 o7 o8 o9 nd nal nl) | (refine x5_7 O ?_; (try clear O); intro o1 o2 o3 o4 o5 o6 o7 o8 o9 nd nal nl) | (refine x6_6 O ?_; (try clear O); intro o1 o2 o3 o4 o5 o6 o7 o8 o9 nd nal nl) | (refine x7_5 O ?_; (try clear O); intro o1 o2 o3 o4 o5 o6 o7 o8 o9 nd nal nl) | (refine x8_4 O ?_; (try clear O); intro o1 o2 o3 o4 o5 o6 o7 o8 o9 nd nal nl) | (refine x9_3 O ?_; (try clear O); intro o1 o2 o3 o4 o5 o6 o7 o8 o9 nd nal nl) | (refine x10_2 O ?_; (try clear O); intro o1 o2 o3 o4 o5 o6 o7 o8 o9 nd nal nl) | obtain ⟨o1, o2, o3, o4, o5, o6, o7, o8, o9, nd, nal, nl⟩ := O
  exact ⟨o1, o2, o3, o4, o5, o6, o7, o8, o9, List.forall_mem_cons.mpr ⟨by k_ne, List.forall_mem_cons.mpr ⟨by k_ne, nd⟩⟩, List.forall_mem_cons.mpr ⟨by k_ne, List.forall_mem_cons.mpr ⟨by k_ne, nal⟩⟩, List.forall_mem_cons.mpr ⟨by k_ne, List.forall_mem_cons.mpr ⟨by k_ne, nl⟩⟩⟩
theorem c_gt {w : World} {p : Program} {loose : List Str} {mean : ExcName → Option Value} {mg mb : Str → Option Value} {outer : List Env} {A₀ : Around} {base h₀ : Heap} {L : Addr} {m : Str → Option Value} {news : List (Addr × Obj)} {s : Shared}
  {dp un : Nat} {gd : Option (List Code)} {cn : Str} {nm : List (Str × NameKind)} {mo : List (Str × Const)} {a : Addr} {ccd : Value} {cl : List (Str × Addr)} {R : Result → Shared → Prop}
  {C : LexC} {ln : Int} {t1 tp : Tok} {e e2 pos : Nat} {T : Str} (hR : ReadSpec w C T) (O : LexO C news)
  (cx : Cx w p loose mean mg mb outer A₀ base h₀ L m s.heap (lexL w C ⟨ln, t1, [], e, pos, tp, e2⟩ news)) (hd : dp + 13 < recursionLimit) (hu : un + 70 < cLine)
  (hp : pos < 1040000) (hl : 0 ≤ ln ∧ ln ≤ pos + 1) {r rest : List Nat} (hT : Tk (T.cps.toList.drop pos) r rest) (hTl : T.cps.size < 1000000)
  (hQ : ∀ (S : LexS) t' h' tk', S.items = [] → (0 ≤ S.ln ∧ S.ln ≤ S.pos + 1) → T.cps.toList.drop S.pos = rest → S.pos ≤ pos + (T.cps.toList.drop pos).length + 1 → Fr h₀ L h' m → News h₀ L h' (lexL w C S news) → R (.ok (.ret (.str (acS r) t'))) { s with heap := h', toks := tk' }) :
  codeAny (model pr w) (top none dp un gd cn nm mo L a ccd cl outer) (.call (.ref 42) ⟨[.ref C.x], []⟩) R s := by
  first | (refine x0_6 cx ?_; (try clear cx); intro B F X N TT C0) | (refine x1_5 cx ?_; (try clear cx); intro B F X N TT C0) | (refine x2_4 cx ?_; (try clear cx); intro B F X N TT C0) | (refine x3_3 cx ?_; (try clear cx); intro B F X N TT C0) | (refine x4_2 cx ?_; (try clear cx); intro B F X N TT C0) | (refine x5_1 cx ?_; (try clear cx); intro B F X N TT C0) | obtain ⟨B, F, X, N, TT, C0⟩ := cx
  first | (refine x0_12 (id O) ?_; intro o1 o2 o3 o4 o5 o6 o7 o8 o9 nd nal nl) | (refine x1_11 (id O) ?_; intro o1 o2 o3 o4 o5 o6 o7 o8 o9 nd nal nl) | (refine x2_10 (id O) ?_; intro o1 o2 o3 o4 o5 o6 o7 o8 o9 nd nal nl) | (refine x3_9 (id O) ?_; intro o1 o2 o3 o4 o5 o6 o7 o8 o9 nd nal nl) | (refine x4_8 (id O) ?_; intro o1 o2 o3 o4 o5 o6 o7 o8 o9 nd nal nl) | (refine x5_7 (id O) ?_; intro o1 o2 o3 o4 o5 o6 o7 o8 o9 nd nal nl) | (refine x6_6 (id O) ?_; intro o1 o2 o3 o4 o5 o6 o7 o8 o9 nd nal nl) | (refine x7_5 (id O) ?_; intro o1 o2 o3 o4 o5 o6 o7 o8 o9 nd nal nl) | (refine x8_4 (id O) ?_; intro o1 o2 o3 o4 o5 o6 o7 o8 o9 nd nal nl) | (refine x9_3 (id O) ?_; intro o1 o2 o3 o4 o5 o6 o7 o8 o9 nd nal nl) | (refine x10_2 (id O) ?_; intro o1 o2 o3 o4 o5 o6 o7 o8 o9 nd nal nl) | obtain ⟨o1, o2, o3, o4, o5, o6, o7, o8, o9, nd, nal, nl⟩ := id O
  dsimp only [lexL] at N
  have hrl : r.length ≤ 1000000 := by
    have := hT.len
    have h2 : (T.cps.toList.drop pos).length ≤ T.cps.size := by rw [List.length_drop, Array.length_toList]; omega
    omega
  k_dflt k_enter
  k_steps
  rename Fr _ _ _ _ => F2
  rename News _ _ _ _ => N2
  rename Bnd _ _ => lB
  have nnI := (lB.sub (l' := news) (by (intro p hp; repeat (first | exact hp | refine List.Mem.tail _ ?_)))).ne (Nat.le_refl _)
  refine' lex_for (T := T) (s₀ := s) (news := news) hR ⟨o1, o2, o3, o4, o5, o6, o7, o8, o9, ?nd, ?nal, ?nl⟩ ?b ?x ?t C0 ?d ?u ?i ?nn (fun n pos' ac => ac = [] ∧ Tk (T.cps.toList.drop pos') r rest ∧ n = (T.cps.toList.drop pos').length + 1 ∧ pos' + (T.cps.toList.drop pos').length = pos + (T.cps.toList.drop pos).length) ⟨rfl, hT, rfl, rfl⟩ ?hb ?st ?turn ?done ?e rfl rfl
  case b => k_asm
  case x => k_asm
  case t => k_asm
  case d => ktr_room
  case u => first | exact gU (by assumption) (by decide) | ktr_units
  case e => passes_own
  case st =>
    refine' ⟨_, _, ⟨ln, t1, [], e, pos, tp, e2⟩, _, _, none, rfl, rfl, rfl, hl, F2, ?m, cb_drop N2 (mem12 ?m1 ?m2 ?m3 ?m4 ?m5 ?m6 ?m7 ?m8 ?m9 ?m10 ?m11 ?m12 ?m13)⟩
    case m1 => k_mem
    case m2 => k_mem
    case m3 => k_mem
    case m4 => k_mem
    case m5 => k_mem
    case m6 => k_mem
    case m7 => k_mem
    case m8 => k_mem
    case m9 => k_mem
    case m10 => k_mem
    case m11 => k_mem
    case m12 => k_mem
    case m13 => (intro p hp; repeat (first | exact hp | refine List.Mem.tail _ ?_))
    case m =>
      intro y
      show (if _ then _ else if _ then _ else List.lookup y [(Str.ofString "self", Value.ref C.x)]) = _
      by_cases h1 : y = Str.ofString "fiter"
      · subst h1; rfl
      · by_cases h2 : y = Str.ofString "token"
        · subst h2; rfl
        · by_cases h3 : y = Str.ofString "self"
          · subst h3; rfl
          · have h5 : (y == Str.ofString "self") = false := by simpa using h3
            simp [lm, h1, h2, h3, List.lookup, h5]
  case nd => exact List.forall_mem_cons.mpr ⟨by k_ne, List.forall_mem_cons.mpr ⟨by k_ne, nd⟩⟩
  case nal => exact List.forall_mem_cons.mpr ⟨by k_ne, List.forall_mem_cons.mpr ⟨by k_ne, nal⟩⟩
  case nl => exact List.forall_mem_cons.mpr ⟨by k_ne, List.forall_mem_cons.mpr ⟨by k_ne, nl⟩⟩
  case i => omega
  case nn => exact nnI
  case hb =>
    intro n pos' ac hq1
    first | (refine x0_4 hq1 ?_; (try clear hq1); intro _ _ _ hh) | (refine x1_3 hq1 ?_; (try clear hq1); intro _ _ _ hh) | (refine x2_2 hq1 ?_; (try clear hq1); intro _ _ _ hh) | (refine x3_1 hq1 ?_; (try clear hq1); intro _ _ _ hh) | obtain ⟨_, _, _, hh⟩ := hq1
    rw [List.length_drop, List.length_drop, Array.length_toList] at hh
    exact gA hh hp hTl
  case done =>
    intro n pos' ac hq2 he h tk S m tt cv hS hI hl' F hm N
    first | (refine x0_4 hq2 ?_; (try clear hq2); intro hq3 hT' hq4 hh) | (refine x1_3 hq2 ?_; (try clear hq2); intro hq3 hT' hq4 hh) | (refine x2_2 hq2 ?_; (try clear hq2); intro hq3 hT' hq4 hh) | (refine x3_1 hq2 ?_; (try clear hq2); intro hq3 hT' hq4 hh) | obtain ⟨hq3, hT', hq4, hh⟩ := hq2
    obtain rfl := hq3
    obtain rfl := hq4
    rw [chr1_eq he] at hT'
    first | (refine x0_2 hT'.eof_of ?_; intro hq5 hq6) | (refine x1_1 hT'.eof_of ?_; intro hq5 hq6) | obtain ⟨hq5, hq6⟩ := hT'.eof_of
    obtain rfl := hq5
    obtain rfl := hq6
    have hF := frExt F hm
    clear F hm
    dsimp only [lexL] at N
    k_steps
    refine hQ S tt _ _ hI hl' ?_ ?_ (by k_asm) (by k_asm)
    · rw [hS]
      have := congrArg List.length (chr1_eq he)
      rw [List.length_drop, Array.length_toList, List.length_nil] at this
      exact List.drop_eq_nil_of_le (by rw [Array.length_toList]; omega)
    · rw [hS]; rw [List.length_drop, List.length_drop, Array.length_toList] at hh; rw [List.length_drop, Array.length_toList]; omega
  case turn =>
    intro n pos' ac hq7 he h tk S m tt t' hS hI hl' F hm N
    first | (refine x0_4 hq7 ?_; (try clear hq7); intro hq8 hT' hq9 hh) | (refine x1_3 hq7 ?_; (try clear hq7); intro hq8 hT' hq9 hh) | (refine x2_2 hq7 ?_; (try clear hq7); intro hq8 hT' hq9 hh) | (refine x3_1 hq7 ?_; (try clear hq7); intro hq8 hT' hq9 hh) | obtain ⟨hq8, hT', hq9, hh⟩ := hq7
    obtain rfl := hq8
    obtain rfl := hq9
    refine opaq fun KQ1 hKQ1 => ?_
    have O' := mkO O N (by omega) (by omega)
    first | (refine x0_3 (chr1_ne he) ?_; intro c rem hdr) | (refine x1_2 (chr1_ne he) ?_; intro c rem hdr) | (refine x2_1 (chr1_ne he) ?_; intro c rem hdr) | obtain ⟨c, rem, hdr⟩ := chr1_ne he
    have hps := drop_len hdr
    rw [chr1_cons hdr] at hm
    rw [hdr] at hT'
    have hF := frExt F hm
    clear F hm
    dsimp only [lexL] at N
    have hl0 : (acS []).length = 0 := rfl
    have hl1 : (acS [c]).length = 1 := rfl
    k_steps
    · rename (acS [c] == Str.ofString "\"") = true => hq
      obtain rfl := eq34.mp hq
      have hrem := hT'.quoted_of
      have hd1 := drop_succ hdr
      rename Fr _ _ _ _ => F3
      rename News _ _ _ _ => N3
      refine' lex_for (T := T) (s₀ := s) (news := news) hR O' ?b ?x ?t C0 ?d ?u ?i ?nn (fun n p ac => ∃ todo, r = ac ++ todo ∧ T.cps.toList.drop p = todo.flatMap encQ ++ 34 :: rest ∧ n = todo.length ∧ p + (T.cps.toList.drop p).length = pos + (T.cps.toList.drop pos).length) (n₀ := r.length) (pos₀ := pos' + 1) (ac₀ := []) ⟨r, rfl, hd1.trans hrem, rfl, ?l⟩ ?hb ?st ?turn ?done ?e rfl rfl
      case b => k_asm
      case x => k_asm
      case t => k_asm
      case d => ktr_room
      case u => first | exact gU (by assumption) (by decide) | ktr_units
      case e => passes_own
      case i => omega
      case nn => exact nnI
      case l => rw [hdr] at hh; rw [hd1]; simp only [List.length_cons] at hh; omega
      case hb =>
        intro n p ac hq10
        first | (refine x0_5 hq10 ?_; (try clear hq10); intro _ _ _ _ hh) | (refine x1_4 hq10 ?_; (try clear hq10); intro _ _ _ _ hh) | (refine x2_3 hq10 ?_; (try clear hq10); intro _ _ _ _ hh) | (refine x3_2 hq10 ?_; (try clear hq10); intro _ _ _ _ hh) | (refine x4_1 hq10 ?_; (try clear hq10); intro _ _ _ _ hh) | obtain ⟨_, _, _, _, hh⟩ := hq10
        rw [List.length_drop, List.length_drop, Array.length_toList] at hh
        exact gA hh hp hTl
      case st => exact (Stand.mk' (S := S) rfl hS hI hl' F3 (fun _ => rfl) N3)
      case done =>
        intro n p ac hq11 he2
        obtain ⟨todo, -, hdp, -, -⟩ := hq11
        rw [chr1_eq he2] at hdp
        simp at hdp
      case turn =>
        intro n p ac hq12 he2 h tk S m tt t' hS hI hl' F hm N
        first | (refine x0_5 hq12 ?_; (try clear hq12); intro todo hq13 hdp hq14 hlen) | (refine x1_4 hq12 ?_; (try clear hq12); intro todo hq13 hdp hq14 hlen) | (refine x2_3 hq12 ?_; (try clear hq12); intro todo hq13 hdp hq14 hlen) | (refine x3_2 hq12 ?_; (try clear hq12); intro todo hq13 hdp hq14 hlen) | (refine x4_1 hq12 ?_; (try clear hq12); intro todo hq13 hdp hq14 hlen) | obtain ⟨todo, hq13, hdp, hq14, hlen⟩ := hq12
        obtain rfl := hq13
        obtain rfl := hq14
        refine opaq fun KQ2 hKQ2 => ?_
        first | (refine x0_3 (chr1_ne he2) ?_; intro c rem2 hdr2) | (refine x1_2 (chr1_ne he2) ?_; intro c rem2 hdr2) | (refine x2_1 (chr1_ne he2) ?_; intro c rem2 hdr2) | obtain ⟨c, rem2, hdr2⟩ := chr1_ne he2
        have hps2 := drop_len hdr2
        rw [chr1_cons hdr2] at hm
        have hF := frExt F hm
        clear F hm
        dsimp only [lexL] at N
        have hl1 : (acS [c]).length = 1 := rfl
        have hl2 : (acS ac).length ≤ 1000000 := by (show ac.toArray.size ≤ _); rw [List.length_append] at hrl; rw [List.size_toArray]; omega
        k_steps
        · rename (acS [c] == Str.ofString "\"") = true => hq
          obtain rfl := eq34.mp hq
          rw [hdr2] at hdp
          obtain ⟨-, rfl, rfl⟩ | ⟨x, t, -, h92, -⟩ | ⟨t, -, h34, -, -⟩ := unitQ hdp
          · rw [List.append_nil] at hQ
            refine hKQ2.out _ _ ?_
            try dsimp only
            k_steps
            try (refine hKQ1.out _ _ ?_; (try dsimp only); k_steps)
            refine hQ S tt _ _ hI hl' ?_ ?_ (by k_asm) (cb_drop (news' := lexL w C S (_ :: _ :: news)) (by k_asm) lexL_drop)
            · rw [hS]; exact drop_succ hdr2
            · rw [hdr2, List.length_cons] at hlen; first | exact gB hlen hS | exact gC hlen hS | exact gE hlen | omega
          · cases h92
          · exact absurd rfl h34
        · rename (acS [c] == Str.ofString "\\") = true => hq
          obtain rfl := eq92.mp hq
          rw [hdr2] at hdp
          obtain ⟨h34, -, -⟩ | ⟨x, t, rfl, -, rfl⟩ | ⟨t, -, -, h92, -⟩ := unitQ hdp
          · cases h34
          · have hx := drop_succ hdr2
            rw [← hS] at hx
            refine hKQ2.out _ _ ?_
            try dsimp only
            k_steps
            try (refine hKQ1.out _ _ ?_; (try dsimp only); k_steps)
            refine' LoopE.mk' t.length (S.pos + 1) (ac ++ [x]) ?a1 ⟨t, ?a2, drop_succ hx, rfl, ?a3⟩ (Stand.mk' (S := ⟨_, _, _, _, _, _, _⟩) rfl rfl hI ?a4 ?a5 (fun y => ?a6) ?a7)
            case a5 => k_asm
            case a7 => k_asm
            case a1 => simp
            case a2 => simp
            case a3 =>
              have hx2 := drop_succ hx
              rw [hx2]
              rw [hdr2, List.length_cons, List.length_cons] at hlen; first | exact gB hlen hS | exact gC hlen hS | exact gE hlen | omega
            case a4 => (try dsimp only); first | exact gF (by assumption) | exact gF2 (by assumption) | omega
            case a6 => rw [← ac_app, ← chr1_cons hx]; exact lm_tokch
          · exact absurd rfl h92
        · rename (acS [c] == Str.ofString "\"") = false => hq
          rename (acS [c] == Str.ofString "\\") = false => hq2
          have n34 : c ≠ 34 := fun e => by rw [eq34.mpr e] at hq; cases hq
          have n92 : c ≠ 92 := fun e => by rw [eq92.mpr e] at hq2; cases hq2
          rw [hdr2] at hdp
          obtain ⟨h34, -, -⟩ | ⟨x, t, -, h92, -⟩ | ⟨t, rfl, -, -, rfl⟩ := unitQ hdp
          · exact absurd h34 n34
          · exact absurd h92 n92
          · refine hKQ2.out _ _ ?_
            try dsimp only
            k_steps
            try (refine hKQ1.out _ _ ?_; (try dsimp only); k_steps)
            refine' LoopE.mk' t.length S.pos (ac ++ [c]) ?a1 ⟨t, ?a2, ?a3, rfl, ?a4⟩ (Stand.mk' (S := S) rfl rfl hI hl' ?a5 (fun y => ?a6) ?a7)
            case a5 => k_asm
            case a7 => k_asm
            case a1 => simp
            case a2 => simp
            case a3 => rw [hS]; exact drop_succ hdr2
            case a4 =>
              rw [hS, drop_succ hdr2]
              rw [hdr2, List.length_cons] at hlen; first | exact gB hlen hS | exact gC hlen hS | exact gE hlen | omega
            case a6 => rw [← ac_app]; exact lm_tok
    · rename (acS [c] == Str.ofString "\\") = true => hq
      rename (acS [c] == Str.ofString "\"") = false => hq2
      rename List.isEmpty _ = true => hws
      have nws := (ws_in c).mp hws
      have n34 : c ≠ 34 := fun e => by rw [eq34.mpr e] at hq2; cases hq2
      first | (refine x0_7 (hT'.plain_of nws n34) ?_; intro x rs v hq15 hv hall hun) | (refine x1_6 (hT'.plain_of nws n34) ?_; intro x rs v hq15 hv hall hun) | (refine x2_5 (hT'.plain_of nws n34) ?_; intro x rs v hq15 hv hall hun) | (refine x3_4 (hT'.plain_of nws n34) ?_; intro x rs v hq15 hv hall hun) | (refine x4_3 (hT'.plain_of nws n34) ?_; intro x rs v hq15 hv hall hun) | (refine x5_2 (hT'.plain_of nws n34) ?_; intro x rs v hq15 hv hall hun) | (refine x6_1 (hT'.plain_of nws n34) ?_; intro x rs v hq15 hv hall hun) | obtain ⟨x, rs, v, hq15, hv, hall, hun⟩ := hT'.plain_of nws n34
      obtain rfl := hq15
      have hd1 := drop_succ hdr
      obtain rfl := eq92.mp hq
      have hrem : rem = x :: (rs.flatMap encU ++ v :: rest) := by
        obtain ⟨t, ⟨e, -, h1, h2, h3⟩ | ⟨e, rfl, -⟩⟩ := encU_head x
        · rw [e] at hun; cases hun; exact absurd rfl h2
        · rw [e] at hun; cases hun; rfl
      rw [← hS, hrem] at hd1
      have hd2 := drop_succ hd1
      rename Fr _ _ _ _ => F3
      rename News _ _ _ _ => N3
      refine' lex_for (T := T) (s₀ := s) (news := news) hR O' ?b ?x ?t C0 ?d ?u ?i ?nn (fun n p ac => ∃ todo, x :: rs = ac ++ todo ∧ T.cps.toList.drop p = todo.flatMap encU ++ v :: rest ∧ n = todo.length ∧ p + (T.cps.toList.drop p).length = pos + (T.cps.toList.drop pos).length) (n₀ := rs.length) (pos₀ := S.pos + 1) (ac₀ := [x]) ⟨rs, rfl, hd2, rfl, ?l⟩ ?hb ?st ?turn ?done ?e rfl rfl
      case b => k_asm
      case x => k_asm
      case t => k_asm
      case d => ktr_room
      case u => first | exact gU (by assumption) (by decide) | ktr_units
      case e => passes_own
      case i => omega
      case nn => exact nnI
      case l => rw [hdr, hrem] at hh; rw [hd2]; simp only [List.length_cons] at hh; omega
      case hb =>
        intro n p ac hq16
        first | (refine x0_5 hq16 ?_; (try clear hq16); intro _ _ _ _ hh) | (refine x1_4 hq16 ?_; (try clear hq16); intro _ _ _ _ hh) | (refine x2_3 hq16 ?_; (try clear hq16); intro _ _ _ _ hh) | (refine x3_2 hq16 ?_; (try clear hq16); intro _ _ _ _ hh) | (refine x4_1 hq16 ?_; (try clear hq16); intro _ _ _ _ hh) | obtain ⟨_, _, _, _, hh⟩ := hq16
        rw [List.length_drop, List.length_drop, Array.length_toList] at hh
        exact gA hh hp hTl
      case st =>
        refine' (Stand.mk' (S := ⟨_, _, _, _, _, _, _⟩) rfl rfl hI ?l5 F3 (fun y => ?m6) N3)
        case m6 => (have e0 : acS [] ++ acS [x] = acS [x] := ac_app [] x); rw [← e0, ← chr1_cons hd1]; exact lm_tokch
        case l5 => (try dsimp only); first | exact gF (by assumption) | exact gF2 (by assumption) | omega
      case done =>
        intro n p ac hq17 he2
        obtain ⟨todo, -, hdp, -, -⟩ := hq17
        rw [chr1_eq he2] at hdp
        simp at hdp
      case turn =>
        intro n p ac hq18 he2 h tk S m tt t' hS hI hl' F hm N
        first | (refine x0_5 hq18 ?_; (try clear hq18); intro todo hrr hdp hq19 hlen) | (refine x1_4 hq18 ?_; (try clear hq18); intro todo hrr hdp hq19 hlen) | (refine x2_3 hq18 ?_; (try clear hq18); intro todo hrr hdp hq19 hlen) | (refine x3_2 hq18 ?_; (try clear hq18); intro todo hrr hdp hq19 hlen) | (refine x4_1 hq18 ?_; (try clear hq18); intro todo hrr hdp hq19 hlen) | obtain ⟨todo, hrr, hdp, hq19, hlen⟩ := hq18
        obtain rfl := hq19
        refine opaq fun KQ2 hKQ2 => ?_
        first | (refine x0_3 (chr1_ne he2) ?_; intro c2 rem2 hdr2) | (refine x1_2 (chr1_ne he2) ?_; intro c2 rem2 hdr2) | (refine x2_1 (chr1_ne he2) ?_; intro c2 rem2 hdr2) | obtain ⟨c2, rem2, hdr2⟩ := chr1_ne he2
        have hps2 := drop_len hdr2
        have hall2 : ∀ y ∈ todo, y ≠ 10 ∧ y ≠ 9 ∧ y ≠ 13 := fun y hy => hall y (by rw [hrr]; exact List.mem_append_right _ hy)
        rw [chr1_cons hdr2] at hm
        have hF := frExt F hm
        clear F hm
        dsimp only [lexL] at N
        have hl1 : (acS [c2]).length = 1 := rfl
        have hl2 : (acS ac).length ≤ 1000000 := by (show ac.toArray.size ≤ _); rw [hrr, List.length_append] at hrl; rw [List.size_toArray]; omega
        k_steps
        · rename List.isEmpty _ = true => hw2
          rename (acS [c2] == Str.ofString "\\") = true => hq
          obtain rfl := eq92.mp hq
          have hnw := (ws_in 92).mp hw2
          rw [hdr2] at hdp
          obtain ⟨hw, -, -⟩ | ⟨x2, t, rfl, -, -, rfl⟩ | ⟨t, -, -, -, h92, -⟩ := unitU hv hall2 hdp
          · exact absurd hw hnw
          · have hx := drop_succ hdr2
            rw [← hS] at hx
            refine hKQ2.out _ _ ?_
            try dsimp only
            k_steps
            try (refine hKQ1.out _ _ ?_; (try dsimp only); k_steps)
            refine' LoopE.mk' t.length (S.pos + 1) (ac ++ [x2]) ?a1 ⟨t, ?a2, drop_succ hx, rfl, ?a3⟩ (Stand.mk' (S := ⟨_, _, _, _, _, _, _⟩) rfl rfl hI ?a4 ?a5 (fun y => ?a6) ?a7)
            case a5 => k_asm
            case a7 => k_asm
            case a1 => simp
            case a2 => rw [hrr]; simp
            case a3 =>
              have hx2 := drop_succ hx
              rw [hx2]
              rw [hdr2, List.length_cons, List.length_cons] at hlen; first | exact gB hlen hS | exact gC hlen hS | exact gE hlen | omega
            case a4 => (try dsimp only); first | exact gF (by assumption) | exact gF2 (by assumption) | omega
            case a6 => rw [← ac_app, ← chr1_cons hx]; exact lm_tokch
          · exact absurd rfl h92
        · rename List.isEmpty _ = true => hw2
          rename (acS [c2] == Str.ofString "\\") = false => hq
          have hnw := (ws_in c2).mp hw2
          have n92' : c2 ≠ 92 := fun e => by rw [eq92.mpr e] at hq; cases hq
          rw [hdr2] at hdp
          obtain ⟨hw, -, -⟩ | ⟨x2, t, -, h92, -, -⟩ | ⟨t, rfl, -, -, -, rfl⟩ := unitU hv hall2 hdp
          · exact absurd hw hnw
          · exact absurd h92 n92'
          · refine hKQ2.out _ _ ?_
            try dsimp only
            k_steps
            try (refine hKQ1.out _ _ ?_; (try dsimp only); k_steps)
            refine' LoopE.mk' t.length S.pos (ac ++ [c2]) ?a1 ⟨t, ?a2, ?a3, rfl, ?a4⟩ (Stand.mk' (S := S) rfl rfl hI hl' ?a5 (fun y => ?a6) ?a7)
            case a5 => k_asm
            case a7 => k_asm
            case a1 => simp
            case a2 => rw [hrr]; simp
            case a3 => rw [hS]; exact drop_succ hdr2
            case a4 =>
              rw [hS, drop_succ hdr2]
              rw [hdr2, List.length_cons] at hlen; first | exact gB hlen hS | exact gC hlen hS | exact gE hlen | omega
            case a6 => rw [← ac_app]; exact lm_tok
        · rename List.isEmpty _ = false => hw2
          have hwc : isWs c2 := Classical.byContradiction fun q => by rw [(ws_in c2).mpr q] at hw2; cases hw2
          rw [hdr2] at hdp
          obtain ⟨-, rfl, rfl⟩ | ⟨x2, t, -, -, hnw, -⟩ | ⟨t, -, hnw, -⟩ := unitU hv hall2 hdp
          · rw [List.append_nil] at hrr
            rw [hrr] at hQ
            refine hKQ2.out _ _ ?_
            try dsimp only
            k_steps
            try (refine hKQ1.out _ _ ?_; (try dsimp only); k_steps)
            refine hQ S tt _ _ hI hl' ?_ ?_ (by k_asm) (cb_drop (news' := lexL w C S (_ :: _ :: news)) (by k_asm) lexL_drop)
            · rw [hS]; exact drop_succ hdr2
            · rw [hdr2, List.length_cons] at hlen; first | exact gB hlen hS | exact gC hlen hS | exact gE hlen | omega
          · exact absurd hwc hnw
          · exact absurd hwc hnw
    · rename (acS [c] == Str.ofString "\\") = false => hq
      rename (acS [c] == Str.ofString "\"") = false => hq2
      rename List.isEmpty _ = true => hws
      have nws := (ws_in c).mp hws
      have n34 : c ≠ 34 := fun e => by rw [eq34.mpr e] at hq2; cases hq2
      first | (refine x0_7 (hT'.plain_of nws n34) ?_; intro x rs v hq20 hv hall hun) | (refine x1_6 (hT'.plain_of nws n34) ?_; intro x rs v hq20 hv hall hun) | (refine x2_5 (hT'.plain_of nws n34) ?_; intro x rs v hq20 hv hall hun) | (refine x3_4 (hT'.plain_of nws n34) ?_; intro x rs v hq20 hv hall hun) | (refine x4_3 (hT'.plain_of nws n34) ?_; intro x rs v hq20 hv hall hun) | (refine x5_2 (hT'.plain_of nws n34) ?_; intro x rs v hq20 hv hall hun) | (refine x6_1 (hT'.plain_of nws n34) ?_; intro x rs v hq20 hv hall hun) | obtain ⟨x, rs, v, hq20, hv, hall, hun⟩ := hT'.plain_of nws n34
      obtain rfl := hq20
      have hd1 := drop_succ hdr
      have n92 : c ≠ 92 := fun e => by rw [eq92.mpr e] at hq; cases hq
      have hrem : c = x ∧ rem = rs.flatMap encU ++ v :: rest := by
        obtain ⟨t, ⟨e, rfl, h1, h2, h3⟩ | ⟨e, rfl, -⟩⟩ := encU_head x
        · rw [e] at hun; cases hun; exact ⟨rfl, rfl⟩
        · rw [e] at hun; cases hun; exact absurd rfl n92
      first | (refine x0_2 hrem ?_; (try clear hrem); intro hq21 hrem) | (refine x1_1 hrem ?_; (try clear hrem); intro hq21 hrem) | obtain ⟨hq21, hrem⟩ := hrem
      obtain rfl := hq21
      rw [← hS, hrem] at hd1
      rename Fr _ _ _ _ => F3
      rename News _ _ _ _ => N3
      refine' lex_for (T := T) (s₀ := s) (news := news) hR O' ?b ?x ?t C0 ?d ?u ?i ?nn (fun n p ac => ∃ todo, c :: rs = ac ++ todo ∧ T.cps.toList.drop p = todo.flatMap encU ++ v :: rest ∧ n = todo.length ∧ p + (T.cps.toList.drop p).length = pos + (T.cps.toList.drop pos).length) (n₀ := rs.length) (pos₀ := S.pos) (ac₀ := [c]) ⟨rs, rfl, hd1, rfl, ?l⟩ ?hb ?st ?turn ?done ?e rfl rfl
      case b => k_asm
      case x => k_asm
      case t => k_asm
      case d => ktr_room
      case u => first | exact gU (by assumption) (by decide) | ktr_units
      case e => passes_own
      case i => omega
      case nn => exact nnI
      case l => rw [hdr, hrem] at hh; rw [hd1]; simp only [List.length_cons] at hh; omega
      case hb =>
        intro n p ac hq22
        first | (refine x0_5 hq22 ?_; (try clear hq22); intro _ _ _ _ hh) | (refine x1_4 hq22 ?_; (try clear hq22); intro _ _ _ _ hh) | (refine x2_3 hq22 ?_; (try clear hq22); intro _ _ _ _ hh) | (refine x3_2 hq22 ?_; (try clear hq22); intro _ _ _ _ hh) | (refine x4_1 hq22 ?_; (try clear hq22); intro _ _ _ _ hh) | obtain ⟨_, _, _, _, hh⟩ := hq22
        rw [List.length_drop, List.length_drop, Array.length_toList] at hh
        exact gA hh hp hTl
      case st =>
        refine' (Stand.mk' (S := S) rfl rfl hI hl' F3 (fun y => ?m6) N3)
        case m6 => (have e0 : acS [] ++ acS [c] = acS [c] := ac_app [] c); rw [← e0]; exact lm_tok
      case done =>
        intro n p ac hq23 he2
        obtain ⟨todo, -, hdp, -, -⟩ := hq23
        rw [chr1_eq he2] at hdp
        simp at hdp
      case turn =>
        intro n p ac hq24 he2 h tk S m tt t' hS hI hl' F hm N
        first | (refine x0_5 hq24 ?_; (try clear hq24); intro todo hrr hdp hq25 hlen) | (refine x1_4 hq24 ?_; (try clear hq24); intro todo hrr hdp hq25 hlen) | (refine x2_3 hq24 ?_; (try clear hq24); intro todo hrr hdp hq25 hlen) | (refine x3_2 hq24 ?_; (try clear hq24); intro todo hrr hdp hq25 hlen) | (refine x4_1 hq24 ?_; (try clear hq24); intro todo hrr hdp hq25 hlen) | obtain ⟨todo, hrr, hdp, hq25, hlen⟩ := hq24
        obtain rfl := hq25
        refine opaq fun KQ2 hKQ2 => ?_
        first | (refine x0_3 (chr1_ne he2) ?_; intro c2 rem2 hdr2) | (refine x1_2 (chr1_ne he2) ?_; intro c2 rem2 hdr2) | (refine x2_1 (chr1_ne he2) ?_; intro c2 rem2 hdr2) | obtain ⟨c2, rem2, hdr2⟩ := chr1_ne he2
        have hps2 := drop_len hdr2
        have hall2 : ∀ y ∈ todo, y ≠ 10 ∧ y ≠ 9 ∧ y ≠ 13 := fun y hy => hall y (by rw [hrr]; exact List.mem_append_right _ hy)
        rw [chr1_cons hdr2] at hm
        have hF := frExt F hm
        clear F hm
        dsimp only [lexL] at N
        have hl1 : (acS [c2]).length = 1 := rfl
        have hl2 : (acS ac).length ≤ 1000000 := by (show ac.toArray.size ≤ _); rw [hrr, List.length_append] at hrl; rw [List.size_toArray]; omega
        k_steps
        · rename List.isEmpty _ = true => hw2
          rename (acS [c2] == Str.ofString "\\") = true => hq
          obtain rfl := eq92.mp hq
          have hnw := (ws_in 92).mp hw2
          rw [hdr2] at hdp
          obtain ⟨hw, -, -⟩ | ⟨x2, t, rfl, -, -, rfl⟩ | ⟨t, -, -, -, h92, -⟩ := unitU hv hall2 hdp
          · exact absurd hw hnw
          · have hx := drop_succ hdr2
            rw [← hS] at hx
            refine hKQ2.out _ _ ?_
            try dsimp only
            k_steps
            try (refine hKQ1.out _ _ ?_; (try dsimp only); k_steps)
            refine' LoopE.mk' t.length (S.pos + 1) (ac ++ [x2]) ?a1 ⟨t, ?a2, drop_succ hx, rfl, ?a3⟩ (Stand.mk' (S := ⟨_, _, _, _, _, _, _⟩) rfl rfl hI ?a4 ?a5 (fun y => ?a6) ?a7)
            case a5 => k_asm
            case a7 => k_asm
            case a1 => simp
            case a2 => rw [hrr]; simp
            case a3 =>
              have hx2 := drop_succ hx
              rw [hx2]
              rw [hdr2, List.length_cons, List.length_cons] at hlen; first | exact gB hlen hS | exact gC hlen hS | exact gE hlen | omega
            case a4 => (try dsimp only); first | exact gF (by assumption) | exact gF2 (by assumption) | omega
            case a6 => rw [← ac_app, ← chr1_cons hx]; exact lm_tokch
          · exact absurd rfl h92
        · rename List.isEmpty _ = true => hw2
          rename (acS [c2] == Str.ofString "\\") = false => hq
          have hnw := (ws_in c2).mp hw2
          have n92' : c2 ≠ 92 := fun e => by rw [eq92.mpr e] at hq; cases hq
          rw [hdr2] at hdp
          obtain ⟨hw, -, -⟩ | ⟨x2, t, -, h92, -, -⟩ | ⟨t, rfl, -, -, -, rfl⟩ := unitU hv hall2 hdp
          · exact absurd hw hnw
          · exact absurd h92 n92'
          · refine hKQ2.out _ _ ?_
            try dsimp only
            k_steps
            try (refine hKQ1.out _ _ ?_; (try dsimp only); k_steps)
            refine' LoopE.mk' t.length S.pos (ac ++ [c2]) ?a1 ⟨t, ?a2, ?a3, rfl, ?a4⟩ (Stand.mk' (S := S) rfl rfl hI hl' ?a5 (fun y => ?a6) ?a7)
            case a5 => k_asm
            case a7 => k_asm
            case a1 => simp
            case a2 => rw [hrr]; simp
            case a3 => rw [hS]; exact drop_succ hdr2
            case a4 =>
              rw [hS, drop_succ hdr2]
              rw [hdr2, List.length_cons] at hlen; first | exact gB hlen hS | exact gC hlen hS | exact gE hlen | omega
            case a6 => rw [← ac_app]; exact lm_tok
        · rename List.isEmpty _ = false => hw2
          have hwc : isWs c2 := Classical.byContradiction fun q => by rw [(ws_in c2).mpr q] at hw2; cases hw2
          rw [hdr2] at hdp
          obtain ⟨-, rfl, rfl⟩ | ⟨x2, t, -, -, hnw, -⟩ | ⟨t, -, hnw, -⟩ := unitU hv hall2 hdp
          · rw [List.append_nil] at hrr
            rw [hrr] at hQ
            refine hKQ2.out _ _ ?_
            try dsimp only
            k_steps
            try (refine hKQ1.out _ _ ?_; (try dsimp only); k_steps)
            refine hQ S tt _ _ hI hl' ?_ ?_ (by k_asm) (cb_drop (news' := lexL w C S (_ :: _ :: news)) (by k_asm) lexL_drop)
            · rw [hS]; exact drop_succ hdr2
            · rw [hdr2, List.length_cons] at hlen; first | exact gB hlen hS | exact gC hlen hS | exact gE hlen | omega
          · exact absurd hwc hnw
          · exact absurd hwc hnw
    · rename List.isEmpty _ = false => hw2
      have hwc : isWs c := Classical.byContradiction fun q => by rw [(ws_in c).mpr q] at hw2; cases hw2
      have hd1 := drop_succ hdr
      refine hKQ1.out _ _ ?_
      try dsimp only
      refine' LoopE.mk' (rem.length + 1) S.pos [] ?a1 ⟨rfl, ?a2, ?a3, ?a4⟩ (Stand.mk' (S := S) rfl rfl hI hl' hF (fun y => rfl) N)
      case a1 => rw [hdr, List.length_cons]; omega
      case a2 => rw [hS, hd1]; exact hT'.ws_of hwc
      case a3 => rw [hS, hd1]
      case a4 => rw [hS, hd1]; rw [hdr, List.length_cons] at hh; omega
end
end
theorem flushG1 : if True then True else True := by (w_top off); first | (walk1; fail) | simp
end
section
open PySem PySem.W PySem.Calls PyProof.Rows
set_option maxRecDepth 100000
set_option maxHeartbeats 8000000
section
theorem fill3 : rw' = rw' ∧ K2 = K2 := by
  k_fill
  exact ⟨rfl, rfl⟩
local macro_rules | `(tactic| k_ne) => `(tactic| exact Nat.ne_of_lt (by with_reducible assumption))
theorem c_gtp {w : World} {p : Program} {loose : List Str} {mean : ExcName → Option Value} {mg mb : Str → Option Value} {outer : List Env} {A₀ : Around} {base h₀ : Heap} {L : Addr} {m : Str → Option Value} {news : List (Addr × Obj)} {s : Shared}
  {hdl : Option Value} {dp un : Nat} {gd : Option (List Code)} {cn : Str} {nm : List (Str × NameKind)} {mo : List (Str × Const)} {a : Addr} {ccd : Value} {cl : List (Str × Addr)} {R : Result → Shared → Prop}
  {C : LexC} {S : LexS} {v : Value} {rest : List Value} (O : LexO C news) (hi : S.items = v :: rest)
  (cx : Cx w p loose mean mg mb outer A₀ base h₀ L m s.heap (lexL w C S news)) (hd : dp + 13 < recursionLimit) (hu : un + 70 < cLine)
  (hsz : rest.length < 1000)
  (hQ : ∀ e' h' tk', Fr h₀ L h' m → News h₀ L h' (lexL w C { S with items := rest, e := e' } news) → R (.ok (.ret v)) { s with heap := h', toks := tk' }) :
  codeAny (model pr w) (top hdl dp un gd cn nm mo L a ccd cl outer) (.call (.ref 42) ⟨[.ref C.x], []⟩) R s := by
  first | (refine x0_6 cx ?_; (try clear cx); intro B F X N TT C0) | (refine x1_5 cx ?_; (try clear cx); intro B F X N TT C0) | (refine x2_4 cx ?_; (try clear cx); intro B F X N TT C0) | (refine x3_3 cx ?_; (try clear cx); intro B F X N TT C0) | (refine x4_2 cx ?_; (try clear cx); intro B F X N TT C0) | (refine x5_1 cx ?_; (try clear cx); intro B F X N TT C0) | obtain ⟨B, F, X, N, TT, C0⟩ := cx
  first | (refine x0_12 (id O) ?_; intro o1 o2 o3 o4 o5 o6 o7 o8 o9 nd nal nl) | (refine x1_11 (id O) ?_; intro o1 o2 o3 o4 o5 o6 o7 o8 o9 nd nal nl) | (refine x2_10 (id O) ?_; intro o1 o2 o3 o4 o5 o6 o7 o8 o9 nd nal nl) | (refine x3_9 (id O) ?_; intro o1 o2 o3 o4 o5 o6 o7 o8 o9 nd nal nl) | (refine x4_8 (id O) ?_; intro o1 o2 o3 o4 o5 o6 o7 o8 o9 nd nal nl) | (refine x5_7 (id O) ?_; intro o1 o2 o3 o4 o5 o6 o7 o8 o9 nd nal nl) | (refine x6_6 (id O) ?_; intro o1 o2 o3 o4 o5 o6 o7 o8 o9 nd nal nl) | (refine x7_5 (id O) ?_; intro o1 o2 o3 o4 o5 o6 o7 o8 o9 nd nal nl) | (refine x8_4 (id O) ?_; intro o1 o2 o3 o4 o5 o6 o7 o8 o9 nd nal nl) | (refine x9_3 (id O) ?_; intro o1 o2 o3 o4 o5 o6 o7 o8 o9 nd nal nl) | (refine x10_2 (id O) ?_; intro o1 o2 o3 o4 o5 o6 o7 o8 o9 nd nal nl) | obtain ⟨o1, o2, o3, o4, o5, o6, o7, o8, o9, nd, nal, nl⟩ := id O
  have f8 := Nat.lt_trans o8 o9
  have f7 := Nat.lt_trans o7 f8
  have f6 := Nat.lt_trans o6 f7
  have f5 := Nat.lt_trans o5 f6
  have f4 := Nat.lt_trans o4 f5
  have f3 := Nat.lt_trans o3 f4
  have f2 := Nat.lt_trans o2 f3
  have f1 := Nat.lt_trans o1 f3
  first | (refine x0_7 S ?_; (try clear S); intro ln t1 items e pos tp e2) | (refine x1_6 S ?_; (try clear S); intro ln t1 items e pos tp e2) | (refine x2_5 S ?_; (try clear S); intro ln t1 items e pos tp e2) | (refine x3_4 S ?_; (try clear S); intro ln t1 items e pos tp e2) | (refine x4_3 S ?_; (try clear S); intro ln t1 items e pos tp e2) | (refine x5_2 S ?_; (try clear S); intro ln t1 items e pos tp e2) | (refine x6_1 S ?_; (try clear S); intro ln t1 items e pos tp e2) | obtain ⟨ln, t1, items, e, pos, tp, e2⟩ := S
  dsimp only at hi
  subst hi
  dsimp only [lexL] at N hQ
  k_dflt k_enter
  k_steps
  refine' kl_popAt (k := 0) (p := []) (q := rest) (y := v) ?F ?N ?f ?k ?e ?U ?z ?_
  case F => k_asm
  case N => k_asm
  case U => k_upd
  case f => exact rfl
  case k => (unfold seqIndex?; simp; done)
  case e => exact rfl
  case z => rw [sizeLine_eq]; simp only [List.length_cons]; omega
  intro h2 F2 N2
  k_steps
  exact hQ _ _ _ (by k_asm) (by k_asm)
theorem c_pt {w : World} {p : Program} {loose : List Str} {mean : ExcName → Option Value} {mg mb : Str → Option Value} {outer : List Env} {A₀ : Around} {base h₀ : Heap} {L : Addr} {m : Str → Option Value} {news : List (Addr × Obj)} {s : Shared}
  {hdl : Option Value} {dp un : Nat} {gd : Option (List Code)} {cn : Str} {nm : List (Str × NameKind)} {mo : List (Str × Const)} {a : Addr} {ccd : Value} {cl : List (Str × Addr)} {R : Result → Shared → Prop}
  {C : LexC} {S : LexS} {v : Str} {tv : Tok} (O : LexO C news)
  (cx : Cx w p loose mean mg mb outer A₀ base h₀ L m s.heap (lexL w C S news)) (hd : dp + 13 < recursionLimit) (hu : un + 70 < cLine)
  (hsz : S.items.length < 1000)
  (hQ : ∀ e' h' tk', Fr h₀ L h' m → News h₀ L h' (lexL w C { S with items := S.items ++ [.str v tv], e := e' } news) → R (.ok (.ret .none)) { s with heap := h', toks := tk' }) :
  codeAny (model pr w) (top hdl dp un gd cn nm mo L a ccd cl outer) (.call (.ref 49) ⟨[.ref C.x, .str v tv], []⟩) R s := by
  first | (refine x0_6 cx ?_; (try clear cx); intro B F X N TT C0) | (refine x1_5 cx ?_; (try clear cx); intro B F X N TT C0) | (refine x2_4 cx ?_; (try clear cx); intro B F X N TT C0) | (refine x3_3 cx ?_; (try clear cx); intro B F X N TT C0) | (refine x4_2 cx ?_; (try clear cx); intro B F X N TT C0) | (refine x5_1 cx ?_; (try clear cx); intro B F X N TT C0) | obtain ⟨B, F, X, N, TT, C0⟩ := cx
  first | (refine x0_12 (id O) ?_; intro o1 o2 o3 o4 o5 o6 o7 o8 o9 nd nal nl) | (refine x1_11 (id O) ?_; intro o1 o2 o3 o4 o5 o6 o7 o8 o9 nd nal nl) | (refine x2_10 (id O) ?_; intro o1 o2 o3 o4 o5 o6 o7 o8 o9 nd nal nl) | (refine x3_9 (id O) ?_; intro o1 o2 o3 o4 o5 o6 o7 o8 o9 nd nal nl) | (refine x4_8 (id O) ?_; intro o1 o2 o3 o4 o5 o6 o7 o8 o9 nd nal nl) | (refine x5_7 (id O) ?_; intro o1 o2 o3 o4 o5 o6 o7 o8 o9 nd nal nl) | (refine x6_6 (id O) ?_; intro o1 o2 o3 o4 o5 o6 o7 o8 o9 nd nal nl) | (refine x7_5 (id O) ?_; intro o1 o2 o3 o4 o5 o6 o7 o8 o9 nd nal nl) | (refine x8_4 (id O) ?_; intro o1 o2 o3 o4 o5 o6 o7 o8 o9 nd nal nl) | (refine x9_3 (id O) ?_; intro o1 o2 o3 o4 o5 o6 o7 o8 o9 nd nal nl) | (refine x10_2 (id O) ?_; intro o1 o2 o3 o4 o5 o6 o7 o8 o9 nd nal nl) | obtain ⟨o1, o2, o3, o4, o5, o6, o7, o8, o9, nd, nal, nl⟩ := id O
  have f8 := Nat.lt_trans o8 o9
  have f7 := Nat.lt_trans o7 f8
  have f6 := Nat.lt_trans o6 f7
  have f5 := Nat.lt_trans o5 f6
  have f4 := Nat.lt_trans o4 f5
  have f3 := Nat.lt_trans o3 f4
  have f2 := Nat.lt_trans o2 f3
  have f1 := Nat.lt_trans o1 f3
  first | (refine x0_7 S ?_; (try clear S); intro ln t1 items e pos tp e2) | (refine x1_6 S ?_; (try clear S); intro ln t1 items e pos tp e2) | (refine x2_5 S ?_; (try clear S); intro ln t1 items e pos tp e2) | (refine x3_4 S ?_; (try clear S); intro ln t1 items e pos tp e2) | (refine x4_3 S ?_; (try clear S); intro ln t1 items e pos tp e2) | (refine x5_2 S ?_; (try clear S); intro ln t1 items e pos tp e2) | (refine x6_1 S ?_; (try clear S); intro ln t1 items e pos tp e2) | obtain ⟨ln, t1, items, e, pos, tp, e2⟩ := S
  dsimp only at hsz
  dsimp only [lexL] at N hQ
  k_dflt k_enter
  k_steps
  rename News h₀ L _ _ => kN
  rw [List.push_toArray] at kN
  exact hQ _ _ _ (by k_asm) kN
end
end
theorem flushG2 : if True then True else True := by (w_top off); first | (walk1; fail) | simp
section
open PySem PySem.W PySem.Calls PyProof.Rows
set_option maxRecDepth 100000
set_option maxHeartbeats 1000000
section
theorem fillO : rw' = rw' ∧ K2 = K2 := by
  k_fill
  exact ⟨rfl, rfl⟩
noncomputable def Halt (P : Prop) : Prop := P
theorem halt {P : Prop} (h : Halt P) : P := h
/-- the operators: the text and the number -/
noncomputable def OPS : List (List Nat × Nat) := [([33], 54), ([33, 61], 28), ([37], 24), ([37, 61], 40), ([38], 19), ([38, 61], 41), ([40], 7), ([41], 8), ([42], 16), ([42, 42], 35), ([42, 42, 61], 46), ([42, 61], 38), ([43], 14), ([43, 61], 36), ([44], 12), ([45], 15), ([45, 61], 37), ([45, 62], 51), ([46], 23), ([46, 46, 46], 52), ([47], 17), ([47, 47], 47), ([47, 47, 61], 48), ([47, 61], 39), ([58], 11), ([58, 61], 53), ([59], 13), ([60], 20), ([60, 60], 33), ([60, 60, 61], 44), ([60, 61], 29), ([61], 22), ([61, 61], 27), ([62], 21), ([62, 61], 30), ([62, 62], 34), ([62, 62, 61], 45), ([64], 49), ([64, 61], 50), ([91], 9), ([93], 10), ([94], 32), ([94, 61], 43), ([123], 25), ([124], 18), ([124, 61], 42), ([125], 26), ([126], 31)]
theorem OPS_len : OPS.length = 48 := rfl
theorem OPS_nodup : (OPS.map (·.2)).Nodup := by decide
theorem lk108 (P : Params) : ∃ es n, (K2 P).lookup 108 = some ⟨.type "dict", none, .dict es n, #[]⟩ ∧ KeysLit P es.toList := ⟨_, _, by k_is, by k_keys⟩
/-- the dict of the operators' texts -/
theorem pairs_of {prog : Program} {w : World} : ∀ {l : List DictEntry}, KeysLit w.params l → ∃ kvs : List (Str × Value), Pairs (PySem.strKind prog w) l kvs ∧ kvs = l.map fun e => ((match e.key with | .str x _ => x | _ => ⟨#[]⟩), e.val)
  | [], _ => ⟨[], .nil, rfl⟩
  | e :: r, h => by
    obtain ⟨⟨x, t, e1, _⟩, h2⟩ := h
    obtain ⟨kvs, p, q⟩ := pairs_of (prog := prog) h2
    refine ⟨(x, e.val) :: kvs, .cons (by rw [e1]; exact strKind_is prog w x t) rfl p, ?_⟩
    rw [List.map_cons, ← q, e1]
/-- the entries of the dict 108 -/
theorem dict108 {w : World} {h : Heap} (X : (K2 w.params).In h) : ∃ kvs : List (Str × Value), (∃ ep, h.DictAt (PySem.strKind pr w) 108 kvs ep) ∧ kvs.map (·.1) = OPS.map fun p => acS p.1 := by
  obtain ⟨es, n, hl, hk, he⟩ : ∃ es n, (K2 w.params).lookup 108 = some ⟨.type "dict", none, .dict es n, #[]⟩ ∧ KeysLit w.params es.toList ∧ (es.toList.map fun e => (match e.key with | .str x _ => x | _ => (⟨#[]⟩ : Str))) = OPS.map fun p => acS p.1 := ⟨_, _, by k_is, by k_keys, by kernel_rfl⟩
  obtain ⟨kvs, hp, q⟩ := pairs_of (prog := pr) hk
  have hq : kvs.map (·.1) = OPS.map fun p => acS p.1 := by rw [q, List.map_map]; exact he
  refine ⟨kvs, ⟨n, _, es, X _ _ hl, ⟨rfl, rfl, rfl⟩, rfl, fun e he => ?_, hp, ?_⟩, hq⟩
  · obtain ⟨x, t, e1, e2⟩ := hk.all e (Array.mem_toList_iff.mpr he)
    exact ⟨x, by rw [e1]; exact strKind_is pr w x t, e2⟩
  · rw [hq]
    decide
theorem in108 (P : Params) : ∀ p ∈ OPS, ∃ t, nsIn (K2 P) 108 (acS p.1) = some (some (.int (p.2 : Int) t)) := by
  unfold OPS
  repeat (first | refine List.forall_mem_cons.mpr ⟨⟨_, by (dsimp only; k_is)⟩, ?_⟩ | exact List.forall_mem_nil _)
end
end
theorem flushO1 : if True then True else True := by (w_top off); first | (walk1; fail) | simp
section
local macro_rules | `(tactic| walk_at "compareOp NotEq str str") => `(tactic| refine neF (by assumption) ?_)
section
open PySem PySem.W PySem.Calls PyProof.Rows
set_option maxRecDepth 100000
set_option maxHeartbeats 8000000
section
theorem fill4 : rw' = rw' ∧ K2 = K2 := by
  k_fill
  exact ⟨rfl, rfl⟩
section
variable {prog : Program} {w : World} {A : Around} {Q E : Value → Shared → Prop} {s : Shared}
theorem findF {x y : Str} {t u v : Tok} {i k : Int} (hf : Txt.find3 x y i = k) (hq : Q (.int k s.toks) { s with toks := s.toks + 1 }) : wpAny (model prog w) A (call (.builtin "str.find") [.str x t, .str y u, .int i v]) Q E s := by
  subst hf
  exact SC.find3 hq
theorem findG {x y : Str} {t u : Tok} {k : Int} (hf : Txt.find x y = k) (hq : Q (.int k s.toks) { s with toks := s.toks + 1 }) : wpAny (model prog w) A (call (.builtin "str.find") [.str x t, .str y u]) Q E s := by
  subst hf
  exact SC.find hq
theorem neF {x y : Str} {t u : Tok} {b : Bool} (hf : (x != y) = b) (hq : Q (.bool b) s) : wpAny (model prog w) A (compareOp .NotEq (.str x t) (.str y u)) Q E s := by
  subst hf
  exact PyProof.Rows.ne_str hq
theorem map1 {α β : Type} {l : List (α × β)} {a : α} {as : List α} (h : l.map (·.1) = a :: as) : ∃ t l', l = (a, t) :: l' ∧ l'.map (·.1) = as := by
  cases l with
  | nil => cases h
  | cons x l =>
    first | (refine x0_2 x ?_; (try clear x); intro y t) | (refine x1_1 x ?_; (try clear x); intro y t) | obtain ⟨y, t⟩ := x
    exact ⟨t, l, by rw [(List.cons.inj h).1.symm], (List.cons.inj h).2⟩
theorem splF {h₀ : Heap} {L : Addr} {m : Str → Option Value} {news : List (Addr × Obj)} {x y a b c d e : Str} {t u : Tok} (hF : Fr h₀ L s.heap m) (hN : News h₀ L s.heap news) (hy : (y.length == 0) = false) (hsz : x.length + 2 ≤ sizeLine) (hs : Txt.split x y = [a, b, c, d, e])
    (h : ∀ D t1 t2 t3 t4 t5 h' k, Fr h₀ L h' m → News h₀ L h' ((D, listOf #[.str a t1, .str b t2, .str c t3, .str d t4, .str e t5] 0) :: news) → (∀ p ∈ news, p.1 < D) → Q (.ref D) { s with heap := h', toks := k }) :
    wpAny (model prog w) A (call (.builtin "str.split") [.str x t, .str y u]) Q E s := by
  refine KSpl.split1 hF hN hy (fun D l h' k he _ F N hlt => ?_) hsz
  rw [hs] at he
  first | (refine x0_4 (map1 he) ?_; intro t1 l1 hq1 he1) | (refine x1_3 (map1 he) ?_; intro t1 l1 hq1 he1) | (refine x2_2 (map1 he) ?_; intro t1 l1 hq1 he1) | (refine x3_1 (map1 he) ?_; intro t1 l1 hq1 he1) | obtain ⟨t1, l1, hq1, he1⟩ := map1 he
  obtain rfl := hq1
  first | (refine x0_4 (map1 he1) ?_; intro t2 l2 hq2 he2) | (refine x1_3 (map1 he1) ?_; intro t2 l2 hq2 he2) | (refine x2_2 (map1 he1) ?_; intro t2 l2 hq2 he2) | (refine x3_1 (map1 he1) ?_; intro t2 l2 hq2 he2) | obtain ⟨t2, l2, hq2, he2⟩ := map1 he1
  obtain rfl := hq2
  first | (refine x0_4 (map1 he2) ?_; intro t3 l3 hq3 he3) | (refine x1_3 (map1 he2) ?_; intro t3 l3 hq3 he3) | (refine x2_2 (map1 he2) ?_; intro t3 l3 hq3 he3) | (refine x3_1 (map1 he2) ?_; intro t3 l3 hq3 he3) | obtain ⟨t3, l3, hq3, he3⟩ := map1 he2
  obtain rfl := hq3
  first | (refine x0_4 (map1 he3) ?_; intro t4 l4 hq4 he4) | (refine x1_3 (map1 he3) ?_; intro t4 l4 hq4 he4) | (refine x2_2 (map1 he3) ?_; intro t4 l4 hq4 he4) | (refine x3_1 (map1 he3) ?_; intro t4 l4 hq4 he4) | obtain ⟨t4, l4, hq4, he4⟩ := map1 he3
  obtain rfl := hq4
  first | (refine x0_4 (map1 he4) ?_; intro t5 l5 hq5 he5) | (refine x1_3 (map1 he4) ?_; intro t5 l5 hq5 he5) | (refine x2_2 (map1 he4) ?_; intro t5 l5 hq5 he5) | (refine x3_1 (map1 he4) ?_; intro t5 l5 hq5 he5) | obtain ⟨t5, l5, hq5, he5⟩ := map1 he4
  obtain rfl := hq5
  obtain rfl := List.map_eq_nil_iff.mp he5
  exact h D t1 t2 t3 t4 t5 h' k F N hlt
end
local macro_rules | `(tactic| walk_at "call builtin:str.find") => `(tactic| first | (refine findF (by assumption) ?_) | (refine findG (by assumption) ?_))
local macro_rules | `(tactic| walk_at "call builtin:str.split") => `(tactic| (refine splF (by k_asm) (by k_asm) (by assumption) (by size_fits) (by assumption) ?_; intro D' t1 t2 t3 t4 t5 h' k' F' N' l1; (try k_lt l1)))
local macro_rules | `(tactic| walk_at "call type:int") => `(tactic| refine KIN.call_text (by assumption) (Nat.le_trans (Nat.le_of_eq (by assumption)) (by decide)) ?_)
theorem c_symN {w : World} {p : Program} {loose : List Str} {mean : ExcName → Option Value} {mg mb : Str → Option Value} {outer : List Env} {A₀ : Around} {base h₀ : Heap} {L : Addr} {m : Str → Option Value} {news : List (Addr × Obj)} {s : Shared}
  {dp un : Nat} {gd : Option (List Code)} {cn : Str} {nm : List (Str × NameKind)} {mo : List (Str × Const)} {a : Addr} {ccd : Value} {cl : List (Str × Addr)} {R : Result → Shared → Prop}
  {W d : Str} {n : Int} {tw : Tok}
  (cx : Cx w p loose mean mg mb outer A₀ base h₀ L m s.heap news) (hd : dp + 13 < recursionLimit) (hu : un + 70 < cLine)
  (hWl : W.length = 13)
  (h0 : (Txt.slice W none (some 3) != Str.ofString "229") = false) (h1 : Txt.find W (Str.ofString "(") = 4) (h2 : Txt.find3 W (Str.ofString ")") (4 + 1) = 12)
  (h3 : (Txt.item W (4 + 1) != Txt.item W (12 - 1)) = false) (h4 : ((Txt.item W (4 + 1)).length == 0) = false)
  (h5 : Txt.split (Txt.slice W (some (4 + 1)) (some 12)) (Txt.item W (4 + 1)) = [Str.ofString "", Str.ofString "", Str.ofString "", d, Str.ofString ""])
  (h6 : d.length = 3) (h7 : PySem.intText? d = some n)
  (hQ : ∀ t h' tk', Fr h₀ L h' m → News h₀ L h' news → R (.ok (.ret (.int n t))) { s with heap := h', toks := tk' }) :
  codeAny (model pr w) (top none dp un gd cn nm mo L a ccd cl outer) (.call (.ref 150) ⟨[.str W tw], []⟩) R s := by
  first | (refine x0_6 cx ?_; (try clear cx); intro B F X N TT C0) | (refine x1_5 cx ?_; (try clear cx); intro B F X N TT C0) | (refine x2_4 cx ?_; (try clear cx); intro B F X N TT C0) | (refine x3_3 cx ?_; (try clear cx); intro B F X N TT C0) | (refine x4_2 cx ?_; (try clear cx); intro B F X N TT C0) | (refine x5_1 cx ?_; (try clear cx); intro B F X N TT C0) | obtain ⟨B, F, X, N, TT, C0⟩ := cx
  k_dflt k_enter
  k_steps
  exact hQ _ _ _ (by k_asm) (cb_drop (by assumption) (by intro p hp; repeat (first | exact hp | refine List.Mem.tail _ ?_)))
end
end
theorem flushS3 : if True then True else True := by (w_top off); first | (walk1; fail) | simp
section
open PySem PySem.W PySem.Calls PyProof.Rows
set_option maxRecDepth 100000
set_option maxHeartbeats 2000000
section
theorem fill6 : rw' = rw' ∧ K2 = K2 := by
  k_fill
  exact ⟨rfl, rfl⟩
section
variable {prog : Program} {w : World} {A : Around} {Q E : Value → Shared → Prop} {s : Shared}
theorem eqF {x y : Str} {t u : Tok} {b : Bool} (hf : (x == y) = b) (hq : Q (.bool b) s) : wpAny (model prog w) A (compareOp .Eq (.str x t) (.str y u)) Q E s := by
  subst hf
  exact PyProof.Rows.eq_str hq
theorem itemF {value slice : Expr} {x c : Str} {t u : Tok} {i : Int} (hf : Txt.item x i = c) (h0 : 0 ≤ i) (h1 : i < (x.length : Int)) (hn : x.length ≤ 16777216) (h : Q (.str c s.toks) { s with toks := s.toks + 1 })
    (hs : subscripted slice false (.str x t) (.int i u) = operate [.str x t, .int i u] (getItem (.str x t) (.int i u)) := by with_unfolding_all rfl)
    (ht : ∀ r, letTemporaryGo value (.str x t) r = pure () := by intro _; with_unfolding_all rfl) :
    wpAny (model prog w) A (subscriptTail value slice (.str x t) (.int i u)) Q E s := by
  subst hf
  exact KXi.item rfl (by omega) h1 hn (fun _ => h) hs ht
end
noncomputable def LoopN (I : Nat → Shared → Prop) (n : Nat) (s : Shared) : Prop := ∃ m, m < n ∧ I m s
theorem whileN {prog : Program} {w : World} {A : Around} {R : Result → Shared → Prop} {test : Expr} {body orelse : List Stmt} {env : Env} (I : Nat → Shared → Prop) (n : Nat) {s : Shared} (h0 : I n s)
    (turn : ∀ n s, I n s →
      wpAny (model prog w) A (isTrue test env (eval test env)) (fun b s₂ =>
        if b then wpAny (model prog w) A (execs body env) (fun f s₃ => match f with
            | .next | .cont => LoopN I n s₃
            | .brk => R (.ok .next) s₃
            | .ret v => R (.ok (.ret v)) s₃) (notedBy (model prog w) A env fun e s' => R (.error e) s') s₂
        else wpAny (model prog w) A (execs orelse env) (fun f s₃ => R (.ok f) s₃) (notedBy (model prog w) A env fun e s' => R (.error e) s') s₂)
        (notedBy (model prog w) A env fun e s' => R (.error e) s') s) : codeAny (model prog w) A (.whileLoop test body orelse env) R s := by
  refine codeAny_whileLoop I (fun n s h => wpAny_mono (turn n s h) (fun b s₂ hb => ?_) fun _ _ z => z) n h0
  cases b with
  | false => exact hb
  | true =>
    refine wpAny_mono (E := notedBy (model prog w) A env fun e s' => R (.error e) s') hb (fun f s₃ h₃ => ?_) fun _ _ z => z
    cases f <;> exact h₃
theorem frAt {g h : Heap} {L : Addr} {m : Str → Option Value} (_ : Fr g L h m) : ∃ g' L', g' = g ∧ L' = L := ⟨_, _, rfl, rfl⟩
theorem ext5 {f g : Str → Option Value} (a b c d e : Str) (ha : f a = g a) (hb : f b = g b) (hc : f c = g c) (hd : f d = g d) (he : f e = g e)
    (hr : ∀ y, y ≠ a → y ≠ b → y ≠ c → y ≠ d → y ≠ e → f y = g y) : ∀ y, f y = g y := fun y => by
  by_cases h1 : y = a
  · rw [h1]; exact ha
  by_cases h2 : y = b
  · rw [h2]; exact hb
  by_cases h3 : y = c
  · rw [h3]; exact hc
  by_cases h4 : y = d
  · rw [h4]; exact hd
  by_cases h5 : y = e
  · rw [h5]; exact he
  exact hr y h1 h2 h3 h4 h5
noncomputable abbrev lm57 (resp dir i n c : Option Value) : Str → Option Value := fun y => if y = Str.ofString "c" then c else if y = Str.ofString "i" then i else if y = Str.ofString "dirname" then dir else if y = Str.ofString "n" then n else if y = Str.ofString "resp" then resp else none
local macro_rules | `(tactic| walk_at "exec") => `(tactic| refine wpAny_While ?_)
local macro_rules | `(tactic| walk_at "compareOp Eq str str") => `(tactic| refine eqF (by assumption) ?_)
local macro_rules | `(tactic| walk_at "subscriptTail Name Name str int") => `(tactic| (refine itemF (by assumption) (by omega) (by omega) (by omega) ?_))
noncomputable def I57 (W : Str) (ops : List Nat) (g : Heap) (L : Addr) (news : List (Addr × Obj)) (s : Shared) (k : Nat) (s' : Shared) : Prop :=
  ∃ j h tk m' ti td tr tn cv, j ≤ ops.length ∧ k = ops.length + 1 - j ∧ s' = { s with heap := h, toks := tk } ∧ Fr g L h m' ∧
    (∀ y, m' y = lm57 (some (.str W tr)) (some (.str (acS (ops.take j)) td)) (some (.int ((5 + j : Nat) : Int) ti)) (some (.int (W.length : Int) tn)) cv y) ∧ News g L h news
theorem c_257 {w : World} {p : Program} {loose : List Str} {mean : ExcName → Option Value} {mg mb : Str → Option Value} {outer : List Env} {A₀ : Around} {base h₀ : Heap} {L : Addr} {m : Str → Option Value} {news : List (Addr × Obj)} {s : Shared}
  {hdl : Option Value} {dp un : Nat} {gd : Option (List Code)} {cn : Str} {nm : List (Str × NameKind)} {mo : List (Str × Const)} {a : Addr} {ccd : Value} {cl : List (Str × Addr)} {R : Result → Shared → Prop}
  {W : Str} {tw : Tok} {ops : List Nat}
  (cx : Cx w p loose mean mg mb outer A₀ base h₀ L m s.heap news) (hd : dp + 12 < recursionLimit) (hu : un + 60 < cLine)
  (ho : ops.length ≤ 4) (hWl : W.length = 6 + ops.length)
  (h1 : (Txt.slice W none (some 3) != Str.ofString "257") = false) (h2 : (Txt.slice W (some 3) (some 5) != Str.ofString " \"") = false)
  (h3 : ∀ j, (hj : j < ops.length) → Txt.item W ((5 + j : Nat) : Int) = acS [ops[j]]) (h4 : Txt.item W ((5 + ops.length : Nat) : Int) = Str.ofString "\"") (h5 : ∀ c ∈ ops, c ≠ 34)
  (hQ : ∀ t h' tk', Fr h₀ L h' m → News h₀ L h' news → R (.ok (.ret (.str (acS ops) t))) { s with heap := h', toks := tk' }) :
  codeAny (model pr w) (top hdl dp un gd cn nm mo L a ccd cl outer) (.call (.ref 107) ⟨[.str W tw], []⟩) R s := by
  first | (refine x0_6 cx ?_; (try clear cx); intro B F X N TT C0) | (refine x1_5 cx ?_; (try clear cx); intro B F X N TT C0) | (refine x2_4 cx ?_; (try clear cx); intro B F X N TT C0) | (refine x3_3 cx ?_; (try clear cx); intro B F X N TT C0) | (refine x4_2 cx ?_; (try clear cx); intro B F X N TT C0) | (refine x5_1 cx ?_; (try clear cx); intro B F X N TT C0) | obtain ⟨B, F, X, N, TT, C0⟩ := cx
  have hWl' : W.length ≤ 100 := by omega
  k_dflt k_enter
  k_steps
  rename Fr _ _ _ _ => F2
  rename News _ _ _ _ => N2
  first | (refine x0_4 (frAt F2) ?_; intro g5 L5 hq1 hq2) | (refine x1_3 (frAt F2) ?_; intro g5 L5 hq1 hq2) | (refine x2_2 (frAt F2) ?_; intro g5 L5 hq1 hq2) | (refine x3_1 (frAt F2) ?_; intro g5 L5 hq1 hq2) | obtain ⟨g5, L5, hq1, hq2⟩ := frAt F2
  obtain rfl := hq1
  obtain rfl := hq2
  refine whileN (I57 W ops g5 L5 news s) (ops.length + 1) ?st ?turn
  case st =>
    exact ⟨0, _, _, _, _, _, _, _, none, Nat.zero_le _, rfl, rfl, F2, ext5 (Str.ofString "c") (Str.ofString "i") (Str.ofString "dirname") (Str.ofString "n") (Str.ofString "resp") rfl rfl rfl rfl rfl (fun y h1 h2 h3 h4 h5 => by
        have h6 : (y == Str.ofString "resp") = false := by simpa using h5
        simp [lm57, h1, h2, h3, h4, h5, List.lookup, h6]), N2⟩
  case turn =>
    clear F2 N2
    intro k s' hq3
    first | (refine x1_14 hq3 ?_; (try clear hq3); intro j h tk m' ti td tr tn cv hj hq4 hq5 F3 hm N3) | (refine x2_13 hq3 ?_; (try clear hq3); intro j h tk m' ti td tr tn cv hj hq4 hq5 F3 hm N3) | (refine x3_12 hq3 ?_; (try clear hq3); intro j h tk m' ti td tr tn cv hj hq4 hq5 F3 hm N3) | (refine x4_11 hq3 ?_; (try clear hq3); intro j h tk m' ti td tr tn cv hj hq4 hq5 F3 hm N3) | (refine x5_10 hq3 ?_; (try clear hq3); intro j h tk m' ti td tr tn cv hj hq4 hq5 F3 hm N3) | (refine x6_9 hq3 ?_; (try clear hq3); intro j h tk m' ti td tr tn cv hj hq4 hq5 F3 hm N3) | (refine x7_8 hq3 ?_; (try clear hq3); intro j h tk m' ti td tr tn cv hj hq4 hq5 F3 hm N3) | (refine x8_7 hq3 ?_; (try clear hq3); intro j h tk m' ti td tr tn cv hj hq4 hq5 F3 hm N3) | (refine x9_6 hq3 ?_; (try clear hq3); intro j h tk m' ti td tr tn cv hj hq4 hq5 F3 hm N3) | (refine x10_5 hq3 ?_; (try clear hq3); intro j h tk m' ti td tr tn cv hj hq4 hq5 F3 hm N3) | obtain ⟨j, h, tk, m', ti, td, tr, tn, cv, hj, hq4, hq5, F3, hm, N3⟩ := hq3
    obtain rfl := hq4
    obtain rfl := hq5
    have hF := frExt F3 hm
    clear F3 hm
    have hl0 : (acS (ops.take j)).length ≤ 4 := by
      show (ops.take j).toArray.size ≤ 4
      simp; omega
    rcases Nat.lt_or_ge j ops.length with hlt | hge
    · have e1 := h3 j hlt
      have e2 : (acS [ops[j]] == Str.ofString "\"") = false := by
        rw [Bool.eq_false_iff]
        intro q
        exact h5 _ (List.getElem_mem hlt) (eq34.mp q)
      have hl1 : (acS [ops[j]]).length = 1 := rfl
      k_steps
      rename Fr _ _ _ _ => F3
      rename News _ _ _ _ => N3
      have q1 : acS (ops.take j) ++ acS [ops[j]] = acS (ops.take (j + 1)) := by
        rw [List.take_add_one, List.getElem?_eq_getElem hlt]
        exact ac_app _ _
      have q2 : ((5 + j : Nat) : Int) + 1 = ((5 + (j + 1) : Nat) : Int) := by omega
      rw [q1, q2] at F3
      exact ⟨ops.length - j, by omega, j + 1, _, _, _, _, _, _, _, _, hlt, by omega, rfl, F3, ext5 (Str.ofString "c") (Str.ofString "i") (Str.ofString "dirname") (Str.ofString "n") (Str.ofString "resp") rfl rfl rfl rfl rfl (fun y h1 h2 h3 h4 h5 => by
        simp [lm57, h1, h2, h3, h4, h5]), N3⟩
    · obtain rfl : j = ops.length := by omega
      have e2 : (Str.ofString "\"" == Str.ofString "\"") = true := by decide
      k_steps
      rw [List.take_length]
      exact hQ _ _ _ (by k_asm) (by k_asm)
end
end
theorem flushS5 : if True then True else True := by (w_top off); first | (walk1; fail) | simp
section
local macro_rules | `(tactic| walk_at "subscriptTail") => `(tactic| (k_here; k_dflt (refine' topItem_K ?F ?X ?l ?k ?e ?_; (case F | X => k_asm); (case l => k_is); (case k => k_keys); (case e => assumption))))
section
open PySem PySem.W PySem.Calls PyProof.Rows
set_option maxRecDepth 100000
set_option maxHeartbeats 1000000
section
theorem fill7 : rw' = rw' ∧ K2 = K2 := by
  k_fill
  exact ⟨rfl, rfl⟩
local macro_rules | `(tactic| walk_at "call ref") => `(tactic| (k_here; (with_reducible show wpAny _ _ (call (Value.ref 107) _) _ _ _); refine wpAny_call ?_; k_dflt (refine' c_257 ⟨?B, ?F, ?X, ?N, ?T, ?C⟩ ?d ?u ?e1 ?e2 ?e3 ?e4 ?e5 ?e6 ?e7 ?_; (case e1 | e2 | e3 | e4 | e5 | e6 | e7 | B => assumption); (case F | X | N => k_asm); (case T | C => assumption); (case d | u => dsimp only [Around.deeper, Around.mark]; omega)); intro t' h' tk' F' N'))
theorem c_symO {w : World} {p : Program} {loose : List Str} {mean : ExcName → Option Value} {mg mb : Str → Option Value} {A₀ : Around} {h₀ : Heap} {L : Addr} {m : Str → Option Value} {news : List (Addr × Obj)} {s : Shared}
  {dp un : Nat} {gd : Option (List Code)} {cn : Str} {nm : List (Str × NameKind)} {mo : List (Str × Const)} {a : Addr} {ccd : Value} {cl : List (Str × Addr)} {R : Result → Shared → Prop}
  {W : Str} {n : Int} {tw t0 : Tok} {ops : List Nat}
  (cx : Cx w p loose mean mg mb [] A₀ h₀ h₀ L m s.heap news) (hd : dp + 13 < recursionLimit) (hu : un + 70 < cLine)
  (ho : ops.length ≤ 4) (hWl : W.length = 6 + ops.length)
  (h0 : (Txt.slice W none (some 3) != Str.ofString "229") = true) (h1 : (Txt.slice W none (some 3) != Str.ofString "257") = false) (h2 : (Txt.slice W (some 3) (some 5) != Str.ofString " \"") = false)
  (h3 : ∀ j, (hj : j < ops.length) → Txt.item W ((5 + j : Nat) : Int) = acS [ops[j]]) (h4 : Txt.item W ((5 + ops.length : Nat) : Int) = Str.ofString "\"") (h5 : ∀ c ∈ ops, c ≠ 34)
  (hk : nsIn (Mine.K2 w.params) 108 (acS ops) = some (some (.int n t0)))
  (hQ : ∀ h' tk', Fr h₀ L h' m → News h₀ L h' news → R (.ok (.ret (.int n t0))) { s with heap := h', toks := tk' }) :
  codeAny (model pr w) (top none dp un gd cn nm mo L a ccd cl []) (.call (.ref 150) ⟨[.str W tw], []⟩) R s := by
  first | (refine x0_6 cx ?_; (try clear cx); intro B F X N TT C0) | (refine x1_5 cx ?_; (try clear cx); intro B F X N TT C0) | (refine x2_4 cx ?_; (try clear cx); intro B F X N TT C0) | (refine x3_3 cx ?_; (try clear cx); intro B F X N TT C0) | (refine x4_2 cx ?_; (try clear cx); intro B F X N TT C0) | (refine x5_1 cx ?_; (try clear cx); intro B F X N TT C0) | obtain ⟨B, F, X, N, TT, C0⟩ := cx
  have hWl' : W.length ≤ 100 := by omega
  k_dflt (refine' code_defS0X ?k1 ?k2 ?k3 ?k4 ?k5 ?kA ?k6 ?k7 ?k8 ?k9 ?kB ?_ ?cK ?c2 ?c3 ?c4 ?c5; (case kA => exact rfl); (case k2 => k_asm); (case k1 => k_asm); (case k3 => k_asm); (case k4 => k_asm); (case k5 => k_asm); (case k6 => k_is); (case k7 => k_is); (case k8 => k_room); (case k9 => first | exact binds_K (by k_in) rfl (by k_is) rfl rfl rfl | exact BindsTo.of_eq rfl | fail "kts_go: no rule for these arguments"); (case kB => exact locs rfl); (case cK => exact rfl); (case c2 => exact rfl); (case c3 => exact rfl); (case c4 => exact rfl); (case c5 => decide); k_whole; intro g' L' h' FG' F' N' B' X' T' D'; (try dsimp only); (try k_lift B'); (try k_fold))
  k_steps
  exact hQ _ _ (by k_asm) (cb_drop (by assumption) (by intro p hp; repeat (first | exact hp | refine List.Mem.tail _ ?_)))
end
end
theorem flushS4 : if True then True else True := by (w_top off); first | (walk1; fail) | simp
section
local macro_rules | `(tactic| walk_at "exec For Name Name") => `(tactic| refine halt ?_)
local macro_rules | `(tactic| walk_at "setItem ref int") => `(tactic| (k_here; k_dflt (refine' kda_set (knd := PySem.intKind _ _) ?F ?N ?U ?d (intKind_is _ _ _ _) ?z ?_; (case F | N => k_asm); (case U => k_updF); (case d => k_asm); (case z => rw [sizeLine_eq]; omega)); intro h' o' F' N' hd'; (try dsimp only at N')))
section
open PySem PySem.W PySem.Calls PyProof.Rows
set_option maxRecDepth 100000
set_option maxHeartbeats 1000000
section
theorem fillO2 : rw' = rw' ∧ K2 = K2 := by
  k_fill
  exact ⟨rfl, rfl⟩
noncomputable def OpsAt (i : Nat) (kvs : List (Int × Value)) : Prop := ∃ ts : List Tok, ts.length = i ∧ kvs = List.zipWith (fun (p : List Nat × Nat) t => ((p.2 : Int), Value.str (acS p.1) t)) (OPS.take i) ts
theorem OpsAt.len {i : Nat} {kvs : List (Int × Value)} (h : OpsAt i kvs) (hi : i ≤ 48) : kvs.length = i := by
  obtain ⟨ts, h1, rfl⟩ := h
  simp [OPS_len, h1]; omega
theorem OpsAt.keys {i : Nat} {kvs : List (Int × Value)} (h : OpsAt i kvs) (hi : i ≤ 48) : kvs.map (·.1) = (OPS.take i).map fun p => (p.2 : Int) := by
  obtain ⟨ts, h1, rfl⟩ := h
  apply List.ext_getElem
  · simp [OPS_len, h1]
  · intro n a b; simp
theorem OpsAt.next {i : Nat} {kvs : List (Int × Value)} (h : OpsAt i kvs) (hi : i < 48) (t : Tok) : OpsAt (i + 1) (stored kvs ((OPS[i]'(by rw [OPS_len]; exact hi)).2 : Int) (.str (acS (OPS[i]'(by rw [OPS_len]; exact hi)).1) t)) := by
  have hl : i < OPS.length := by rw [OPS_len]; exact hi
  have hn : valueAt kvs ((OPS[i]'hl).2 : Int) = none := by
    apply valueAt_none_of_not_mem
    rw [h.keys (Nat.le_of_lt hi)]
    intro q
    obtain ⟨p, hp, e⟩ := List.mem_map.mp q
    obtain ⟨j, hj, rfl⟩ := List.getElem_of_mem hp
    rw [List.length_take] at hj
    rw [List.getElem_take] at e
    have e' : (OPS.map (·.2))[j]'(by rw [List.length_map]; omega) = (OPS.map (·.2))[i]'(by rw [List.length_map]; exact hl) := by
      rw [List.getElem_map, List.getElem_map]; exact Int.ofNat.inj e
    have := (List.getElem_inj OPS_nodup).mp e'
    omega
  rw [stored_absent hn]
  obtain ⟨ts, h1, rfl⟩ := h
  refine ⟨ts ++ [t], by simp [h1], ?_⟩
  rw [List.take_add_one, List.getElem?_eq_getElem hl, Option.toList_some, List.zipWith_append (by rw [List.length_take]; omega)]
  rfl
theorem OpsAt.get {kvs : List (Int × Value)} (h : OpsAt 48 kvs) : ∀ p ∈ OPS, ∃ t, valueAt kvs (p.2 : Int) = some (.str (acS p.1) t) := by
  intro p hp
  obtain ⟨j, hj, rfl⟩ := List.getElem_of_mem hp
  have hk := h.keys (Nat.le_refl _)
  obtain ⟨ts, h1, rfl⟩ := h
  have hj' : j < 48 := by rw [OPS_len] at hj; exact hj
  refine ⟨ts[j]'(by omega), valueAt_of_get ?_ (i := j) ?_⟩
  · rw [hk]
    have : OPS.take 48 = OPS := rfl
    rw [this]
    decide
  · rw [List.getElem?_eq_getElem (by simp [OPS_len, h1, hj'])]
    simp
noncomputable abbrev lmO (op sg : Option Value) : Str → Option Value := fun y => if y = Str.ofString "sign" then sg else if y = Str.ofString "operators" then op else none
theorem ext2 {f g : Str → Option Value} (a b : Str) (ha : f a = g a) (hb : f b = g b) (hr : ∀ y, y ≠ a → y ≠ b → f y = g y) : ∀ y, f y = g y := fun y => by
  by_cases h1 : y = a
  · rw [h1]; exact ha
  by_cases h2 : y = b
  · rw [h2]; exact hb
  exact hr y h1 h2
structure InvO (w : World) (d : Addr) (news : List (Addr × Obj)) (i : Nat) (m : Str → Option Value) (nw : List (Addr × Obj)) : Prop where
  st : ∃ o kvs sg, nw = (d, o) :: news ∧ (∀ y, m y = lmO (some (.ref d)) sg y) ∧ o.IsDictOf (PySem.intKind pr w) kvs ∧ OpsAt i kvs
theorem OpenG.dict108 {w : World} {A : Around} {h₀ : Heap} {L : Addr} {m : Str → Option Value} {s : Shared} {news : List (Addr × Obj)} (hh : A.handled = none) (F : Fr h₀ L s.heap m) (N : News h₀ L s.heap news) (X : (K2 w.params).In h₀) :
    OpenG pr w A h₀ L m (.ref 108) s 48 (fun i v => ∃ p t, OPS[i]? = some p ∧ v = .str (acS p.1) t) (fun _ => True) False news := fun Q E' k => by
  obtain ⟨kvs, ⟨ep, hD₀⟩, hk⟩ := Mine.dict108 X
  have hD : s.heap.DictAt (PySem.strKind pr w) 108 kvs ep := hD₀.keep F.keep
  have hlt : 108 < s.heap.objs.size := hD.lt_size
  have hlen : kvs.length = 48 := by have := congrArg List.length hk; simpa [OPS_len] using this
  refine wpAny_pyIter_dict (by decide) hD ?_
  have W := Walks.dictKeys (prog := pr) (w := w) (A := A) (knd := PySem.strKind pr w) hh s.heap.objs.size 108 (Nat.ne_of_lt hlt) kvs ep
  rw [hlen] at W
  rw [hlen]
  refine k _ _ _ _ { sub := W.sub, frame := W.frame, done := W.done, self := W.self, item := fun i s Q E hi st hQ => W.item i s Q E hi st fun v h' tk hP => hQ v h' tk ?_ } (fun i h st => by obtain ⟨o, ho, _⟩ := st.1; exact ⟨o, ho⟩)
    (fun i h h' o nw st e e' kp _ _ => ⟨by obtain ⟨o', ho', r⟩ := st.1; rw [e] at ho'; cases ho'; exact ⟨o, e', r⟩, hD₀.keep kp⟩) (fun q => q.elim)
    ⟨⟨_, Heap.get?_push_size _ rfl, rfl, by simp [rawInt]⟩, hD.push _⟩ (fun b hb => ?_) (F.keeps fun _ _ e => Heap.get?_push_of_some _ e) (N.grown fun _ _ e => Heap.get?_push_of_some _ e) (Nat.ne_of_lt F.ns.lt) (next_is_new F) (fun p hp => Nat.ne_of_lt (Heap.lt_size (N p hp).1))
  · obtain ⟨key, x, hx, hv⟩ := hP
    have h1 : (OPS.map fun p => acS p.1)[i]? = some key := by rw [← hk, List.getElem?_map, hx]; rfl
    rw [List.getElem?_map] at h1
    cases hO : OPS[i]? with
    | none => rw [hO] at h1; cases h1
    | some p =>
      rw [hO] at h1
      obtain rfl : acS p.1 = key := Option.some.inj h1
      have hv' : Value.isStrOf (acS p.1) v = true := hv
      obtain ⟨t, rfl⟩ := Value.isStrOf_shape hv'
      exact ⟨p, t, rfl, rfl⟩
  · show b < (s.heap.push _).objs.size
    rw [Heap.size_push]
    rcases List.mem_cons.mp hb with rfl | hb
    · exact Nat.lt_succ_self _
    · rw [List.mem_singleton.mp hb]; exact Nat.lt_succ_of_lt hlt
end
end
theorem flushO2 : if True then True else True := by (w_top off); first | (walk1; fail) | simp
section
open PySem PySem.W PySem.Calls PyProof.Rows
set_option maxRecDepth 100000
set_option maxHeartbeats 1000000
section
theorem fillO3 : rw' = rw' ∧ K2 = K2 := by
  k_fill
  exact ⟨rfl, rfl⟩
theorem frAt' {g h : Heap} {L : Addr} {m : Str → Option Value} (_ : Fr g L h m) : ∃ g' L', g' = g ∧ L' = L := ⟨_, _, rfl, rfl⟩
theorem c_ops {w : World} {p : Program} {loose : List Str} {mean : ExcName → Option Value} {mg mb : Str → Option Value} {outer : List Env} {A₀ : Around} {base h₀ : Heap} {L : Addr} {m : Str → Option Value} {news : List (Addr × Obj)} {s : Shared}
  {dp un : Nat} {gd : Option (List Code)} {cn : Str} {nm : List (Str × NameKind)} {mo : List (Str × Const)} {a : Addr} {ccd : Value} {cl : List (Str × Addr)} {R : Result → Shared → Prop}
  (cx : Cx w p loose mean mg mb outer A₀ base h₀ L m s.heap news) (hd : dp + 13 < recursionLimit) (hu : un + 70 < cLine)
  (hQ : ∀ d o kvs h' tk', (d == sysModules) = false → o.IsDictOf (PySem.intKind pr w) kvs → OpsAt 48 kvs → Bnd d news → Fr h₀ L h' m → News h₀ L h' ((d, o) :: news) → R (.ok (.ret (.ref d))) { s with heap := h', toks := tk' }) :
  codeAny (model pr w) (top none dp un gd cn nm mo L a ccd cl outer) (.call (.ref 131) ⟨[], []⟩) R s := by
  first | (refine x0_6 cx ?_; (try clear cx); intro B F X N TT C0) | (refine x1_5 cx ?_; (try clear cx); intro B F X N TT C0) | (refine x2_4 cx ?_; (try clear cx); intro B F X N TT C0) | (refine x3_3 cx ?_; (try clear cx); intro B F X N TT C0) | (refine x4_2 cx ?_; (try clear cx); intro B F X N TT C0) | (refine x5_1 cx ?_; (try clear cx); intro B F X N TT C0) | obtain ⟨B, F, X, N, TT, C0⟩ := cx
  k_dflt k_enter
  k_steps
  unfold Halt
  rename Fr _ _ _ _ => F2
  rename News _ _ _ _ => N2
  rename Obj.IsDictOf (PySem.intKind _ _) _ _ => hD2
  rename (_ == sysModules) = false => lo2
  rename ∀ p ∈ news, p.1 < _ => hB2
  first | (refine x0_4 (frAt' F2) ?_; intro g5 L5 hq1 hq2) | (refine x1_3 (frAt' F2) ?_; intro g5 L5 hq1 hq2) | (refine x2_2 (frAt' F2) ?_; intro g5 L5 hq1 hq2) | (refine x3_1 (frAt' F2) ?_; intro g5 L5 hq1 hq2) | obtain ⟨g5, L5, hq1, hq2⟩ := frAt' F2
  obtain rfl := hq1
  obtain rfl := hq2
  refine' for_G (S := fun _ => True) (LI := False) (InvO w _ news) (.inl fun _ _ => rfl) (fun _ _ _ _ => trivial) ?hE (nameX_K F2 ?X (topRead_of ?T) ?e ⟨_, _, _, _, rfl, OpenG.dict108 rfl F2 N2 ?X2, ⟨⟨_, _, none, rfl, ?m0, hD2, ⟨[], rfl, rfl⟩⟩⟩⟩) ?turn ?done
  case X => assumption
  case X2 => assumption
  case T => assumption
  case e => k_is
  case hE => passes_own
  case m0 => exact ext2 (Str.ofString "sign") (Str.ofString "operators") rfl rfl (fun y h1 h2 => by simp [lmO, h1, h2, List.lookup])
  case turn =>
    intro i m' nw v I oI h tk hi hq3 hq4 F3 N3 off
    first | (refine x0_7 hq3 ?_; (try clear hq3); intro o kv2 sg hq5 hm hD hO) | (refine x1_6 hq3 ?_; (try clear hq3); intro o kv2 sg hq5 hm hD hO) | (refine x2_5 hq3 ?_; (try clear hq3); intro o kv2 sg hq5 hm hD hO) | (refine x3_4 hq3 ?_; (try clear hq3); intro o kv2 sg hq5 hm hD hO) | (refine x4_3 hq3 ?_; (try clear hq3); intro o kv2 sg hq5 hm hD hO) | (refine x5_2 hq3 ?_; (try clear hq3); intro o kv2 sg hq5 hm hD hO) | (refine x6_1 hq3 ?_; (try clear hq3); intro o kv2 sg hq5 hm hD hO) | obtain ⟨o, kv2, sg, hq5, hm, hD, hO⟩ := hq3
    obtain rfl := hq5
    first | (refine x0_4 hq4 ?_; (try clear hq4); intro p t hp hq6) | (refine x1_3 hq4 ?_; (try clear hq4); intro p t hp hq6) | (refine x2_2 hq4 ?_; (try clear hq4); intro p t hp hq6) | (refine x3_1 hq4 ?_; (try clear hq4); intro p t hp hq6) | obtain ⟨p, t, hp, hq6⟩ := hq4
    obtain rfl := hq6
    first | (refine x0_2 (List.getElem?_eq_some_iff.mp hp) ?_; intro hl hq7) | (refine x1_1 (List.getElem?_eq_some_iff.mp hp) ?_; intro hl hq7) | obtain ⟨hl, hq7⟩ := List.getElem?_eq_some_iff.mp hp
    obtain rfl := hq7
    first | (refine x0_2 (in108 w.params _ (List.getElem_mem hl)) ?_; intro t3 h108) | (refine x1_1 (in108 w.params _ (List.getElem_mem hl)) ?_; intro t3 h108) | obtain ⟨t3, h108⟩ := in108 w.params _ (List.getElem_mem hl)
    have hlen := hO.len (Nat.le_of_lt hi)
    have hF := frExt F3 hm
    clear F3 hm
    refine wpAny_assign_Name (storeX_L hF N3 fun h4 F4 N4 => ?_)
    clear hF N3
    have n1 : ∀ p ∈ news, p.1 ≠ _ := fun p hp => Nat.ne_of_lt (hB2 p hp)
    have n2 := off _ (List.mem_cons_self)
    dsimp only at n2
    have n3 := Ne.symm n2
    k_steps
    rename Fr _ _ _ _ => F5
    rename News _ _ _ _ => N5
    rename Obj.IsDictOf _ _ (stored _ _ _) => hD5
    exact ⟨_, _, _, _, rfl, F5, N5, List.forall_mem_cons.mpr ⟨n2, fun p hp => off p (List.mem_cons_of_mem _ hp)⟩, ⟨⟨_, _, _, rfl, ext2 (Str.ofString "sign") (Str.ofString "operators") rfl rfl (fun y h1 h2 => by simp [lmO, h1, h2]), hD5, hO.next hi t⟩⟩⟩
  case done =>
    intro h tk m' nw hq8 F3 N3
    first | (refine x0_7 hq8 ?_; (try clear hq8); intro o kv2 sg hq9 hm hD hO) | (refine x1_6 hq8 ?_; (try clear hq8); intro o kv2 sg hq9 hm hD hO) | (refine x2_5 hq8 ?_; (try clear hq8); intro o kv2 sg hq9 hm hD hO) | (refine x3_4 hq8 ?_; (try clear hq8); intro o kv2 sg hq9 hm hD hO) | (refine x4_3 hq8 ?_; (try clear hq8); intro o kv2 sg hq9 hm hD hO) | (refine x5_2 hq8 ?_; (try clear hq8); intro o kv2 sg hq9 hm hD hO) | (refine x6_1 hq8 ?_; (try clear hq8); intro o kv2 sg hq9 hm hD hO) | obtain ⟨o, kv2, sg, hq9, hm, hD, hO⟩ := hq8
    obtain rfl := hq9
    have hF := frExt F3 hm
    clear F3
    k_steps
    exact hQ _ _ _ _ _ lo2 hD hO hB2 (by k_asm) (by k_asm)
end
end
theorem flushO3 : if True then True else True := by (w_top off); first | (walk1; fail) | simp
end
end
end
section
open PySem PySem.W PySem.Calls PyProof.Rows
set_option maxRecDepth 100000
set_option maxHeartbeats 1000000
section
/-- the text of an operator's number -/
noncomputable def opOf (n : Nat) : List Nat := ((OPS.find? fun p => p.2 == n).map (·.1)).getD []
noncomputable def dg (n : Nat) : List Nat := [48 + n / 100, 48 + n / 10 % 10, 48 + n % 10]
/-- the reply that is written for a symbol -/
noncomputable def rep (n : Nat) : List Nat := if 255 < n then [50, 50, 57, 32, 40, 124, 124, 124] ++ dg n ++ [124, 41] else [50, 53, 55, 32, 34] ++ opOf n ++ [34]
noncomputable def IsNT (n : Nat) : Prop := 256 ≤ n ∧ n ≤ 259
noncomputable def IsOp (n : Nat) : Prop := 7 ≤ n ∧ n ≤ 54
theorem IsNT.cases {n : Nat} (h : IsNT n) : n = 256 ∨ n = 257 ∨ n = 258 ∨ n = 259 := by unfold IsNT at h; omega
theorem opOf_mem {n : Nat} (h : IsOp n) : (opOf n, n) ∈ OPS := by
  have : ∀ k : Fin 48, (opOf (7 + k.val), 7 + k.val) ∈ OPS := by decide
  obtain ⟨h1, h2⟩ := h
  have := this ⟨n - 7, by omega⟩
  rwa [show 7 + (n - 7) = n by omega] at this
theorem rep_text {n : Nat} (h : IsNT n) : Str.ofString "229 (|||" ++ Str.ofString (toString (n : Int)) ++ Str.ofString "|)" = acS (rep n) := by
  rcases h.cases with rfl | rfl | rfl | rfl <;> decide
theorem rep_op {n : Nat} (h : IsOp n) : Str.ofString "257 \"" ++ acS (opOf n) ++ Str.ofString "\"" = acS (rep n) := by
  have e1 : Str.ofString "257 \"" = acS [50, 53, 55, 32, 34] := by decide
  have e2 : Str.ofString "\"" = acS [34] := by decide
  have e : ¬ 255 < n := by unfold IsOp at h; omega
  rw [e1, e2]
  unfold rep
  rw [if_neg e]
  show Str.mk (_ ++ _ ++ _) = Str.mk _
  simp
/-- what c_symN asks of the text -/
theorem nt_facts {n : Nat} (h : IsNT n) : (acS (rep n)).length = 13 ∧ (Txt.slice (acS (rep n)) none (some 3) != Str.ofString "229") = false ∧ Txt.find (acS (rep n)) (Str.ofString "(") = 4 ∧ Txt.find3 (acS (rep n)) (Str.ofString ")") (4 + 1) = 12 ∧
    (Txt.item (acS (rep n)) (4 + 1) != Txt.item (acS (rep n)) (12 - 1)) = false ∧ ((Txt.item (acS (rep n)) (4 + 1)).length == 0) = false ∧
    Txt.split (Txt.slice (acS (rep n)) (some (4 + 1)) (some 12)) (Txt.item (acS (rep n)) (4 + 1)) = [Str.ofString "", Str.ofString "", Str.ofString "", acS (dg n), Str.ofString ""] ∧ (acS (dg n)).length = 3 ∧ PySem.intText? (acS (dg n)) = some (n : Int) := by
  rcases h.cases with rfl | rfl | rfl | rfl <;> exact ⟨by kernel_rfl, by kernel_rfl, by kernel_rfl, by kernel_rfl, by kernel_rfl, by kernel_rfl, by kernel_rfl, by kernel_rfl, by kernel_rfl⟩
noncomputable def chkOp (p : List Nat × Nat) : Bool :=
  p.1.length ≤ 4 && (acS (rep p.2)).length == 6 + p.1.length && (Txt.slice (acS (rep p.2)) none (some 3) != Str.ofString "229") && !(Txt.slice (acS (rep p.2)) none (some 3) != Str.ofString "257") &&
  !(Txt.slice (acS (rep p.2)) (some 3) (some 5) != Str.ofString " \"") && (List.range p.1.length).all (fun j => Txt.item (acS (rep p.2)) ((5 + j : Nat) : Int) == acS [p.1.getD j 0]) &&
  (Txt.item (acS (rep p.2)) ((5 + p.1.length : Nat) : Int) == Str.ofString "\"") && p.1.all (fun c => c != 34)
theorem chkOp_all : OPS.all chkOp = true := by kernel_rfl
/-- what c_symO asks of the text -/
theorem op_facts {p : List Nat × Nat} (h : p ∈ OPS) : p.1.length ≤ 4 ∧ (acS (rep p.2)).length = 6 + p.1.length ∧ (Txt.slice (acS (rep p.2)) none (some 3) != Str.ofString "229") = true ∧ (Txt.slice (acS (rep p.2)) none (some 3) != Str.ofString "257") = false ∧
    (Txt.slice (acS (rep p.2)) (some 3) (some 5) != Str.ofString " \"") = false ∧ (∀ j, (hj : j < p.1.length) → Txt.item (acS (rep p.2)) ((5 + j : Nat) : Int) = acS [p.1[j]]) ∧ Txt.item (acS (rep p.2)) ((5 + p.1.length : Nat) : Int) = Str.ofString "\"" ∧ ∀ c ∈ p.1, c ≠ 34 := by
  have hc := List.all_eq_true.mp chkOp_all p h
  unfold chkOp at hc
  simp only [Bool.and_eq_true, decide_eq_true_eq, beq_iff_eq, Bool.not_eq_true', List.all_eq_true, List.mem_range] at hc
  obtain ⟨⟨⟨⟨⟨⟨⟨a, b⟩, c⟩, d⟩, e⟩, f⟩, g⟩, i⟩ := hc
  refine ⟨a, b, c, d, e, fun j hj => ?_, g, fun c hcm => by simpa using i c hcm⟩
  have := f j hj
  rw [this, List.getD_eq_getElem?_getD, List.getElem?_eq_getElem hj]
  rfl
noncomputable def SYMS : List Nat := OPS.map (·.2) ++ [256, 257, 258, 259]
noncomputable def chkW (n : Nat) : Bool :=
  (acS (rep n)).length ≤ 100 && (Txt.replace (acS (rep n)) (Str.ofString "\\") (Str.ofString "\\\\")).length ≤ 300 &&
  (Txt.replace (Txt.replace (acS (rep n)) (Str.ofString "\\") (Str.ofString "\\\\")) (Str.ofString "\"") (Str.ofString "\\\"")).length ≤ 300 &&
  Str.ofString "\"" ++ Txt.replace (Txt.replace (acS (rep n)) (Str.ofString "\\") (Str.ofString "\\\\")) (Str.ofString "\"") (Str.ofString "\\\"") ++ Str.ofString "\"" == acS (34 :: (rep n).flatMap encQ ++ [34]) &&
  (rep n).length ≤ 20 && (rep n).length ≥ 1 && (rep n).all (fun x => x != 10 && x != 9 && x != 13)
theorem chkW_all : SYMS.all chkW = true := by kernel_rfl
noncomputable def IsSym (n : Nat) : Prop := IsNT n ∨ IsOp n
theorem sym_mem {n : Nat} (h : IsSym n) : n ∈ SYMS := by
  rcases h with h | h
  · rcases h.cases with rfl | rfl | rfl | rfl <;> decide
  · exact List.mem_append_left _ (List.mem_map.mpr ⟨_, opOf_mem h, rfl⟩)
theorem word_facts {n : Nat} (h : IsSym n) : (acS (rep n)).length ≤ 100 ∧ (Txt.replace (acS (rep n)) (Str.ofString "\\") (Str.ofString "\\\\")).length ≤ 300 ∧
    (Txt.replace (Txt.replace (acS (rep n)) (Str.ofString "\\") (Str.ofString "\\\\")) (Str.ofString "\"") (Str.ofString "\\\"")).length ≤ 300 ∧
    Str.ofString "\"" ++ Txt.replace (Txt.replace (acS (rep n)) (Str.ofString "\\") (Str.ofString "\\\\")) (Str.ofString "\"") (Str.ofString "\\\"") ++ Str.ofString "\"" = acS (34 :: (rep n).flatMap encQ ++ [34]) ∧
    (rep n).length ≤ 20 ∧ 1 ≤ (rep n).length ∧ ∀ x ∈ rep n, x ≠ 10 ∧ x ≠ 9 ∧ x ≠ 13 := by
  have hc := List.all_eq_true.mp chkW_all n (sym_mem h)
  unfold chkW at hc
  simp only [Bool.and_eq_true, decide_eq_true_eq, beq_iff_eq, List.all_eq_true, ge_iff_le, bne_iff_ne] at hc
  obtain ⟨⟨⟨⟨⟨⟨a, b⟩, c⟩, d⟩, e⟩, f⟩, g⟩ := hc
  exact ⟨a, b, c, d, e, f, fun x hx => ⟨(g x hx).1.1, (g x hx).1.2, (g x hx).2⟩⟩
end
end
theorem flushSY : if True then True else True := by (w_top off); first | (walk1; fail) | simp
section
open PySem PySem.W PySem.Calls PyProof.Rows
set_option maxRecDepth 100000
set_option maxHeartbeats 1000000
section
theorem fillW : rw' = rw' ∧ K2 = K2 := by
  k_fill
  exact ⟨rfl, rfl⟩
local macro_rules | `(tactic| walk_at "eval ListComp") => `(tactic| refine halt ?_)
open Builtin Builtin.Str in
theorem replaceM {prog : Program} {w : World} {A : Around} {E : Value → Shared → Prop} {s : Shared} {x y z : Str} {t u v : Tok} {Q : Value → Shared → Prop} (hu : u ≠ 0) (hv : v ≠ 0) (huv : u ≠ v) (hyz : (y == z) = false) (hb : x.length + (x.length + 1) * z.length ≤ 16777216)
    (hq : ∀ t' k, s.toks ≤ k → Q (.str (Txt.replace x y z) t') { s with toks := k }) : wpAny (model prog w) A (call (.builtin "str.replace") [.str x t, .str y u, .str z v]) Q E s := by
  have e : (2 : Nat) ^ 24 = 16777216 := by decide
  have hl : tooLong (x.length + (Builtin.Str.occurrences x y 0 x.length (x.length + 1)).length * z.length) = false := by
    have h1 := StrLaws.occ_length_le x y 0 x.length (x.length + 1)
    have h2 : (Builtin.Str.occurrences x y 0 x.length (x.length + 1)).length * z.length ≤ (x.length + 1) * z.length := Nat.mul_le_mul_right _ h1
    unfold tooLong sizeLine
    exact decide_eq_false (by omega)
  refine call_gives F.slot_str_replace (typeIs_str _ _ _) F.entry_str_replace (F.args_str_replace_3 _ _ _)
    (gives_str_replace x y z t u v fun _ => ⟨by simp [hu, hv], by simp [huv], hyz, hl⟩) ?_
  have hq' := hq
  unfold Txt.replace at hq'
  cases hc : ((Builtin.Str.occurrences x y 0 x.length (x.length + 1)).isEmpty || (y.length == 0 && z.length == 0))
  · rw [hc] at hq'
    simp only [Bool.false_eq_true, if_false] at hq' ⊢
    exact ⟨fits_replaced y hb, hq' _ _ (Nat.le_succ _)⟩
  · rw [hc] at hq'
    simp only [if_true] at hq' ⊢
    exact hq' t s.toks (Nat.le_refl _)
local macro_rules | `(tactic| walk_at "call builtin:str.replace") => `(tactic| (refine replaceM (by (try show @Ne Nat _ _); omega) (by (try show @Ne Nat _ _); omega) (by (try show @Ne Nat _ _); omega) (by decide) (by simp only [show (Str.ofString "\\\\").length = 2 from rfl, show (Str.ofString "\\\"").length = 2 from rfl]; omega) ?_; intro t' k' hk'; (try dsimp only at hk')))
theorem c_wordQ {w : World} {p : Program} {loose : List Str} {mean : ExcName → Option Value} {mg mb : Str → Option Value} {outer : List Env} {A₀ : Around} {base h₀ : Heap} {L : Addr} {m : Str → Option Value} {news : List (Addr × Obj)} {s : Shared}
  {dp un : Nat} {gd : Option (List Code)} {cn : Str} {nm : List (Str × NameKind)} {mo : List (Str × Const)} {a : Addr} {ccd : Value} {cl : List (Str × Addr)} {R : Result → Shared → Prop} {x : Str} {tx : Tok} {q : List Nat}
  (cx : Cx w p loose mean mg mb outer A₀ base h₀ L m s.heap news) (hd : dp + 13 < recursionLimit) (hu : un + 70 < cLine) (hx : x.length ≤ 100)
  (h1 : (Txt.replace x (Str.ofString "\\") (Str.ofString "\\\\")).length ≤ 300) (h2 : (Txt.replace (Txt.replace x (Str.ofString "\\") (Str.ofString "\\\\")) (Str.ofString "\"") (Str.ofString "\\\"")).length ≤ 300)
  (h3 : Str.ofString "\"" ++ Txt.replace (Txt.replace x (Str.ofString "\\") (Str.ofString "\\\\")) (Str.ofString "\"") (Str.ofString "\\\"") ++ Str.ofString "\"" = acS q)
  (hQ : ∀ t h' tk', Fr h₀ L h' m → News h₀ L h' news → R (.ok (.ret (.str (acS q) t))) { s with heap := h', toks := tk' }) :
  codeAny (model pr w) (top none dp un gd cn nm mo L a ccd cl outer) (.call (.ref 136) ⟨[.str x tx, .bool true], []⟩) R s := by
  first | (refine x0_6 cx ?_; (try clear cx); intro B F X N TT C0) | (refine x1_5 cx ?_; (try clear cx); intro B F X N TT C0) | (refine x2_4 cx ?_; (try clear cx); intro B F X N TT C0) | (refine x3_3 cx ?_; (try clear cx); intro B F X N TT C0) | (refine x4_2 cx ?_; (try clear cx); intro B F X N TT C0) | (refine x5_1 cx ?_; (try clear cx); intro B F X N TT C0) | obtain ⟨B, F, X, N, TT, C0⟩ := cx
  k_dflt k_enter
  k_steps
  rw [h3]
  exact hQ _ _ _ (by k_asm) (by k_asm)
theorem qs_key (c : Nat) : (!(Builtin.Str.occurrences (Str.ofString "\"\\ ") ⟨#[c]⟩ 0 (Str.ofString "\"\\ ").length 1).isEmpty) = decide (c = 34 ∨ c = 92 ∨ c = 32) := by
  have h := StrLaws.found_one (Str.ofString "\"\\ ") c
  have e : (Str.ofString "\"\\ ").cps.toList = [34, 92, 32] := by decide
  rw [e] at h
  have hi : c ∈ [34, 92, 32] ↔ (c = 34 ∨ c = 92 ∨ c = 32) := by simp
  by_cases hw : c = 34 ∨ c = 92 ∨ c = 32
  · rw [decide_eq_true (hi.mpr hw)] at h
    rw [decide_eq_true hw]; exact h
  · rw [decide_eq_false (fun q => hw (hi.mp q))] at h
    rw [decide_eq_false hw]; exact h
theorem qs_in (c : Nat) : (!(Builtin.Str.occurrences (Str.ofString "\"\\ ") ⟨#[c]⟩ 0 (Str.ofString "\"\\ ").length 1).isEmpty) = true ↔ (c = 34 ∨ c = 92 ∨ c = 32) := by rw [qs_key]; simp
theorem qs_out (c : Nat) : (!(Builtin.Str.occurrences (Str.ofString "\"\\ ") ⟨#[c]⟩ 0 (Str.ofString "\"\\ ").length 1).isEmpty) = false ↔ ¬ (c = 34 ∨ c = 92 ∨ c = 32) := by rw [qs_key]; simp
theorem strsAre_app : ∀ {vs : List Value} {ss : List Str}, StrsAre vs ss → ∀ (y : Str) (t : Tok), StrsAre (vs ++ [.str y t]) (ss ++ [y])
  := fun h y t => by
  induction h with
  | nil => exact .cons y t .nil
  | cons a b _ ih => exact .cons a b ih
theorem encU_sum : ∀ l : List Nat, ((l.map fun c => acS (encU c)).map (·.length)).sum ≤ 2 * l.length
  | [] => Nat.le_refl _
  | c :: r => by
    have := encU_sum r
    have h1 : (acS (encU c)).length ≤ 2 := by
      show (encU c).toArray.size ≤ 2
      unfold encU
      split <;> simp
    simp only [List.map_cons, List.sum_cons, List.length_cons]
    omega
theorem ac_cat (a b : List Nat) : acS a ++ acS b = acS (a ++ b) := by
  show Str.mk (a.toArray ++ b.toArray) = _
  simp
theorem join_acS : ∀ l : List (List Nat), Str.join (Str.ofString "") (l.map acS) = acS l.flatten
  | [] => rfl
  | [a] => by simp [Str.join]
  | a :: b :: r => by
    have := join_acS (b :: r)
    simp only [List.map_cons] at this ⊢
    rw [Str.join, this] <;> try (intro q; cases q)
    have e : Str.ofString "" = acS [] := rfl
    rw [e, ac_cat, ac_cat]
    simp
theorem join_encU (l : List Nat) : Txt.join (Str.ofString "") (l.map fun c => acS (encU c)) = acS (l.flatMap encU) := by
  have := join_acS (l.map encU)
  rw [List.map_map] at this
  rw [eq_of_beq (join_plain_closes _ _), List.flatMap_def]
  exact this
local macro_rules | `(tactic| walk_at "call builtin:str.join") => `(tactic| (refine join_list ⟨_, (News.get (by k_asm) (by k_mem)), rfl, _, rfl⟩ (by assumption) (by assumption) ?_; intro t' k'))
theorem c_wordU {w : World} {p : Program} {loose : List Str} {mean : ExcName → Option Value} {mg mb : Str → Option Value} {outer : List Env} {A₀ : Around} {base h₀ : Heap} {L : Addr} {m : Str → Option Value} {news : List (Addr × Obj)} {s : Shared}
  {dp un : Nat} {gd : Option (List Code)} {cn : Str} {nm : List (Str × NameKind)} {mo : List (Str × Const)} {a : Addr} {ccd : Value} {cl : List (Str × Addr)} {R : Result → Shared → Prop} {x : Str} {tx : Tok}
  (cx : Cx w p loose mean mg mb outer A₀ base h₀ L m s.heap news) (hd : dp + 13 < recursionLimit) (hu : un + 70 < cLine) (hx : x.length ≤ 100)
  (hQ : ∀ t h' tk', Fr h₀ L h' m → News h₀ L h' news → R (.ok (.ret (.str (acS (x.cps.toList.flatMap encU)) t))) { s with heap := h', toks := tk' }) :
  codeAny (model pr w) (top none dp un gd cn nm mo L a ccd cl outer) (.call (.ref 136) ⟨[.str x tx, .bool false], []⟩) R s := by
  first | (refine x0_6 cx ?_; (try clear cx); intro B F X N TT C0) | (refine x1_5 cx ?_; (try clear cx); intro B F X N TT C0) | (refine x2_4 cx ?_; (try clear cx); intro B F X N TT C0) | (refine x3_3 cx ?_; (try clear cx); intro B F X N TT C0) | (refine x4_2 cx ?_; (try clear cx); intro B F X N TT C0) | (refine x5_1 cx ?_; (try clear cx); intro B F X N TT C0) | obtain ⟨B, F, X, N, TT, C0⟩ := cx
  k_dflt k_enter
  k_steps
  unfold Halt
  rename Fr _ _ _ _ => F2
  rename News _ _ _ _ => N2
  first | (refine x0_4 (frAt' F2) ?_; intro g5 L5 hq1 hq2) | (refine x1_3 (frAt' F2) ?_; intro g5 L5 hq1 hq2) | (refine x2_2 (frAt' F2) ?_; intro g5 L5 hq1 hq2) | (refine x3_1 (frAt' F2) ?_; intro g5 L5 hq1 hq2) | obtain ⟨g5, L5, hq1, hq2⟩ := frAt' F2
  obtain rfl := hq1
  obtain rfl := hq2
  refine' ListComp_G (S := fun _ => True) (LI := False) (fun i ys nw => nw = news ∧ StrsAre ys ((x.cps.toList.take i).map fun c => acS (encU c))) (cl := []) ?cl ?cc ?ck ?cn (.inl fun _ _ => rfl) (fun _ _ _ _ => trivial) ?sz (assign_name rfl rfl)
    (nameX_L F2 ?v ⟨_, _, _, rfl, OpenG.str rfl F2 N2, rfl, .nil⟩) ?turn ?done
  case cl => with_unfolding_all rfl
  case cc => decide
  case ck => rfl
  case cn => decide
  case v => rfl
  case sz => rw [sizeLine_eq]; have : x.cps.size = x.length := rfl; omega
  case turn =>
    intro i ys nw v I oI C oC D m₂ h tk E' hi hq3 hq4 hC hm F3 N3 off ne
    first | (refine x0_2 hq3 ?_; (try clear hq3); intro hq5 hS) | (refine x1_1 hq3 ?_; (try clear hq3); intro hq5 hS) | obtain ⟨hq5, hS⟩ := hq3
    obtain rfl := hq5
    first | (refine x0_4 hq4 ?_; (try clear hq4); intro c u hc hq6) | (refine x1_3 hq4 ?_; (try clear hq4); intro c u hc hq6) | (refine x2_2 hq4 ?_; (try clear hq4); intro c u hc hq6) | (refine x3_1 hq4 ?_; (try clear hq4); intro c u hc hq6) | obtain ⟨c, u, hc, hq6⟩ := hq4
    obtain rfl := hq6
    refine wpAny_tests_nil ?_
    rw [if_pos rfl]
    have hl1 : (Str.mk #[c]).length = 1 := rfl
    have hS' : ∀ (y : Str) t, y = acS (encU c) → StrsAre (ys ++ [.str y t]) ((x.cps.toList.take (i + 1)).map fun c => acS (encU c)) := fun y t e => by
      subst e
      have hi' : i < x.cps.toList.length := by rw [Array.length_toList]; exact hi
      have hc' : x.cps.toList[i]? = some c := by rw [Array.getElem?_toList]; exact hc
      rw [List.take_add_one, hc', List.map_append]
      exact strsAre_app hS _ t
    by_cases hw : c = 34 ∨ c = 92 ∨ c = 32
    · have hf := (qs_in c).mpr hw
      k_steps
      exact ⟨_, _, _, rfl, by assumption, by assumption, off, rfl, hS' _ _ (by rw [encU, if_pos hw]; rfl)⟩
    · have hf := (qs_out c).mpr hw
      k_steps
      exact ⟨_, _, _, rfl, by assumption, by assumption, off, rfl, hS' _ _ (by rw [encU, if_neg hw])⟩
  case done =>
    intro D h tk ys nw hq7 F3 N3 o1
    first | (refine x0_2 hq7 ?_; (try clear hq7); intro hq8 hS) | (refine x1_1 hq7 ?_; (try clear hq7); intro hq8 hS) | obtain ⟨hq8, hS⟩ := hq7
    obtain rfl := hq8
    have hS2 : StrsAre ys.toArray.toList (x.cps.toList.map fun c => acS (encU c)) := by
      have e : x.cps.toList.take x.cps.size = x.cps.toList := by rw [← Array.length_toList, List.take_length]
      rw [e] at hS; exact hS
    have hsum : ((x.cps.toList.map fun c => acS (encU c)).map (·.length)).sum + (x.cps.toList.map fun c => acS (encU c)).length * (Str.ofString "").length ≤ 16777216 := by
      have h1 := encU_sum x.cps.toList
      have h2 : x.cps.toList.length = x.length := Array.length_toList
      have h3 : (Str.ofString "").length = 0 := rfl
      rw [h3, Nat.mul_zero]
      omega
    have hj := join_encU x.cps.toList
    k_steps
    rw [hj]
    exact hQ _ _ _ (by k_asm) (cb_drop (by assumption) (by intro p hp; exact List.Mem.tail _ hp))
end
end
theorem flushWD : if True then True else True := by (w_top off); first | (walk1; fail) | simp
section
open PySem PySem.W PySem.Calls PyProof.Rows
set_option maxRecDepth 100000
set_option maxHeartbeats 1000000
section
theorem fillR : rw' = rw' ∧ K2 = K2 := by
  k_fill
  exact ⟨rfl, rfl⟩
theorem c_reply {w : World} {p : Program} {loose : List Str} {mean : ExcName → Option Value} {mg mb : Str → Option Value} {outer : List Env} {A₀ : Around} {base h₀ : Heap} {L : Addr} {m : Str → Option Value} {news : List (Addr × Obj)} {s : Shared}
  {dp un : Nat} {gd : Option (List Code)} {cn : Str} {nm : List (Str × NameKind)} {mo : List (Str × Const)} {a : Addr} {ccd : Value} {cl : List (Str × Addr)} {R : Result → Shared → Prop} {n : Nat} {tx : Tok}
  (cx : Cx w p loose mean mg mb outer A₀ base h₀ L m s.heap news) (hd : dp + 13 < recursionLimit) (hu : un + 70 < cLine) (hn : IsNT n)
  (hQ : ∀ t h' tk', Fr h₀ L h' m → News h₀ L h' news → R (.ok (.ret (.str (acS (rep n)) t))) { s with heap := h', toks := tk' }) :
  codeAny (model pr w) (top none dp un gd cn nm mo L a ccd cl outer) (.call (.ref 143) ⟨[.int (n : Int) tx], []⟩) R s := by
  first | (refine x0_6 cx ?_; (try clear cx); intro B F X N TT C0) | (refine x1_5 cx ?_; (try clear cx); intro B F X N TT C0) | (refine x2_4 cx ?_; (try clear cx); intro B F X N TT C0) | (refine x3_3 cx ?_; (try clear cx); intro B F X N TT C0) | (refine x4_2 cx ?_; (try clear cx); intro B F X N TT C0) | (refine x5_1 cx ?_; (try clear cx); intro B F X N TT C0) | obtain ⟨B, F, X, N, TT, C0⟩ := cx
  first | (refine x0_2 (id hn) ?_; intro h1 h2) | (refine x1_1 (id hn) ?_; intro h1 h2) | obtain ⟨h1, h2⟩ := id hn
  k_dflt k_enter
  k_steps
  rw [rep_text hn]
  exact hQ _ _ _ (by k_asm) (by k_asm)
theorem c_symNT {w : World} {p : Program} {loose : List Str} {mean : ExcName → Option Value} {mg mb : Str → Option Value} {outer : List Env} {A₀ : Around} {base h₀ : Heap} {L : Addr} {m : Str → Option Value} {news : List (Addr × Obj)} {s : Shared}
  {dp un : Nat} {gd : Option (List Code)} {cn : Str} {nm : List (Str × NameKind)} {mo : List (Str × Const)} {a : Addr} {ccd : Value} {cl : List (Str × Addr)} {R : Result → Shared → Prop} {n : Nat} {tw : Tok}
  (cx : Cx w p loose mean mg mb outer A₀ base h₀ L m s.heap news) (hd : dp + 13 < recursionLimit) (hu : un + 70 < cLine) (hn : IsNT n)
  (hQ : ∀ t h' tk', Fr h₀ L h' m → News h₀ L h' news → R (.ok (.ret (.int (n : Int) t))) { s with heap := h', toks := tk' }) :
  codeAny (model pr w) (top none dp un gd cn nm mo L a ccd cl outer) (.call (.ref 150) ⟨[.str (acS (rep n)) tw], []⟩) R s := by
  first | (refine x0_9 (nt_facts hn) ?_; intro f1 f2 f3 f4 f5 f6 f7 f8 f9) | (refine x1_8 (nt_facts hn) ?_; intro f1 f2 f3 f4 f5 f6 f7 f8 f9) | (refine x2_7 (nt_facts hn) ?_; intro f1 f2 f3 f4 f5 f6 f7 f8 f9) | (refine x3_6 (nt_facts hn) ?_; intro f1 f2 f3 f4 f5 f6 f7 f8 f9) | (refine x4_5 (nt_facts hn) ?_; intro f1 f2 f3 f4 f5 f6 f7 f8 f9) | (refine x5_4 (nt_facts hn) ?_; intro f1 f2 f3 f4 f5 f6 f7 f8 f9) | (refine x6_3 (nt_facts hn) ?_; intro f1 f2 f3 f4 f5 f6 f7 f8 f9) | (refine x7_2 (nt_facts hn) ?_; intro f1 f2 f3 f4 f5 f6 f7 f8 f9) | (refine x8_1 (nt_facts hn) ?_; intro f1 f2 f3 f4 f5 f6 f7 f8 f9) | obtain ⟨f1, f2, f3, f4, f5, f6, f7, f8, f9⟩ := nt_facts hn
  exact c_symN cx hd hu f1 f2 f3 f4 f5 f6 f7 f8 f9 hQ
theorem c_isnt {w : World} {p : Program} {loose : List Str} {mean : ExcName → Option Value} {mg mb : Str → Option Value} {outer : List Env} {A₀ : Around} {base h₀ : Heap} {L : Addr} {m : Str → Option Value} {news : List (Addr × Obj)} {s : Shared}
  {dp un : Nat} {gd : Option (List Code)} {cn : Str} {nm : List (Str × NameKind)} {mo : List (Str × Const)} {a : Addr} {ccd : Value} {cl : List (Str × Addr)} {R : Result → Shared → Prop} {n : Nat} {tx : Tok}
  (cx : Cx w p loose mean mg mb outer A₀ base h₀ L m s.heap news) (hd : dp + 13 < recursionLimit) (hu : un + 70 < cLine)
  (hQ : ∀ h' tk', Fr h₀ L h' m → News h₀ L h' news → R (.ok (.ret (.bool (decide (256 ≤ n))))) { s with heap := h', toks := tk' }) :
  codeAny (model pr w) (top none dp un gd cn nm mo L a ccd cl outer) (.call (.ref 117) ⟨[.int (n : Int) tx], []⟩) R s := by
  first | (refine x0_6 cx ?_; (try clear cx); intro B F X N TT C0) | (refine x1_5 cx ?_; (try clear cx); intro B F X N TT C0) | (refine x2_4 cx ?_; (try clear cx); intro B F X N TT C0) | (refine x3_3 cx ?_; (try clear cx); intro B F X N TT C0) | (refine x4_2 cx ?_; (try clear cx); intro B F X N TT C0) | (refine x5_1 cx ?_; (try clear cx); intro B F X N TT C0) | obtain ⟨B, F, X, N, TT, C0⟩ := cx
  k_dflt k_enter
  k_steps
  have e : decide ((256 : Int) ≤ (n : Int)) = decide (256 ≤ n) := by
    by_cases h : 256 ≤ n
    · rw [decide_eq_true h, decide_eq_true (by omega)]
    · rw [decide_eq_false h, decide_eq_false (by omega)]
  rw [e]
  exact hQ _ _ (by k_asm) (by k_asm)
end
end
theorem flushRP : if True then True else True := by (w_top off); first | (walk1; fail) | simp
section
open PySem PySem.W PySem.Calls PyProof.Rows PyProof.Rows.LCg
set_option maxRecDepth 100000
set_option maxHeartbeats 1000000
section
theorem extN {f g : Str → Option Value} (ns : List Str) (h1 : ∀ x ∈ ns, f x = g x) (h2 : ∀ y, y ∉ ns → f y = g y) : ∀ y, f y = g y := fun y => by
  by_cases h : y ∈ ns
  · exact h1 y h
  · exact h2 y h
/-- the heights of the line as a dict's pairs -/
inductive KvsAre : List (Int × Value) → List (Nat × Nat) → Prop
  | nil : KvsAre [] []
  | cons (x h : Nat) (t : Tok) {r s} : KvsAre r s → KvsAre (((x : Int), .int (h : Int) t) :: r) ((x, h) :: s)
theorem KvsAre.app : ∀ {r s}, KvsAre r s → ∀ (x h : Nat) (t : Tok), KvsAre (r ++ [((x : Int), .int (h : Int) t)]) (s ++ [(x, h)])
  := fun k x h t => by
  induction k with
  | nil => exact .cons x h t .nil
  | cons a b c _ ih => exact .cons a b c ih
theorem KvsAre.len {r s} (k : KvsAre r s) : r.length = s.length := by
  induction k with
  | nil => rfl
  | cons _ _ _ _ ih => exact congrArg (· + 1) ih
theorem KvsAre.keys {r s} (k : KvsAre r s) : r.map (·.1) = (keysH s).map fun (x : Nat) => (x : Int) := by
  induction k with
  | nil => rfl
  | cons a b c _ ih => exact congrArg (_ :: ·) ih
theorem KvsAre.none {r s} (k : KvsAre r s) {x : Nat} (hx : x ∉ keysH s) : valueAt r (x : Int) = none := by
  apply valueAt_none_of_not_mem
  rw [k.keys]
  intro q
  obtain ⟨y, hy, e⟩ := List.mem_map.mp q
  exact hx (Int.ofNat.inj e ▸ hy)
theorem KvsAre.some : ∀ {r s}, KvsAre r s → (keysH s).Nodup → ∀ {x h : Nat}, (x, h) ∈ s → ∃ t, valueAt r (x : Int) = some (.int (h : Int) t) := by
  intro r s k
  induction k with
  | nil => exact fun _ _ _ hm => nomatch hm
  | cons a b c k ih =>
    intro hn x h hm
    have hn' := List.nodup_cons.mp hn
    rcases List.mem_cons.mp hm with e | hm
    · cases e
      exact ⟨c, by simp [valueAt]⟩
    · have hne : a ≠ x := fun q => hn'.1 (q ▸ List.mem_map.mpr ⟨_, hm, rfl⟩)
      obtain ⟨t, ht⟩ := ih hn'.2 hm
      refine ⟨t, ?_⟩
      have hne' : ¬ ((a : Int) = (x : Int)) := fun q => hne (Int.ofNat.inj q)
      unfold valueAt at ht ⊢
      rw [List.find?_cons, show (decide ((((a : Int), Value.int (b : Int) c) : Int × Value).1 = (x : Int))) = false from decide_eq_false hne']
      exact ht
theorem lexL_mem {w : World} {C : LexC} {S : LexS} {x p : Addr × Obj} {nw : List (Addr × Obj)} : p ∈ lexL w C S (x :: nw) ↔ p ∈ x :: lexL w C S nw := by
  have e : ∀ nw, lexL w C S nw = lexL w C S [] ++ nw := fun nw => rfl
  rw [e, e nw]
  generalize lexL w C S [] = A
  rw [List.mem_append, List.mem_cons, List.mem_cons, List.mem_append]
  exact or_left_comm
theorem lexL_in {w : World} {C : LexC} {S : LexS} {g h : Heap} {L : Addr} {x : Addr × Obj} {nw : List (Addr × Obj)} (N : News g L h (x :: lexL w C S nw)) : News g L h (lexL w C S (x :: nw)) := fun p hp => N p (lexL_mem.mp hp)
theorem lexL_out {w : World} {C : LexC} {S : LexS} {g h : Heap} {L : Addr} {x : Addr × Obj} {nw : List (Addr × Obj)} (N : News g L h (lexL w C S (x :: nw))) : News g L h (x :: lexL w C S nw) := fun p hp => N p (lexL_mem.mpr hp)
theorem lexL_in3 {w : World} {C : LexC} {S : LexS} {g h : Heap} {L : Addr} {x y z : Addr × Obj} {nw : List (Addr × Obj)} (N : News g L h (x :: y :: z :: lexL w C S nw)) : News g L h (lexL w C S (x :: y :: z :: nw)) := fun p hp => N p (by
  rcases List.mem_cons.mp (lexL_mem.mp hp) with rfl | hp
  · exact List.mem_cons_self
  · rcases List.mem_cons.mp (lexL_mem.mp hp) with rfl | hp
    · exact List.mem_cons_of_mem _ List.mem_cons_self
    · exact List.mem_cons_of_mem _ (List.mem_cons_of_mem _ (lexL_mem.mp hp)))
theorem LexO.cons {C : LexC} {nw : List (Addr × Obj)} (O : LexO C nw) {x : Addr × Obj} (h1 : x.1 ≠ C.d) (h2 : x.1 ≠ C.al) (h3 : x.1 ≠ C.l) : LexO C (x :: nw) := by
  obtain ⟨o1, o2, o3, o4, o5, o6, o7, o8, o9, nd, nal, nl⟩ := O
  exact ⟨o1, o2, o3, o4, o5, o6, o7, o8, o9, List.forall_mem_cons.mpr ⟨h1, nd⟩, List.forall_mem_cons.mpr ⟨h2, nal⟩, List.forall_mem_cons.mpr ⟨h3, nl⟩⟩
section
variable {prog : Program} {w : World} {A : Around} {Q E : Value → Shared → Prop} {s : Shared} {h₀ : Heap} {L d : Addr} {m : Str → Option Value} {news : List (Addr × Obj)} {o : Obj} {kvs : List (Int × Value)} {hs : List (Nat × Nat)}
theorem notin_line (N : News h₀ L s.heap news) (hp : (d, o) ∈ news) (hd : o.IsDictOf (PySem.intKind prog w) kvs) (k : KvsAre kvs hs) (hn : (keysH hs).Nodup) (lo : (d == sysModules) = false) {x : Nat} {t : Tok} {b : Bool} (hb : decide (x ∉ keysH hs) = b) (h : Q (.bool b) { s with toks := s.toks + 1 }) :
    wpAny (model prog w) A (compareOp .NotIn (.int (x : Int) t) (.ref d)) Q E s := by
  refine wpAny_notIn_of (intKind_is _ _ _ _) lo (kda_dict N hp hd).mapOf ?_
  have e : (!(valueAt kvs (x : Int)).isSome) = b := by
    rw [← hb]
    by_cases hx : x ∈ keysH hs
    · obtain ⟨⟨x', h'⟩, hm, rfl⟩ := List.mem_map.mp hx
      obtain ⟨t, ht⟩ := k.some hn hm
      rw [ht]; simp [hx]
    · rw [k.none hx]; simp [hx]
  rw [e]
  exact h
end
end
end
theorem flushLH : if True then True else True := by (w_top off); first | (walk1; fail) | simp
section
open PySem PySem.W PySem.Calls PyProof.Rows PyProof.Rows.LCg
set_option maxRecDepth 100000
set_option maxHeartbeats 1000000
section
/-- a rule as an object of the ledger -/
noncomputable def RuleAt (nw : List (Addr × Obj)) (v : Value) (r : Rule) : Prop := ∃ t b u1 u2 u3 k, v = .ref t ∧ (t, ({ cls := .type "tuple", data := .seq #[.int (r.1 : Int) u1, .ref b] } : Obj)) ∈ nw ∧ (b, ({ cls := .type "list", data := .seq #[.int (r.2.1 : Int) u2, .int (r.2.2 : Int) u3] k } : Obj)) ∈ nw
noncomputable def RulesAt (nw : List (Addr × Obj)) (l : Addr) (rs : List Rule) : Prop := ∃ its : Array Value, (∃ e, (l, ({ cls := .type "list", data := .seq its e } : Obj)) ∈ nw) ∧ its.size = rs.length ∧ ∀ i (h : i < rs.length), ∃ v, its[i]? = some v ∧ RuleAt nw v rs[i]
theorem RuleAt.mono {nw nw' : List (Addr × Obj)} {v : Value} {r : Rule} (h : RuleAt nw v r) (hs : ∀ p ∈ nw, p ∈ nw') : RuleAt nw' v r := by
  obtain ⟨t, b, u1, u2, u3, k, e, h1, h2⟩ := h
  exact ⟨t, b, u1, u2, u3, k, e, hs _ h1, hs _ h2⟩
theorem RulesAt.mono {nw nw' : List (Addr × Obj)} {l : Addr} {rs : List Rule} (h : RulesAt nw l rs) (hs : ∀ p ∈ nw, p ∈ nw') : RulesAt nw' l rs := by
  obtain ⟨its, ⟨e, h1⟩, h2, h3⟩ := h
  refine ⟨its, ⟨e, hs _ h1⟩, h2, fun i hi => ?_⟩
  obtain ⟨v, a, b⟩ := h3 i hi
  exact ⟨v, a, b.mono hs⟩
theorem intsAre_app : ∀ {vs : List Value} {ns : List Int}, IntsAre vs ns → ∀ (n : Int) (t : Tok), IntsAre (vs ++ [.int n t]) (ns ++ [n])
  := fun h n t => by
  induction h with
  | nil => exact .cons n t .nil
  | cons a b _ ih => exact .cons a b ih
theorem isL {g h : Heap} {L a : Addr} {nw : List (Addr × Obj)} {its : Array Value} {e : Nat} (N : News g L h nw) (hm : (a, ({ cls := .type "list", data := .seq its e } : Obj)) ∈ nw) : h.IsList a its := ⟨_, N.get hm, rfl, _, rfl⟩
theorem isT {g h : Heap} {L a : Addr} {nw : List (Addr × Obj)} {its : Array Value} {e : Nat} (N : News g L h nw) (hm : (a, ({ cls := .type "tuple", data := .seq its e } : Obj)) ∈ nw) : IsTup h a its := ⟨_, N.get hm, rfl, _, rfl⟩
theorem intsAre_get : ∀ {vs : List Value} {ns : List Int}, IntsAre vs ns → ∀ {i : Nat} {n : Int}, ns[i]? = some n → ∃ t, vs[i]? = some (.int n t)
  := by
  intro vs ns h
  induction h with
  | nil => exact fun e => nomatch e
  | cons a b _ ih =>
    intro i n e
    cases i with
    | zero => exact ⟨b, Option.some.inj e ▸ rfl⟩
    | succ i => exact ih (i := i) e
theorem newsAt2 {g h : Heap} {L a b : Addr} {oa ob : Obj} {r : List (Addr × Obj)} (_ : News g L h ((a, oa) :: (b, ob) :: r)) : ∃ a' b', a' = a ∧ b' = b := ⟨_, _, rfl, rfl⟩
theorem newsObj2 {g h : Heap} {L a b : Addr} {oa ob : Obj} {r : List (Addr × Obj)} (_ : News g L h ((a, oa) :: (b, ob) :: r)) : ∃ o, o = ob := ⟨_, rfl⟩
/-- the locals of _law_line -/
noncomputable abbrev lmL (lexer rules left heights came k : Option Value) : Str → Option Value := fun y => if y = Str.ofString "k" then k else if y = Str.ofString "came" then came else if y = Str.ofString "heights" then heights else if y = Str.ofString "left" then left else if y = Str.ofString "rules" then rules else if y = Str.ofString "lexer" then lexer else none
theorem strsAre_len {vs : List Value} {ns : List Str} (h : StrsAre vs ns) : vs.length = ns.length := by
  induction h with
  | nil => rfl
  | cons _ _ _ ih => exact congrArg (· + 1) ih
theorem offL_all {w : World} {C : LexC} {S : LexS} {r : List (Addr × Obj)} {I : Addr} (h : ∀ p ∈ lexL w C S r, p.1 ≠ I) : C.l ≠ I ∧ C.x ≠ I ∧ C.d ≠ I ∧ C.dx ≠ I ∧ C.f ≠ I ∧ C.r ≠ I ∧ C.c2 ≠ I ∧ C.al ≠ I ∧ C.ca ≠ I ∧ C.ct ≠ I ∧ ∀ p ∈ r, p.1 ≠ I := by
  dsimp only [lexL] at h
  simp only [List.forall_mem_cons] at h
  exact h
theorem offL_mk {w : World} {C : LexC} {S : LexS} {r : List (Addr × Obj)} {I : Addr} (h : C.l ≠ I ∧ C.x ≠ I ∧ C.d ≠ I ∧ C.dx ≠ I ∧ C.f ≠ I ∧ C.r ≠ I ∧ C.c2 ≠ I ∧ C.al ≠ I ∧ C.ca ≠ I ∧ C.ct ≠ I ∧ ∀ p ∈ r, p.1 ≠ I) : ∀ p ∈ lexL w C S r, p.1 ≠ I := by
  dsimp only [lexL]
  simp only [List.forall_mem_cons]
  exact h
theorem offL_change {w : World} {C : LexC} {S S' : LexS} {r r' : List (Addr × Obj)} {I : Addr} (h : ∀ p ∈ lexL w C S r, p.1 ≠ I) (hr : ∀ p ∈ r', p.1 ≠ I) : ∀ p ∈ lexL w C S' r', p.1 ≠ I := by
  obtain ⟨a, b, c, d, e, f, g, k, l, m, _⟩ := offL_all h
  exact offL_mk ⟨a, b, c, d, e, f, g, k, l, m, hr⟩
/-- the locals after the loop's name is set -/
theorem lmL_k {a b c d e kv k : Option Value} : ∀ y, (if y = Str.ofString "k" then k else lmL a b c d e kv y) = lmL a b c d e k y := fun y => by
  by_cases h : y = Str.ofString "k" <;> simp [lmL, h]
structure Inv1 (w : World) (C : LexC) (S : LexS) (news : List (Addr × Obj)) (dc dh dl : Addr) (ys : List Value) (l : Addr) (rs : List Rule) (i : Nat) (m : Str → Option Value) (nw : List (Addr × Obj)) : Prop where
  st : ∃ oh kvs items e kv ec el, nw = lexL w C { S with items := items, e := e } ((dc, ({ cls := .type "list", data := .seq #[] ec } : Obj)) :: (dh, oh) :: (dl, ({ cls := .type "list", data := .seq ys.toArray el } : Obj)) :: news) ∧
    (∀ y, m y = lmL (some (.ref C.x)) (some (.ref l)) (some (.ref dl)) (some (.ref dh)) (some (.ref dc)) kv y) ∧ oh.IsDictOf (PySem.intKind pr w) kvs ∧
    KvsAre kvs ((rs.take i).foldl (fun hs r => if lc [] r = 0 then insH hs r.1 1 else hs) []) ∧ StrsAre items (((rs.take i).foldl (fun hs r => if lc [] r = 0 then insH hs r.1 1 else hs) []).map fun p => acS (rep p.1))
theorem Inv1.mk' {w : World} {C : LexC} {S : LexS} {news : List (Addr × Obj)} {dc dh dl : Addr} {ys : List Value} {l : Addr} {rs : List Rule} {i : Nat} {m : Str → Option Value} {nw : List (Addr × Obj)} (oh : Obj) (kvs : List (Int × Value)) (items : List Value) (e : Nat) (kv : Option Value) (ec el : Nat) (h1 : nw = lexL w C { S with items := items, e := e } ((dc, ({ cls := .type "list", data := .seq #[] ec } : Obj)) :: (dh, oh) :: (dl, ({ cls := .type "list", data := .seq ys.toArray el } : Obj)) :: news))
    (h2 : ∀ y, m y = lmL (some (.ref C.x)) (some (.ref l)) (some (.ref dl)) (some (.ref dh)) (some (.ref dc)) kv y) (h3 : oh.IsDictOf (PySem.intKind pr w) kvs)
    (h4 : KvsAre kvs ((rs.take i).foldl (fun hs r => if lc [] r = 0 then insH hs r.1 1 else hs) [])) (h5 : StrsAre items (((rs.take i).foldl (fun hs r => if lc [] r = 0 then insH hs r.1 1 else hs) []).map fun p => acS (rep p.1))) : Inv1 w C S news dc dh dl ys l rs i m nw := ⟨⟨oh, kvs, items, e, kv, ec, el, h1, h2, h3, h4, h5⟩⟩
theorem Inv1.el {w : World} {C : LexC} {S : LexS} {news : List (Addr × Obj)} {dc dh dl : Addr} {ys : List Value} {l : Addr} {rs : List Rule} {i : Nat} {m : Str → Option Value} {nw : List (Addr × Obj)} (I : Inv1 w C S news dc dh dl ys l rs i m nw) {G : Prop} (c : ∀ (oh : Obj) (kvs : List (Int × Value)) (items : List Value) (e : Nat) (kv : Option Value) (ec el : Nat), nw = lexL w C { S with items := items, e := e } ((dc, ({ cls := .type "list", data := .seq #[] ec } : Obj)) :: (dh, oh) :: (dl, ({ cls := .type "list", data := .seq ys.toArray el } : Obj)) :: news) →
    (∀ y, m y = lmL (some (.ref C.x)) (some (.ref l)) (some (.ref dl)) (some (.ref dh)) (some (.ref dc)) kv y) → oh.IsDictOf (PySem.intKind pr w) kvs →
    KvsAre kvs ((rs.take i).foldl (fun hs r => if lc [] r = 0 then insH hs r.1 1 else hs) []) → StrsAre items (((rs.take i).foldl (fun hs r => if lc [] r = 0 then insH hs r.1 1 else hs) []).map fun p => acS (rep p.1)) → G) : G := by
  obtain ⟨⟨a1, a2, a3, a4, a5, a6, a7, h1, h2, h3, h4, h5⟩⟩ := I
  exact c a1 a2 a3 a4 a5 a6 a7 h1 h2 h3 h4 h5
/-- the pairs that came, as tuples of the ledger -/
inductive CameAre (nw : List (Addr × Obj)) : List Value → List (Nat × Nat) → Prop
  | nil : CameAre nw [] []
  | cons {vs l} (t : Addr) (x h : Nat) (tx th : Tok) (k : Nat) : (t, ({ cls := .type "tuple", data := .seq #[.int (h : Int) th, .int (x : Int) tx] k } : Obj)) ∈ nw → CameAre nw vs l → CameAre nw (.ref t :: vs) ((x, h) :: l)
theorem CameAre.mono {nw nw' : List (Addr × Obj)} (hs : ∀ p ∈ nw, p ∈ nw') : ∀ {vs l}, CameAre nw vs l → CameAre nw' vs l := fun c => by
  induction c with
  | nil => exact .nil
  | cons t x h tx th k hm _ ih => exact .cons t x h tx th k (hs _ hm) ih
theorem CameAre.app {nw : List (Addr × Obj)} (t : Addr) (x h : Nat) (tx th : Tok) (k : Nat) (hm : (t, ({ cls := .type "tuple", data := .seq #[.int (h : Int) th, .int (x : Int) tx] k } : Obj)) ∈ nw) : ∀ {vs l}, CameAre nw vs l → CameAre nw (vs ++ [.ref t]) (l ++ [(x, h)]) := fun c => by
  induction c with
  | nil => exact .cons t x h tx th k hm .nil
  | cons t' x' h' tx' th' k' hm' _ ih => exact .cons t' x' h' tx' th' k' hm' ih
theorem CameAre.len {nw : List (Addr × Obj)} : ∀ {vs l}, CameAre nw vs l → vs.length = l.length := fun c => by
  induction c with
  | nil => rfl
  | cons _ _ _ _ _ _ _ _ ih => exact congrArg (· + 1) ih
theorem LexO.app {C : LexC} {nw c : List (Addr × Obj)} (O : LexO C nw) (h1 : ∀ p ∈ c, p.1 ≠ C.d) (h2 : ∀ p ∈ c, p.1 ≠ C.al) (h3 : ∀ p ∈ c, p.1 ≠ C.l) : LexO C (c ++ nw) := by
  obtain ⟨o1, o2, o3, o4, o5, o6, o7, o8, o9, nd, nal, nl⟩ := O
  exact ⟨o1, o2, o3, o4, o5, o6, o7, o8, o9, List.forall_mem_append.mpr ⟨h1, nd⟩, List.forall_mem_append.mpr ⟨h2, nal⟩, List.forall_mem_append.mpr ⟨h3, nl⟩⟩
noncomputable abbrev lmM (lexer rules left heights came k turn word symbol head body : Option Value) : Str → Option Value := fun y => if y = Str.ofString "turn" then turn else if y = Str.ofString "word" then word else if y = Str.ofString "symbol" then symbol else
  if y = Str.ofString "head" then head else if y = Str.ofString "body" then body else if y = Str.ofString "k" then k else if y = Str.ofString "came" then came else if y = Str.ofString "heights" then heights else if y = Str.ofString "left" then left else
  if y = Str.ofString "rules" then rules else if y = Str.ofString "lexer" then lexer else none
theorem ext3 {f g : Str → Option Value} (a b c : Str) (ha : f a = g a) (hb : f b = g b) (hc : f c = g c) (hr : ∀ y, y ≠ a → y ≠ b → y ≠ c → f y = g y) : ∀ y, f y = g y := fun y => by
  by_cases h1 : y = a
  · rw [h1]; exact ha
  by_cases h2 : y = b
  · rw [h2]; exact hb
  by_cases h3 : y = c
  · rw [h3]; exact hc
  exact hr y h1 h2 h3
/-- what is left of the bodies: j rules were looked at -/
noncomputable def leftsJ (rs : List Rule) (P P' : List Nat) (j : Nat) : List Int := ((rs.take j).map fun r => ((lc P' r : Nat) : Int)) ++ (rs.drop j).map fun r => ((lc P r : Nat) : Int)
theorem leftsJ_len {rs : List Rule} {P P' : List Nat} {j : Nat} (hj : j ≤ rs.length) : (leftsJ rs P P' j).length = rs.length := by
  simp [leftsJ]; omega
theorem leftsJ_get {rs : List Rule} {P P' : List Nat} {j : Nat} (hj : j < rs.length) : (leftsJ rs P P' j).getD j 0 = ((lc P rs[j] : Nat) : Int) := by
  unfold leftsJ
  have e : ((rs.take j).map fun r => ((lc P' r : Nat) : Int)).length = j := by rw [List.length_map, List.length_take]; omega
  rw [List.getD_eq_getElem?_getD, List.getElem?_append_right (by omega), e, Nat.sub_self, List.drop_eq_getElem_cons hj, List.map_cons]
  rfl
theorem leftsJ_set {rs : List Rule} {P P' : List Nat} {j : Nat} (hj : j < rs.length) : (leftsJ rs P P' j).set j ((lc P' rs[j] : Nat) : Int) = leftsJ rs P P' (j + 1) := by
  unfold leftsJ
  have e : ((rs.take j).map fun r => ((lc P' r : Nat) : Int)).length = j := by simp; omega
  rw [List.set_append_right _ _ (by omega), e, Nat.sub_self, List.drop_eq_getElem_cons hj, List.map_cons, List.set_cons_zero, List.take_add_one, List.getElem?_eq_getElem hj, List.map_append, List.append_assoc]
  rfl
theorem leftsJ_same {rs : List Rule} {P P' : List Nat} {j : Nat} (hj : j < rs.length) (h : lc P' rs[j] = lc P rs[j]) : leftsJ rs P P' j = leftsJ rs P P' (j + 1) := by
  unfold leftsJ
  rw [List.drop_eq_getElem_cons hj, List.take_add_one, List.getElem?_eq_getElem hj, List.map_append, List.append_assoc, List.map_cons, ← h]
  rfl
theorem leftsJ_end {rs : List Rule} {P P' : List Nat} : leftsJ rs P P' rs.length = rs.map fun r => ((lc P' r : Nat) : Int) := by
  simp [leftsJ]
theorem reordT {w : World} {C : LexC} {S : LexS} {g h : Heap} {L : Addr} {x y p q r : Addr × Obj} {nw : List (Addr × Obj)} (N : News g L h (x :: y :: lexL w C S (p :: q :: r :: nw))) : News g L h (y :: lexL w C S (p :: q :: r :: x :: nw)) := fun z hz => N z (by
  have e : ∀ nw, lexL w C S nw = lexL w C S [] ++ nw := fun _ => rfl
  rw [e] at hz ⊢
  generalize lexL w C S [] = A at *
  simp only [List.mem_cons, List.mem_append] at hz ⊢
  rcases hz with h | h | h | h | h | h | h <;> simp only [h, true_or, or_true])
theorem lexL_in2 {w : World} {C : LexC} {S : LexS} {g h : Heap} {L : Addr} {x y : Addr × Obj} {nw : List (Addr × Obj)} (N : News g L h (x :: y :: lexL w C S nw)) : News g L h (lexL w C S (x :: y :: nw)) := fun p hp => N p (by
  rcases List.mem_cons.mp (lexL_mem.mp hp) with rfl | hp
  · exact List.mem_cons_self
  · exact List.mem_cons_of_mem _ (lexL_mem.mp hp))
theorem lexL_out2 {w : World} {C : LexC} {S : LexS} {g h : Heap} {L : Addr} {x y : Addr × Obj} {nw : List (Addr × Obj)} (N : News g L h (lexL w C S (x :: y :: nw))) : News g L h (x :: y :: lexL w C S nw) := fun p hp => N p (lexL_mem.mpr (by
  rcases List.mem_cons.mp hp with rfl | hp
  · exact List.mem_cons_self
  · exact List.mem_cons_of_mem _ (lexL_mem.mpr hp)))
theorem allCons {p : Addr × Obj} {r : List (Addr × Obj)} {d : Addr} (h1 : p.1 ≠ d) (h2 : ∀ q ∈ r, q.1 ≠ d) : ∀ q ∈ p :: r, q.1 ≠ d := List.forall_mem_cons.mpr ⟨h1, h2⟩
section
variable {prog : Program} {w : World} {A : Around} {Q E : Value → Shared → Prop} {s : Shared} {bb : Addr} {x y a n : Nat} {u2 u3 t : Tok}
theorem in_body (r : Rule) (hl : s.heap.IsList bb #[.int (r.2.1 : Int) u2, .int (r.2.2 : Int) u3]) {b : Bool} (hb : decide (a ∈ bodyR r) = b) (h : Q (.bool b) s) : wpAny (model prog w) A (compareOp .In (.int (a : Int) t) (.ref bb)) Q E s := by
  refine in_list_ints (vs := [_, _]) hl (.cons _ _ (.cons _ _ .nil)) ?_
  have e : ([(r.2.1 : Int), (r.2.2 : Int)].any (· == (a : Int))) = b := by
    rw [← hb]
    by_cases h1 : a ∈ bodyR r
    · have : r.2.1 = a ∨ r.2.2 = a := by
        simp only [bodyR, List.mem_cons, List.not_mem_nil, or_false] at h1
        rcases h1 with h | h
        · exact .inl h.symm
        · exact .inr h.symm
      rcases this with h | h <;> simp [h1, h]
    · have : ¬ r.2.1 = a ∧ ¬ r.2.2 = a := by
        simp only [bodyR, List.mem_cons, List.not_mem_nil, or_false, not_or] at h1
        exact ⟨fun q => h1.1 q.symm, fun q => h1.2 q.symm⟩
      have f : ∀ z : Nat, ¬ z = a → ((z : Int) == (a : Int)) = false := fun z hz => by simpa using fun q : (z : Int) = a => hz (Int.ofNat.inj q)
      simp [h1, f _ this.1, f _ this.2]
  rw [e]
  exact h
theorem count_body (r : Rule) (hl : s.heap.IsList bb #[.int (r.2.1 : Int) u2, .int (r.2.2 : Int) u3]) (h : Q (.int (((bodyR r).count a : Nat) : Int) s.toks) { s with toks := s.toks + 1 }) : wpAny (model prog w) A (call (.builtin "list.count") [.ref bb, .int (a : Int) t]) Q E s := by
  refine count_list_ints (vs := [_, _]) hl (.cons _ _ (.cons _ _ .nil)) ?_
  have f : ∀ z : Nat, ((z : Int) == (a : Int)) = (z == a) := fun z => by
    by_cases q : z = a
    · simp [q]
    · have : ¬ (z : Int) = (a : Int) := fun k => q (Int.ofNat.inj k)
      rw [beq_eq_false_iff_ne.mpr this, beq_eq_false_iff_ne.mpr q]
  have e : [(r.2.1 : Int), (r.2.2 : Int)].count (a : Int) = (bodyR r).count a := by
    simp [bodyR, List.count_cons, f]
  rw [e]
  exact h
end
/-- the line at a turn -/
structure LnAt (w : World) (C : LexC) (S : LexS) (news : List (Addr × Obj)) (dc dh dl l : Addr) (hs came : List (Nat × Nat)) (q : Nat) (lefts : List Int) (sv : Option Value) (m : Str → Option Value) (nw : List (Addr × Obj)) : Prop where
  st : ∃ oh kvs items e camev cnew kv tv wv hv bv ec yl el, nw = lexL w C { S with items := items, e := e } ((dc, listOf camev.toArray ec) :: (dh, oh) :: (dl, listOf yl.toArray el) :: (cnew ++ news)) ∧
    (∀ y, m y = lmM (some (.ref C.x)) (some (.ref l)) (some (.ref dl)) (some (.ref dh)) (some (.ref dc)) kv tv wv sv hv bv y) ∧ oh.IsDictOf (PySem.intKind pr w) kvs ∧
    KvsAre kvs hs ∧ StrsAre items ((hs.drop q).map fun p => acS (rep p.1)) ∧ CameAre cnew camev came ∧ IntsAre yl lefts ∧ ∀ p ∈ cnew, @LT.lt Nat _ dc p.1
section
variable {w : World} {C : LexC} {S : LexS} {news : List (Addr × Obj)} {dc dh dl l : Addr} {hs came : List (Nat × Nat)} {q : Nat} {lefts : List Int} {sv : Option Value} {m : Str → Option Value} {nw : List (Addr × Obj)}
theorem LnAt.mk' (oh : Obj) (kvs : List (Int × Value)) (items : List Value) (e : Nat) (camev : List Value) (cnew : List (Addr × Obj)) (kv tv wv hv bv : Option Value) (ec : Nat) (yl : List Value) (el : Nat) (h1 : nw = lexL w C { S with items := items, e := e } ((dc, listOf camev.toArray ec) :: (dh, oh) :: (dl, listOf yl.toArray el) :: (cnew ++ news)))
    (h2 : ∀ y, m y = lmM (some (.ref C.x)) (some (.ref l)) (some (.ref dl)) (some (.ref dh)) (some (.ref dc)) kv tv wv sv hv bv y) (h3 : oh.IsDictOf (PySem.intKind pr w) kvs)
    (h4 : KvsAre kvs hs) (h5 : StrsAre items ((hs.drop q).map fun p => acS (rep p.1))) (h6 : CameAre cnew camev came) (h7 : IntsAre yl lefts) (h8 : ∀ p ∈ cnew, @LT.lt Nat _ dc p.1) : LnAt w C S news dc dh dl l hs came q lefts sv m nw := ⟨⟨oh, kvs, items, e, camev, cnew, kv, tv, wv, hv, bv, ec, yl, el, h1, h2, h3, h4, h5, h6, h7, h8⟩⟩
theorem LnAt.el (I : LnAt w C S news dc dh dl l hs came q lefts sv m nw) {G : Prop} (c : ∀ (oh : Obj) (kvs : List (Int × Value)) (items : List Value) (e : Nat) (camev : List Value) (cnew : List (Addr × Obj)) (kv tv wv hv bv : Option Value) (ec : Nat) (yl : List Value) (el : Nat), nw = lexL w C { S with items := items, e := e } ((dc, listOf camev.toArray ec) :: (dh, oh) :: (dl, listOf yl.toArray el) :: (cnew ++ news)) →
    (∀ y, m y = lmM (some (.ref C.x)) (some (.ref l)) (some (.ref dl)) (some (.ref dh)) (some (.ref dc)) kv tv wv sv hv bv y) → oh.IsDictOf (PySem.intKind pr w) kvs →
    KvsAre kvs hs → StrsAre items ((hs.drop q).map fun p => acS (rep p.1)) → CameAre cnew camev came → IntsAre yl lefts → (∀ p ∈ cnew, @LT.lt Nat _ dc p.1) → G) : G := by
  obtain ⟨⟨a1, a2, a3, a4, a5, a6, a7, a8, a9, a10, a11, a12, a13, a14, h1, h2, h3, h4, h5, h6, h7, h8⟩⟩ := I
  exact c a1 a2 a3 a4 a5 a6 a7 a8 a9 a10 a11 a12 a13 a14 h1 h2 h3 h4 h5 h6 h7 h8
end

theorem newsAt1 {g h : Heap} {L a : Addr} {oa : Obj} {r : List (Addr × Obj)} (_ : News g L h ((a, oa) :: r)) : ∃ a', a' = a := ⟨_, rfl⟩
theorem newsTok {g h : Heap} {L a : Addr} {v : Value} {x : Int} {t : Tok} {k : Nat} {r : List (Addr × Obj)} (_ : News g L h ((a, ({ cls := .type "tuple", data := .seq #[v, .int x t] k } : Obj)) :: r)) : ∃ t', t' = t := ⟨_, rfl⟩
section
variable {prog : Program} {w : World} {A : Around} {E : Value → Shared → Prop} {s : Shared} {bb : Addr} {its : Array Value}
theorem method_count {pl : Sem Bool} {Q : Value × List Value → Shared → Prop} {h₀ : Heap} {L : Addr} {nw : List (Addr × Obj)} {e : Nat} (N : News h₀ L s.heap nw) (hm : (bb, ({ cls := .type "list", data := .seq its e } : Obj)) ∈ nw) (h : Q (.builtin "list.count", [.ref bb]) s) : wpAny (model prog w) A (getMethod (.ref bb) (Str.ofString "count") pl) Q E s :=
  kf_method N hm PySem.F.slot_list_count PySem.F.type_list_count h
end
theorem off1_all {D : Addr} : ∀ {nw : List (Addr × Obj)}, Off1 D nw → ∀ p ∈ nw, p.1 ≠ D
  | [], _ => fun _ h => nomatch h
  | _ :: _, ⟨h1, h2⟩ => List.forall_mem_cons.mpr ⟨h1, off1_all h2⟩
theorem lexL_sub {w : World} {C : LexC} {S : LexS} {g h : Heap} {L : Addr} {nw nw' : List (Addr × Obj)} (N : News g L h (lexL w C S nw)) (hs : ∀ p ∈ nw', p ∈ nw) : News g L h (lexL w C S nw') := fun p hp => N p (by
  have e : ∀ nw, lexL w C S nw = lexL w C S [] ++ nw := fun _ => rfl
  rw [e] at hp ⊢
  rcases List.mem_append.mp hp with h | h
  · exact List.mem_append_left _ h
  · exact List.mem_append_right _ (hs _ h))
theorem LexO.sub {C : LexC} {nw nw' : List (Addr × Obj)} (O : LexO C nw) (hs : ∀ p ∈ nw', p ∈ nw) : LexO C nw' := by
  obtain ⟨o1, o2, o3, o4, o5, o6, o7, o8, o9, nd, nal, nl⟩ := O
  exact ⟨o1, o2, o3, o4, o5, o6, o7, o8, o9, fun p hp => nd p (hs p hp), fun p hp => nal p (hs p hp), fun p hp => nl p (hs p hp)⟩
theorem CameAre.get {nw : List (Addr × Obj)} : ∀ {vs l}, CameAre nw vs l → ∀ {i : Nat} (hi : i < l.length), ∃ t tx th k, vs[i]? = some (.ref t) ∧ (t, ({ cls := .type "tuple", data := .seq #[.int (l[i].2 : Int) th, .int (l[i].1 : Int) tx] k } : Obj)) ∈ nw
  := by
  intro vs l c
  induction c with
  | nil => exact fun hi => absurd hi (Nat.not_lt_zero _)
  | cons t x h tx th k hm _ ih =>
    intro i hi
    cases i with
    | zero => exact ⟨t, tx, th, k, rfl, hm⟩
    | succ i => exact ih (i := i) (Nat.lt_of_succ_lt_succ hi)
theorem keys_take {hs : List (Nat × Nat)} (hn : (keysH hs).Nodup) {i : Nat} (hi : i < hs.length) : hs[i].1 ∉ keysH (hs.take i) :=
  not_in_take (t := i) (a := hs[i].1) (h := hs[i].2) hn (List.getElem?_eq_getElem hi)
/-- the locals of _law_due -/
noncomputable abbrev lmD (rules came heights height symbol due asked head body inner : Option Value) : Str → Option Value := fun y => if y = Str.ofString "inner" then inner else if y = Str.ofString "body" then body else if y = Str.ofString "head" then head else
  if y = Str.ofString "asked" then asked else if y = Str.ofString "symbol" then symbol else if y = Str.ofString "height" then height else if y = Str.ofString "due" then due else if y = Str.ofString "heights" then heights else
  if y = Str.ofString "came" then came else if y = Str.ofString "rules" then rules else none
theorem newsObjs {g h : Heap} {L a b : Addr} {oa ob : Obj} {r : List (Addr × Obj)} (_ : News g L h ((a, oa) :: (b, ob) :: r)) : ∃ x y, x = oa ∧ y = ob := ⟨_, _, rfl, rfl⟩
section
variable {prog : Program} {w : World} {A : Around} {E : Value → Shared → Prop} {s : Shared} {a b : Addr} {xs : List Value} {ns : List Int} {Q : Value → Shared → Prop}
theorem eq_nil {ha : Heap} {L : Addr} {nw : List (Addr × Obj)} {k k2 : Nat} (N : News ha L s.heap nw) (h1 : (a, listOf xs.toArray k) ∈ nw) (h2 : (b, listOf #[] k2) ∈ nw) (hi : IntsAre xs ns) (hu : A.units + 64 < cLine) {c : Bool} (hc : decide (ns = []) = c) (h : Q (.bool c) s) :
    wpAny (model prog w) A (compareOp .Eq (.ref a) (.ref b)) Q E s :=
  ke_eq_ints (ys := []) (ms := []) ⟨_, (N _ h1).1, rfl, _, rfl⟩ ⟨_, (N _ h2).1, rfl, _, rfl⟩ hi .nil hu (by rw [hc]; exact h)
end
theorem newsTokL {g h : Heap} {L a : Addr} {x : Int} {t : Tok} {k : Nat} {r : List (Addr × Obj)} (_ : News g L h ((a, listOf #[.int x t] k) :: r)) : ∃ t', t' = t := ⟨_, rfl⟩
theorem intsAre_inv : ∀ {vs : List Value} {ns : List Nat}, IntsAre vs (ns.map fun (x : Nat) => (x : Int)) → ∀ {i : Nat} {v : Value}, vs[i]? = some v → ∃ (y : Nat) (u : Tok), ns[i]? = some y ∧ v = .int (y : Int) u
  | _, [], h, i, v, e => by cases h; simp at e
  | _, n :: ns, h, i, v, e => by
    cases h with
    | cons _ t h =>
      cases i with
      | zero => exact ⟨n, t, rfl, (Option.some.inj e).symm⟩
      | succ i => exact intsAre_inv h (by simpa using e)
theorem map_take_succ {ns : List Nat} {q y : Nat} (h : ns[q]? = some y) (p : Nat → Bool) : (((ns.take (q + 1)).filter p).map fun (x : Nat) => (x : Int)) = (((ns.take q).filter p).map fun (x : Nat) => (x : Int)) ++ if p y = true then [(y : Int)] else [] := by
  rw [List.take_add_one, h, List.filter_append, List.map_append]
  by_cases h : p y = true <;> simp [h]
theorem max_is {hs : List (Nat × Nat)} {l : List Nat} {M : Int} (h1 : M ∈ [(0 : Int)] ++ l.map fun x => ((hOf hs x : Nat) : Int)) (h2 : ∀ a, a ∈ [(0 : Int)] ++ l.map (fun x => ((hOf hs x : Nat) : Int)) → a ≤ M) : M = ((maxH hs l : Nat) : Int) := by
  have h0 : 0 ≤ M := h2 0 (by simp)
  have hle : maxH hs l ≤ M.toNat := maxH_le fun s hs' => by
    have := h2 ((hOf hs s : Nat) : Int) (List.mem_append_right _ (List.mem_map.mpr ⟨s, hs', rfl⟩))
    omega
  rcases List.mem_append.mp h1 with h | h
  · have : M = 0 := by simpa using h
    omega
  · obtain ⟨x, hx, e⟩ := List.mem_map.mp h
    have := le_maxH (hs := hs) hx
    omega
theorem min_is {l : List Nat} {M : Int} (h1 : M ∈ (99 : Int) :: l.map fun (x : Nat) => (x : Int)) (h2 : ∀ a, a ∈ (99 : Int) :: l.map (fun (x : Nat) => (x : Int)) → M ≤ a) : M = ((l.foldl min 99 : Nat) : Int) := by
  have h9 : M ≤ 99 := h2 99 (by simp)
  have hm : ∃ m : Nat, M = (m : Int) ∧ (m ∈ l ∨ m = 99) := by
    rcases List.mem_cons.mp h1 with h | h
    · exact ⟨99, h, .inr rfl⟩
    · obtain ⟨x, hx, e⟩ := List.mem_map.mp h
      exact ⟨x, e.symm, .inl hx⟩
  obtain ⟨m, rfl, hm⟩ := hm
  have a1 : l.foldl min 99 ≤ m := foldl_min_le (by rcases hm with h | h; exact .inl h; exact .inr (by omega))
  have a2 : m ≤ l.foldl min 99 := le_foldl_min (fun x hx => by have := h2 (x : Int) (List.mem_cons_of_mem _ (List.mem_map.mpr ⟨x, hx, rfl⟩)); omega) (by omega)
  omega
theorem askH_yes {rs : List Rule} {hs : List (Nat × Nat)} {x j : Nat} (hj : j < rs.length) (h : rs[j].1 = x ∧ ∀ s ∈ innR rs[j], s ∈ keysH hs) : askH (rs.take (j + 1)) hs x = askH (rs.take j) hs x ++ [maxH hs (innR rs[j])] := by
  unfold askH
  rw [List.take_add_one, List.getElem?_eq_getElem hj, Option.toList_some, List.filter_append, List.map_append, List.filter_cons_of_pos (by simp only [Bool.and_eq_true, decide_eq_true_eq, List.all_eq_true]; exact h)]
  rfl
theorem askH_no {rs : List Rule} {hs : List (Nat × Nat)} {x j : Nat} (hj : j < rs.length) (h : ¬ (rs[j].1 = x ∧ ∀ s ∈ innR rs[j], s ∈ keysH hs)) : askH (rs.take (j + 1)) hs x = askH (rs.take j) hs x := by
  unfold askH
  rw [List.take_add_one, List.getElem?_eq_getElem hj, Option.toList_some, List.filter_append, List.map_append, List.filter_cons_of_neg (by simp only [Bool.and_eq_true, decide_eq_true_eq, List.all_eq_true]; exact h)]
  exact List.append_nil _
theorem askH_len {rs : List Rule} {hs : List (Nat × Nat)} {x j : Nat} : (askH (rs.take j) hs x).length ≤ rs.length := by
  unfold askH
  rw [List.length_map]
  refine Nat.le_trans (List.length_filter_le _ _) ?_
  rw [List.length_take]
  exact Nat.min_le_right _ _
theorem newsTup {g h : Heap} {L a : Addr} {v : Value} {x : Int} {t : Tok} {k : Nat} {r : List (Addr × Obj)} (_ : News g L h ((a, ({ cls := .type "tuple", data := .seq #[.int x t, v] k } : Obj)) :: r)) : ∃ t', t' = t := ⟨_, rfl⟩
/-- the locals of _law_in_all -/
noncomputable abbrev lmA (rules common : Option Value) : Str → Option Value := fun y => if y = Str.ofString "common" then common else if y = Str.ofString "rules" then rules else none
theorem newsObjs3 {g h : Heap} {L a b c : Addr} {oa ob oc : Obj} {r : List (Addr × Obj)} (_ : News g L h ((a, oa) :: (b, ob) :: (c, oc) :: r)) : ∃ x y, x = ob ∧ y = oc := ⟨_, _, rfl, rfl⟩
theorem newsTok4 {g h : Heap} {L a : Addr} {v w x y : Int} {t1 t2 t3 t4 : Tok} {k : Nat} {r : List (Addr × Obj)} (_ : News g L h ((a, listOf #[.int v t1, .int w t2, .int x t3, .int y t4] k) :: r)) : ∃ u1 u2 u3 u4, u1 = t1 ∧ u2 = t2 ∧ u3 = t3 ∧ u4 = t4 := ⟨_, _, _, _, rfl, rfl, rfl, rfl⟩
/-- what is common after some choices -/
noncomputable def comN (rs : List Rule) (i : Nat) : List Nat := (List.range i).foldl (fun com c => if (openH rs c).isEmpty then com.filter (fun s => decide (s ∈ heldH c)) else com) [256, 257, 258, 259]
theorem comN_succ {rs : List Rule} (i : Nat) : comN rs (i + 1) = if (openH rs i).isEmpty then (comN rs i).filter (fun s => decide (s ∈ heldH i)) else comN rs i := by
  unfold comN
  rw [List.range_succ, List.foldl_append]
  rfl
theorem comN_len {rs : List Rule} : ∀ i, (comN rs i).length ≤ 4
  | 0 => Nat.le_refl _
  | i + 1 => by
    rw [comN_succ]
    have := comN_len (rs := rs) i
    split
    · exact Nat.le_trans (List.length_filter_le _ _) this
    · exact this
theorem newsObj4 {g h : Heap} {L a b c d : Addr} {oa ob oc od : Obj} {r : List (Addr × Obj)} (_ : News g L h ((a, oa) :: (b, ob) :: (c, oc) :: (d, od) :: r)) : ∃ x, x = od := ⟨_, rfl⟩
theorem fd_bit (i q : Nat) : ((i : Int).fdiv (2 ^ ((q : Nat) : Int).toNat)).fmod 2 = 1 ↔ i / 2 ^ q % 2 = 1 := by
  have e : ((2 : Int) ^ q) = ((2 ^ q : Nat) : Int) := by simp
  rw [Int.toNat_natCast, e, Int.fdiv_eq_ediv_of_nonneg _ (Int.natCast_nonneg _), Int.fmod_eq_emod_of_nonneg _ (by decide)]
  omega
section
variable {prog : Program} {w : World} {A : Around} {E : Value → Shared → Prop} {s : Shared} {a : Addr} {vs : List Value} {ns : List Nat} {Q : Value → Shared → Prop}
theorem any_nats (x : Nat) : ((ns.map fun (x : Nat) => (x : Int)).any (· == (x : Int))) = decide (x ∈ ns) := by
  induction ns with
  | nil => rfl
  | cons n r ih =>
    rw [List.map_cons, List.any_cons, ih]
    have f : ((n : Int) == (x : Int)) = decide (x = n) := by
      by_cases h : x = n
      · simp [h]
      · have : ¬ (n : Int) = (x : Int) := fun k => h (Int.ofNat.inj k).symm
        rw [beq_eq_false_iff_ne.mpr this, decide_eq_false h]
    rw [f]
    by_cases h : x = n <;> simp [h]
theorem notin_nats {ha : Heap} {L : Addr} {nw : List (Addr × Obj)} {k : Nat} (N : News ha L s.heap nw) (h1 : (a, listOf vs.toArray k) ∈ nw) (hi : IntsAre vs (ns.map fun (x : Nat) => (x : Int))) {x : Nat} {t : Tok} {c : Bool} (hc : decide (x ∉ ns) = c) (h : Q (.bool c) s) :
    wpAny (model prog w) A (compareOp .NotIn (.int (x : Int) t) (.ref a)) Q E s :=
  notin_list_ints ⟨_, (N _ h1).1, rfl, _, rfl⟩ hi (by rw [any_nats, ← hc] at *; simpa using h)
theorem in_nats {ha : Heap} {L : Addr} {nw : List (Addr × Obj)} {k : Nat} (N : News ha L s.heap nw) (h1 : (a, listOf vs.toArray k) ∈ nw) (hi : IntsAre vs (ns.map fun (x : Nat) => (x : Int))) {x : Nat} {t : Tok} {c : Bool} (hc : decide (x ∈ ns) = c) (h : Q (.bool c) s) :
    wpAny (model prog w) A (compareOp .In (.int (x : Int) t) (.ref a)) Q E s :=
  in_list_ints ⟨_, (N _ h1).1, rfl, _, rfl⟩ hi (by rw [any_nats, hc]; exact h)
end
theorem newsObj4' {g h : Heap} {L a b c d : Addr} {oa ob oc od : Obj} {r : List (Addr × Obj)} (_ : News g L h ((a, oa) :: (b, ob) :: (c, oc) :: (d, od) :: r)) : ∃ x, x = od := ⟨_, rfl⟩
theorem openH_len {rs : List Rule} {c : Nat} : (openH rs c).length ≤ rs.length := by
  unfold openH
  rw [List.length_map]
  exact List.length_filter_le _ _
end
end
theorem flushLK : if True then True else True := by (w_top off); first | (walk1; fail) | simp
section
open PySem PySem.W PySem.Calls PyProof.Rows
set_option maxRecDepth 100000
section
noncomputable def vN (x : Int) : Nat := (x % 1000000).toNat
noncomputable def symP (p : Nat) : Nat := if p % 7 < 4 then 256 + p % 7 else 7 + p / 49 % 48
noncomputable def ruleOf (x : Int) : Rule := (256 + vN x % 4, symP (vN x / 4), symP (vN x / 28))
noncomputable def xsOf (ns : List Int) : List Int := [2116] ++ (ns ++ [6, 757]).take 4
noncomputable def rsOf (ns : List Int) : List Rule := (xsOf ns).map ruleOf
noncomputable def symR (r : Rule) : List Nat := [r.1, r.2.1, r.2.2]
noncomputable def symsR (rs : List Rule) : List Nat := rs.flatMap symR
theorem vN_fmod (x : Int) : x.fmod 1000000 = ((vN x : Nat) : Int) := by
  unfold vN
  rw [Int.fmod_eq_emod_of_nonneg _ (by decide)]
  omega
theorem fdN (a k : Nat) : ((a : Nat) : Int).fdiv (k : Int) = ((a / k : Nat) : Int) := by
  rw [Int.fdiv_eq_ediv_of_nonneg _ (Int.natCast_nonneg _)]
  exact (Int.natCast_ediv a k).symm
theorem fmN (a k : Nat) : ((a : Nat) : Int).fmod (k : Int) = ((a % k : Nat) : Int) := by
  rw [Int.fmod_eq_emod_of_nonneg _ (Int.natCast_nonneg _)]
  exact (Int.natCast_emod a k).symm
theorem symP_is (p : Nat) : IsSym (symP p) := by
  unfold symP IsSym IsNT IsOp
  split <;> omega
theorem ruleOf_nt (x : Int) : IsNT (ruleOf x).1 := by
  show 256 ≤ 256 + vN x % 4 ∧ 256 + vN x % 4 ≤ 259
  omega
theorem ruleOf_sym (x : Int) : ∀ s ∈ symR (ruleOf x), IsSym s := by
  intro s hs
  simp only [symR, ruleOf, List.mem_cons, List.not_mem_nil, or_false] at hs
  rcases hs with rfl | rfl | rfl
  · exact .inl (ruleOf_nt x)
  · exact symP_is _
  · exact symP_is _
theorem xsOf_len (ns : List Int) : (xsOf ns).length ≤ 5 := by
  unfold xsOf
  simp only [List.length_append, List.length_cons, List.length_nil, List.length_take]
  omega
theorem rsOf_len (ns : List Int) : (rsOf ns).length ≤ 5 := by
  unfold rsOf
  rw [List.length_map]
  exact xsOf_len ns
theorem rsOf_nt (ns : List Int) : ∀ r ∈ rsOf ns, IsNT r.1 := fun r hr => by
  obtain ⟨x, _, rfl⟩ := List.mem_map.mp hr
  exact ruleOf_nt x
theorem rsOf_sym (ns : List Int) : ∀ s ∈ symsR (rsOf ns), IsSym s := fun s hs => by
  obtain ⟨r, hr, h⟩ := List.mem_flatMap.mp hs
  obtain ⟨x, _, rfl⟩ := List.mem_map.mp hr
  exact ruleOf_sym x s h
theorem symsR_len : ∀ rs : List Rule, (symsR rs).length = 3 * rs.length
  | [] => rfl
  | r :: rs => by
    show (symR r ++ symsR rs).length = _
    rw [List.length_append, symsR_len rs, List.length_cons]
    show 3 + _ = _
    omega
theorem symsR_succ {rs : List Rule} {i : Nat} (hi : i < rs.length) : symsR (rs.take (i + 1)) = symsR (rs.take i) ++ symR rs[i] := by
  unfold symsR
  rw [List.take_add_one, List.getElem?_eq_getElem hi, Option.toList_some, List.flatMap_append]
  simp
/-- the drawn rules in a ledger -/
inductive RsAre (nw : List (Addr × Obj)) : List Value → List Rule → Prop
  | nil : RsAre nw [] []
  | cons {v vs r rs} : RuleAt nw v r → RsAre nw vs rs → RsAre nw (v :: vs) (r :: rs)
theorem RsAre.mono {nw nw' : List (Addr × Obj)} (hs : ∀ p ∈ nw, p ∈ nw') : ∀ {vs rs}, RsAre nw vs rs → RsAre nw' vs rs
  := fun c => by
  induction c with
  | nil => exact .nil
  | cons h _ ih => exact .cons (h.mono hs) ih
theorem RsAre.app {nw : List (Addr × Obj)} {v : Value} {r : Rule} (h : RuleAt nw v r) : ∀ {vs rs}, RsAre nw vs rs → RsAre nw (vs ++ [v]) (rs ++ [r])
  := fun c => by
  induction c with
  | nil => exact .cons h .nil
  | cons h' _ ih => exact .cons h' ih
theorem RsAre.len {nw : List (Addr × Obj)} : ∀ {vs rs}, RsAre nw vs rs → vs.length = rs.length := fun c => by
  induction c with
  | nil => rfl
  | cons _ _ ih => exact congrArg (· + 1) ih
theorem RsAre.get {nw : List (Addr × Obj)} : ∀ {vs rs}, RsAre nw vs rs → ∀ {i : Nat} (hi : i < rs.length), ∃ v, vs[i]? = some v ∧ RuleAt nw v rs[i]
  := by
  intro vs rs c
  induction c with
  | nil => exact fun hi => absurd hi (Nat.not_lt_zero _)
  | cons h _ ih =>
    intro i hi
    cases i with
    | zero => exact ⟨_, rfl, h⟩
    | succ i => exact ih (i := i) (Nat.lt_of_succ_lt_succ hi)
theorem RsAre.at {nw : List (Addr × Obj)} {vs : List Value} {rs : List Rule} {l : Addr} {e : Nat} (h : RsAre nw vs rs) (hm : (l, listOf vs.toArray e) ∈ nw) : RulesAt nw l rs :=
  ⟨vs.toArray, ⟨e, hm⟩, by rw [List.size_toArray, h.len], fun i hi => by
    obtain ⟨v, e, r⟩ := h.get hi
    exact ⟨v, by simpa using e, r⟩⟩
noncomputable abbrev lmW (script ops drawn replies x v body symbol text k words rules came : Option Value) : Str → Option Value := fun y => if y = Str.ofString "came" then came else if y = Str.ofString "rules" then rules else if y = Str.ofString "words" then words else
  if y = Str.ofString "k" then k else if y = Str.ofString "text" then text else if y = Str.ofString "symbol" then symbol else if y = Str.ofString "body" then body else if y = Str.ofString "v" then v else if y = Str.ofString "x" then x else
  if y = Str.ofString "replies" then replies else if y = Str.ofString "drawn" then drawn else if y = Str.ofString "operators" then ops else if y = Str.ofString "script" then script else none
theorem isListAt {h : Heap} {a : Addr} {its : List Value} (_ : h.IsList a its.toArray) : ∃ a' its', a' = a ∧ its' = its := ⟨_, _, rfl, rfl⟩
theorem newsLst {g h : Heap} {L a : Addr} {vs : List Value} {k : Nat} {r : List (Addr × Obj)} (_ : News g L h ((a, listOf vs.toArray k) :: r)) : ∃ a' vs', a' = a ∧ vs' = vs := ⟨_, _, rfl, rfl⟩
theorem intsAre_invI : ∀ {vs : List Value} {ns : List Int}, IntsAre vs ns → ∀ {i : Nat} {v : Value}, vs[i]? = some v → ∃ (y : Int) (u : Tok), ns[i]? = some y ∧ v = .int y u
  := by
  intro vs ns h
  induction h with
  | nil => exact fun e => nomatch e
  | cons n t _ ih =>
    intro i v e
    cases i with
    | zero => exact ⟨n, t, rfl, (Option.some.inj e).symm⟩
    | succ i => exact ih (i := i) e
theorem OpenG.listN {prog : Program} {w : World} {A : Around} {s : Shared} {h₀ : Heap} {L : Addr} {m : Str → Option Value} {ax : Addr} {its : Array Value} {news : List (Addr × Obj)} {n : Nat} (hn : its.size = n) (hh : A.handled = none) (F : Fr h₀ L s.heap m) (N : News h₀ L s.heap news) (S : LCg.SrcAt h₀ ax its news) :
    OpenG prog w A h₀ L m (.ref ax) s n (fun i v => its[i]? = some v) (LCg.SrcAt h₀ ax its) True news := by
  subst hn
  exact OpenG.list hh F N S
theorem x6 (x : Int) : x.fmod (10 ^ Int.toNat 6) = ((vN x : Nat) : Int) := vN_fmod x
theorem symI (n : Nat) : (if ((n : Nat) : Int).fmod 7 < 4 then 256 + ((n : Nat) : Int).fmod 7 else 7 + (((n : Nat) : Int).fdiv 49).fmod 48) = ((symP n : Nat) : Int) := by
  have e1 : ((n : Nat) : Int).fmod 7 = ((n % 7 : Nat) : Int) := fmN n 7
  have e2 : (((n : Nat) : Int).fdiv 49).fmod 48 = ((n / 49 % 48 : Nat) : Int) := by
    rw [show ((n : Nat) : Int).fdiv 49 = ((n / 49 : Nat) : Int) from fdN n 49]
    exact fmN _ 48
  rw [e1, e2]
  unfold symP
  by_cases h : n % 7 < 4
  · rw [if_pos h, if_pos (by omega)]; omega
  · rw [if_neg h, if_neg (by omega)]; omega
theorem headI (x : Int) : 256 + (x.fmod (10 ^ Int.toNat 6)).fmod 4 = (((ruleOf x).1 : Nat) : Int) := by
  rw [x6, show ((vN x : Nat) : Int).fmod 4 = ((vN x % 4 : Nat) : Int) from fmN _ 4]
  show _ = ((256 + vN x % 4 : Nat) : Int)
  omega
theorem bodyI {x : Int} {ys : List Value} (h : IntsAre ys (List.map (fun k' : Int => if k'.fmod 7 < 4 then 256 + k'.fmod 7 else 7 + (k'.fdiv 49).fmod 48) [(x.fmod (10 ^ Int.toNat 6)).fdiv 4, (x.fmod (10 ^ Int.toNat 6)).fdiv 28])) :
    ∃ t1 t2, ys = [.int (((ruleOf x).2.1 : Nat) : Int) t1, .int (((ruleOf x).2.2 : Nat) : Int) t2] := by
  rw [x6, show ((vN x : Nat) : Int).fdiv 4 = ((vN x / 4 : Nat) : Int) from fdN _ 4, show ((vN x : Nat) : Int).fdiv 28 = ((vN x / 28 : Nat) : Int) from fdN _ 28] at h
  simp only [List.map_cons, List.map_nil, symI] at h
  cases h with
  | cons _ t1 h =>
    cases h with
    | cons _ t2 h =>
      cases h
      exact ⟨t1, t2, rfl⟩
theorem newsTok3 {g h : Heap} {L a : Addr} {x : Int} {t : Tok} {v w : Value} {k : Nat} {r : List (Addr × Obj)} (_ : News g L h ((a, listOf #[.int x t, v, w] k) :: r)) : ∃ t', t' = t := ⟨_, rfl⟩
theorem strsAre_snoc {rv : List Value} {a : List Nat} {l : List Nat} {j s : Nat} {t : Tok} (h : StrsAre rv ((a ++ l.take j).map fun s => acS (rep s))) (hj : l[j]? = some s) : StrsAre (rv ++ [.str (acS (rep s)) t]) ((a ++ l.take (j + 1)).map fun s => acS (rep s)) := by
  rw [List.take_add_one, hj, Option.toList_some, ← List.append_assoc, List.map_append]
  exact strsAre_app h _ _
end
end
theorem flushPW : if True then True else True := by (w_top off); first | (walk1; fail) | simp
section
open PySem PySem.W PySem.Calls PyProof.Rows
set_option maxRecDepth 100000
section
noncomputable def wsC (k : Nat) : Nat := [32, 9, 10, 13].getD (k % 4) 32
noncomputable def wordN (b : Bool) (n : Nat) : List Nat := if b then 34 :: (rep n).flatMap encQ ++ [34] else (rep n).flatMap encU
noncomputable def encS (k n : Nat) : List Nat := wordN (decide (k % 2 = 0)) n ++ [wsC k]
noncomputable def txtF : Nat → List Nat → List Nat
  | _, [] => []
  | k, n :: r => encS k n ++ txtF (k + 1) r
theorem txtF_snoc : ∀ (l : List Nat) (k n : Nat), txtF k (l ++ [n]) = txtF k l ++ encS (k + l.length) n
  | [], k, n => by simp [txtF]
  | a :: l, k, n => by
    show encS k a ++ txtF (k + 1) (l ++ [n]) = encS k a ++ txtF (k + 1) l ++ _
    rw [txtF_snoc l (k + 1) n, List.append_assoc, List.length_cons, show k + 1 + l.length = k + (l.length + 1) by omega]
theorem wsC_cases (k : Nat) : wsC k = 32 ∨ wsC k = 9 ∨ wsC k = 10 ∨ wsC k = 13 := by
  unfold wsC
  have : k % 4 = 0 ∨ k % 4 = 1 ∨ k % 4 = 2 ∨ k % 4 = 3 := by omega
  rcases this with h | h | h | h <;> rw [h] <;> simp
theorem wsC_ws (k : Nat) : isWs (wsC k) := by
  unfold isWs
  rcases wsC_cases k with h | h | h | h <;> rw [h] <;> simp
theorem wsC_item (k : Nat) : Txt.item (Str.ofString " \t\n\r") ((k : Int).fmod 4) = acS [wsC k] ∧ 0 ≤ (k : Int).fmod 4 ∧ (k : Int).fmod 4 < 4 := by
  rw [show (k : Int).fmod 4 = ((k % 4 : Nat) : Int) from fmN k 4]
  unfold wsC
  have : k % 4 = 0 ∨ k % 4 = 1 ∨ k % 4 = 2 ∨ k % 4 = 3 := by omega
  rcases this with h | h | h | h <;> rw [h] <;> exact ⟨by kernel_rfl, by decide, by decide⟩
/-- what is still to be read ahead of the k-th word: a blank is left behind a quoted word -/
noncomputable def leftT (k : Nat) (l : List Nat) : List Nat := (if k % 2 = 1 then [wsC (k - 1)] else []) ++ txtF k l
theorem leftT_tk {k n : Nat} {l : List Nat} (hs : IsSym n) : Tk (leftT k (n :: l)) (rep n) (leftT (k + 1) l) := by
  have hf := word_facts hs
  obtain ⟨_, _, _, _, _, hlen, hch⟩ := hf
  unfold leftT
  by_cases h : k % 2 = 1
  · rw [if_pos h, if_neg (show ¬ (k + 1) % 2 = 1 by omega)]
    refine .ws (wsC_ws _) ?_
    show Tk (encS k n ++ txtF (k + 1) l) _ ([] ++ txtF (k + 1) l)
    unfold encS wordN
    rw [decide_eq_false (by omega), if_neg (by decide), List.append_assoc, List.nil_append]
    cases hr : rep n with
    | nil => rw [hr] at hlen; simp at hlen
    | cons c rs =>
      rw [hr] at hch
      exact .plain (wsC_ws _) hch
  · rw [if_neg h, if_pos (show (k + 1) % 2 = 1 by omega)]
    show Tk ([] ++ (encS k n ++ txtF (k + 1) l)) _ ([wsC (k + 1 - 1)] ++ txtF (k + 1) l)
    unfold encS wordN
    rw [decide_eq_true (by omega), if_pos rfl, List.nil_append, Nat.add_sub_cancel]
    have e : (34 :: (rep n).flatMap encQ ++ [34]) ++ [wsC k] ++ txtF (k + 1) l = 34 :: ((rep n).flatMap encQ ++ 34 :: ([wsC k] ++ txtF (k + 1) l)) := by simp
    rw [e]
    exact .quoted
theorem leftT_end (k : Nat) : Tk (leftT k []) [] [] := by
  unfold leftT
  by_cases h : k % 2 = 1
  · rw [if_pos h]
    exact .ws (wsC_ws _) .eof
  · rw [if_neg h]
    exact .eof
theorem wordN_len {b : Bool} {n : Nat} (hs : IsSym n) : (wordN b n).length ≤ 100 := by
  have hl := (word_facts hs).2.2.2.2.1
  have f : ∀ (l : List Nat) (g : Nat → List Nat), (∀ x, (g x).length ≤ 2) → (l.flatMap g).length ≤ 2 * l.length := fun l g hg => by
    induction l with
    | nil => exact Nat.le_refl _
    | cons a l ih =>
      rw [List.flatMap_cons, List.length_append, List.length_cons]
      have := hg a
      omega
  have q := f (rep n) encQ (fun x => by unfold encQ; split <;> simp)
  have u := f (rep n) encU (fun x => by unfold encU; split <;> simp)
  unfold wordN
  split
  · rw [List.length_append, List.length_cons]
    simp only [List.length_cons, List.length_nil]
    omega
  · omega
theorem txtF_len : ∀ (l : List Nat) (k : Nat), (∀ n ∈ l, IsSym n) → (txtF k l).length ≤ 101 * l.length
  | [], _, _ => Nat.le_refl _
  | n :: l, k, h => by
    show (encS k n ++ txtF (k + 1) l).length ≤ _
    have h1 := txtF_len l (k + 1) (fun x hx => h x (List.mem_cons_of_mem _ hx))
    have h2 := wordN_len (b := decide (k % 2 = 0)) (h n List.mem_cons_self)
    unfold encS
    rw [List.length_append, List.length_append, List.length_cons]
    simp only [List.length_cons, List.length_nil]
    omega
theorem acS_app (a b : List Nat) : acS a ++ acS b = acS (a ++ b) := by
  show Str.mk (_ ++ _) = Str.mk _
  simp
theorem c_word {w : World} {p : Program} {loose : List Str} {mean : ExcName → Option Value} {mg mb : Str → Option Value} {outer : List Env} {A₀ : Around} {base h₀ : Heap} {L : Addr} {m : Str → Option Value} {news : List (Addr × Obj)} {s : Shared}
  {dp un : Nat} {gd : Option (List Code)} {cn : Str} {nm : List (Str × NameKind)} {mo : List (Str × Const)} {a : Addr} {ccd : Value} {cl : List (Str × Addr)} {R : Result → Shared → Prop} {n : Nat} {tx : Tok} {b : Bool}
  (cx : Cx w p loose mean mg mb outer A₀ base h₀ L m s.heap news) (hd : dp + 13 < recursionLimit) (hu : un + 70 < cLine) (hs : IsSym n)
  (hQ : ∀ t h' tk', Fr h₀ L h' m → News h₀ L h' news → R (.ok (.ret (.str (acS (wordN b n)) t))) { s with heap := h', toks := tk' }) :
  codeAny (model pr w) (top none dp un gd cn nm mo L a ccd cl outer) (.call (.ref 136) ⟨[.str (acS (rep n)) tx, .bool b], []⟩) R s := by
  obtain ⟨h1, h2, h3, h4, h5, _⟩ := word_facts hs
  cases b
  · refine c_wordU cx hd hu h1 fun t h' tk' F' N' => ?_
    have e : (acS (rep n)).cps.toList.flatMap encU = wordN false n := by
      show (rep n).toArray.toList.flatMap encU = _
      simp [wordN]
    rw [e]
    exact hQ _ _ _ F' N'
  · exact c_wordQ cx hd hu h1 h2 h3 h4 fun t h' tk' F' N' => hQ _ _ _ F' N'
theorem strsAre_get : ∀ {vs : List Value} {ns : List Str}, StrsAre vs ns → ∀ {i : Nat} {n : Str}, ns[i]? = some n → ∃ t, vs[i]? = some (.str n t)
  := by
  intro vs ns h
  induction h with
  | nil => exact fun e => nomatch e
  | cons a b _ ih =>
    intro i n e
    cases i with
    | zero => exact ⟨b, Option.some.inj e ▸ rfl⟩
    | succ i => exact ih (i := i) e
theorem off3_all {I C D : Addr} : ∀ {l : List (Addr × Obj)}, LCg.Off3 I C D l → ∀ p ∈ l, p.1 ≠ I ∧ p.1 ≠ C ∧ p.1 ≠ D
  | [], _ => fun _ h => nomatch h
  | _ :: _, ⟨h1, h2⟩ => List.forall_mem_cons.mpr ⟨h1, off3_all h2⟩
theorem off3_mk {I C D : Addr} : ∀ {l : List (Addr × Obj)}, (∀ p ∈ l, p.1 ≠ I ∧ p.1 ≠ C ∧ p.1 ≠ D) → LCg.Off3 I C D l
  | [], _ => trivial
  | _ :: _, h => ⟨(List.forall_mem_cons.mp h).1, off3_mk (List.forall_mem_cons.mp h).2⟩
theorem off3_lex {I D E : Addr} {w : World} {C : LexC} {S S' : LexS} {r : List (Addr × Obj)} (h : LCg.Off3 I D E (lexL w C S r)) : LCg.Off3 I D E (lexL w C S' r) := by
  have a := off3_all h
  have b : ∀ p ∈ r, p.1 ≠ I ∧ p.1 ≠ D ∧ p.1 ≠ E := fun p hp => a p (List.mem_append_right [_, _, _, _, _, _, _, _, _, _] hp)
  refine off3_mk fun p hp => ⟨?_, ?_, ?_⟩
  · exact offL_change (fun p hp => (a p hp).1) (fun p hp => (b p hp).1) p hp
  · exact offL_change (fun p hp => (a p hp).2.1) (fun p hp => (b p hp).2.1) p hp
  · exact offL_change (fun p hp => (a p hp).2.2) (fun p hp => (b p hp).2.2) p hp
theorem lexL_out3 {w : World} {C : LexC} {S : LexS} {g h : Heap} {L : Addr} {x y z : Addr × Obj} {nw : List (Addr × Obj)} (N : News g L h (lexL w C S (x :: y :: z :: nw))) : News g L h (x :: y :: z :: lexL w C S nw) := fun p hp => N p (lexL_mem.mpr (by
  rcases List.mem_cons.mp hp with rfl | hp
  · exact List.mem_cons_self
  refine List.mem_cons_of_mem _ (lexL_mem.mpr ?_)
  rcases List.mem_cons.mp hp with rfl | hp
  · exact List.mem_cons_self
  refine List.mem_cons_of_mem _ (lexL_mem.mpr ?_)
  exact hp))
theorem LexO.off3 {C : LexC} {w : World} {S : LexS} {I D E : Addr} {oI oD oE : Obj} {r : List (Addr × Obj)} (O : LexO C r) (h : LCg.Off3 I D E (lexL w C S r)) : LexO C ((I, oI) :: (D, oD) :: (E, oE) :: r) := by
  have a := off3_all h
  have m1 := a (C.d, lexD w C S) (List.mem_cons_of_mem _ (List.mem_cons_of_mem _ List.mem_cons_self))
  have m2 := a (C.al, listOf #[.int (S.pos : Int) S.tp] S.e2) (List.mem_cons_of_mem _ (List.mem_cons_of_mem _ (List.mem_cons_of_mem _ (List.mem_cons_of_mem _ (List.mem_cons_of_mem _ (List.mem_cons_of_mem _ (List.mem_cons_of_mem _ List.mem_cons_self)))))))
  have m3 := a (C.l, listOf S.items.toArray S.e) List.mem_cons_self
  exact ((O.cons (x := (E, oE)) (Ne.symm m1.2.2) (Ne.symm m2.2.2) (Ne.symm m3.2.2)).cons (x := (D, oD)) (Ne.symm m1.2.1) (Ne.symm m2.2.1) (Ne.symm m3.2.1)).cons (x := (I, oI)) (Ne.symm m1.1) (Ne.symm m2.1) (Ne.symm m3.1)
theorem newsCell {g h : Heap} {L b : Addr} {w : World} {C : LexC} {S : LexS} {x : Addr × Obj} {ob : Obj} {r : List (Addr × Obj)} (_ : News g L h (lexL w C S (x :: (b, ob) :: r))) : ∃ o, o = ob := ⟨_, rfl⟩
theorem LexO.swap2 {C : LexC} {x : Addr × Obj} {b : Addr} {o o' : Obj} {r : List (Addr × Obj)} (O : LexO C (x :: (b, o) :: r)) : LexO C (x :: (b, o') :: r) := by
  obtain ⟨o1, o2, o3, o4, o5, o6, o7, o8, o9, nd, nal, nl⟩ := O
  have f : ∀ d : Addr, (∀ p ∈ x :: (b, o) :: r, p.1 ≠ d) → ∀ p ∈ x :: (b, o') :: r, p.1 ≠ d := fun d h => by
    simp only [List.forall_mem_cons] at h ⊢
    exact h
  exact ⟨o1, o2, o3, o4, o5, o6, o7, o8, o9, f _ nd, f _ nal, f _ nl⟩
theorem strsDat {nw : List (Addr × Obj)} : ∀ {vs : List Value} {ss : List Str}, StrsAre vs ss → DatAll nw vs (ss.map Dat.str)
  | _, _, .nil => .nil
  | _, _, .cons x t h => .cons (.str x t) (strsDat h)
theorem cameDat {nw : List (Addr × Obj)} : ∀ {vs : List Value} {hs : List (Nat × Nat)}, CameAre nw vs hs → DatAll nw vs (hs.map fun p => Dat.tuple [Dat.int (p.2 : Int), Dat.int (p.1 : Int)])
  | _, _, .nil => .nil
  | _, _, .cons t x h tx th k hm r => .cons (.tuple (vs := [_, _]) hm (.cons (.int _ _) (.cons (.int _ _) .nil))) (cameDat r)
theorem ruleDat {nw : List (Addr × Obj)} {v : Value} {r : Rule} (h : RuleAt nw v r) : DatIn nw v (Dat.tuple [Dat.int (r.1 : Int), Dat.list [Dat.int (r.2.1 : Int), Dat.int (r.2.2 : Int)]]) := by
  obtain ⟨t, b, u1, u2, u3, k, rfl, h1, h2⟩ := h
  exact .tuple (vs := [_, _]) h1 (.cons (.int _ _) (.cons (.list (vs := [_, _]) h2 (.cons (.int _ _) (.cons (.int _ _) .nil))) .nil))
theorem rulesDat {nw : List (Addr × Obj)} : ∀ {vs : List Value} {rs : List Rule}, RsAre nw vs rs → DatAll nw vs (rs.map fun r => Dat.tuple [Dat.int (r.1 : Int), Dat.list [Dat.int (r.2.1 : Int), Dat.int (r.2.2 : Int)]])
  | _, _, .nil => .nil
  | _, _, .cons h r => .cons (ruleDat h) (rulesDat r)
theorem strOk_all : SYMS.all (fun n => PyData.strOk (acS (rep n))) = true := by kernel_rfl
theorem strOk_rep {n : Nat} (h : IsSym n) : PyData.strOk (acS (rep n)) = true := List.all_eq_true.mp strOk_all n (sym_mem h)
theorem ok_strs {l : List Nat} (h : ∀ n ∈ l, IsSym n) : ∀ d ∈ (l.map fun n => acS (rep n)).map Dat.str, kqdOk 8 d = true := fun d hd => by
  obtain ⟨x, hx, rfl⟩ := List.mem_map.mp hd
  obtain ⟨n, hn, rfl⟩ := List.mem_map.mp hx
  exact strOk_rep (h n hn)
theorem ok_came {l : List (Nat × Nat)} : ∀ d ∈ l.map fun p => Dat.tuple [Dat.int (p.2 : Int), Dat.int (p.1 : Int)], kqdOk 8 d = true := fun d hd => by
  obtain ⟨x, hx, rfl⟩ := List.mem_map.mp hd
  rfl
theorem ok_rules {l : List Rule} : ∀ d ∈ l.map fun r => Dat.tuple [Dat.int (r.1 : Int), Dat.list [Dat.int (r.2.1 : Int), Dat.int (r.2.2 : Int)]], kqdOk 8 d = true := fun d hd => by
  obtain ⟨x, hx, rfl⟩ := List.mem_map.mp hd
  rfl
section
variable {prog : Program} {w : World} {A : Around} {E : Value → Shared → Prop} {s : Shared} {Q : Value → Shared → Prop} {h₀ : Heap} {L a b : Addr} {news : List (Addr × Obj)} {xs ys : List Value} {ka kb : Nat} {ds : List Dat}
theorem ne_dat (N : News h₀ L s.heap news) (h1 : (a, listOf xs.toArray ka) ∈ news) (h2 : (b, listOf ys.toArray kb) ∈ news) (D1 : DatAll news xs ds) (D2 : DatAll news ys ds) (ok : ∀ d ∈ ds, kqdOk 8 d = true) (hu : A.units + 64 < cLine) (h : Q (.bool false) s) :
    wpAny (model prog w) A (compareOp .NotEq (.ref a) (.ref b)) Q E s :=
  kqd_ne N h1 rfl rfl D1 (fun _ h => h) h2 rfl rfl D2 (fun _ h => h) ok ok hu (by simpa using h)
end
theorem symsR_drop : ∀ {rs : List Rule} {q : Nat} (hq : q < rs.length), (symsR rs).drop (3 * q) = symR rs[q] ++ symsR (rs.drop (q + 1))
  | r :: rs, 0, _ => rfl
  | r :: rs, q + 1, hq => by
    have h := symsR_drop (rs := rs) (q := q) (Nat.lt_of_succ_lt_succ hq)
    show (symR r ++ symsR rs).drop (3 * (q + 1)) = _
    rw [show 3 * (q + 1) = (symR r).length + 3 * q by show _ = 3 + _; omega, List.drop_append, List.drop_of_length_le (by omega), List.nil_append, Nat.add_sub_cancel_left]
    exact h
theorem sy_head {rs : List Rule} {q : Nat} (hq : q < rs.length) : (symsR rs)[3 * q]? = some rs[q].1 := by
  have h := symsR_drop hq
  have : ((symsR rs).drop (3 * q))[0]? = some rs[q].1 := by rw [h]; rfl
  rw [List.getElem?_drop] at this
  exact this
theorem sy_body {rs : List Rule} {q : Nat} (hq : q < rs.length) : ((symsR rs).drop (3 * q + 1)).take 2 = [rs[q].2.1, rs[q].2.2] := by
  rw [← List.drop_drop, symsR_drop hq]
  rfl
theorem range3_ok {n : Nat} (hn : n ≤ 5) : Builtin.Range.small 0 ((3 * n : Nat) : Int) 3 = true ∧ Builtin.Range.rangeSize 0 ((3 * n : Nat) : Int) 3 = (n : Int) := by
  have : ∀ k : Fin 6, Builtin.Range.small 0 ((3 * k.val : Nat) : Int) 3 = true ∧ Builtin.Range.rangeSize 0 ((3 * k.val : Nat) : Int) 3 = (k.val : Int) := by decide
  exact this ⟨n, by omega⟩
theorem OpenG.range3 {prog : Program} {w : World} {A : Around} {s : Shared} {h₀ : Heap} {L : Addr} {m : Str → Option Value} {r : Addr} {t u v : Tok} {n : Nat} {news : List (Addr × Obj)} (hn : n ≤ 5) (hh : A.handled = none) (F : Fr h₀ L s.heap m) (N : News h₀ L s.heap news)
    (hr : IsRange s.heap r 0 ((3 * n : Nat) : Int) 3 t u v) : OpenG prog w A h₀ L m (.ref r) s n (fun i v => ∃ t, v = .int ((3 * i : Nat) : Int) t) (fun _ => True) False news := fun Q E' k => by
  refine OpenG.range hh F N hr (range3_ok hn).1 (range3_ok hn).2 Q E' fun I fp St h₂ W a b c d e f g hh i j => ?_
  exact k I fp St h₂ { sub := W.sub, frame := W.frame, done := W.done, self := W.self, item := fun i s Q E hi st hQ => W.item i s Q E hi st fun v h' tk hP => hQ v h' tk (by
    obtain ⟨t, rfl⟩ := hP
    exact ⟨t, by congr 1; omega⟩) } a b c d e f g hh i j
theorem newsCell2 {g h : Heap} {L b : Addr} {w : World} {C : LexC} {S : LexS} {x y : Addr × Obj} {ob : Obj} {r : List (Addr × Obj)} (_ : News g L h (x :: y :: lexL w C S ((b, ob) :: r))) : ∃ o, o = ob := ⟨_, rfl⟩
theorem newsLst2 {g h : Heap} {L b : Addr} {x : Addr × Obj} {vs : List Value} {k : Nat} {r : List (Addr × Obj)} (_ : News g L h (x :: (b, listOf vs.toArray k) :: r)) : ∃ vs', vs' = vs := ⟨_, rfl⟩
theorem memT {w : World} {C : LexC} {S : LexS} {p u v a b c d x y : Addr × Obj} {tn r : List (Addr × Obj)} (hp : p ∈ u :: v :: lexL w C S (a :: b :: c :: d :: (x :: y :: tn ++ r))) : p = x ∨ p = y ∨ p ∈ u :: v :: lexL w C S (a :: b :: c :: d :: (tn ++ r)) := by
  have e : ∀ r, lexL w C S r = lexL w C S [] ++ r := fun _ => rfl
  rw [e] at hp ⊢
  generalize lexL w C S [] = A at *
  simp only [List.cons_append, List.mem_cons, List.mem_append] at hp ⊢
  rcases hp with h | h | h | h | h | h | h | h | h | h | h <;> simp only [h, true_or, or_true]
theorem body_of {rs : List Rule} {sy : List Nat} (hsy : sy = symsR rs) {q : Nat} (hq : q < rs.length) {ws : List Value}
    (h : IntsAre ws (List.take (min (((3 * q : Nat) : Int) + 3).toNat (sy.map fun (x : Nat) => (x : Int)).length - (((3 * q : Nat) : Int) + 1).toNat) (List.drop (((3 * q : Nat) : Int) + 1).toNat (sy.map fun (x : Nat) => (x : Int))))) :
    ∃ t1 t2, ws = [.int ((rs[q].2.1 : Nat) : Int) t1, .int ((rs[q].2.2 : Nat) : Int) t2] := by
  have hl : (sy.map fun (x : Nat) => (x : Int)).length = 3 * rs.length := by rw [List.length_map, hsy, symsR_len]
  have e1 : (((3 * q : Nat) : Int) + 1).toNat = 3 * q + 1 := by omega
  have e2 : min (((3 * q : Nat) : Int) + 3).toNat (sy.map fun (x : Nat) => (x : Int)).length - (((3 * q : Nat) : Int) + 1).toNat = 2 := by rw [hl]; omega
  rw [e2, e1, ← List.map_drop, ← List.map_take, hsy, sy_body hq] at h
  cases h with
  | cons _ t1 h =>
    cases h with
    | cons _ t2 h =>
      cases h
      exact ⟨t1, t2, rfl⟩
theorem due_map {rs : List Rule} (h : ∀ r ∈ rs, IsNT r.1) : ((hsT rs 4).map fun p => (p.1, 1 + (askH rs (hsT rs 4) p.1).foldl min 99)) = hsT rs 4 := by
  have e : ∀ p ∈ hsT rs 4, (p.1, 1 + (askH rs (hsT rs 4) p.1).foldl min 99) = p := fun p hp => by
    rw [due_law h p hp]
  exact (List.map_congr_left e).trans (List.map_id' _)
theorem pair_sorted {a b : List Int} (hp : a.Perm b) (ha : a.Pairwise (· ≤ ·)) (hb : b.Pairwise (· ≤ ·)) : a = b :=
  hp.eq_of_pairwise (fun x y _ _ h1 h2 => Int.le_antisymm h1 h2) ha hb
theorem heights_sorted {rs : List Rule} {hs : List (Nat × Nat)} (B : BaseH rs hs) : (hs.map fun p => ((p.2 : Nat) : Int)).Pairwise (· ≤ ·) := by
  rw [List.pairwise_map]
  exact B.sorted.imp fun h => by omega
theorem common_perm {rs : List Rule} {hs : List (Nat × Nat)} (hn : (keysH hs).Nodup) (hk : ∀ x ∈ keysH hs, 256 ≤ x ∧ x ≤ 259) : (([256, 257, 258, 259] : List Nat).filter fun s => decide (s ∈ keysH hs)).Perm (keysH hs) := by
  refine (List.perm_ext_iff_of_nodup (List.Pairwise.filter _ (show ([256, 257, 258, 259] : List Nat).Nodup by decide)) hn).mpr fun x => ?_
  rw [List.mem_filter]
  constructor
  · rintro ⟨_, h⟩
    simpa using h
  · intro h
    have := hk x h
    refine ⟨?_, by simpa using h⟩
    have : x = 256 ∨ x = 257 ∨ x = 258 ∨ x = 259 := by omega
    rcases this with rfl | rfl | rfl | rfl <;> decide
theorem common_sorted {hs : List (Nat × Nat)} : ((([256, 257, 258, 259] : List Nat).filter fun s => decide (s ∈ keysH hs)).map fun (x : Nat) => (x : Int)).Pairwise (· ≤ ·) := by
  rw [List.pairwise_map]
  exact List.Pairwise.imp (fun h => by omega) (List.Pairwise.filter _ (show ([256, 257, 258, 259] : List Nat).Pairwise (· ≤ ·) by decide))
theorem rsOf_in (ns : List Int) : ∀ r ∈ rsOf ns, ∀ s ∈ innR r, s ≤ 259 := fun r hr s hs => by
  obtain ⟨x, _, rfl⟩ := List.mem_map.mp hr
  have h1 := (List.mem_filter.mp hs).1
  have h2 : s ∈ symR (ruleOf x) := List.mem_cons_of_mem _ h1
  rcases ruleOf_sym x s h2 with h | h
  · exact h.2
  · exact Nat.le_trans h.2 (by decide)
section
variable {prog : Program} {w : World} {A : Around} {E : Value → Shared → Prop} {s : Shared} {Q : Value → Shared → Prop} {h₀ : Heap} {L a b : Addr} {news : List (Addr × Obj)} {xs ys : List Value} {ka kb : Nat} {ns ms : List Int}
theorem ne_ints (N : News h₀ L s.heap news) (h1 : (a, listOf xs.toArray ka) ∈ news) (h2 : (b, listOf ys.toArray kb) ∈ news) (hi : IntsAre xs ns) (hj : IntsAre ys ms) (e : ns = ms) (hu : A.units + 64 < cLine) (h : Q (.bool false) s) :
    wpAny (model prog w) A (compareOp .NotEq (.ref a) (.ref b)) Q E s :=
  ke_ne_ints ⟨_, (N _ h1).1, rfl, _, rfl⟩ ⟨_, (N _ h2).1, rfl, _, rfl⟩ hi hj hu (by rw [decide_eq_true e]; exact h)
theorem eq_ints (N : News h₀ L s.heap news) (h1 : (a, listOf xs.toArray ka) ∈ news) (h2 : (b, listOf ys.toArray kb) ∈ news) (hi : IntsAre xs ns) (hj : IntsAre ys ms) (e : ns = ms) (hu : A.units + 64 < cLine) (h : Q (.bool true) s) :
    wpAny (model prog w) A (compareOp .Eq (.ref a) (.ref b)) Q E s :=
  ke_eq_ints ⟨_, (N _ h1).1, rfl, _, rfl⟩ ⟨_, (N _ h2).1, rfl, _, rfl⟩ hi hj hu (by rw [decide_eq_true e]; exact h)
end
theorem lexS_nil (S : LexS) (h : S.items = []) : S = ⟨S.ln, S.t1, [], S.e, S.pos, S.tp, S.e2⟩ := by
  cases S
  dsimp only at h
  rw [h]
theorem newsNe {h₀ h : Heap} {L a b : Addr} {o1 o2 : Obj} {n1 n2 : List (Addr × Obj)} (N1 : News h₀ L h n1) (N2 : News h₀ L h n2) (m1 : (a, o1) ∈ n1) (m2 : (b, o2) ∈ n2) (hd : o1.data ≠ o2.data) : a ≠ b := fun e => by
  subst e
  have e1 := (N1 _ m1).1
  have e2 := (N2 _ m2).1
  exact hd (congrArg Obj.data (Option.some.inj (e1.symm.trans e2)))
theorem memIns {α : Type} {P : α → Prop} {a b : List α} {x : α} (h : ∀ p ∈ a ++ b, P p) (hx : P x) : ∀ p ∈ (a ++ [x]) ++ b, P p := fun p hp => by
  rcases List.mem_append.mp hp with hp | hp
  · rcases List.mem_append.mp hp with hp | hp
    · exact h p (List.mem_append_left _ hp)
    · rw [List.mem_singleton.mp hp]; exact hx
  · exact h p (List.mem_append_right _ hp)
theorem tab_in {w : World} {C : LexC} {S : LexS} {h₀ h : Heap} {L : Addr} {x1 x2 x3 x4 : Addr × Obj} {d r : List (Addr × Obj)} {ps : Array Value}
    (O : LexO C (x1 :: x2 :: x3 :: x4 :: (d ++ r))) (N : News h₀ L h (lexL w C S (x1 :: x2 :: x3 :: x4 :: (d ++ r)))) (NP : News h₀ L h [(119, tabObj ps)]) :
    LexO C (x1 :: x2 :: x3 :: x4 :: ((d ++ [(119, tabObj ps)]) ++ r)) ∧ News h₀ L h (lexL w C S (x1 :: x2 :: x3 :: x4 :: ((d ++ [(119, tabObj ps)]) ++ r))) := by
  constructor
  · obtain ⟨q1, q2, q3, q4, q5, q6, q7, q8, q9, nd, nal, nl⟩ := O
    simp only [List.forall_mem_cons] at nd nal nl
    obtain ⟨d1, d2, d3, d4, d5⟩ := nd
    obtain ⟨l1, l2, l3, l4, l5⟩ := nal
    obtain ⟨m1, m2, m3, m4, m5⟩ := nl
    have e1 : (119 : Nat) ≠ C.d := newsNe NP N List.mem_cons_self (List.mem_cons_of_mem _ (List.mem_cons_of_mem _ List.mem_cons_self)) (fun h => nomatch h)
    have e2 : (119 : Nat) ≠ C.al := newsNe NP N List.mem_cons_self (List.mem_cons_of_mem _ (List.mem_cons_of_mem _ (List.mem_cons_of_mem _ (List.mem_cons_of_mem _ (List.mem_cons_of_mem _ (List.mem_cons_of_mem _ (List.mem_cons_of_mem _ List.mem_cons_self))))))) (fun h => nomatch h)
    have e3 : (119 : Nat) ≠ C.l := newsNe NP N List.mem_cons_self List.mem_cons_self (fun h => nomatch h)
    exact ⟨q1, q2, q3, q4, q5, q6, q7, q8, q9, allCons d1 (allCons d2 (allCons d3 (allCons d4 (memIns d5 e1)))), allCons l1 (allCons l2 (allCons l3 (allCons l4 (memIns l5 e2)))), allCons m1 (allCons m2 (allCons m3 (allCons m4 (memIns m5 e3))))⟩
  · intro p hp
    simp only [List.mem_cons, List.mem_append, List.not_mem_nil, or_false] at hp
    by_cases h : p = (119, tabObj ps)
    · exact NP p (List.mem_singleton.mpr h)
    · refine N p ?_
      simp only [List.mem_cons, List.mem_append]
      simp only [h, or_false] at hp
      exact hp
end
end
theorem flushPX : if True then True else True := by (w_top off); first | (walk1; fail) | simp
end
section
local macro_rules | `(tactic| kpt_turns) => `(tactic| (repeat (first | exact List.mem_cons_self | with_reducible assumption | refine List.mem_cons_of_mem _ ?_)))
local macro_rules | `(tactic| kpt_conv) => `(tactic| first | decide | with_reducible exact Int.natCast_nonneg _ | omega)
local macro_rules | `(tactic| o_shape) => `(tactic| (k_here; (with_reducible show wpAny _ _ (subscriptTail _ _ (Value.ref _) (Value.int _ _)) _ _ _); first
  | refine item_listL (isL (by k_asm) (by kpt_turns)) (by kpt_conv) (by kpt_conv) (by simp only [Int.toNat_natCast]; assumption) ?_
  | refine item_list (isL (by k_asm) (by kpt_turns)) (by kpt_conv) (by kpt_conv) (by simp only [Int.toNat_natCast]; assumption) ?_
  | refine kda_item (knd := PySem.intKind _ _) (by k_asm) (by kpt_turns) (by assumption) (intKind_is _ _ _ _) (by assumption) ?_
  | refine item_tupleT (j := 0) (isT (by k_asm) (by kpt_turns)) (by decide) (by decide) rfl rfl ?_))
local macro_rules | `(tactic| k_all) => `(tactic| first | assumption | exact Bnd.ne (by assumption) (by omega) | (refine allCons ?_ ?_ <;> first | k_all | k_ne))
local macro_rules | `(tactic| k_ne) => `(tactic| (refine neN ?_; (try dsimp only); first | with_reducible assumption | exact Ne.symm (by with_reducible assumption) | exact Nat.ne_of_lt (by with_reducible assumption) | exact Nat.ne_of_gt (by with_reducible assumption) | omega))
local macro_rules | `(tactic| walk_at "eval ListComp") => `(tactic| refine halt ?_)
local macro_rules | `(tactic| walk_at "exec For Name Name") => `(tactic| refine halt ?_)
local macro_rules | `(tactic| walk_at "exec For") => `(tactic| refine halt ?_)
local macro_rules | `(tactic| walk_at "exec For Name Call cons nil") => `(tactic| refine halt ?_)
local macro_rules | `(tactic| walk_at "subscriptTail Name Name ref int") => `(tactic| o_shape)
local macro_rules | `(tactic| walk_at "call builtin:list.append") => `(tactic| (k_here; (with_reducible show wpAny _ _ (call (Value.builtin _) [Value.ref _, _]) _ _ _); k_dflt (refine' append_K ?k1 ?k2 ?k3 ?_ ?z; (case k1 | k2 => k_asm); (case k3 => k_upd); (case z => (rw [sizeLine_eq, List.size_toArray]; first | with_reducible assumption | omega))); intro h' F' N'))
section
local macro_rules | `(tactic| walk_at "assign Tuple") => `(tactic| (k_here; (with_reducible show wpAny _ _ (assign (Expr.Tuple _ _ _) _ (Value.ref _)) _ _ _); k_dflt (refine' unpackN_ ?k1 ?k2 ?k3 ?k4 ?k5 ?k6 ?_; (case k1 | k2 => k_asm); (case k3 => exact isT (by k_asm) (by kpt_turns)); (case k4 | k5 | k6 => exact rfl); k_whole); intro h' F' N'))
local macro_rules | `(tactic| walk_at "subscriptTail") => `(tactic| o_shape)
local macro_rules | `(tactic| walk_at "setItem ref int") => `(tactic| (k_here; k_dflt (refine' kda_set (knd := PySem.intKind _ _) ?F ?N ?U ?d (intKind_is _ _ _ _) ?z ?_; (case F | N => k_asm); (case U => k_updF); (case d => assumption); (case z => rw [sizeLine_eq]; first | with_reducible assumption | omega)); intro h' o' F' N' hd'; (try dsimp only at N')))
local macro_rules | `(tactic| walk_at "compareOp NotIn int ref") => `(tactic| (k_here; refine notin_line (by k_asm) (by k_mem) (by assumption) (by assumption) (by assumption) (by assumption) (by assumption) ?_))
section
open PySem PySem.W PySem.Calls PyProof.Rows PyProof.Rows.LCg
set_option maxRecDepth 100000
set_option maxHeartbeats 4000000
section
theorem fillL : rw' = rw' ∧ K2 = K2 := by
  k_fill
  exact ⟨rfl, rfl⟩
theorem lU {un a b : Nat} (hu : un + 80 < cLine) (h : a + b ≤ 80) : un + a + b < cLine := Nat.lt_of_le_of_lt (by omega) hu
local macro_rules | `(tactic| o_reads) => `(tactic| ((case B => assumption); (case F | X | N => k_asm); (case T | C => assumption); (case d | u => first | decide | exact lU (by assumption) (by decide) | (dsimp only [Around.deeper, Around.mark]; omega))))
local macro_rules | `(tactic| walk_at "compareOp In int ref") => `(tactic| (k_here; refine in_body _ (isL (by k_asm) (by kpt_turns)) (by assumption) ?_))
local macro_rules | `(tactic| walk_at "getMethod ref") => `(tactic| (k_here; (with_reducible show wpAny _ _ (getMethod (Value.ref _) (PySem.Str.ofString "count") _) _ _ _); refine method_count (by k_asm) (by kpt_turns) ?_))
local macro_rules | `(tactic| walk_at "call builtin:list.count") => `(tactic| (k_here; refine count_body _ (isL (by k_asm) (by kpt_turns)) ?_))
local macro_rules | `(tactic| walk_at "exec Assign cons ListComp") => `(tactic| refine halt ?_)
local macro_rules | `(tactic| walk_at "call ref") => `(tactic| (k_here; first
  | (refine wpAny_call ?_; first
    | (k_dflt (refine' c_isnt ⟨?B, ?F, ?X, ?N, ?T, ?C⟩ ?d ?u ?_; o_reads); intro h' tk' F' N')
    | (k_dflt (refine' c_reply ⟨?B, ?F, ?X, ?N, ?T, ?C⟩ ?d ?u ?n ?_; o_reads; (case n => assumption)); intro t' h' tk' F' N')
    | (k_dflt (refine' c_symNT ⟨?B, ?F, ?X, ?N, ?T, ?C⟩ ?d ?u ?n ?_; o_reads; (case n => assumption)); intro t' h' tk' F' N'))
  | (refine halt ?_)))
local macro_rules | `(tactic| walk_at "compareOp Eq str str") => `(tactic| refine eqF (by assumption) ?_)
local macro_rules | `(tactic| walk_at "call builtin:len") => `(tactic| (k_here; first
  | refine call_len_list ⟨_, News.get (by k_asm) (by k_mem), rfl, _, rfl⟩ (by simp only [List.size_toArray]; omega) ?_
  | refine call_len_list (isL (by k_asm) (by kpt_turns)) (by first | omega | (simp only [List.size_toArray]; omega)) ?_))
local macro_rules | `(tactic| walk_at "call type:range") => `(tactic| (k_here; refine range1_rows (by k_asm) (by k_asm) ?_; intro h' tk' t1' u1' v1' hr' F' N' _; refine halt ?_))
theorem lr1 {k h b j r : Nat} (a : k = h) (e : h ≤ b + min j r) (c : r ≤ 5) (d : b ≤ 4) : k ≤ 16777216 := by omega
theorem lr2 {k h b j r q : Nat} (a : k = h - q) (e : h ≤ b + min j r) (c : r ≤ 5) (d : b ≤ 4) : k < 1000 := by omega
theorem c_line {w : World} {p : Program} {loose : List Str} {mean : ExcName → Option Value} {mg mb : Str → Option Value} {outer : List Env} {A₀ : Around} {base h₀ : Heap} {L : Addr} {m : Str → Option Value} {news : List (Addr × Obj)} {s : Shared}
  {dp un : Nat} {gd : Option (List Code)} {cn : Str} {nm : List (Str × NameKind)} {mo : List (Str × Const)} {a : Addr} {ccd : Value} {cl : List (Str × Addr)} {R : Result → Shared → Prop}
  {C : LexC} {S : LexS} {T : Str} {l : Addr} {rs : List Rule} (hR : ReadSpec w C T) (O : LexO C news)
  (cx : Cx w p loose mean mg mb outer A₀ base h₀ L m s.heap (lexL w C S news)) (hd : dp + 14 < recursionLimit) (hu : un + 80 < cLine) (hRu : RulesAt news l rs) (hNT : ∀ r ∈ rs, IsNT r.1) (hrl : rs.length ≤ 5) (hSi : S.items = [])
  (hSp : S.pos < 1040000) (hSl : 0 ≤ S.ln ∧ S.ln ≤ S.pos + 1) (hSd : T.cps.toList.drop S.pos = []) (hTl : T.cps.size < 1000000)
  (hQ : ∀ dc camev ec cnew (S' : LexS) h' tk', S'.items = [] → (0 ≤ S'.ln ∧ S'.ln ≤ S'.pos + 1) → T.cps.toList.drop S'.pos = [] → S'.pos ≤ S.pos + 1 → Fr h₀ L h' m → News h₀ L h' (lexL w C S' ((dc, listOf camev.toArray ec) :: (cnew ++ news))) → LexO C ((dc, listOf camev.toArray ec) :: (cnew ++ news)) → CameAre cnew camev (hsT rs 4) → R (.ok (.ret (.ref dc))) { s with heap := h', toks := tk' }) :
  codeAny (model pr w) (top none dp un gd cn nm mo L a ccd cl outer) (.call (.ref 155) ⟨[.ref C.x, .ref l], []⟩) R s := by
  first | (refine x0_6 cx ?_; intro B F X N TT C0) | (refine x1_5 cx ?_; intro B F X N TT C0) | (refine x2_4 cx ?_; intro B F X N TT C0) | (refine x3_3 cx ?_; intro B F X N TT C0) | (refine x4_2 cx ?_; intro B F X N TT C0) | (refine x5_1 cx ?_; intro B F X N TT C0) | obtain ⟨B, F, X, N, TT, C0⟩ := cx
  try clear cx
  k_dflt k_enter
  k_steps
  unfold Halt
  rename Fr _ _ _ _ => F2
  rename News _ _ _ _ => N2
  first | (refine x0_4 (frAt' F2) ?_; intro g5 L5 hq1 hq2) | (refine x1_3 (frAt' F2) ?_; intro g5 L5 hq1 hq2) | (refine x2_2 (frAt' F2) ?_; intro g5 L5 hq1 hq2) | (refine x3_1 (frAt' F2) ?_; intro g5 L5 hq1 hq2) | obtain ⟨g5, L5, hq1, hq2⟩ := frAt' F2
  obtain rfl := hq1
  obtain rfl := hq2
  first | (refine x0_4 (id hRu) ?_; intro its hq3 hsz hat) | (refine x1_3 (id hRu) ?_; intro its hq3 hsz hat) | (refine x2_2 (id hRu) ?_; intro its hq3 hsz hat) | (refine x3_1 (id hRu) ?_; intro its hq3 hsz hat) | obtain ⟨its, hq3, hsz, hat⟩ := id hRu
  first | (refine x0_2 hq3 ?_; intro el hl) | (refine x1_1 hq3 ?_; intro el hl) | obtain ⟨el, hl⟩ := hq3
  try clear hq3
  have inL : ∀ p ∈ news, p ∈ lexL w C S news := fun p hp => List.mem_append_right [_, _, _, _, _, _, _, _, _, _] hp
  refine' Assign_ListComp_G (S := SrcAt g5 l its) (LI := True) (fun i ys nw => nw = lexL w C S news ∧ IntsAre ys ((rs.take i).map fun r => ((lc [] r : Nat) : Int))) (cl := []) rfl ?sw ?cl ?cc ?ck ?cn ?hy ?hp
    (.inr ⟨trivial, ⟨_, _, _, rfl⟩, ?lv⟩) ?si ?sz (assign_pair (T := fun i v1 v2 => ∃ hi : i < rs.length, ∃ u1 u2 u3 b k, v1 = .int ((rs[i]).1 : Int) u1 ∧ v2 = .ref b ∧ (b, ({ cls := .type "list", data := .seq #[.int ((rs[i]).2.1 : Int) u2, .int ((rs[i]).2.2 : Int) u3] k } : Obj)) ∈ lexL w C S news) rfl rfl rfl rfl (by decide) ?hT)
    (nameX_L F2 ?v (i3 _ _ _ ⟨rfl, OpenG.list rfl F2 N2 (.inr ⟨_, inL _ hl, rfl, _, rfl⟩), rfl, .nil⟩)) ?turn ?done
  case sw => rfl
  case cl => with_unfolding_all rfl
  case cc => decide
  case ck => rfl
  case cn => decide
  case hy => rfl
  case hp => rfl
  case lv =>
    intro i v hv
    first | (refine x0_2 (Array.getElem?_eq_some_iff.mp hv) ?_; intro hi hq4) | (refine x1_1 (Array.getElem?_eq_some_iff.mp hv) ?_; intro hi hq4) | obtain ⟨hi, hq4⟩ := Array.getElem?_eq_some_iff.mp hv
    obtain rfl := hq4
    first | (refine x0_10 (hat i (hsz ▸ hi)) ?_; intro v' e1 t b u1 u2 u3 k e2 _) | (refine x1_9 (hat i (hsz ▸ hi)) ?_; intro v' e1 t b u1 u2 u3 k e2 _) | (refine x2_8 (hat i (hsz ▸ hi)) ?_; intro v' e1 t b u1 u2 u3 k e2 _) | (refine x3_7 (hat i (hsz ▸ hi)) ?_; intro v' e1 t b u1 u2 u3 k e2 _) | (refine x4_6 (hat i (hsz ▸ hi)) ?_; intro v' e1 t b u1 u2 u3 k e2 _) | (refine x5_5 (hat i (hsz ▸ hi)) ?_; intro v' e1 t b u1 u2 u3 k e2 _) | (refine x6_4 (hat i (hsz ▸ hi)) ?_; intro v' e1 t b u1 u2 u3 k e2 _) | (refine x7_3 (hat i (hsz ▸ hi)) ?_; intro v' e1 t b u1 u2 u3 k e2 _) | (refine x8_2 (hat i (hsz ▸ hi)) ?_; intro v' e1 t b u1 u2 u3 k e2 _) | (refine x9_1 (hat i (hsz ▸ hi)) ?_; intro v' e1 t b u1 u2 u3 k e2 _) | obtain ⟨v', e1, t, b, u1, u2, u3, k, e2, _⟩ := hat i (hsz ▸ hi)
    rw [Array.getElem?_eq_getElem hi] at e1
    exact ⟨t, (Option.some.inj e1).trans e2⟩
  case si =>
    intro i ys nw hq5
    first | (refine x0_2 hq5 ?_; intro hq6 _) | (refine x1_1 hq5 ?_; intro hq6 _) | obtain ⟨hq6, _⟩ := hq5
    try clear hq5
    obtain rfl := hq6
    exact .inr ⟨_, inL _ hl, rfl, _, rfl⟩
  case sz => rw [sizeLine_eq, hsz]; omega
  case hT =>
    intro i ys v nw hi hv hq7
    first | (refine x0_2 hq7 ?_; intro hq8 _) | (refine x1_1 hq7 ?_; intro hq8 _) | obtain ⟨hq8, _⟩ := hq7
    try clear hq7
    obtain rfl := hq8
    have hi' : i < rs.length := hsz ▸ hi
    first | (refine x0_11 (hat i hi') ?_; intro v' e1 t b u1 u2 u3 k hq9 h1 h2) | (refine x1_10 (hat i hi') ?_; intro v' e1 t b u1 u2 u3 k hq9 h1 h2) | (refine x2_9 (hat i hi') ?_; intro v' e1 t b u1 u2 u3 k hq9 h1 h2) | (refine x3_8 (hat i hi') ?_; intro v' e1 t b u1 u2 u3 k hq9 h1 h2) | (refine x4_7 (hat i hi') ?_; intro v' e1 t b u1 u2 u3 k hq9 h1 h2) | (refine x5_6 (hat i hi') ?_; intro v' e1 t b u1 u2 u3 k hq9 h1 h2) | (refine x6_5 (hat i hi') ?_; intro v' e1 t b u1 u2 u3 k hq9 h1 h2) | (refine x7_4 (hat i hi') ?_; intro v' e1 t b u1 u2 u3 k hq9 h1 h2) | (refine x8_3 (hat i hi') ?_; intro v' e1 t b u1 u2 u3 k hq9 h1 h2) | (refine x9_2 (hat i hi') ?_; intro v' e1 t b u1 u2 u3 k hq9 h1 h2) | (refine x10_1 (hat i hi') ?_; intro v' e1 t b u1 u2 u3 k hq9 h1 h2) | obtain ⟨v', e1, t, b, u1, u2, u3, k, hq9, h1, h2⟩ := hat i hi'
    obtain rfl := hq9
    rw [hv] at e1
    exact ⟨t, _, _, _, _, Option.some.inj e1, (i6 hi' u1 u2 u3 b k ⟨rfl, rfl, inL _ h2⟩), inL _ h1, rfl, rfl⟩
  case v => rfl
  case turn =>
    intro i ys nw v I oI C' oC D m₂ h tk E' hi hx14 hv hC hx17 F3 N3 off ne
    refine opaqG fun KQ hKQ => ?_
    first | (refine x0_2 hx14 ?_; intro hq10 hS) | (refine x1_1 hx14 ?_; intro hq10 hS) | obtain ⟨hq10, hS⟩ := hx14
    try clear hx14
    obtain rfl := hq10
    first | (refine x0_5 hx17 ?_; intro v1 v2 hq11 hm1 hm2) | (refine x1_4 hx17 ?_; intro v1 v2 hq11 hm1 hm2) | (refine x2_3 hx17 ?_; intro v1 v2 hq11 hm1 hm2) | (refine x3_2 hx17 ?_; intro v1 v2 hq11 hm1 hm2) | (refine x4_1 hx17 ?_; intro v1 v2 hq11 hm1 hm2) | obtain ⟨v1, v2, hq11, hm1, hm2⟩ := hx17
    try clear hx17
    first | (refine x0_9 hq11 ?_; intro hi' u1 u2 u3 b k hq12 hq13 hb) | (refine x1_8 hq11 ?_; intro hi' u1 u2 u3 b k hq12 hq13 hb) | (refine x2_7 hq11 ?_; intro hi' u1 u2 u3 b k hq12 hq13 hb) | (refine x3_6 hq11 ?_; intro hi' u1 u2 u3 b k hq12 hq13 hb) | (refine x4_5 hq11 ?_; intro hi' u1 u2 u3 b k hq12 hq13 hb) | (refine x5_4 hq11 ?_; intro hi' u1 u2 u3 b k hq12 hq13 hb) | (refine x6_3 hq11 ?_; intro hi' u1 u2 u3 b k hq12 hq13 hb) | (refine x7_2 hq11 ?_; intro hi' u1 u2 u3 b k hq12 hq13 hb) | (refine x8_1 hq11 ?_; intro hi' u1 u2 u3 b k hq12 hq13 hb) | obtain ⟨hi', u1, u2, u3, b, k, hq12, hq13, hb⟩ := hq11
    try clear hq11
    obtain rfl := hq12
    obtain rfl := hq13
    k_steps
    unfold Halt
    have hlen : ((bodyR rs[i]).filter fun s => decide (256 ≤ s)).length = lc [] rs[i] := by
      unfold lc innR
      congr 1
      exact (List.filter_eq_self.mpr fun _ _ => by simp).symm
    have inL2 : ∀ p ∈ lexL w C S news, p ∈ (I, oI) :: (C', oC) :: (D, lst ys) :: lexL w C S news := fun p hp => List.mem_append_right [_, _, _] hp
    refine' ListComp_G (S := SrcAt g5 b #[.int ((rs[i]).2.1 : Int) u2, .int ((rs[i]).2.2 : Int) u3]) (LI := True) (fun j zs nw => nw = (I, oI) :: (C', oC) :: (D, lst ys) :: lexL w C S news ∧ zs.length = (((bodyR rs[i]).take j).filter fun s => decide (256 ≤ s)).length) (cl := []) ?cl2 ?cc2 ?ck2 ?cn2 (.inl fun _ _ => rfl) ?si2 ?sz2 (assign_name rfl rfl)
      (LCgL.ld_own N3 (List.mem_cons_of_mem _ List.mem_cons_self) hC hm2 (i3 _ _ _ ⟨rfl, OpenG.list rfl F3 N3 (.inr ⟨_, inL2 _ hb, rfl, _, rfl⟩), rfl, rfl⟩)) ?turn2 ?done2
    case cl2 => with_unfolding_all rfl
    case cc2 => decide
    case ck2 => rfl
    case cn2 => decide
    case si2 =>
      intro j zs nw hq14
      first | (refine x0_2 hq14 ?_; intro hq15 _) | (refine x1_1 hq14 ?_; intro hq15 _) | obtain ⟨hq15, _⟩ := hq14
      try clear hq14
      obtain rfl := hq15
      exact .inr ⟨_, inL2 _ hb, rfl, _, rfl⟩
    case sz2 => rw [sizeLine_eq]; show 2 ≤ 16777216; omega
    case turn2 =>
      intro j zs nw v I2 oI2 C2 oC2 D2 m3 h3 tk3 E2 hj hq16 hv2 hC2 hm3 F5 N5 off2 ne2
      first | (refine x0_2 hq16 ?_; intro hq17 hZ) | (refine x1_1 hq16 ?_; intro hq17 hZ) | obtain ⟨hq17, hZ⟩ := hq16
      try clear hq16
      obtain rfl := hq17
      obtain ⟨y, u, hy1, rfl⟩ : ∃ y u, (bodyR rs[i])[j]? = some y ∧ v = .int (y : Int) u := by
        rcases j with _ | _ | j
        · exact ⟨_, _, rfl, (Option.some.inj hv2).symm⟩
        · exact ⟨_, _, rfl, (Option.some.inj hv2).symm⟩
        · exact absurd hj (by simp)
      have hZ' : (((bodyR rs[i]).take (j + 1)).filter fun s => decide (256 ≤ s)).length = zs.length + if 256 ≤ y then 1 else 0 := by
        rw [List.take_add_one, hy1, List.filter_append, List.length_append, hZ]
        by_cases h : 256 ≤ y <;> simp [h]
      refine wpAny_tests_one ?_
      k_steps
      · rename 256 ≤ y => hy2
        exact (i3 _ _ _ ⟨rfl, by assumption, by assumption, off2, rfl, by rw [hZ', if_pos hy2, List.length_append]; rfl⟩)
      · rename ¬ 256 ≤ y => hy2
        exact (i3 _ _ _ ⟨rfl, by assumption, by assumption, off2, rfl, by rw [hZ', if_neg hy2]; rfl⟩)
    case done2 =>
      intro D2 h3 tk3 zs nw hq18 F5 N5 o2
      first | (refine x0_2 hq18 ?_; intro hq19 hZ) | (refine x1_1 hq18 ?_; intro hq19 hZ) | obtain ⟨hq19, hZ⟩ := hq18
      try clear hq18
      obtain rfl := hq19
      have hz2 : zs.length ≤ 2 := by rw [hZ]; exact Nat.le_trans (List.length_filter_le _ _) (by simp [bodyR])
      k_steps
      have e9 : (zs.toArray.size : Int) = ((lc [] rs[i] : Nat) : Int) := by
        rw [List.size_toArray, hZ, ← hlen]; rfl
      rw [e9]
      refine hKQ.out _ _ (CompE.mk (by assumption) (cb_drop N5 (fun p hp => List.mem_cons_of_mem _ hp)) off ⟨rfl, ?_⟩)
      rw [List.take_add_one, List.getElem?_eq_getElem hi', List.map_append]
      exact intsAre_app hS _ _
  case done =>
    intro D h tk ys nw hq20 F3 N3 o1
    first | (refine x0_2 hq20 ?_; intro hq21 hS) | (refine x1_1 hq20 ?_; intro hq21 hS) | obtain ⟨hq21, hS⟩ := hq20
    try clear hq20
    obtain rfl := hq21
    have hS' : IntsAre ys (rs.map fun r => ((lc [] r : Nat) : Int)) := by
      have e : rs.take its.size = rs := by rw [hsz, List.take_length]
      rw [e] at hS; exact hS
    clear hS
    dsimp only [lexL, lst] at N3
    k_steps
    unfold Halt
    rename Fr _ _ _ _ => F4
    rename News _ _ _ _ => N4
    rename Obj.IsDictOf (PySem.intKind _ _) _ _ => hD4
    first | (refine x0_4 (newsAt2 N4) ?_; intro dc dh hq22 hq23) | (refine x1_3 (newsAt2 N4) ?_; intro dc dh hq22 hq23) | (refine x2_2 (newsAt2 N4) ?_; intro dc dh hq22 hq23) | (refine x3_1 (newsAt2 N4) ?_; intro dc dh hq22 hq23) | obtain ⟨dc, dh, hq22, hq23⟩ := newsAt2 N4
    obtain rfl := hq22
    obtain rfl := hq23
    first | (refine x0_2 (newsObj2 N4) ?_; intro oh hq24) | (refine x1_1 (newsObj2 N4) ?_; intro oh hq24) | obtain ⟨oh, hq24⟩ := newsObj2 N4
    obtain rfl := hq24
    rename D < dh ∧ _ => l1h
    rename dh < dc ∧ _ => l1c
    first | (refine x0_12 (id l1h) ?_; intro a1 a2 a3 a4 a5 a6 a7 a8 a9 a10 a11 aB) | (refine x1_11 (id l1h) ?_; intro a1 a2 a3 a4 a5 a6 a7 a8 a9 a10 a11 aB) | (refine x2_10 (id l1h) ?_; intro a1 a2 a3 a4 a5 a6 a7 a8 a9 a10 a11 aB) | (refine x3_9 (id l1h) ?_; intro a1 a2 a3 a4 a5 a6 a7 a8 a9 a10 a11 aB) | (refine x4_8 (id l1h) ?_; intro a1 a2 a3 a4 a5 a6 a7 a8 a9 a10 a11 aB) | (refine x5_7 (id l1h) ?_; intro a1 a2 a3 a4 a5 a6 a7 a8 a9 a10 a11 aB) | (refine x6_6 (id l1h) ?_; intro a1 a2 a3 a4 a5 a6 a7 a8 a9 a10 a11 aB) | (refine x7_5 (id l1h) ?_; intro a1 a2 a3 a4 a5 a6 a7 a8 a9 a10 a11 aB) | (refine x8_4 (id l1h) ?_; intro a1 a2 a3 a4 a5 a6 a7 a8 a9 a10 a11 aB) | (refine x9_3 (id l1h) ?_; intro a1 a2 a3 a4 a5 a6 a7 a8 a9 a10 a11 aB) | (refine x10_2 (id l1h) ?_; intro a1 a2 a3 a4 a5 a6 a7 a8 a9 a10 a11 aB) | obtain ⟨a1, a2, a3, a4, a5, a6, a7, a8, a9, a10, a11, aB⟩ := id l1h
    first | (refine x0_13 (id l1c) ?_; intro b0 b1 b2 b3 b4 b5 b6 b7 b8 b9 b10 b11 bB) | (refine x1_12 (id l1c) ?_; intro b0 b1 b2 b3 b4 b5 b6 b7 b8 b9 b10 b11 bB) | (refine x2_11 (id l1c) ?_; intro b0 b1 b2 b3 b4 b5 b6 b7 b8 b9 b10 b11 bB) | (refine x3_10 (id l1c) ?_; intro b0 b1 b2 b3 b4 b5 b6 b7 b8 b9 b10 b11 bB) | (refine x4_9 (id l1c) ?_; intro b0 b1 b2 b3 b4 b5 b6 b7 b8 b9 b10 b11 bB) | (refine x5_8 (id l1c) ?_; intro b0 b1 b2 b3 b4 b5 b6 b7 b8 b9 b10 b11 bB) | (refine x6_7 (id l1c) ?_; intro b0 b1 b2 b3 b4 b5 b6 b7 b8 b9 b10 b11 bB) | (refine x7_6 (id l1c) ?_; intro b0 b1 b2 b3 b4 b5 b6 b7 b8 b9 b10 b11 bB) | (refine x8_5 (id l1c) ?_; intro b0 b1 b2 b3 b4 b5 b6 b7 b8 b9 b10 b11 bB) | (refine x9_4 (id l1c) ?_; intro b0 b1 b2 b3 b4 b5 b6 b7 b8 b9 b10 b11 bB) | (refine x10_3 (id l1c) ?_; intro b0 b1 b2 b3 b4 b5 b6 b7 b8 b9 b10 b11 bB) | obtain ⟨b0, b1, b2, b3, b4, b5, b6, b7, b8, b9, b10, b11, bB⟩ := id l1c
    obtain ⟨d2, d3, d4, d5, d6, d7, d8, d9, d10, d11, dB⟩ : @Ne Nat C.l D ∧ @Ne Nat C.x D ∧ @Ne Nat C.d D ∧ @Ne Nat C.dx D ∧ @Ne Nat C.f D ∧ @Ne Nat C.r D ∧ @Ne Nat C.c2 D ∧ @Ne Nat C.al D ∧ @Ne Nat C.ca D ∧ @Ne Nat C.ct D ∧ Off1 D news := o1
    clear l1h l1c
    replace aB := Bnd.of aB
    replace bB := Bnd.of bB
    have O3 : ∀ o1 o2 o3, LexO C ((dc, o1) :: (dh, o2) :: (D, o3) :: news) := fun o1 o2 o3 =>
      ((O.cons (x := (D, o3)) (Ne.symm d4) (Ne.symm d9) (Ne.symm d2)).cons (x := (dh, o2)) (Nat.ne_of_gt a4) (Nat.ne_of_gt a9) (Nat.ne_of_gt a2)).cons (x := (dc, o1)) (Nat.ne_of_gt b4) (Nat.ne_of_gt b9) (Nat.ne_of_gt b2)
    refine' for_G (h₀ := g5) (L := L5) (n := rs.length) (P := fun i v => ∃ t, v = .int (i : Int) t) (S := fun _ => True) (LI := False) (Inv1 w C S news dc dh D ys l rs) (.inl fun _ _ => rfl) (fun _ _ _ _ => trivial) ?hE ?src ?turn1 ?done1
    case hE => passes_own
    case src =>
      k_steps
      unfold Halt
      rename Fr _ _ _ _ => F5
      rename News _ _ _ _ => N5
      rename IsRange _ _ _ _ _ _ _ _ => hr5
      rw [hsz] at hr5
      exact ⟨_, _, _, _, rfl, OpenG.range1 (by omega) rfl F5 (lexL_in3 N5) hr5, (Inv1.mk' oh ([]) S.items S.e none _ _ rfl (extN [Str.ofString "k", Str.ofString "came", Str.ofString "heights", Str.ofString "left", Str.ofString "rules", Str.ofString "lexer"]
        (List.forall_mem_cons.mpr ⟨rfl, List.forall_mem_cons.mpr ⟨rfl, List.forall_mem_cons.mpr ⟨rfl, List.forall_mem_cons.mpr ⟨rfl, List.forall_mem_cons.mpr ⟨rfl, List.forall_mem_cons.mpr ⟨rfl, List.forall_mem_nil _⟩⟩⟩⟩⟩⟩) (fun y hy => by
          simp only [List.mem_cons, List.not_mem_nil, or_false, not_or] at hy
          first | (refine x0_6 hy ?_; intro h1 h2 h3 h4 h5 h6) | (refine x1_5 hy ?_; intro h1 h2 h3 h4 h5 h6) | (refine x2_4 hy ?_; intro h1 h2 h3 h4 h5 h6) | (refine x3_3 hy ?_; intro h1 h2 h3 h4 h5 h6) | (refine x4_2 hy ?_; intro h1 h2 h3 h4 h5 h6) | (refine x5_1 hy ?_; intro h1 h2 h3 h4 h5 h6) | obtain ⟨h1, h2, h3, h4, h5, h6⟩ := hy
          try clear hy
          show (if _ then _ else if _ then _ else if _ then _ else List.lookup y [(Str.ofString "rules", Value.ref l), (Str.ofString "lexer", Value.ref C.x)]) = _
          have h5' : (y == Str.ofString "rules") = false := by simpa using h5
          have h6' : (y == Str.ofString "lexer") = false := by simpa using h6
          simp [lmL, h1, h2, h3, h4, h5, h6, List.lookup, h5', h6'])) hD4 .nil (by rw [hSi]; exact .nil))⟩
    case turn1 =>
      intro i m' nw v I oI h5 tk5 hi hx9 hx10 F5 N5 off5
      refine opaqT fun KQ hKQ => ?_
      refine hx9.el ?_; intro oh5 kvs items e5 kv ec el5 hq25 hm hD5 hK hIt
      try clear hx9
      obtain rfl := hq25
      first | (refine x0_2 hx10 ?_; intro t5 hq26) | (refine x1_1 hx10 ?_; intro t5 hq26) | obtain ⟨t5, hq26⟩ := hx10
      try clear hx10
      obtain rfl := hq26
      first | (refine x0_11 (hat i hi) ?_; intro vr e1 tt bb u1 u2 u3 kk hq27 ht hb) | (refine x1_10 (hat i hi) ?_; intro vr e1 tt bb u1 u2 u3 kk hq27 ht hb) | (refine x2_9 (hat i hi) ?_; intro vr e1 tt bb u1 u2 u3 kk hq27 ht hb) | (refine x3_8 (hat i hi) ?_; intro vr e1 tt bb u1 u2 u3 kk hq27 ht hb) | (refine x4_7 (hat i hi) ?_; intro vr e1 tt bb u1 u2 u3 kk hq27 ht hb) | (refine x5_6 (hat i hi) ?_; intro vr e1 tt bb u1 u2 u3 kk hq27 ht hb) | (refine x6_5 (hat i hi) ?_; intro vr e1 tt bb u1 u2 u3 kk hq27 ht hb) | (refine x7_4 (hat i hi) ?_; intro vr e1 tt bb u1 u2 u3 kk hq27 ht hb) | (refine x8_3 (hat i hi) ?_; intro vr e1 tt bb u1 u2 u3 kk hq27 ht hb) | (refine x9_2 (hat i hi) ?_; intro vr e1 tt bb u1 u2 u3 kk hq27 ht hb) | (refine x10_1 (hat i hi) ?_; intro vr e1 tt bb u1 u2 u3 kk hq27 ht hb) | obtain ⟨vr, e1, tt, bb, u1, u2, u3, kk, hq27, ht, hb⟩ := hat i hi
      obtain rfl := hq27
      first | (refine x0_2 (intsAre_get hS' (i := i) (n := ((lc [] rs[i] : Nat) : Int)) (by rw [List.getElem?_map, List.getElem?_eq_getElem hi]; rfl)) ?_; intro tl e2) | (refine x1_1 (intsAre_get hS' (i := i) (n := ((lc [] rs[i] : Nat) : Int)) (by rw [List.getElem?_map, List.getElem?_eq_getElem hi]; rfl)) ?_; intro tl e2) | obtain ⟨tl, e2⟩ := intsAre_get hS' (i := i) (n := ((lc [] rs[i] : Nat) : Int)) (by rw [List.getElem?_map, List.getElem?_eq_getElem hi]; rfl)
      have hF := frExt F5 hm
      refine wpAny_assign_Name (storeX_L hF N5 fun h6 F6 N6 => ?_)
      clear hF F5 N5
      replace F6 := frExt F6 lmL_k
      first | (refine x0_11 (offL_all off5) ?_; intro i1 i2 i3 i4 i5 i6 i7 i8 i9 i10 ir) | (refine x1_10 (offL_all off5) ?_; intro i1 i2 i3 i4 i5 i6 i7 i8 i9 i10 ir) | (refine x2_9 (offL_all off5) ?_; intro i1 i2 i3 i4 i5 i6 i7 i8 i9 i10 ir) | (refine x3_8 (offL_all off5) ?_; intro i1 i2 i3 i4 i5 i6 i7 i8 i9 i10 ir) | (refine x4_7 (offL_all off5) ?_; intro i1 i2 i3 i4 i5 i6 i7 i8 i9 i10 ir) | (refine x5_6 (offL_all off5) ?_; intro i1 i2 i3 i4 i5 i6 i7 i8 i9 i10 ir) | (refine x6_5 (offL_all off5) ?_; intro i1 i2 i3 i4 i5 i6 i7 i8 i9 i10 ir) | (refine x7_4 (offL_all off5) ?_; intro i1 i2 i3 i4 i5 i6 i7 i8 i9 i10 ir) | (refine x8_3 (offL_all off5) ?_; intro i1 i2 i3 i4 i5 i6 i7 i8 i9 i10 ir) | (refine x9_2 (offL_all off5) ?_; intro i1 i2 i3 i4 i5 i6 i7 i8 i9 i10 ir) | (refine x10_1 (offL_all off5) ?_; intro i1 i2 i3 i4 i5 i6 i7 i8 i9 i10 ir) | obtain ⟨i1, i2, i3, i4, i5, i6, i7, i8, i9, i10, ir⟩ := offL_all off5
      obtain ⟨idc, idh, idl, ir⟩ : @Ne Nat dc I ∧ @Ne Nat dh I ∧ @Ne Nat D I ∧ ∀ p ∈ news, p.1 ≠ I := by simpa [List.forall_mem_cons] using ir
      have offI : ∀ {S' : LexS} {o1 o2 o3 : Obj}, ∀ p ∈ lexL w C S' ((dc, o1) :: (dh, o2) :: (D, o3) :: news), p.1 ≠ I := fun {_ _ _ _} => offL_mk ⟨i1, i2, i3, i4, i5, i6, i7, i8, i9, i10, List.forall_mem_cons.mpr ⟨idc, List.forall_mem_cons.mpr ⟨idh, List.forall_mem_cons.mpr ⟨idl, ir⟩⟩⟩⟩
      have hnt : IsNT rs[i].1 := hNT _ (List.getElem_mem hi)
      have hstep := fold_step (fun r => lc [] r = 0) 1 (z := []) hi
      have hnd := nodup_fold (fun r => lc [] r = 0) 1 (rs.take i) [] List.nodup_nil
      have hln := len_fold (fun r => lc [] r = 0) 1 (rs.take i) []
      generalize hhs : (rs.take i).foldl (fun hs r => if lc [] r = 0 then insH hs r.1 1 else hs) [] = hs at hK hIt hstep hnd hln
      rw [List.length_nil, List.length_take] at hln
      have hkl := hK.len
      have hil := strsAre_len hIt
      rw [List.length_map] at hil
      have hkl24 : kvs.length ≤ 16777216 := lr1 hkl hln hrl (Nat.zero_le 4)
      have hil24 : items.length < 1000 := lr2 (q := 0) hil hln hrl (Nat.zero_le 4)
      by_cases hz : lc [] rs[i] = 0
      · by_cases hk : rs[i].1 ∈ keysH hs
        · have hb1 : decide (rs[i].1 ∉ keysH hs) = false := by simp [hk]
          have e : (rs.take (i + 1)).foldl (fun hs r => if lc [] r = 0 then insH hs r.1 1 else hs) [] = hs := by rw [hstep, if_pos hz, insH, if_pos hk]
          dsimp only [lexL] at N6
          k_steps
          all_goals first
            | exact absurd (Int.ofNat.inj (by assumption)) hz
            | exact hKQ.out _ _ (LoopG.mk F6 N6 off5 ((Inv1.mk' oh5 kvs items e5 _ ec el5 rfl (fun _ => rfl) hD5 (e ▸ hK) (e ▸ hIt))))
        · have hb1 : decide (rs[i].1 ∉ keysH hs) = true := by simp [hk]
          have e : (rs.take (i + 1)).foldl (fun hs r => if lc [] r = 0 then insH hs r.1 1 else hs) [] = hs ++ [(rs[i].1, 1)] := by rw [hstep, if_pos hz, insH, if_neg hk]
          have hU : ∀ p ∈ (D, ({ cls := .type "list", data := .seq ys.toArray el5 } : Obj)) :: news, p.1 ≠ dh := List.forall_mem_cons.mpr ⟨Nat.ne_of_lt a1, fun p hp => Nat.ne_of_lt (aB p hp)⟩
          dsimp only [lexL] at N6
          have hz1 : ((lc [] rs[i] : Nat) : Int) = 0 := by omega
          k_steps
          rotate_left
          · exact absurd hz1 (by assumption)
          unfold Halt
          rename Fr g5 L5 _ _ => F7
          rename News g5 L5 _ _ => N7
          rename Obj.IsDictOf _ _ (stored _ _ _) => hD7
          rename Below _ _ _ g5 => B7
          rename Top _ _ _ _ _ g5 => T7
          rename Frag.In _ g5 => X7
          refine wpAny_call ?_
          refine c_pt (C := C) (S := { S with items := items, e := e5 }) ((O3 _ _ _).cons (x := (I, oI)) (Ne.symm i3) (Ne.symm i8) (Ne.symm i1)) ⟨B7, F7, X7, lexL_in N7, T7, C0⟩ (by dsimp only [Around.deeper, Around.mark]; omega) (by first | exact lU (by assumption) (by decide) | (dsimp only [Around.deeper, Around.mark]; omega)) (by dsimp only; first | with_reducible assumption | omega) ?_
          intro e8 h8 tk8 F8 N8
          replace N8 := lexL_out N8
          k_steps
          refine hKQ.out _ _ (LoopG.mk F8 N8 offI ((Inv1.mk' _ _ _ e8 _ ec el5 rfl (fun _ => rfl) hD7 ?_ ?_)))
          · rw [e, stored_absent (hK.none hk)]
            exact hK.app _ _ _
          · rw [e, List.map_append]
            exact strsAre_app hIt _ _
      · have hz' : ¬ ((lc [] rs[i] : Nat) : Int) = 0 := by omega
        have e : (rs.take (i + 1)).foldl (fun hs r => if lc [] r = 0 then insH hs r.1 1 else hs) [] = hs := by rw [hstep, if_neg hz]
        dsimp only [lexL] at N6
        k_steps
        all_goals first
          | exact absurd (by assumption) hz'
          | exact hKQ.out _ _ (LoopG.mk F6 N6 off5 ((Inv1.mk' oh5 kvs items e5 _ ec el5 rfl (fun _ => rfl) hD5 (e ▸ hK) (e ▸ hIt))))
    case done1 =>
      intro h tk m' nw hq28 F5 N5
      refine hq28.el ?_; intro oh5 kvs items e5 kv ec el5 hq29 hm hD5 hK hIt
      try clear hq28
      obtain rfl := hq29
      rw [List.take_length] at hK hIt
      have hF := frExt F5 hm
      clear F5
      dsimp only [lexL] at N5
      k_steps
      unfold Halt
      refine' for_G (h₀ := g5) (L := L5) (n := 5) (P := fun i v => ∃ t, v = .int (i : Int) t) (S := fun _ => True) (LI := False) (fun i m nw => i ≤ (hsT rs i).length ∧ ∃ sv, LnAt w C S news dc dh D l (hsT rs i) ((hsT rs i).take i) i (rs.map fun r => ((lc (keysH ((hsT rs i).take i)) r : Nat) : Int)) sv m nw) (.inl fun _ _ => rfl) (fun _ _ _ _ => trivial) ?hET ?srcT ?turnT ?doneT
      case hET => passes_own
      case srcT =>
        k_steps
        unfold Halt
        rename Fr g5 L5 _ _ => F6
        rename News g5 L5 _ _ => N6
        rename IsRange _ _ _ _ _ _ _ _ => hr6
        exact ⟨_, _, _, _, rfl, OpenG.range1 (n := 5) (by omega) rfl F6 N6 hr6, Nat.zero_le _, none, (LnAt.mk' oh5 kvs items e5 ([]) ([]) kv none none none none ec ys el5 rfl (fun y => by
          by_cases h1 : y = Str.ofString "turn"
          · subst h1; rfl
          by_cases h2 : y = Str.ofString "word"
          · subst h2; rfl
          by_cases h3 : y = Str.ofString "symbol"
          · subst h3; rfl
          by_cases h4 : y = Str.ofString "head"
          · subst h4; rfl
          by_cases h5 : y = Str.ofString "body"
          · subst h5; rfl
          simp only [lmM, lmL, if_neg h1, if_neg h2, if_neg h3, if_neg h4, if_neg h5]) hD5 hK hIt .nil hS' (fun _ h => nomatch h))⟩
      case turnT =>
        intro i m2 nw v I oI h6 tk6 hi hx9 hx10 F6 N6 off6
        refine opaqT fun KQ hKQ => ?_
        first | (refine x0_3 hx9 ?_; intro hile sv hq30) | (refine x1_2 hx9 ?_; intro hile sv hq30) | (refine x2_1 hx9 ?_; intro hile sv hq30) | obtain ⟨hile, sv, hq30⟩ := hx9
        try clear hx9
        refine hq30.el ?_; intro oh6 kvs6 items6 e6 camev cnew kv6 tv wv hv bv ec6 yl el6 hq31 hm2 hD6 hK6 hIt6 hCa hYl hCn
        try clear hq30
        obtain rfl := hq31
        first | (refine x0_2 hx10 ?_; intro t6 hq32) | (refine x1_1 hx10 ?_; intro t6 hq32) | obtain ⟨t6, hq32⟩ := hx10
        try clear hx10
        obtain rfl := hq32
        have hF := frExt F6 hm2
        refine wpAny_assign_Name (storeX_L hF N6 fun h7 F7 N7 => ?_)
        clear hF F6 N6
        dsimp only [lexL] at N7
        have hbase := hsT_base hNT i
        k_steps
        unfold Halt
        rename Fr g5 L5 _ _ => F8
        rename News g5 L5 _ _ => N8
        rename Below _ _ _ g5 => B8
        rename Top _ _ _ _ _ g5 => T8
        rename Frag.In _ g5 => X8
        first | (refine x0_11 (offL_all off6) ?_; intro i1 i2 i3 i4 i5 i6 i7 i8 i9 i10 ir) | (refine x1_10 (offL_all off6) ?_; intro i1 i2 i3 i4 i5 i6 i7 i8 i9 i10 ir) | (refine x2_9 (offL_all off6) ?_; intro i1 i2 i3 i4 i5 i6 i7 i8 i9 i10 ir) | (refine x3_8 (offL_all off6) ?_; intro i1 i2 i3 i4 i5 i6 i7 i8 i9 i10 ir) | (refine x4_7 (offL_all off6) ?_; intro i1 i2 i3 i4 i5 i6 i7 i8 i9 i10 ir) | (refine x5_6 (offL_all off6) ?_; intro i1 i2 i3 i4 i5 i6 i7 i8 i9 i10 ir) | (refine x6_5 (offL_all off6) ?_; intro i1 i2 i3 i4 i5 i6 i7 i8 i9 i10 ir) | (refine x7_4 (offL_all off6) ?_; intro i1 i2 i3 i4 i5 i6 i7 i8 i9 i10 ir) | (refine x8_3 (offL_all off6) ?_; intro i1 i2 i3 i4 i5 i6 i7 i8 i9 i10 ir) | (refine x9_2 (offL_all off6) ?_; intro i1 i2 i3 i4 i5 i6 i7 i8 i9 i10 ir) | (refine x10_1 (offL_all off6) ?_; intro i1 i2 i3 i4 i5 i6 i7 i8 i9 i10 ir) | obtain ⟨i1, i2, i3, i4, i5, i6, i7, i8, i9, i10, ir⟩ := offL_all off6
        obtain ⟨idc, idh, idl, ir⟩ : @Ne Nat dc I ∧ @Ne Nat dh I ∧ @Ne Nat D I ∧ ∀ p ∈ cnew ++ news, p.1 ≠ I := by simpa [List.forall_mem_cons] using ir
        have O6 : ∀ (c : List (Addr × Obj)) (o1 o2 o3 : Obj), (∀ p ∈ c, @LT.lt Nat _ dc p.1) → LexO C ((dc, o1) :: (dh, o2) :: (D, o3) :: (c ++ news)) := fun c o1 o2 o3 hc => by
          have q := (O3 o1 o2 o3)
          first | (refine x0_12 (O.app (c := c) (fun p hp => Nat.ne_of_gt (Nat.lt_trans b4 (hc p hp))) (fun p hp => Nat.ne_of_gt (Nat.lt_trans b9 (hc p hp))) (fun p hp => Nat.ne_of_gt (Nat.lt_trans b2 (hc p hp)))) ?_; intro x1 x2 x3 x4 x5 x6 x7 x8 x9 nd nal nl) | (refine x1_11 (O.app (c := c) (fun p hp => Nat.ne_of_gt (Nat.lt_trans b4 (hc p hp))) (fun p hp => Nat.ne_of_gt (Nat.lt_trans b9 (hc p hp))) (fun p hp => Nat.ne_of_gt (Nat.lt_trans b2 (hc p hp)))) ?_; intro x1 x2 x3 x4 x5 x6 x7 x8 x9 nd nal nl) | (refine x2_10 (O.app (c := c) (fun p hp => Nat.ne_of_gt (Nat.lt_trans b4 (hc p hp))) (fun p hp => Nat.ne_of_gt (Nat.lt_trans b9 (hc p hp))) (fun p hp => Nat.ne_of_gt (Nat.lt_trans b2 (hc p hp)))) ?_; intro x1 x2 x3 x4 x5 x6 x7 x8 x9 nd nal nl) | (refine x3_9 (O.app (c := c) (fun p hp => Nat.ne_of_gt (Nat.lt_trans b4 (hc p hp))) (fun p hp => Nat.ne_of_gt (Nat.lt_trans b9 (hc p hp))) (fun p hp => Nat.ne_of_gt (Nat.lt_trans b2 (hc p hp)))) ?_; intro x1 x2 x3 x4 x5 x6 x7 x8 x9 nd nal nl) | (refine x4_8 (O.app (c := c) (fun p hp => Nat.ne_of_gt (Nat.lt_trans b4 (hc p hp))) (fun p hp => Nat.ne_of_gt (Nat.lt_trans b9 (hc p hp))) (fun p hp => Nat.ne_of_gt (Nat.lt_trans b2 (hc p hp)))) ?_; intro x1 x2 x3 x4 x5 x6 x7 x8 x9 nd nal nl) | (refine x5_7 (O.app (c := c) (fun p hp => Nat.ne_of_gt (Nat.lt_trans b4 (hc p hp))) (fun p hp => Nat.ne_of_gt (Nat.lt_trans b9 (hc p hp))) (fun p hp => Nat.ne_of_gt (Nat.lt_trans b2 (hc p hp)))) ?_; intro x1 x2 x3 x4 x5 x6 x7 x8 x9 nd nal nl) | (refine x6_6 (O.app (c := c) (fun p hp => Nat.ne_of_gt (Nat.lt_trans b4 (hc p hp))) (fun p hp => Nat.ne_of_gt (Nat.lt_trans b9 (hc p hp))) (fun p hp => Nat.ne_of_gt (Nat.lt_trans b2 (hc p hp)))) ?_; intro x1 x2 x3 x4 x5 x6 x7 x8 x9 nd nal nl) | (refine x7_5 (O.app (c := c) (fun p hp => Nat.ne_of_gt (Nat.lt_trans b4 (hc p hp))) (fun p hp => Nat.ne_of_gt (Nat.lt_trans b9 (hc p hp))) (fun p hp => Nat.ne_of_gt (Nat.lt_trans b2 (hc p hp)))) ?_; intro x1 x2 x3 x4 x5 x6 x7 x8 x9 nd nal nl) | (refine x8_4 (O.app (c := c) (fun p hp => Nat.ne_of_gt (Nat.lt_trans b4 (hc p hp))) (fun p hp => Nat.ne_of_gt (Nat.lt_trans b9 (hc p hp))) (fun p hp => Nat.ne_of_gt (Nat.lt_trans b2 (hc p hp)))) ?_; intro x1 x2 x3 x4 x5 x6 x7 x8 x9 nd nal nl) | (refine x9_3 (O.app (c := c) (fun p hp => Nat.ne_of_gt (Nat.lt_trans b4 (hc p hp))) (fun p hp => Nat.ne_of_gt (Nat.lt_trans b9 (hc p hp))) (fun p hp => Nat.ne_of_gt (Nat.lt_trans b2 (hc p hp)))) ?_; intro x1 x2 x3 x4 x5 x6 x7 x8 x9 nd nal nl) | (refine x10_2 (O.app (c := c) (fun p hp => Nat.ne_of_gt (Nat.lt_trans b4 (hc p hp))) (fun p hp => Nat.ne_of_gt (Nat.lt_trans b9 (hc p hp))) (fun p hp => Nat.ne_of_gt (Nat.lt_trans b2 (hc p hp)))) ?_; intro x1 x2 x3 x4 x5 x6 x7 x8 x9 nd nal nl) | obtain ⟨x1, x2, x3, x4, x5, x6, x7, x8, x9, nd, nal, nl⟩ := O.app (c := c) (fun p hp => Nat.ne_of_gt (Nat.lt_trans b4 (hc p hp))) (fun p hp => Nat.ne_of_gt (Nat.lt_trans b9 (hc p hp))) (fun p hp => Nat.ne_of_gt (Nat.lt_trans b2 (hc p hp)))
          exact (((O.app (c := c) (fun p hp => Nat.ne_of_gt (Nat.lt_trans b4 (hc p hp))) (fun p hp => Nat.ne_of_gt (Nat.lt_trans b9 (hc p hp))) (fun p hp => Nat.ne_of_gt (Nat.lt_trans b2 (hc p hp)))).cons (x := (D, o3)) (Ne.symm d4) (Ne.symm d9) (Ne.symm d2)).cons (x := (dh, o2)) (Nat.ne_of_gt a4) (Nat.ne_of_gt a9) (Nat.ne_of_gt a2)).cons (x := (dc, o1)) (Nat.ne_of_gt b4) (Nat.ne_of_gt b9) (Nat.ne_of_gt b2)
        by_cases hend : (hsT rs i)[i]? = none
        · have hle : (hsT rs i).length ≤ i := List.getElem?_eq_none_iff.mp hend
          rw [List.drop_eq_nil_of_le hle, List.map_nil] at hIt6
          obtain rfl : items6 = [] := by cases hIt6; rfl
          rw [List.take_of_length_le hle] at hCa
          have h4 : hsT rs 4 = hsT rs i := by
            have := hsT_stay hle (4 - i)
            rwa [show i + (4 - i) = 4 by omega] at this
          refine wpAny_call ?_
          refine c_gt (C := C) (ln := S.ln) (t1 := S.t1) (e := e6) (pos := S.pos) (tp := S.tp) (e2 := S.e2) hR ((O6 cnew _ _ _ hCn).cons (x := (I, oI)) (Ne.symm i3) (Ne.symm i8) (Ne.symm i1)) ⟨B8, F8, X8, lexL_in N8, T8, C0⟩ (by dsimp only [Around.deeper, Around.mark]; omega) (by first | exact lU (by assumption) (by decide) | (dsimp only [Around.deeper, Around.mark]; omega)) hSp hSl (r := []) (rest := []) (by rw [hSd]; exact .eof) hTl ?_
          intro S9 t9 h9 tk9 hS1 hS2 hS3 hS4 F9 N9
          rw [hSd, List.length_nil] at hS4
          clear F8 N8
          have hq1 : (acS [] == Str.ofString "") = true := by decide
          dsimp only [lexL] at N9
          k_steps
          refine hKQ.out _ _ ?_
          dsimp only
          k_steps
          refine hQ dc camev ec6 cnew S9 _ _ hS1 hS2 hS3 (by omega) (by k_asm) ?_ ?_ (h4 ▸ hCa)
          · rename News h₀ L _ _ => N10
            exact lexL_sub (C := C) (S := S9) N10 (List.forall_mem_cons.mpr ⟨List.mem_cons_of_mem _ List.mem_cons_self, fun p hp => List.mem_cons_of_mem _ (List.mem_cons_of_mem _ (List.mem_cons_of_mem _ (List.mem_cons_of_mem _ hp)))⟩)
          · exact (O6 cnew _ oh6 (listOf yl.toArray el6) hCn).sub (List.forall_mem_cons.mpr ⟨List.mem_cons_self, fun p hp => List.mem_cons_of_mem _ (List.mem_cons_of_mem _ (List.mem_cons_of_mem _ hp))⟩)
        · obtain ⟨⟨a, h⟩, hg⟩ := Option.ne_none_iff_exists'.mp hend
          have hgl : i < (hsT rs i).length := (List.getElem?_eq_some_iff.mp hg).1
          have hdrop : (hsT rs i).drop i = (a, h) :: (hsT rs i).drop (i + 1) := by
            first | (refine x0_2 (List.getElem?_eq_some_iff.mp hg) ?_; intro q1 q2) | (refine x1_1 (List.getElem?_eq_some_iff.mp hg) ?_; intro q1 q2) | obtain ⟨q1, q2⟩ := List.getElem?_eq_some_iff.mp hg
            rw [List.drop_eq_getElem_cons q1, q2]
          rw [hdrop, List.map_cons] at hIt6
          have hlen6 := strsAre_len hIt6
          rw [List.length_cons, List.length_map, List.length_drop] at hlen6
          obtain ⟨v0, rest, t0, rfl, rfl, hItr⟩ : ∃ v0 rest t0, items6 = v0 :: rest ∧ v0 = .str (acS (rep a)) t0 ∧ StrsAre rest (((hsT rs i).drop (i + 1)).map fun p => acS (rep p.1)) := by
            cases hIt6 with
            | cons _ t h => exact (Mine.i3 _ _ t ⟨rfl, rfl, h⟩)
          have hrl : rest.length ≤ 4 := by
            have := hbase.2.1
            rw [List.length_cons] at hlen6
            omega
          have hmem : (a, h) ∈ hsT rs i := List.mem_of_getElem? hg
          have hnta : IsNT a := by
            have := hbase.2.2 a (List.mem_map.mpr ⟨_, hmem, rfl⟩)
            exact this
          refine wpAny_call ?_
          refine c_gtp (C := C) (S := { S with items := _ :: rest, e := e6 }) ((O6 cnew _ _ _ hCn).cons (x := (I, oI)) (Ne.symm i3) (Ne.symm i8) (Ne.symm i1)) rfl ⟨B8, F8, X8, lexL_in N8, T8, C0⟩ (by dsimp only [Around.deeper, Around.mark]; omega) (by first | exact lU (by assumption) (by decide) | (dsimp only [Around.deeper, Around.mark]; omega)) (by omega) ?_
          intro e9 h9 tk9 F9 N9
          clear F8 N8
          replace N9 := lexL_out N9
          have hne : (acS (rep a) == Str.ofString "") = false := by
            rcases hnta.cases with rfl | rfl | rfl | rfl <;> decide
          first | (refine x0_2 (hK6.some hbase.1.nodup hmem) ?_; intro th hv6) | (refine x1_1 (hK6.some hbase.1.nodup hmem) ?_; intro th hv6) | obtain ⟨th, hv6⟩ := hK6.some hbase.1.nodup hmem
          have hUc : ∀ p ∈ (dh, oh6) :: (D, listOf yl.toArray el6) :: (cnew ++ news), p.1 ≠ dc := List.forall_mem_cons.mpr ⟨Nat.ne_of_lt b0, List.forall_mem_cons.mpr ⟨Nat.ne_of_lt b1, List.forall_mem_append.mpr ⟨fun p hp => Nat.ne_of_gt (hCn p hp), fun p hp => Nat.ne_of_lt (bB p hp)⟩⟩⟩
          have hcl := hCa.len
          rw [List.length_take] at hcl
          dsimp only [lexL] at N9
          k_steps
          unfold Halt
          rename Fr g5 L5 _ _ => F10
          rename News g5 L5 _ _ => N10
          rename I < _ ∧ _ => lt1
          first | (refine x0_2 (newsAt1 N10) ?_; intro Dt hq33) | (refine x1_1 (newsAt1 N10) ?_; intro Dt hq33) | obtain ⟨Dt, hq33⟩ := newsAt1 N10
          obtain rfl := hq33
          first | (refine x0_2 (newsTok N10) ?_; intro ta hq34) | (refine x1_1 (newsTok N10) ?_; intro ta hq34) | obtain ⟨ta, hq34⟩ := newsTok N10
          obtain rfl := hq34
          first | (refine x1_14 (id lt1) ?_; intro j0 j1 j2 j3 j4 j5 j6 j7 j8 j9 j10 j11 j12 j13 jB) | (refine x2_13 (id lt1) ?_; intro j0 j1 j2 j3 j4 j5 j6 j7 j8 j9 j10 j11 j12 j13 jB) | (refine x3_12 (id lt1) ?_; intro j0 j1 j2 j3 j4 j5 j6 j7 j8 j9 j10 j11 j12 j13 jB) | (refine x4_11 (id lt1) ?_; intro j0 j1 j2 j3 j4 j5 j6 j7 j8 j9 j10 j11 j12 j13 jB) | (refine x5_10 (id lt1) ?_; intro j0 j1 j2 j3 j4 j5 j6 j7 j8 j9 j10 j11 j12 j13 jB) | (refine x6_9 (id lt1) ?_; intro j0 j1 j2 j3 j4 j5 j6 j7 j8 j9 j10 j11 j12 j13 jB) | (refine x7_8 (id lt1) ?_; intro j0 j1 j2 j3 j4 j5 j6 j7 j8 j9 j10 j11 j12 j13 jB) | (refine x8_7 (id lt1) ?_; intro j0 j1 j2 j3 j4 j5 j6 j7 j8 j9 j10 j11 j12 j13 jB) | (refine x9_6 (id lt1) ?_; intro j0 j1 j2 j3 j4 j5 j6 j7 j8 j9 j10 j11 j12 j13 jB) | (refine x10_5 (id lt1) ?_; intro j0 j1 j2 j3 j4 j5 j6 j7 j8 j9 j10 j11 j12 j13 jB) | obtain ⟨j0, j1, j2, j3, j4, j5, j6, j7, j8, j9, j10, j11, j12, j13, jB⟩ := id lt1
          rw [List.push_toArray] at N10
          replace N10 := reordT (C := C) (S := { S with items := rest, e := e9 }) N10
          have hP' : keysH ((hsT rs i).take (i + 1)) = keysH ((hsT rs i).take i) ++ [a] := keysH_take_succ hg
          have hPa : a ∉ keysH ((hsT rs i).take i) := not_in_take hbase.1.nodup hg
          have htk : (hsT rs i).take (i + 1) = (hsT rs i).take i ++ [(a, h)] := by rw [List.take_add_one, hg]; rfl
          have hlC : (l, ({ cls := .type "list", data := .seq its el } : Obj)) ∈ cnew ++ news := List.mem_append_right _ hl
          refine' for_G (h₀ := g5) (L := L5) (n := rs.length) (P := fun i v => ∃ t, v = .int (i : Int) t) (S := fun _ => True) (LI := False)
            (fun j m nw => ∃ nw', nw = (I, oI) :: nw' ∧ (∀ p ∈ nw', p.1 ≠ I) ∧ LnAt w C S news dc dh D l ((rs.take j).foldl (fun hs r => if a ∈ bodyR r ∧ lc (keysH ((hsT rs i).take (i + 1))) r = 0 then insH hs r.1 (h + 1) else hs) (hsT rs i)) ((hsT rs i).take (i + 1)) (i + 1)
              (leftsJ rs (keysH ((hsT rs i).take i)) (keysH ((hsT rs i).take (i + 1))) j) (some (.int (a : Int) ta)) m nw') (.inl fun _ _ => rfl) (fun _ _ _ _ => trivial) ?hE3 ?src3 ?turn3 ?done3
          case hE3 => passes_own
          case src3 =>
            k_steps
            unfold Halt
            rename Fr g5 L5 _ _ => F11
            rename News g5 L5 _ _ => N11
            rename IsRange _ _ _ _ _ _ _ _ => hr11
            rw [hsz] at hr11
            exact ⟨_, _, _, _, rfl, OpenG.range1 (by omega) rfl F11 N11 hr11, _, rfl, offL_mk (S := { S with items := rest, e := e9 }) ⟨i1, i2, i3, i4, i5, i6, i7, i8, i9, i10, List.forall_mem_cons.mpr ⟨idc, List.forall_mem_cons.mpr ⟨idh, List.forall_mem_cons.mpr ⟨idl, List.forall_mem_cons.mpr ⟨Nat.ne_of_gt j0, ir⟩⟩⟩⟩⟩, (LnAt.mk' oh6 kvs6 rest e9 (camev ++ [.ref Dt]) ((Dt, _) :: cnew) kv6 _ _ hv bv (ec6 + 1) yl el6 rfl (fun y => by
              by_cases h1 : y = Str.ofString "turn"
              · subst h1; rfl
              by_cases h2 : y = Str.ofString "word"
              · subst h2; rfl
              by_cases h3 : y = Str.ofString "symbol"
              · subst h3; rfl
              simp only [lmM, if_neg h1, if_neg h2, if_neg h3]) hD6 hK6 hItr (htk ▸ (hCa.mono (fun p hp => List.mem_cons_of_mem _ hp)).app _ _ _ _ _ _ List.mem_cons_self) hYl (List.forall_mem_cons.mpr ⟨j11, hCn⟩))⟩
          case turn3 =>
            intro j m3 nw v I2 oI2 h11 tk11 hj hx9 hx10 F11 N11 off11
            refine opaqT fun KQ hKQ => ?_
            first | (refine x0_4 hx9 ?_; intro nw' hq35 hoff7 hq36) | (refine x1_3 hx9 ?_; intro nw' hq35 hoff7 hq36) | (refine x2_2 hx9 ?_; intro nw' hq35 hoff7 hq36) | (refine x3_1 hx9 ?_; intro nw' hq35 hoff7 hq36) | obtain ⟨nw', hq35, hoff7, hq36⟩ := hx9
            try clear hx9
            obtain rfl := hq35
            refine hq36.el ?_; intro oh7 kvs7 items7 e7 camev7 cnew7 kv7 tv7 wv7 hv7 bv7 ec7 yl7 el7 hq37 hm3 hD7 hK7 hIt7 hCa7 hYl7 hCn7
            try clear hq36
            obtain rfl := hq37
            first | (refine x0_2 hx10 ?_; intro t7 hq38) | (refine x1_1 hx10 ?_; intro t7 hq38) | obtain ⟨t7, hq38⟩ := hx10
            try clear hx10
            obtain rfl := hq38
            first | (refine x0_11 (hat j hj) ?_; intro vr e1 tt bb u1 u2 u3 kk hq39 ht hb) | (refine x1_10 (hat j hj) ?_; intro vr e1 tt bb u1 u2 u3 kk hq39 ht hb) | (refine x2_9 (hat j hj) ?_; intro vr e1 tt bb u1 u2 u3 kk hq39 ht hb) | (refine x3_8 (hat j hj) ?_; intro vr e1 tt bb u1 u2 u3 kk hq39 ht hb) | (refine x4_7 (hat j hj) ?_; intro vr e1 tt bb u1 u2 u3 kk hq39 ht hb) | (refine x5_6 (hat j hj) ?_; intro vr e1 tt bb u1 u2 u3 kk hq39 ht hb) | (refine x6_5 (hat j hj) ?_; intro vr e1 tt bb u1 u2 u3 kk hq39 ht hb) | (refine x7_4 (hat j hj) ?_; intro vr e1 tt bb u1 u2 u3 kk hq39 ht hb) | (refine x8_3 (hat j hj) ?_; intro vr e1 tt bb u1 u2 u3 kk hq39 ht hb) | (refine x9_2 (hat j hj) ?_; intro vr e1 tt bb u1 u2 u3 kk hq39 ht hb) | (refine x10_1 (hat j hj) ?_; intro vr e1 tt bb u1 u2 u3 kk hq39 ht hb) | obtain ⟨vr, e1, tt, bb, u1, u2, u3, kk, hq39, ht, hb⟩ := hat j hj
            obtain rfl := hq39
            have hF := frExt F11 hm3
            refine wpAny_assign_Name (storeX_L hF N11 fun h12 F12 N12 => ?_)
            clear hF F11 N11 F10 N10
            first | (refine x0_2 (List.forall_mem_cons.mp off11) ?_; intro iI ofL) | (refine x1_1 (List.forall_mem_cons.mp off11) ?_; intro iI ofL) | obtain ⟨iI, ofL⟩ := List.forall_mem_cons.mp off11
            first | (refine x0_11 (offL_all ofL) ?_; intro q1 q2 q3 q4 q5 q6 q7 q8 q9 q10 qr) | (refine x1_10 (offL_all ofL) ?_; intro q1 q2 q3 q4 q5 q6 q7 q8 q9 q10 qr) | (refine x2_9 (offL_all ofL) ?_; intro q1 q2 q3 q4 q5 q6 q7 q8 q9 q10 qr) | (refine x3_8 (offL_all ofL) ?_; intro q1 q2 q3 q4 q5 q6 q7 q8 q9 q10 qr) | (refine x4_7 (offL_all ofL) ?_; intro q1 q2 q3 q4 q5 q6 q7 q8 q9 q10 qr) | (refine x5_6 (offL_all ofL) ?_; intro q1 q2 q3 q4 q5 q6 q7 q8 q9 q10 qr) | (refine x6_5 (offL_all ofL) ?_; intro q1 q2 q3 q4 q5 q6 q7 q8 q9 q10 qr) | (refine x7_4 (offL_all ofL) ?_; intro q1 q2 q3 q4 q5 q6 q7 q8 q9 q10 qr) | (refine x8_3 (offL_all ofL) ?_; intro q1 q2 q3 q4 q5 q6 q7 q8 q9 q10 qr) | (refine x9_2 (offL_all ofL) ?_; intro q1 q2 q3 q4 q5 q6 q7 q8 q9 q10 qr) | (refine x10_1 (offL_all ofL) ?_; intro q1 q2 q3 q4 q5 q6 q7 q8 q9 q10 qr) | obtain ⟨q1, q2, q3, q4, q5, q6, q7, q8, q9, q10, qr⟩ := offL_all ofL
            obtain ⟨qdc, qdh, qdl, qr⟩ : @Ne Nat dc I2 ∧ @Ne Nat dh I2 ∧ @Ne Nat D I2 ∧ ∀ p ∈ cnew7 ++ news, p.1 ≠ I2 := by simpa [List.forall_mem_cons] using qr
            have offI : ∀ {S' : LexS} {o1 o2 o3 : Obj}, ∀ p ∈ (I, oI) :: lexL w C S' ((dc, o1) :: (dh, o2) :: (D, o3) :: (cnew7 ++ news)), p.1 ≠ I2 := fun {_ _ _ _} => List.forall_mem_cons.mpr ⟨iI, offL_mk ⟨q1, q2, q3, q4, q5, q6, q7, q8, q9, q10, List.forall_mem_cons.mpr ⟨qdc, List.forall_mem_cons.mpr ⟨qdh, List.forall_mem_cons.mpr ⟨qdl, qr⟩⟩⟩⟩⟩
            have offO : ∀ {S' : LexS} {o1 o2 o3 : Obj}, ∀ p ∈ lexL w C S' ((dc, o1) :: (dh, o2) :: (D, o3) :: (cnew7 ++ news)), p.1 ≠ I := fun {_ _ _ _} => offL_change hoff7 (List.forall_mem_cons.mpr ⟨idc, List.forall_mem_cons.mpr ⟨idh, List.forall_mem_cons.mpr ⟨idl, by
              have := (offL_all hoff7).2.2.2.2.2.2.2.2.2.2
              simp only [List.forall_mem_cons] at this
              exact this.2.2.2⟩⟩⟩)
            have hnt : IsNT rs[j].1 := hNT _ (List.getElem_mem hj)
            have hstep := fold_step (fun r => a ∈ bodyR r ∧ lc (keysH ((hsT rs i).take (i + 1))) r = 0) (h + 1) (z := hsT rs i) hj
            have hnd := nodup_fold (fun r => a ∈ bodyR r ∧ lc (keysH ((hsT rs i).take (i + 1))) r = 0) (h + 1) (rs.take j) (hsT rs i) hbase.1.nodup
            have hln := len_fold (fun r => a ∈ bodyR r ∧ lc (keysH ((hsT rs i).take (i + 1))) r = 0) (h + 1) (rs.take j) (hsT rs i)
            first | (refine x0_2 (prefix_fold (fun r => a ∈ bodyR r ∧ lc (keysH ((hsT rs i).take (i + 1))) r = 0) (h + 1) (rs.take j) (hsT rs i)) ?_; intro ex hpre) | (refine x1_1 (prefix_fold (fun r => a ∈ bodyR r ∧ lc (keysH ((hsT rs i).take (i + 1))) r = 0) (h + 1) (rs.take j) (hsT rs i)) ?_; intro ex hpre) | obtain ⟨ex, hpre⟩ := prefix_fold (fun r => a ∈ bodyR r ∧ lc (keysH ((hsT rs i).take (i + 1))) r = 0) (h + 1) (rs.take j) (hsT rs i)
            generalize hhs : (rs.take j).foldl (fun hs r => if a ∈ bodyR r ∧ lc (keysH ((hsT rs i).take (i + 1))) r = 0 then insH hs r.1 (h + 1) else hs) (hsT rs i) = hs at hK7 hIt7 hstep hnd hln hpre
            rw [List.length_take] at hln
            have hcnt := lc_count hnta.1 hPa rs[j]
            rw [← hP'] at hcnt
            have hget := leftsJ_get (P := keysH ((hsT rs i).take i)) (P' := keysH ((hsT rs i).take (i + 1))) hj
            have hset := leftsJ_set (P := keysH ((hsT rs i).take i)) (P' := keysH ((hsT rs i).take (i + 1))) hj
            have hll := leftsJ_len (P := keysH ((hsT rs i).take i)) (P' := keysH ((hsT rs i).take (i + 1))) (Nat.le_of_lt hj)
            have hmem2 : (a, h) ∈ hs := by rw [hpre]; exact List.mem_append_left _ hmem
            first | (refine x0_2 (hK7.some hnd hmem2) ?_; intro th2 hv7') | (refine x1_1 (hK7.some hnd hmem2) ?_; intro th2 hv7') | obtain ⟨th2, hv7'⟩ := hK7.some hnd hmem2
            have hhl : i + 1 ≤ hs.length := by rw [hpre, List.length_append]; omega
            have hkl7 := hK7.len
            have hil7 := strsAre_len hIt7
            rw [List.length_map, List.length_drop] at hil7
            have hkl24 : kvs7.length ≤ 16777216 := lr1 hkl7 hln (by assumption) hbase.2.1
            have hil24 : items7.length < 1000 := lr2 hil7 hln (by assumption) hbase.2.1
            have hb' : (bb, ({ cls := .type "list", data := .seq #[.int (rs[j].2.1 : Int) u2, .int (rs[j].2.2 : Int) u3] kk } : Obj)) ∈ cnew7 ++ news := List.mem_append_right _ hb
            have ht' : (tt, ({ cls := .type "tuple", data := .seq #[.int (rs[j].1 : Int) u1, .ref bb] } : Obj)) ∈ cnew7 ++ news := List.mem_append_right _ ht
            have hl7 : (l, ({ cls := .type "list", data := .seq its el } : Obj)) ∈ cnew7 ++ news := List.mem_append_right _ hl
            have n1 : ∀ p ∈ cnew7 ++ news, p.1 ≠ dh := List.forall_mem_append.mpr ⟨fun p hp => Nat.ne_of_gt (Nat.lt_trans b0 (hCn7 p hp)), fun p hp => Nat.ne_of_lt (aB p hp)⟩
            have n2 : ∀ p ∈ cnew7 ++ news, p.1 ≠ D := List.forall_mem_append.mpr ⟨fun p hp => Nat.ne_of_gt (Nat.lt_trans b1 (hCn7 p hp)), off1_all dB⟩
            by_cases hin : a ∈ bodyR rs[j]
            · have hb2 : decide (a ∈ bodyR rs[j]) = true := decide_eq_true hin
              have hx : (leftsJ rs (keysH ((hsT rs i).take i)) (keysH ((hsT rs i).take (i + 1))) j).getD (j : Int).toNat 0 - (((bodyR rs[j]).count a : Nat) : Int) = ((lc (keysH ((hsT rs i).take (i + 1))) rs[j] : Nat) : Int) := by
                rw [Int.toNat_natCast, hget]; omega
              have hx2 : ((leftsJ rs (keysH ((hsT rs i).take i)) (keysH ((hsT rs i).take (i + 1))) j).set (j : Int).toNat ((leftsJ rs (keysH ((hsT rs i).take i)) (keysH ((hsT rs i).take (i + 1))) j).getD (j : Int).toNat 0 - (((bodyR rs[j]).count a : Nat) : Int))).getD (j : Int).toNat 0 = ((lc (keysH ((hsT rs i).take (i + 1))) rs[j] : Nat) : Int) := by
                rw [hx, Int.toNat_natCast, List.getD_eq_getElem?_getD, List.getElem?_set_self (by omega)]; rfl
              have hsetE : (leftsJ rs (keysH ((hsT rs i).take i)) (keysH ((hsT rs i).take (i + 1))) j).set (j : Int).toNat ((leftsJ rs (keysH ((hsT rs i).take i)) (keysH ((hsT rs i).take (i + 1))) j).getD (j : Int).toNat 0 - (((bodyR rs[j]).count a : Nat) : Int)) = leftsJ rs (keysH ((hsT rs i).take i)) (keysH ((hsT rs i).take (i + 1))) (j + 1) := by
                rw [hx, Int.toNat_natCast, hset]
              by_cases hz : lc (keysH ((hsT rs i).take (i + 1))) rs[j] = 0
              · by_cases hk : rs[j].1 ∈ keysH hs
                · have hb1 : decide (rs[j].1 ∉ keysH hs) = false := by simp [hk]
                  have hE : (rs.take (j + 1)).foldl (fun hs r => if a ∈ bodyR r ∧ lc (keysH ((hsT rs i).take (i + 1))) r = 0 then insH hs r.1 (h + 1) else hs) (hsT rs i) = hs := by rw [hstep, if_pos ⟨hin, hz⟩, insH, if_pos hk]
                  dsimp only [lexL] at N12
                  k_steps
                  rotate_left
                  · rename List.getD (List.set _ _ _) _ _ ≠ 0 => hc
                    exact absurd (hx2.trans (by omega)) hc
                  rename Fr g5 L5 _ _ => F13
                  rename News g5 L5 _ _ => N13
                  rename IntsAre (List.set _ _ _) _ => hY8
                  rw [hsetE] at hY8
                  exact hKQ.out _ _ (LoopG.mk F13 N13 (offI (S' := { S with items := items7, e := e7 })) ⟨_, rfl, offO (S' := { S with items := items7, e := e7 }), (LnAt.mk' oh7 kvs7 items7 e7 camev7 cnew7 _ tv7 wv7 _ _ ec7 _ el7 rfl (ext3 (Str.ofString "body") (Str.ofString "head") (Str.ofString "k") rfl rfl rfl (fun y h1 h2 h3 => by simp only [lmM, if_neg h1, if_neg h2, if_neg h3])) hD7 (hE ▸ hK7) (hE ▸ hIt7) hCa7 hY8 hCn7)⟩)
                · have hb1 : decide (rs[j].1 ∉ keysH hs) = true := by simp [hk]
                  have hE : (rs.take (j + 1)).foldl (fun hs r => if a ∈ bodyR r ∧ lc (keysH ((hsT rs i).take (i + 1))) r = 0 then insH hs r.1 (h + 1) else hs) (hsT rs i) = hs ++ [(rs[j].1, h + 1)] := by rw [hstep, if_pos ⟨hin, hz⟩, insH, if_neg hk]
                  dsimp only [lexL] at N12
                  k_steps
                  rotate_left
                  · rename List.getD (List.set _ _ _) _ _ ≠ 0 => hc
                    exact absurd (hx2.trans (by omega)) hc
                  unfold Halt
                  rename Fr g5 L5 _ _ => F13
                  rename News g5 L5 _ _ => N13
                  rename IntsAre (List.set _ _ _) _ => hY8
                  rw [hsetE] at hY8
                  rename Obj.IsDictOf _ _ (stored _ _ _) => hD13
                  refine wpAny_call ?_
                  refine c_pt (C := C) (S := { S with items := items7, e := e7 }) (((O6 cnew7 _ _ _ hCn7).cons (x := (I, oI)) (Ne.symm i3) (Ne.symm i8) (Ne.symm i1)).cons (x := (I2, oI2)) (Ne.symm q3) (Ne.symm q8) (Ne.symm q1)) ⟨B8, F13, X8, lexL_in2 N13, T8, C0⟩ (by dsimp only [Around.deeper, Around.mark]; omega) (by first | exact lU (by assumption) (by decide) | (dsimp only [Around.deeper, Around.mark]; omega)) (by dsimp only; first | with_reducible assumption | omega) ?_
                  intro e14 h14 tk14 F14 N14
                  replace N14 := lexL_out2 N14
                  clear F13 N13
                  k_steps
                  refine hKQ.out _ _ (LoopG.mk F14 N14 offI ⟨_, rfl, offO, (LnAt.mk' _ _ _ e14 camev7 cnew7 _ tv7 wv7 _ _ ec7 _ el7 rfl (ext3 (Str.ofString "body") (Str.ofString "head") (Str.ofString "k") rfl rfl rfl (fun y h1 h2 h3 => by simp only [lmM, if_neg h1, if_neg h2, if_neg h3])) hD13 ?_ ?_ hCa7 hY8 hCn7)⟩)
                  · rw [hE, stored_absent (hK7.none hk)]
                    exact hK7.app _ _ _
                  · rw [hE, List.drop_append_of_le_length hhl, List.map_append]
                    exact strsAre_app hIt7 _ _
              · have hE : (rs.take (j + 1)).foldl (fun hs r => if a ∈ bodyR r ∧ lc (keysH ((hsT rs i).take (i + 1))) r = 0 then insH hs r.1 (h + 1) else hs) (hsT rs i) = hs := by rw [hstep, if_neg (fun q => hz q.2)]
                dsimp only [lexL] at N12
                by_cases hk : rs[j].1 ∈ keysH hs
                · have hb1 : decide (rs[j].1 ∉ keysH hs) = false := by simp [hk]
                  k_steps
                  · rename List.getD (List.set _ _ _) _ _ = 0 => hc
                    exact absurd (hx2.symm.trans hc) (by omega)
                  rename Fr g5 L5 _ _ => F13
                  rename News g5 L5 _ _ => N13
                  rename IntsAre (List.set _ _ _) _ => hY8
                  rw [hsetE] at hY8
                  exact hKQ.out _ _ (LoopG.mk F13 N13 (offI (S' := { S with items := items7, e := e7 })) ⟨_, rfl, offO (S' := { S with items := items7, e := e7 }), (LnAt.mk' oh7 kvs7 items7 e7 camev7 cnew7 _ tv7 wv7 _ _ ec7 _ el7 rfl (ext3 (Str.ofString "body") (Str.ofString "head") (Str.ofString "k") rfl rfl rfl (fun y h1 h2 h3 => by simp only [lmM, if_neg h1, if_neg h2, if_neg h3])) hD7 (hE ▸ hK7) (hE ▸ hIt7) hCa7 hY8 hCn7)⟩)
                · have hb1 : decide (rs[j].1 ∉ keysH hs) = true := by simp [hk]
                  k_steps
                  · rename List.getD (List.set _ _ _) _ _ = 0 => hc
                    exact absurd (hx2.symm.trans hc) (by omega)
                  rename Fr g5 L5 _ _ => F13
                  rename News g5 L5 _ _ => N13
                  rename IntsAre (List.set _ _ _) _ => hY8
                  rw [hsetE] at hY8
                  exact hKQ.out _ _ (LoopG.mk F13 N13 (offI (S' := { S with items := items7, e := e7 })) ⟨_, rfl, offO (S' := { S with items := items7, e := e7 }), (LnAt.mk' oh7 kvs7 items7 e7 camev7 cnew7 _ tv7 wv7 _ _ ec7 _ el7 rfl (ext3 (Str.ofString "body") (Str.ofString "head") (Str.ofString "k") rfl rfl rfl (fun y h1 h2 h3 => by simp only [lmM, if_neg h1, if_neg h2, if_neg h3])) hD7 (hE ▸ hK7) (hE ▸ hIt7) hCa7 hY8 hCn7)⟩)
            · have hb2 : decide (a ∈ bodyR rs[j]) = false := decide_eq_false hin
              have hE : (rs.take (j + 1)).foldl (fun hs r => if a ∈ bodyR r ∧ lc (keysH ((hsT rs i).take (i + 1))) r = 0 then insH hs r.1 (h + 1) else hs) (hsT rs i) = hs := by rw [hstep, if_neg (fun q => hin q.1)]
              have hlJ := leftsJ_same (P := keysH ((hsT rs i).take i)) (P' := keysH ((hsT rs i).take (i + 1))) hj (by rw [hP']; exact lc_same hin)
              dsimp only [lexL] at N12
              k_steps
              rename Fr g5 L5 _ _ => F13
              rename News g5 L5 _ _ => N13
              exact hKQ.out _ _ (LoopG.mk F13 N13 (offI (S' := { S with items := items7, e := e7 })) ⟨_, rfl, offO (S' := { S with items := items7, e := e7 }), (LnAt.mk' oh7 kvs7 items7 e7 camev7 cnew7 _ tv7 wv7 _ _ ec7 yl7 el7 rfl (ext3 (Str.ofString "body") (Str.ofString "head") (Str.ofString "k") rfl rfl rfl (fun y h1 h2 h3 => by simp only [lmM, if_neg h1, if_neg h2, if_neg h3])) hD7 (hE ▸ hK7) (hE ▸ hIt7) hCa7 (hlJ ▸ hYl7) hCn7)⟩)
          case done3 =>
            intro h15 tk15 m4 nw hq40 F15 N15
            first | (refine x0_4 hq40 ?_; intro nw' hq41 hoff8 hLn) | (refine x1_3 hq40 ?_; intro nw' hq41 hoff8 hLn) | (refine x2_2 hq40 ?_; intro nw' hq41 hoff8 hLn) | (refine x3_1 hq40 ?_; intro nw' hq41 hoff8 hLn) | obtain ⟨nw', hq41, hoff8, hLn⟩ := hq40
            try clear hq40
            obtain rfl := hq41
            rw [List.take_length, leftsJ_end] at hLn
            first | (refine x0_2 (hsT_prefix (rs := rs) i) ?_; intro ex hex) | (refine x1_1 (hsT_prefix (rs := rs) i) ?_; intro ex hex) | obtain ⟨ex, hex⟩ := hsT_prefix (rs := rs) i
            have htk2 : (hsT rs (i + 1)).take (i + 1) = (hsT rs i).take (i + 1) := by rw [hex, List.take_append_of_le_length hgl]
            k_steps
            refine hKQ.out _ _ (LoopG.mk F15 N15 hoff8 ⟨?_, some (.int (a : Int) ta), ?_⟩)
            · rw [hex, List.length_append]; omega
            · rw [htk2, hsT_succ hg]
              exact hLn
      case doneT =>
        intro h6 tk6 m2 nw hq42 _ _
        first | (refine x0_2 hq42 ?_; intro hile _) | (refine x1_1 hq42 ?_; intro hile _) | obtain ⟨hile, _⟩ := hq42
        try clear hq42
        have := (hsT_base hNT 5).2.1
        omega
end
end
theorem flushRL : if True then True else True := by (w_top off); first | (walk1; fail) | simp
section
local macro_rules | `(tactic| k_mem) => `(tactic| ((repeat (first | exact List.mem_cons_self | with_reducible assumption | refine List.mem_cons_of_mem _ ?_)); done))
local macro_rules | `(tactic| walk_at "newTuple") => `(tactic| (k_here; k_dflt (refine' kup_newTuple ?F ?N ?_ ?z; (case F | N => k_asm); (case z => kmk_size)); intro D' h' F' N' l1; (try k_lt l1)))
local macro_rules | `(tactic| walk_at "compareOp Eq ref ref") => `(tactic| (k_here; refine eq_nil (by k_asm) (by k_mem) (by k_mem) (by assumption) ?k (by assumption) ?_; (case k => dsimp only [Around.deeper, Around.mark]; omega)))
local macro_rules | `(tactic| walk_at "exec For Tuple Name") => `(tactic| refine halt ?_)
section
open PySem PySem.W PySem.Calls PyProof.Rows PyProof.Rows.LCg
set_option maxRecDepth 100000
set_option maxHeartbeats 4000000
section
theorem fillD : rw' = rw' ∧ K2 = K2 := by
  k_fill
  exact ⟨rfl, rfl⟩
local macro_rules | `(tactic| walk_at "exec Assign cons ListComp") => `(tactic| refine halt ?_)
theorem c_due {w : World} {p : Program} {loose : List Str} {mean : ExcName → Option Value} {mg mb : Str → Option Value} {outer : List Env} {A₀ : Around} {base h₀ : Heap} {L : Addr} {m : Str → Option Value} {news : List (Addr × Obj)} {s : Shared}
  {dp un : Nat} {gd : Option (List Code)} {cn : Str} {nm : List (Str × NameKind)} {mo : List (Str × Const)} {a : Addr} {ccd : Value} {cl : List (Str × Addr)} {R : Result → Shared → Prop}
  {l dc : Addr} {rs : List Rule} {hs : List (Nat × Nat)} {camev : List Value} {ec : Nat}
  (cx : Cx w p loose mean mg mb outer A₀ base h₀ L m s.heap news) (hd : dp + 14 < recursionLimit) (hu : un + 80 < cLine) (hRu : RulesAt news l rs) (hrl : rs.length ≤ 5)
  (hC : CameAre news camev hs) (hcm : (dc, listOf camev.toArray ec) ∈ news) (hn : (keysH hs).Nodup) (hhl : hs.length ≤ 4)
  (hQ : ∀ dd duev ed dnew h' tk', Fr h₀ L h' m → News h₀ L h' ((dd, listOf duev.toArray ed) :: (dnew ++ news)) → CameAre dnew duev (hs.map fun p => (p.1, 1 + (askH rs hs p.1).foldl min 99)) → R (.ok (.ret (.ref dd))) { s with heap := h', toks := tk' }) :
  codeAny (model pr w) (top none dp un gd cn nm mo L a ccd cl outer) (.call (.ref 160) ⟨[.ref l, .ref dc], []⟩) R s := by
  first | (refine x0_6 cx ?_; intro B F X N TT C0) | (refine x1_5 cx ?_; intro B F X N TT C0) | (refine x2_4 cx ?_; intro B F X N TT C0) | (refine x3_3 cx ?_; intro B F X N TT C0) | (refine x4_2 cx ?_; intro B F X N TT C0) | (refine x5_1 cx ?_; intro B F X N TT C0) | obtain ⟨B, F, X, N, TT, C0⟩ := cx
  try clear cx
  k_dflt k_enter
  refine nameE fun KE hKE => ?_
  have hPE := passE hKE
  try rw [← hKE]
  clear hKE
  k_steps
  unfold Halt
  rename Fr _ _ _ _ => F2
  rename News _ _ _ _ => N2
  first | (refine x0_4 (frAt' F2) ?_; intro g5 L5 hq1 hq2) | (refine x1_3 (frAt' F2) ?_; intro g5 L5 hq1 hq2) | (refine x2_2 (frAt' F2) ?_; intro g5 L5 hq1 hq2) | (refine x3_1 (frAt' F2) ?_; intro g5 L5 hq1 hq2) | obtain ⟨g5, L5, hq1, hq2⟩ := frAt' F2
  obtain rfl := hq1
  obtain rfl := hq2
  first | (refine x0_2 (newsAt1 N2) ?_; intro dh hq3) | (refine x1_1 (newsAt1 N2) ?_; intro dh hq3) | obtain ⟨dh, hq3⟩ := newsAt1 N2
  obtain rfl := hq3
  first | (refine x0_4 (newsObjs N2) ?_; intro oh oc hq4 hq5) | (refine x1_3 (newsObjs N2) ?_; intro oh oc hq4 hq5) | (refine x2_2 (newsObjs N2) ?_; intro oh oc hq4 hq5) | (refine x3_1 (newsObjs N2) ?_; intro oh oc hq4 hq5) | obtain ⟨oh, oc, hq4, hq5⟩ := newsObjs N2
  obtain rfl := hq4
  obtain rfl := hq5
  rename Obj.IsDictOf (PySem.intKind _ _) _ _ => hD2
  rename (_ == sysModules) = false => lo2
  rename _ < _ ∧ AllLt _ news => l1h
  rename ∀ p ∈ news, p.1 < L5 => l1L
  rename oc.data = _ => hoc
  first | (refine x0_4 (id hRu) ?_; intro its hq6 hsz hat) | (refine x1_3 (id hRu) ?_; intro its hq6 hsz hat) | (refine x2_2 (id hRu) ?_; intro its hq6 hsz hat) | (refine x3_1 (id hRu) ?_; intro its hq6 hsz hat) | obtain ⟨its, hq6, hsz, hat⟩ := id hRu
  first | (refine x0_2 hq6 ?_; intro el hl) | (refine x1_1 hq6 ?_; intro el hl) | obtain ⟨el, hl⟩ := hq6
  try clear hq6
  have hcl := hC.len
  refine' for_G (h₀ := g5) (L := L5) (n := camev.toArray.size) (P := fun i v => camev.toArray[i]? = some v) (S := SrcAt g5 dc camev.toArray) (LI := True) (fun i m nw => ∃ oh kvs hv sv, nw = (dh, oh) :: (L5 + 1, oc) :: news ∧ (∀ y, m y = lmD (some (.ref l)) (some (.ref dc)) none hv sv none none none none none y) ∧ oh.IsDictOf (PySem.intKind pr w) kvs ∧ KvsAre kvs (hs.take i))
    (.inr ⟨trivial, (i3 _ _ _ rfl), ?lvA⟩) ?siA ?hEA (nameX_L F2 ?vA (i4 _ _ _ _ ⟨rfl, OpenG.list rfl F2 N2 (.inr ⟨_, List.mem_cons_of_mem _ (List.mem_cons_of_mem _ hcm), rfl, _, rfl⟩), oh, [], none, none, rfl, ?m0A, hD2, .nil⟩)) ?turnA ?doneA
  case lvA =>
    intro i v hv
    first | (refine x0_2 (Array.getElem?_eq_some_iff.mp hv) ?_; intro hi hq7) | (refine x1_1 (Array.getElem?_eq_some_iff.mp hv) ?_; intro hi hq7) | obtain ⟨hi, hq7⟩ := Array.getElem?_eq_some_iff.mp hv
    obtain rfl := hq7
    have hi' : i < hs.length := by rw [← hcl]; simpa using hi
    first | (refine x0_6 (hC.get hi') ?_; intro t tx th k e _) | (refine x1_5 (hC.get hi') ?_; intro t tx th k e _) | (refine x2_4 (hC.get hi') ?_; intro t tx th k e _) | (refine x3_3 (hC.get hi') ?_; intro t tx th k e _) | (refine x4_2 (hC.get hi') ?_; intro t tx th k e _) | (refine x5_1 (hC.get hi') ?_; intro t tx th k e _) | obtain ⟨t, tx, th, k, e, _⟩ := hC.get hi'
    have q : camev.toArray[i]? = some (.ref t) := by simpa using e
    rw [Array.getElem?_eq_getElem hi] at q
    exact ⟨t, Option.some.inj q⟩
  case siA =>
    intro i m nw hq8
    first | (refine x0_6 hq8 ?_; intro oh kvs hv sv hq9 _) | (refine x1_5 hq8 ?_; intro oh kvs hv sv hq9 _) | (refine x2_4 hq8 ?_; intro oh kvs hv sv hq9 _) | (refine x3_3 hq8 ?_; intro oh kvs hv sv hq9 _) | (refine x4_2 hq8 ?_; intro oh kvs hv sv hq9 _) | (refine x5_1 hq8 ?_; intro oh kvs hv sv hq9 _) | obtain ⟨oh, kvs, hv, sv, hq9, _⟩ := hq8
    try clear hq8
    obtain rfl := hq9
    exact .inr ⟨_, List.mem_cons_of_mem _ (List.mem_cons_of_mem _ hcm), rfl, _, rfl⟩
  case hEA => passes_own
  case vA => rfl
  case m0A =>
    refine extN [Str.ofString "rules", Str.ofString "came"] (List.forall_mem_cons.mpr ⟨rfl, List.forall_mem_cons.mpr ⟨rfl, List.forall_mem_nil _⟩⟩) (fun y hy => ?_)
    simp only [List.mem_cons, List.not_mem_nil, or_false, not_or] at hy
    first | (refine x0_2 hy ?_; intro h1 h2) | (refine x1_1 hy ?_; intro h1 h2) | obtain ⟨h1, h2⟩ := hy
    try clear hy
    show (if y = Str.ofString "came" then _ else if y = Str.ofString "rules" then _ else none) = _
    simp [lmD, h1, h2]
  case turnA =>
    intro i m' nw v I oI h5 tk5 hi hx9 hv5 F5 N5 off5
    refine opaqT fun KQ hKQ => ?_
    first | (refine x0_8 hx9 ?_; intro oh5 kvs hv sv hq10 hm hD5 hK) | (refine x1_7 hx9 ?_; intro oh5 kvs hv sv hq10 hm hD5 hK) | (refine x2_6 hx9 ?_; intro oh5 kvs hv sv hq10 hm hD5 hK) | (refine x3_5 hx9 ?_; intro oh5 kvs hv sv hq10 hm hD5 hK) | (refine x4_4 hx9 ?_; intro oh5 kvs hv sv hq10 hm hD5 hK) | (refine x5_3 hx9 ?_; intro oh5 kvs hv sv hq10 hm hD5 hK) | (refine x6_2 hx9 ?_; intro oh5 kvs hv sv hq10 hm hD5 hK) | (refine x7_1 hx9 ?_; intro oh5 kvs hv sv hq10 hm hD5 hK) | obtain ⟨oh5, kvs, hv, sv, hq10, hm, hD5, hK⟩ := hx9
    try clear hx9
    obtain rfl := hq10
    have hi' : i < hs.length := by rw [← hcl]; simpa using hi
    first | (refine x0_6 (hC.get hi') ?_; intro t tx th k e hmt) | (refine x1_5 (hC.get hi') ?_; intro t tx th k e hmt) | (refine x2_4 (hC.get hi') ?_; intro t tx th k e hmt) | (refine x3_3 (hC.get hi') ?_; intro t tx th k e hmt) | (refine x4_2 (hC.get hi') ?_; intro t tx th k e hmt) | (refine x5_1 (hC.get hi') ?_; intro t tx th k e hmt) | obtain ⟨t, tx, th, k, e, hmt⟩ := hC.get hi'
    obtain rfl : v = .ref t := Option.some.inj (hv5.symm.trans (by simpa using e))
    have hF := frExt F5 hm
    clear F5
    obtain ⟨i1, i2, ir⟩ : @Ne Nat dh I ∧ @Ne Nat (L5 + 1) I ∧ ∀ p ∈ news, p.1 ≠ I := by simpa [List.forall_mem_cons] using off5
    have n1 : ∀ p ∈ news, p.1 ≠ dh := (Bnd.of l1h.2).ne (Nat.le_refl _)
    have n2 : @LT.lt Nat _ (L5 + 1) dh := l1h.1
    have hkl := hK.len
    rw [List.length_take] at hkl
    k_steps
    rename Fr g5 L5 _ _ => F6
    rename News g5 L5 _ _ => N6
    rename Obj.IsDictOf _ _ (stored _ _ _) => hD6
    have hT : hs.take (i + 1) = hs.take i ++ [(hs[i].1, hs[i].2)] := by rw [List.take_add_one, List.getElem?_eq_getElem hi']; rfl
    exact hKQ.out _ _ (LoopG.mk F6 N6 (List.forall_mem_cons.mpr ⟨i1, List.forall_mem_cons.mpr ⟨i2, ir⟩⟩) ⟨_, _, _, _, rfl, ext2 (Str.ofString "symbol") (Str.ofString "height") rfl rfl (fun y h1 h2 => by simp only [lmD, if_neg h1, if_neg h2]), hD6, by
      rw [stored_absent (hK.none (keys_take hn hi')), hT]; exact hK.app _ _ _⟩)
  case doneA =>
    intro h5 tk5 m' nw hq11 F5 N5
    first | (refine x0_8 hq11 ?_; intro oh5 kvs hv sv hq12 hm hD5 hK) | (refine x1_7 hq11 ?_; intro oh5 kvs hv sv hq12 hm hD5 hK) | (refine x2_6 hq11 ?_; intro oh5 kvs hv sv hq12 hm hD5 hK) | (refine x3_5 hq11 ?_; intro oh5 kvs hv sv hq12 hm hD5 hK) | (refine x4_4 hq11 ?_; intro oh5 kvs hv sv hq12 hm hD5 hK) | (refine x5_3 hq11 ?_; intro oh5 kvs hv sv hq12 hm hD5 hK) | (refine x6_2 hq11 ?_; intro oh5 kvs hv sv hq12 hm hD5 hK) | (refine x7_1 hq11 ?_; intro oh5 kvs hv sv hq12 hm hD5 hK) | obtain ⟨oh5, kvs, hv, sv, hq12, hm, hD5, hK⟩ := hq11
    try clear hq11
    obtain rfl := hq12
    have hK : KvsAre kvs hs := by
      have e : hs.take camev.toArray.size = hs := by rw [List.size_toArray, hcl, List.take_length]
      rwa [e] at hK
    have hF := frExt F5 hm
    clear F5
    k_steps
    unfold Halt
    rename Fr g5 L5 _ _ => F6
    rename News g5 L5 _ _ => N6
    first | (refine x0_2 (newsAt1 N6) ?_; intro dd hq13) | (refine x1_1 (newsAt1 N6) ?_; intro dd hq13) | obtain ⟨dd, hq13⟩ := newsAt1 N6
    obtain rfl := hq13
    refine' for_G (h₀ := g5) (L := L5) (n := camev.toArray.size) (P := fun i v => camev.toArray[i]? = some v) (S := SrcAt g5 dc camev.toArray) (LI := True) (fun i m nw => ∃ duev ed dnew hv sv av hdv bv iv, nw = (dd, listOf duev.toArray ed) :: (dh, oh5) :: (L5 + 1, oc) :: (dnew ++ news) ∧ (∀ y, m y = lmD (some (.ref l)) (some (.ref dc)) none hv sv (some (.ref dd)) av hdv bv iv y) ∧ CameAre dnew duev ((hs.take i).map fun p => (p.1, 1 + (askH rs hs p.1).foldl min 99)) ∧ ∀ p ∈ dnew, @LT.lt Nat _ dd p.1)
      (.inr ⟨trivial, (i3 _ _ _ rfl), ?lvB⟩) ?siB ?hEB (nameX_L F6 ?vB (i4 _ _ _ _ ⟨rfl, OpenG.list rfl F6 N6 (.inr ⟨_, List.mem_cons_of_mem _ (List.mem_cons_of_mem _ (List.mem_cons_of_mem _ hcm)), rfl, _, rfl⟩), [], _, [], hv, sv, none, none, none, none, rfl, ?m0B, .nil, fun _ h => nomatch h⟩)) ?turnB ?doneB
    case lvB =>
      intro i v hv
      first | (refine x0_2 (Array.getElem?_eq_some_iff.mp hv) ?_; intro hi hq14) | (refine x1_1 (Array.getElem?_eq_some_iff.mp hv) ?_; intro hi hq14) | obtain ⟨hi, hq14⟩ := Array.getElem?_eq_some_iff.mp hv
      obtain rfl := hq14
      have hi' : i < hs.length := by rw [← hcl]; simpa using hi
      first | (refine x0_6 (hC.get hi') ?_; intro t tx th k e _) | (refine x1_5 (hC.get hi') ?_; intro t tx th k e _) | (refine x2_4 (hC.get hi') ?_; intro t tx th k e _) | (refine x3_3 (hC.get hi') ?_; intro t tx th k e _) | (refine x4_2 (hC.get hi') ?_; intro t tx th k e _) | (refine x5_1 (hC.get hi') ?_; intro t tx th k e _) | obtain ⟨t, tx, th, k, e, _⟩ := hC.get hi'
      have q : camev.toArray[i]? = some (.ref t) := by simpa using e
      rw [Array.getElem?_eq_getElem hi] at q
      exact ⟨t, Option.some.inj q⟩
    case siB =>
      intro i m nw hq15
      first | (refine x0_11 hq15 ?_; intro duev ed dnew hv sv av hdv bv iv hq16 _) | (refine x1_10 hq15 ?_; intro duev ed dnew hv sv av hdv bv iv hq16 _) | (refine x2_9 hq15 ?_; intro duev ed dnew hv sv av hdv bv iv hq16 _) | (refine x3_8 hq15 ?_; intro duev ed dnew hv sv av hdv bv iv hq16 _) | (refine x4_7 hq15 ?_; intro duev ed dnew hv sv av hdv bv iv hq16 _) | (refine x5_6 hq15 ?_; intro duev ed dnew hv sv av hdv bv iv hq16 _) | (refine x6_5 hq15 ?_; intro duev ed dnew hv sv av hdv bv iv hq16 _) | (refine x7_4 hq15 ?_; intro duev ed dnew hv sv av hdv bv iv hq16 _) | (refine x8_3 hq15 ?_; intro duev ed dnew hv sv av hdv bv iv hq16 _) | (refine x9_2 hq15 ?_; intro duev ed dnew hv sv av hdv bv iv hq16 _) | (refine x10_1 hq15 ?_; intro duev ed dnew hv sv av hdv bv iv hq16 _) | obtain ⟨duev, ed, dnew, hv, sv, av, hdv, bv, iv, hq16, _⟩ := hq15
      try clear hq15
      obtain rfl := hq16
      exact .inr ⟨_, List.mem_cons_of_mem _ (List.mem_cons_of_mem _ (List.mem_cons_of_mem _ (List.mem_append_right _ hcm))), rfl, _, rfl⟩
    case hEB => passes_own
    case vB => rfl
    case m0B => exact ext2 (Str.ofString "due") (Str.ofString "due") rfl rfl (fun y h1 _ => by simp only [lmD, if_neg h1])
    case turnB =>
      intro i m' nw v I oI h7 tk7 hi hx9 hv5 F7 N7 off7
      refine opaqT fun KQ hKQ => ?_
      first | (refine x0_13 hx9 ?_; intro duev ed dnew hv sv av hdv bv iv hq17 hm hCd hdn) | (refine x1_12 hx9 ?_; intro duev ed dnew hv sv av hdv bv iv hq17 hm hCd hdn) | (refine x2_11 hx9 ?_; intro duev ed dnew hv sv av hdv bv iv hq17 hm hCd hdn) | (refine x3_10 hx9 ?_; intro duev ed dnew hv sv av hdv bv iv hq17 hm hCd hdn) | (refine x4_9 hx9 ?_; intro duev ed dnew hv sv av hdv bv iv hq17 hm hCd hdn) | (refine x5_8 hx9 ?_; intro duev ed dnew hv sv av hdv bv iv hq17 hm hCd hdn) | (refine x6_7 hx9 ?_; intro duev ed dnew hv sv av hdv bv iv hq17 hm hCd hdn) | (refine x7_6 hx9 ?_; intro duev ed dnew hv sv av hdv bv iv hq17 hm hCd hdn) | (refine x8_5 hx9 ?_; intro duev ed dnew hv sv av hdv bv iv hq17 hm hCd hdn) | (refine x9_4 hx9 ?_; intro duev ed dnew hv sv av hdv bv iv hq17 hm hCd hdn) | (refine x10_3 hx9 ?_; intro duev ed dnew hv sv av hdv bv iv hq17 hm hCd hdn) | obtain ⟨duev, ed, dnew, hv, sv, av, hdv, bv, iv, hq17, hm, hCd, hdn⟩ := hx9
      try clear hx9
      obtain rfl := hq17
      have hi' : i < hs.length := by rw [← hcl]; simpa using hi
      first | (refine x0_6 (hC.get hi') ?_; intro t tx th k e hmt) | (refine x1_5 (hC.get hi') ?_; intro t tx th k e hmt) | (refine x2_4 (hC.get hi') ?_; intro t tx th k e hmt) | (refine x3_3 (hC.get hi') ?_; intro t tx th k e hmt) | (refine x4_2 (hC.get hi') ?_; intro t tx th k e hmt) | (refine x5_1 (hC.get hi') ?_; intro t tx th k e hmt) | obtain ⟨t, tx, th, k, e, hmt⟩ := hC.get hi'
      obtain rfl : v = .ref t := Option.some.inj (hv5.symm.trans (by simpa using e))
      have hF := frExt F7 hm
      clear F7
      have hmt' : (t, ({ cls := .type "tuple", data := .seq #[.int (hs[i].2 : Int) th, .int (hs[i].1 : Int) tx] k } : Obj)) ∈ dnew ++ news := List.mem_append_right _ hmt
      k_steps
      unfold Halt
      rename Fr g5 L5 _ _ => F8
      rename News g5 L5 _ _ => N8
      first | (refine x0_2 (newsAt1 N8) ?_; intro da hq18) | (refine x1_1 (newsAt1 N8) ?_; intro da hq18) | obtain ⟨da, hq18⟩ := newsAt1 N8
      obtain rfl := hq18
      first | (refine x0_2 (newsTokL N8) ?_; intro ta hq19) | (refine x1_1 (newsTokL N8) ?_; intro ta hq19) | obtain ⟨ta, hq19⟩ := newsTokL N8
      obtain rfl := hq19
      rename I < da ∧ _ => lda
      have hBa : ∀ p ∈ dnew ++ news, p.1 ≠ da := (Bnd.of lda.2.2.2.2).ne (Nat.le_refl _)
      have hlC : (l, ({ cls := .type "list", data := .seq its el } : Obj)) ∈ dnew ++ news := List.mem_append_right _ hl
      refine' for_G (h₀ := g5) (L := L5) (n := its.size) (P := fun i v => its[i]? = some v) (S := SrcAt g5 l its) (LI := True) (fun j m nw => ∃ avs ea hdv bv iv, nw = (da, listOf avs.toArray ea) :: (I, oI) :: (dd, listOf duev.toArray ed) :: (dh, oh5) :: (L5 + 1, oc) :: (dnew ++ news) ∧ (∀ y, m y = lmD (some (.ref l)) (some (.ref dc)) none (some (.int (hs[i].2 : Int) th)) (some (.int (hs[i].1 : Int) tx)) (some (.ref dd)) (some (.ref da)) hdv bv iv y) ∧ IntsAre avs ((99 : Int) :: (askH (rs.take j) hs hs[i].1).map fun (x : Nat) => (x : Int)))
        (.inr ⟨trivial, (i3 _ _ _ rfl), ?lvC⟩) ?siC ?hEC (nameX_L F8 ?vC (i4 _ _ _ _ ⟨rfl, OpenG.list rfl F8 N8 (.inr ⟨_, by k_mem, rfl, _, rfl⟩), [.int 99 ta], _, hdv, bv, iv, rfl, ?m0C, .cons _ _ .nil⟩)) ?turnC ?doneC
      case lvC =>
        intro j v hv
        first | (refine x0_2 (Array.getElem?_eq_some_iff.mp hv) ?_; intro hj hq20) | (refine x1_1 (Array.getElem?_eq_some_iff.mp hv) ?_; intro hj hq20) | obtain ⟨hj, hq20⟩ := Array.getElem?_eq_some_iff.mp hv
        obtain rfl := hq20
        first | (refine x0_10 (hat j (hsz ▸ hj)) ?_; intro v' e1 t b u1 u2 u3 k e2 _) | (refine x1_9 (hat j (hsz ▸ hj)) ?_; intro v' e1 t b u1 u2 u3 k e2 _) | (refine x2_8 (hat j (hsz ▸ hj)) ?_; intro v' e1 t b u1 u2 u3 k e2 _) | (refine x3_7 (hat j (hsz ▸ hj)) ?_; intro v' e1 t b u1 u2 u3 k e2 _) | (refine x4_6 (hat j (hsz ▸ hj)) ?_; intro v' e1 t b u1 u2 u3 k e2 _) | (refine x5_5 (hat j (hsz ▸ hj)) ?_; intro v' e1 t b u1 u2 u3 k e2 _) | (refine x6_4 (hat j (hsz ▸ hj)) ?_; intro v' e1 t b u1 u2 u3 k e2 _) | (refine x7_3 (hat j (hsz ▸ hj)) ?_; intro v' e1 t b u1 u2 u3 k e2 _) | (refine x8_2 (hat j (hsz ▸ hj)) ?_; intro v' e1 t b u1 u2 u3 k e2 _) | (refine x9_1 (hat j (hsz ▸ hj)) ?_; intro v' e1 t b u1 u2 u3 k e2 _) | obtain ⟨v', e1, t, b, u1, u2, u3, k, e2, _⟩ := hat j (hsz ▸ hj)
        rw [Array.getElem?_eq_getElem hj] at e1
        exact ⟨t, (Option.some.inj e1).trans e2⟩
      case siC =>
        intro j m nw hq21
        first | (refine x0_7 hq21 ?_; intro avs ea hdv bv iv hq22 _) | (refine x1_6 hq21 ?_; intro avs ea hdv bv iv hq22 _) | (refine x2_5 hq21 ?_; intro avs ea hdv bv iv hq22 _) | (refine x3_4 hq21 ?_; intro avs ea hdv bv iv hq22 _) | (refine x4_3 hq21 ?_; intro avs ea hdv bv iv hq22 _) | (refine x5_2 hq21 ?_; intro avs ea hdv bv iv hq22 _) | (refine x6_1 hq21 ?_; intro avs ea hdv bv iv hq22 _) | obtain ⟨avs, ea, hdv, bv, iv, hq22, _⟩ := hq21
        try clear hq21
        obtain rfl := hq22
        exact .inr ⟨_, by k_mem, rfl, _, rfl⟩
      case hEC => passes_own
      case vC => rfl
      case m0C => exact ext3 (Str.ofString "asked") (Str.ofString "symbol") (Str.ofString "height") rfl rfl rfl (fun y h1 h2 h3 => by simp only [lmD, if_neg h1, if_neg h2, if_neg h3])
      case turnC =>
        intro j m' nw v I2 oI2 h9 tk9 hj hx9 hv9 F9 N9 off9
        refine opaqT fun KQ hKQ => ?_
        first | (refine x0_8 hx9 ?_; intro avs ea hdv bv iv hq23 hm hA) | (refine x1_7 hx9 ?_; intro avs ea hdv bv iv hq23 hm hA) | (refine x2_6 hx9 ?_; intro avs ea hdv bv iv hq23 hm hA) | (refine x3_5 hx9 ?_; intro avs ea hdv bv iv hq23 hm hA) | (refine x4_4 hx9 ?_; intro avs ea hdv bv iv hq23 hm hA) | (refine x5_3 hx9 ?_; intro avs ea hdv bv iv hq23 hm hA) | (refine x6_2 hx9 ?_; intro avs ea hdv bv iv hq23 hm hA) | (refine x7_1 hx9 ?_; intro avs ea hdv bv iv hq23 hm hA) | obtain ⟨avs, ea, hdv, bv, iv, hq23, hm, hA⟩ := hx9
        try clear hx9
        obtain rfl := hq23
        have hj' : j < rs.length := hsz ▸ hj
        first | (refine x0_11 (hat j hj') ?_; intro vr e1 tt bb u1 u2 u3 kk hq24 ht hb) | (refine x1_10 (hat j hj') ?_; intro vr e1 tt bb u1 u2 u3 kk hq24 ht hb) | (refine x2_9 (hat j hj') ?_; intro vr e1 tt bb u1 u2 u3 kk hq24 ht hb) | (refine x3_8 (hat j hj') ?_; intro vr e1 tt bb u1 u2 u3 kk hq24 ht hb) | (refine x4_7 (hat j hj') ?_; intro vr e1 tt bb u1 u2 u3 kk hq24 ht hb) | (refine x5_6 (hat j hj') ?_; intro vr e1 tt bb u1 u2 u3 kk hq24 ht hb) | (refine x6_5 (hat j hj') ?_; intro vr e1 tt bb u1 u2 u3 kk hq24 ht hb) | (refine x7_4 (hat j hj') ?_; intro vr e1 tt bb u1 u2 u3 kk hq24 ht hb) | (refine x8_3 (hat j hj') ?_; intro vr e1 tt bb u1 u2 u3 kk hq24 ht hb) | (refine x9_2 (hat j hj') ?_; intro vr e1 tt bb u1 u2 u3 kk hq24 ht hb) | (refine x10_1 (hat j hj') ?_; intro vr e1 tt bb u1 u2 u3 kk hq24 ht hb) | obtain ⟨vr, e1, tt, bb, u1, u2, u3, kk, hq24, ht, hb⟩ := hat j hj'
        obtain rfl := hq24
        obtain rfl : v = .ref tt := Option.some.inj (hv9.symm.trans e1)
        have hF := frExt F9 hm
        clear F9
        have ht' : (tt, ({ cls := .type "tuple", data := .seq #[.int (rs[j].1 : Int) u1, .ref bb] } : Obj)) ∈ dnew ++ news := List.mem_append_right _ ht
        have hb' : (bb, ({ cls := .type "list", data := .seq #[.int (rs[j].2.1 : Int) u2, .int (rs[j].2.2 : Int) u3] kk } : Obj)) ∈ dnew ++ news := List.mem_append_right _ hb
        k_steps
        unfold Halt
        rename Fr g5 L5 _ _ => F10
        rename News g5 L5 _ _ => N10
        refine' Assign_ListComp_G (S := SrcAt g5 bb #[.int (rs[j].2.1 : Int) u2, .int (rs[j].2.2 : Int) u3]) (LI := True) (fun q zs nw => nw = (I2, oI2) :: (da, listOf avs.toArray ea) :: (I, oI) :: (dd, listOf duev.toArray ed) :: (dh, oh5) :: (L5 + 1, oc) :: (dnew ++ news) ∧ IntsAre zs ((((bodyR rs[j]).take q).filter fun s => decide (256 ≤ s)).map fun (x : Nat) => (x : Int))) (cl := []) rfl ?sw1 ?cl1 ?cc1 ?ck1 ?cn1 ?hy1 ?hp1 (.inl fun _ _ => rfl) ?si1 ?sz1 (assign_name rfl rfl)
          (nameX_L F10 ?v1 (i3 _ _ _ ⟨rfl, OpenG.list rfl F10 N10 (.inr ⟨_, by k_mem, rfl, _, rfl⟩), rfl, .nil⟩)) ?turn1 ?done1
        case sw1 => rfl
        case cl1 => with_unfolding_all rfl
        case cc1 => decide
        case ck1 => rfl
        case cn1 => decide
        case hy1 => rfl
        case hp1 => rfl
        case v1 => rfl
        case si1 =>
          intro q zs nw hq25
          first | (refine x0_2 hq25 ?_; intro hq26 _) | (refine x1_1 hq25 ?_; intro hq26 _) | obtain ⟨hq26, _⟩ := hq25
          try clear hq25
          obtain rfl := hq26
          exact .inr ⟨_, by k_mem, rfl, _, rfl⟩
        case sz1 => rw [sizeLine_eq]; show 2 ≤ 16777216; omega
        case turn1 =>
          intro q zs nw v I3 oI3 C3 oC3 D3 m3 h11 tk11 E3 hq hx14 hv11 hC3 hm3 F11 N11 off11 ne11
          refine opaqG1 fun KQ KZ hKQ hKZ => ?_
          first | (refine x0_2 hx14 ?_; intro hq27 hZ) | (refine x1_1 hx14 ?_; intro hq27 hZ) | obtain ⟨hq27, hZ⟩ := hx14
          try clear hx14
          obtain rfl := hq27
          obtain ⟨y, u, hy1, rfl⟩ : ∃ y u, (bodyR rs[j])[q]? = some y ∧ v = .int (y : Int) u := by
            rcases q with _ | _ | q
            · exact ⟨_, _, rfl, (Option.some.inj hv11).symm⟩
            · exact ⟨_, _, rfl, (Option.some.inj hv11).symm⟩
            · exact absurd hq (by simp)
          have hZ' : ((((bodyR rs[j]).take (q + 1)).filter fun s => decide (256 ≤ s)).map fun (x : Nat) => (x : Int)) = ((((bodyR rs[j]).take q).filter fun s => decide (256 ≤ s)).map fun (x : Nat) => (x : Int)) ++ if 256 ≤ y then [(y : Int)] else [] := by
            rw [List.take_add_one, hy1, List.filter_append, List.map_append]
            by_cases h : 256 ≤ y <;> simp [h]
          refine wpAny_tests_one ?_
          k_steps
          · rename (255 : Int) < _ => hy2
            rw [if_pos (show 256 ≤ y by omega)] at hZ'
            first | exact hKQ.out _ _ (CompE.mk (by assumption) (by assumption) off11 ⟨rfl, by rw [hZ']; exact intsAre_app hZ _ _⟩) | exact hKZ.out _ (CompE.mk (by assumption) (by assumption) off11 ⟨rfl, by rw [hZ']; exact intsAre_app hZ _ _⟩)
          · rename ¬ (255 : Int) < _ => hy2
            rw [if_neg (show ¬ 256 ≤ y by omega), List.append_nil] at hZ'
            first | exact hKQ.out _ _ (CompE.mk (by assumption) (by assumption) off11 ⟨rfl, by rw [hZ']; exact hZ⟩) | exact hKZ.out _ (CompE.mk (by assumption) (by assumption) off11 ⟨rfl, by rw [hZ']; exact hZ⟩)
        case done1 =>
          intro D3 h12 tk12 zs nw hq28 F12 N12 o12
          first | (refine x0_2 hq28 ?_; intro hq29 hZ) | (refine x1_1 hq28 ?_; intro hq29 hZ) | obtain ⟨hq29, hZ⟩ := hq28
          try clear hq28
          obtain rfl := hq29
          have hZ : IntsAre zs ((innR rs[j]).map fun (x : Nat) => (x : Int)) := hZ
          have hal : avs.length ≤ 10 := by
            have h1 := hA.length
            have h2 := askH_len (rs := rs) (hs := hs) (x := hs[i].1) (j := j)
            rw [List.length_cons, List.length_map] at h1
            omega
          have p3 : @Ne Nat da D3 := off1_all o12 (da, listOf avs.toArray ea) (by k_mem)
          have p4 : @Ne Nat da I2 := off9 (da, listOf avs.toArray ea) (by k_mem)
          obtain ⟨w1, w2, w3, w4, w5, w6⟩ : @Ne Nat da I2 ∧ @Ne Nat I I2 ∧ @Ne Nat dd I2 ∧ @Ne Nat dh I2 ∧ @Ne Nat (L5 + 1) I2 ∧ ∀ p ∈ dnew ++ news, p.1 ≠ I2 := by simpa only [List.forall_mem_cons] using off9
          have off9' : ∀ o : Obj, ∀ p ∈ (da, o) :: (I, oI) :: (dd, listOf duev.toArray ed) :: (dh, oh5) :: (L5 + 1, oc) :: (dnew ++ news), p.1 ≠ I2 := fun o => List.forall_mem_cons.mpr ⟨w1, List.forall_mem_cons.mpr ⟨w2, List.forall_mem_cons.mpr ⟨w3, List.forall_mem_cons.mpr ⟨w4, List.forall_mem_cons.mpr ⟨w5, w6⟩⟩⟩⟩⟩
          by_cases hx : rs[j].1 = hs[i].1
          · have hx' : ((rs[j].1 : Nat) : Int) = ((hs[i].1 : Nat) : Int) := by rw [hx]
            k_steps
            rotate_left
            · exact absurd hx' (by assumption)
            unfold Halt
            rename Fr g5 L5 _ _ => F13
            rename News g5 L5 _ _ => N13
            have hzl : zs.length = (innR rs[j]).length := by have := hZ.length; simpa using this
            have hil : (innR rs[j]).length ≤ 2 := Nat.le_trans (List.length_filter_le _ _) (by simp [bodyR])
            refine' ListComp_G (S := SrcAt g5 D3 zs.toArray) (LI := True) (fun q ys2 nw => nw = (D3, lst zs) :: (I2, oI2) :: (da, listOf avs.toArray ea) :: (I, oI) :: (dd, listOf duev.toArray ed) :: (dh, oh5) :: (L5 + 1, oc) :: (dnew ++ news) ∧ IntsAre ys2 ((((innR rs[j]).take q).filter fun s => decide (s ∉ keysH hs)).map fun (x : Nat) => (x : Int))) (cl := [(Str.ofString "heights", L5 + 1)]) ?cl2 ?cc2 ?ck2 ?cn2 (.inl fun _ _ => rfl) ?si2 ?sz2 (assign_name rfl rfl)
              (nameX_L F13 ?v2 (i3 _ _ _ ⟨rfl, OpenG.list rfl F13 N13 (.inr ⟨_, List.mem_cons_self, rfl, _, rfl⟩), rfl, .nil⟩)) ?turn2 ?done2
            case cl2 => with_unfolding_all rfl
            case cc2 => decide
            case ck2 => rfl
            case cn2 => decide
            case v2 => rfl
            case si2 =>
              intro q ys2 nw hq30
              first | (refine x0_2 hq30 ?_; intro hq31 _) | (refine x1_1 hq30 ?_; intro hq31 _) | obtain ⟨hq31, _⟩ := hq30
              try clear hq30
              obtain rfl := hq31
              exact .inr ⟨_, List.mem_cons_self, rfl, _, rfl⟩
            case sz2 => rw [sizeLine_eq, List.size_toArray]; omega
            case turn2 =>
              intro q ys2 nw v I4 oI4 C4 oC4 D4 m4 h14 tk14 E4 hq hx14 hv14 hC4 hm4 F14 N14 off14 ne14
              refine opaqG1 fun KQ KZ hKQ hKZ => ?_
              first | (refine x0_2 hx14 ?_; intro hq32 hY) | (refine x1_1 hx14 ?_; intro hq32 hY) | obtain ⟨hq32, hY⟩ := hx14
              try clear hx14
              obtain rfl := hq32
              first | (refine x0_4 (intsAre_inv hZ (i := q) (v := v) (by simpa using hv14)) ?_; intro y u hy2 hq33) | (refine x1_3 (intsAre_inv hZ (i := q) (v := v) (by simpa using hv14)) ?_; intro y u hy2 hq33) | (refine x2_2 (intsAre_inv hZ (i := q) (v := v) (by simpa using hv14)) ?_; intro y u hy2 hq33) | (refine x3_1 (intsAre_inv hZ (i := q) (v := v) (by simpa using hv14)) ?_; intro y u hy2 hq33) | obtain ⟨y, u, hy2, hq33⟩ := intsAre_inv hZ (i := q) (v := v) (by simpa using hv14)
              obtain rfl := hq33
              have hY' := map_take_succ hy2 fun s => decide (s ∉ keysH hs)
              refine wpAny_tests_one ?_
              by_cases hk : y ∈ keysH hs
              · have hb1 : decide (y ∉ keysH hs) = false := by simp [hk]
                rw [if_neg (by simp [hk]), List.append_nil] at hY'
                k_steps
                first | exact hKQ.out _ _ (CompE.mk (by assumption) (by assumption) off14 ⟨rfl, by rw [hY']; exact hY⟩) | exact hKZ.out _ (CompE.mk (by assumption) (by assumption) off14 ⟨rfl, by rw [hY']; exact hY⟩)
              · have hb1 : decide (y ∉ keysH hs) = true := by simp [hk]
                rw [if_pos (by simp [hk])] at hY'
                k_steps
                first | exact hKQ.out _ _ (CompE.mk (by assumption) (by assumption) off14 ⟨rfl, by rw [hY']; exact intsAre_app hY _ _⟩) | exact hKZ.out _ (CompE.mk (by assumption) (by assumption) off14 ⟨rfl, by rw [hY']; exact intsAre_app hY _ _⟩)
            case done2 =>
              intro D5 h15 tk15 ys2 nw hq34 F15 N15 o15
              first | (refine x0_2 hq34 ?_; intro hq35 hY) | (refine x1_1 hq34 ?_; intro hq35 hY) | obtain ⟨hq35, hY⟩ := hq34
              try clear hq34
              obtain rfl := hq35
              rw [List.size_toArray, hzl, List.take_length] at hY
              by_cases hf : (innR rs[j]).filter (fun s => decide (s ∉ keysH hs)) = []
              · have hc : decide ((((innR rs[j]).filter fun s => decide (s ∉ keysH hs)).map fun (x : Nat) => (x : Int)) = []) = true := by simpa using hf
                k_steps
                unfold Halt
                rename Fr g5 L5 _ _ => F16
                rename News g5 L5 _ _ => N16
                first | (refine x0_4 (newsAt2 N16) ?_; intro z1 z2 hq36 hq37) | (refine x1_3 (newsAt2 N16) ?_; intro z1 z2 hq36 hq37) | (refine x2_2 (newsAt2 N16) ?_; intro z1 z2 hq36 hq37) | (refine x3_1 (newsAt2 N16) ?_; intro z1 z2 hq36 hq37) | obtain ⟨z1, z2, hq36, hq37⟩ := newsAt2 N16
                obtain rfl := hq36
                obtain rfl := hq37
                first | (refine x0_2 (newsTokL N16) ?_; intro tz hq38) | (refine x1_1 (newsTokL N16) ?_; intro tz hq38) | obtain ⟨tz, hq38⟩ := newsTokL N16
                obtain rfl := hq38
                have hall : ∀ s ∈ innR rs[j], s ∈ keysH hs := fun s hs' => by
                  have := List.filter_eq_nil_iff.mp hf s hs'
                  simpa using this
                refine' ListComp_G (S := SrcAt g5 D3 zs.toArray) (LI := True) (fun q ys3 nw => nw = (z1, listOf #[.int 0 tz] 0) :: (z2, listOf #[] 0) :: (D5, lst ys2) :: (D3, lst zs) :: (I2, oI2) :: (da, listOf avs.toArray ea) :: (I, oI) :: (dd, listOf duev.toArray ed) :: (dh, oh5) :: (L5 + 1, oc) :: (dnew ++ news) ∧ IntsAre ys3 (((innR rs[j]).take q).map fun x => ((hOf hs x : Nat) : Int))) (cl := [(Str.ofString "heights", L5 + 1)]) ?cl3 ?cc3 ?ck3 ?cn3 (.inl fun _ _ => rfl) ?si3 ?sz3 (assign_name rfl rfl)
                  (nameX_L F16 ?v3 (i3 _ _ _ ⟨rfl, OpenG.list rfl F16 N16 (.inr ⟨_, by k_mem, rfl, _, rfl⟩), rfl, .nil⟩)) ?turn3 ?done3
                case cl3 => with_unfolding_all rfl
                case cc3 => decide
                case ck3 => rfl
                case cn3 => decide
                case v3 => rfl
                case si3 =>
                  intro q ys2 nw hq39
                  first | (refine x0_2 hq39 ?_; intro hq40 _) | (refine x1_1 hq39 ?_; intro hq40 _) | obtain ⟨hq40, _⟩ := hq39
                  try clear hq39
                  obtain rfl := hq40
                  exact .inr ⟨_, by k_mem, rfl, _, rfl⟩
                case sz3 => rw [sizeLine_eq, List.size_toArray]; omega
                case turn3 =>
                  intro q ys3 nw v I5 oI5 C5 oC5 D6 m5 h17 tk17 E5 hq hx14 hv17 hC5 hm5 F17 N17 off17 ne17
                  refine opaqG fun KQ hKQ => ?_
                  first | (refine x0_2 hx14 ?_; intro hq41 hY3) | (refine x1_1 hx14 ?_; intro hq41 hY3) | obtain ⟨hq41, hY3⟩ := hx14
                  try clear hx14
                  obtain rfl := hq41
                  first | (refine x0_4 (intsAre_inv hZ (i := q) (v := v) (by simpa using hv17)) ?_; intro y u hy2 hq42) | (refine x1_3 (intsAre_inv hZ (i := q) (v := v) (by simpa using hv17)) ?_; intro y u hy2 hq42) | (refine x2_2 (intsAre_inv hZ (i := q) (v := v) (by simpa using hv17)) ?_; intro y u hy2 hq42) | (refine x3_1 (intsAre_inv hZ (i := q) (v := v) (by simpa using hv17)) ?_; intro y u hy2 hq42) | obtain ⟨y, u, hy2, hq42⟩ := intsAre_inv hZ (i := q) (v := v) (by simpa using hv17)
                  obtain rfl := hq42
                  first | (refine x0_2 (hK.some hn (hOf_of_mem hn (hall y (List.mem_of_getElem? hy2)))) ?_; intro ty hvy) | (refine x1_1 (hK.some hn (hOf_of_mem hn (hall y (List.mem_of_getElem? hy2)))) ?_; intro ty hvy) | obtain ⟨ty, hvy⟩ := hK.some hn (hOf_of_mem hn (hall y (List.mem_of_getElem? hy2)))
                  k_steps
                  exact hKQ.out _ _ (CompE.mk (by assumption) (by assumption) off17 ⟨rfl, by rw [List.take_add_one, hy2, List.map_append]; exact intsAre_app hY3 _ _⟩)
                case done3 =>
                  intro D6 h17 tk17 ys3 nw hq43 F17 N17 o17
                  first | (refine x0_2 hq43 ?_; intro hq44 hY3) | (refine x1_1 hq43 ?_; intro hq44 hY3) | obtain ⟨hq44, hY3⟩ := hq43
                  try clear hq43
                  obtain rfl := hq44
                  rw [List.size_toArray, hzl, List.take_length] at hY3
                  have p1 : @Ne Nat da D6 := off1_all o17 (da, listOf avs.toArray ea) (by k_mem)
                  have p2 : @Ne Nat da D5 := off1_all o15 (da, listOf avs.toArray ea) (by k_mem)
                  k_steps
                  rename Fr g5 L5 _ _ => F20
                  rename News g5 L5 _ _ => N20
                  rename _ ∈ [(0 : Int)] ++ _ => hM1
                  rename ∀ a, a ∈ [(0 : Int)] ++ _ → a ≤ _ => hM2
                  have hM := max_is hM1 hM2
                  rw [List.push_toArray] at N20
                  refine hKQ.out _ _ (LoopG.mk F20 (cb_drop N20 (fun p hp => by repeat (first | exact hp | refine List.mem_cons_of_mem _ ?_))) (off9' _) (i5 _ _ _ _ _ ⟨rfl, ext3 (Str.ofString "inner") (Str.ofString "body") (Str.ofString "head") rfl rfl rfl (fun y h1 h2 h3 => by simp only [lmD, if_neg h1, if_neg h2, if_neg h3]), ?_⟩))
                  rw [askH_yes hj' ⟨hx, hall⟩, List.map_append, hM]
                  exact intsAre_app hA _ _
              · have hc : decide ((((innR rs[j]).filter fun s => decide (s ∉ keysH hs)).map fun (x : Nat) => (x : Int)) = []) = false := by simpa using hf
                k_steps
                rename Fr g5 L5 _ _ => F20
                rename News g5 L5 _ _ => N20
                refine hKQ.out _ _ (LoopG.mk F20 (cb_drop N20 (fun p hp => by repeat (first | exact hp | refine List.mem_cons_of_mem _ ?_))) (off9' _) (i5 _ _ _ _ _ ⟨rfl, ext3 (Str.ofString "inner") (Str.ofString "body") (Str.ofString "head") rfl rfl rfl (fun y h1 h2 h3 => by simp only [lmD, if_neg h1, if_neg h2, if_neg h3]), ?_⟩))
                rw [askH_no hj' (fun q => hf (List.filter_eq_nil_iff.mpr fun s hs' => by simpa using q.2 s hs'))]
                exact hA
          · have hx' : ¬ ((rs[j].1 : Nat) : Int) = ((hs[i].1 : Nat) : Int) := by omega
            k_steps
            · exact absurd (by assumption) hx'
            rename Fr g5 L5 _ _ => F20
            rename News g5 L5 _ _ => N20
            refine hKQ.out _ _ (LoopG.mk F20 (cb_drop N20 (fun p hp => by repeat (first | exact hp | refine List.mem_cons_of_mem _ ?_))) (off9' _) (i5 _ _ _ _ _ ⟨rfl, ext3 (Str.ofString "inner") (Str.ofString "body") (Str.ofString "head") rfl rfl rfl (fun y h1 h2 h3 => by simp only [lmD, if_neg h1, if_neg h2, if_neg h3]), ?_⟩))
            rw [askH_no hj' (fun q => hx q.1)]
            exact hA
      case doneC =>
        intro h9 tk9 m' nw hq45 F9 N9
        first | (refine x0_8 hq45 ?_; intro avs ea hdv2 bv2 iv2 hq46 hm hA) | (refine x1_7 hq45 ?_; intro avs ea hdv2 bv2 iv2 hq46 hm hA) | (refine x2_6 hq45 ?_; intro avs ea hdv2 bv2 iv2 hq46 hm hA) | (refine x3_5 hq45 ?_; intro avs ea hdv2 bv2 iv2 hq46 hm hA) | (refine x4_4 hq45 ?_; intro avs ea hdv2 bv2 iv2 hq46 hm hA) | (refine x5_3 hq45 ?_; intro avs ea hdv2 bv2 iv2 hq46 hm hA) | (refine x6_2 hq45 ?_; intro avs ea hdv2 bv2 iv2 hq46 hm hA) | (refine x7_1 hq45 ?_; intro avs ea hdv2 bv2 iv2 hq46 hm hA) | obtain ⟨avs, ea, hdv2, bv2, iv2, hq46, hm, hA⟩ := hq45
        try clear hq45
        obtain rfl := hq46
        rw [hsz, List.take_length] at hA
        have hF := frExt F9 hm
        clear F9
        have hal := hA.length
        obtain ⟨w2, w3, w4, w5, w6⟩ : @Ne Nat dd I ∧ @Ne Nat dh I ∧ @Ne Nat (L5 + 1) I ∧ (∀ p ∈ dnew ++ news, p.1 ≠ I) ∧ True := by simpa [List.forall_mem_cons] using off7
        rename dh < dd ∧ _ => ldd
        have hBd : ∀ p ∈ dnew ++ news, p.1 ≠ dd := List.forall_mem_append.mpr ⟨fun p hp => Nat.ne_of_gt (hdn p hp), (Bnd.of ldd.2.2).ne (Nat.le_refl _)⟩
        have hdl : duev.length ≤ 10 := by
          have := hCd.len
          rw [List.length_map, List.length_take] at this
          omega
        k_steps
        rename Fr g5 L5 _ _ => F20
        rename News g5 L5 _ _ => N20
        rename da < _ ∧ _ => lDt
        rename _ = (99 : Int) ∨ _ => hM1
        rename _ ≤ (99 : Int) ∧ _ => hM2
        have hM := min_is (List.mem_cons.mpr hM1) (List.forall_mem_cons.mpr hM2)
        rw [List.push_toArray] at N20
        first | (refine x0_2 (newsAt1 N20) ?_; intro Dt hq47) | (refine x1_1 (newsAt1 N20) ?_; intro Dt hq47) | obtain ⟨Dt, hq47⟩ := newsAt1 N20
        obtain rfl := hq47
        rename Int => Mi
        obtain rfl : Mi = _ := hM
        first | (refine x0_2 (newsTup N20) ?_; intro tm hq48) | (refine x1_1 (newsTup N20) ?_; intro tm hq48) | obtain ⟨tm, hq48⟩ := newsTup N20
        obtain rfl := hq48
        first | (refine x0_6 (id lDt) ?_; intro j1 j2 j3 j4 j5 jB) | (refine x1_5 (id lDt) ?_; intro j1 j2 j3 j4 j5 jB) | (refine x2_4 (id lDt) ?_; intro j1 j2 j3 j4 j5 jB) | (refine x3_3 (id lDt) ?_; intro j1 j2 j3 j4 j5 jB) | (refine x4_2 (id lDt) ?_; intro j1 j2 j3 j4 j5 jB) | (refine x5_1 (id lDt) ?_; intro j1 j2 j3 j4 j5 jB) | obtain ⟨j1, j2, j3, j4, j5, jB⟩ := id lDt
        have hT : hs.take (i + 1) = hs.take i ++ [hs[i]] := by rw [List.take_add_one, List.getElem?_eq_getElem hi']; rfl
        refine hKQ.out _ _ (LoopG.mk F20 (fun z hz => N20 z ?_) (?_) (i9 (duev ++ [.ref Dt]) (ed + 1) ((Dt, ({ cls := .type "tuple", data := .seq #[.int (1 + (((askH rs hs hs[i].1).foldl min 99 : Nat) : Int)) tm, .int (hs[i].1 : Int) tx] } : Obj)) :: dnew) _ _ _ _ _ _ ⟨rfl, fun _ => rfl, ?_, ?_⟩))
        · simp only [List.cons_append, List.mem_cons] at hz ⊢
          rcases hz with h | h | h | h | h | h <;> simp only [h, true_or, or_true]
        · exact List.forall_mem_cons.mpr ⟨w2, List.forall_mem_cons.mpr ⟨w3, List.forall_mem_cons.mpr ⟨w4, List.forall_mem_cons.mpr ⟨Nat.ne_of_gt j2, w5⟩⟩⟩⟩
        · rw [hT, List.map_append]
          exact (hCd.mono fun p hp => List.mem_cons_of_mem _ hp).app Dt hs[i].1 (1 + (askH rs hs hs[i].1).foldl min 99) tx tm _ List.mem_cons_self
        · exact List.forall_mem_cons.mpr ⟨j3, hdn⟩
    case doneB =>
      intro h7 tk7 m' nw hq49 F7 N7
      first | (refine x0_13 hq49 ?_; intro duev ed dnew hv2 sv2 av hdv bv iv hq50 hm hCd hdn) | (refine x1_12 hq49 ?_; intro duev ed dnew hv2 sv2 av hdv bv iv hq50 hm hCd hdn) | (refine x2_11 hq49 ?_; intro duev ed dnew hv2 sv2 av hdv bv iv hq50 hm hCd hdn) | (refine x3_10 hq49 ?_; intro duev ed dnew hv2 sv2 av hdv bv iv hq50 hm hCd hdn) | (refine x4_9 hq49 ?_; intro duev ed dnew hv2 sv2 av hdv bv iv hq50 hm hCd hdn) | (refine x5_8 hq49 ?_; intro duev ed dnew hv2 sv2 av hdv bv iv hq50 hm hCd hdn) | (refine x6_7 hq49 ?_; intro duev ed dnew hv2 sv2 av hdv bv iv hq50 hm hCd hdn) | (refine x7_6 hq49 ?_; intro duev ed dnew hv2 sv2 av hdv bv iv hq50 hm hCd hdn) | (refine x8_5 hq49 ?_; intro duev ed dnew hv2 sv2 av hdv bv iv hq50 hm hCd hdn) | (refine x9_4 hq49 ?_; intro duev ed dnew hv2 sv2 av hdv bv iv hq50 hm hCd hdn) | (refine x10_3 hq49 ?_; intro duev ed dnew hv2 sv2 av hdv bv iv hq50 hm hCd hdn) | obtain ⟨duev, ed, dnew, hv2, sv2, av, hdv, bv, iv, hq50, hm, hCd, hdn⟩ := hq49
      try clear hq49
      obtain rfl := hq50
      rw [List.size_toArray, hcl, List.take_length] at hCd
      have hF := frExt F7 hm
      clear F7
      k_steps
      refine hQ dd duev ed dnew _ _ (by k_asm) ?_ hCd
      rename News h₀ L _ _ => N20
      intro z hz
      refine N20 z ?_
      rcases List.mem_cons.mp hz with rfl | hz
      · exact List.mem_cons_self
      · exact List.mem_cons_of_mem _ (List.mem_cons_of_mem _ (List.mem_cons_of_mem _ hz))
end
end
theorem flushRD : if True then True else True := by (w_top off); first | (walk1; fail) | simp
section
open PySem PySem.W PySem.Calls PyProof.Rows PyProof.Rows.LCg
set_option maxRecDepth 100000
set_option maxHeartbeats 4000000
section
theorem fillA : rw' = rw' ∧ K2 = K2 := by
  k_fill
  exact ⟨rfl, rfl⟩
local macro_rules | `(tactic| walk_at "exec Assign cons ListComp") => `(tactic| ((with_reducible show wpAny _ _ (exec (Stmt.Assign [Expr.Name (PySem.Str.ofString "common") _] _ _) _) _ _ _); refine halt ?_))
local macro_rules | `(tactic| walk_at "compareOp NotIn int ref") => `(tactic| (k_here; refine notin_nats (by k_asm) (by k_mem) (by assumption) (by assumption) ?_))
local macro_rules | `(tactic| walk_at "compareOp In int ref") => `(tactic| (k_here; refine in_nats (by k_asm) (by k_mem) (by assumption) (by assumption) ?_))
local macro_rules | `(tactic| walk_at "call type:range") => `(tactic| (k_here; refine range1_rows (by k_asm) (by k_asm) ?_; intro h' tk' t1' u1' v1' hr' F' N' _; refine halt ?_))
theorem c_all {w : World} {p : Program} {loose : List Str} {mean : ExcName → Option Value} {mg mb : Str → Option Value} {outer : List Env} {A₀ : Around} {base h₀ : Heap} {L : Addr} {m : Str → Option Value} {news : List (Addr × Obj)} {s : Shared}
  {dp un : Nat} {gd : Option (List Code)} {cn : Str} {nm : List (Str × NameKind)} {mo : List (Str × Const)} {a : Addr} {ccd : Value} {cl : List (Str × Addr)} {R : Result → Shared → Prop}
  {l : Addr} {rs : List Rule}
  (cx : Cx w p loose mean mg mb outer A₀ base h₀ L m s.heap news) (hd : dp + 14 < recursionLimit) (hu : un + 80 < cLine) (hRu : RulesAt news l rs) (hrl : rs.length ≤ 5)
  (hQ : ∀ dd cvs ed h' tk', Fr h₀ L h' m → News h₀ L h' ((dd, listOf cvs.toArray ed) :: news) → IntsAre cvs ((commonH rs).map fun (x : Nat) => (x : Int)) → R (.ok (.ret (.ref dd))) { s with heap := h', toks := tk' }) :
  codeAny (model pr w) (top none dp un gd cn nm mo L a ccd cl outer) (.call (.ref 165) ⟨[.ref l], []⟩) R s := by
  first | (refine x0_6 cx ?_; intro B F X N TT C0) | (refine x1_5 cx ?_; intro B F X N TT C0) | (refine x2_4 cx ?_; intro B F X N TT C0) | (refine x3_3 cx ?_; intro B F X N TT C0) | (refine x4_2 cx ?_; intro B F X N TT C0) | (refine x5_1 cx ?_; intro B F X N TT C0) | obtain ⟨B, F, X, N, TT, C0⟩ := cx
  try clear cx
  k_dflt k_enter
  refine nameE fun KE hKE => ?_
  have hPE := passE hKE
  try rw [← hKE]
  clear hKE
  k_steps
  unfold Halt
  rename Fr _ _ _ _ => F2
  rename News _ _ _ _ => N2
  first | (refine x0_4 (frAt' F2) ?_; intro g5 L5 hq1 hq2) | (refine x1_3 (frAt' F2) ?_; intro g5 L5 hq1 hq2) | (refine x2_2 (frAt' F2) ?_; intro g5 L5 hq1 hq2) | (refine x3_1 (frAt' F2) ?_; intro g5 L5 hq1 hq2) | obtain ⟨g5, L5, hq1, hq2⟩ := frAt' F2
  obtain rfl := hq1
  obtain rfl := hq2
  first | (refine x0_2 (newsAt1 N2) ?_; intro dm hq3) | (refine x1_1 (newsAt1 N2) ?_; intro dm hq3) | obtain ⟨dm, hq3⟩ := newsAt1 N2
  obtain rfl := hq3
  first | (refine x0_4 (newsObjs3 N2) ?_; intro oB oA hq4 hq5) | (refine x1_3 (newsObjs3 N2) ?_; intro oB oA hq4 hq5) | (refine x2_2 (newsObjs3 N2) ?_; intro oB oA hq4 hq5) | (refine x3_1 (newsObjs3 N2) ?_; intro oB oA hq4 hq5) | obtain ⟨oB, oA, hq4, hq5⟩ := newsObjs3 N2
  obtain rfl := hq4
  obtain rfl := hq5
  first | (refine x0_8 (newsTok4 N2) ?_; intro u1 u2 u3 u4 hu1 hu2 hu3 hu4) | (refine x1_7 (newsTok4 N2) ?_; intro u1 u2 u3 u4 hu1 hu2 hu3 hu4) | (refine x2_6 (newsTok4 N2) ?_; intro u1 u2 u3 u4 hu1 hu2 hu3 hu4) | (refine x3_5 (newsTok4 N2) ?_; intro u1 u2 u3 u4 hu1 hu2 hu3 hu4) | (refine x4_4 (newsTok4 N2) ?_; intro u1 u2 u3 u4 hu1 hu2 hu3 hu4) | (refine x5_3 (newsTok4 N2) ?_; intro u1 u2 u3 u4 hu1 hu2 hu3 hu4) | (refine x6_2 (newsTok4 N2) ?_; intro u1 u2 u3 u4 hu1 hu2 hu3 hu4) | (refine x7_1 (newsTok4 N2) ?_; intro u1 u2 u3 u4 hu1 hu2 hu3 hu4) | obtain ⟨u1, u2, u3, u4, hu1, hu2, hu3, hu4⟩ := newsTok4 N2
  rename oA.data = _ => hoA
  rename oB.data = _ => hoB
  rename ∀ p ∈ news, p.1 < L5 => l1L
  first | (refine x0_4 (id hRu) ?_; intro its hq6 hsz hat) | (refine x1_3 (id hRu) ?_; intro its hq6 hsz hat) | (refine x2_2 (id hRu) ?_; intro its hq6 hsz hat) | (refine x3_1 (id hRu) ?_; intro its hq6 hsz hat) | obtain ⟨its, hq6, hsz, hat⟩ := id hRu
  first | (refine x0_2 hq6 ?_; intro el hl) | (refine x1_1 hq6 ?_; intro el hl) | obtain ⟨el, hl⟩ := hq6
  try clear hq6
  refine' for_G (h₀ := g5) (L := L5) (n := 16) (P := fun i v => ∃ t, v = .int (i : Int) t) (S := fun _ => True) (LI := False) (fun i m nw => ∃ dm cvs ec oA oB va vb, nw = (dm, listOf cvs.toArray ec) :: (L5 + 1 + 1, oB) :: (L5 + 1, oA) :: news ∧ (∀ y, m y = lmA (some (.ref l)) (some (.ref dm)) y) ∧ oA.data = .cell va ∧ oB.data = .cell vb ∧ (@Ne Nat dm (L5 + 1) ∧ @Ne Nat dm (L5 + 1 + 1)) ∧ IntsAre cvs ((comN rs i).map fun (x : Nat) => (x : Int)))
    (.inl fun _ _ => rfl) (fun _ _ _ _ => trivial) ?hE ?src ?turn ?done
  case hE => passes_own
  case src =>
    k_steps
    unfold Halt
    rename Fr g5 L5 _ _ => F3
    rename News g5 L5 _ _ => N3
    rename IsRange _ _ _ _ _ _ _ _ => hr3
    rename _ < dm ∧ _ => ldm
    exact ⟨_, _, _, _, rfl, OpenG.range1 (n := 16) (by omega) rfl F3 N3 hr3, dm, [_, _, _, _], _, oA, oB, _, _, rfl, ext2 (Str.ofString "common") (Str.ofString "rules") rfl rfl (fun y h1 h2 => by
      show (if y = Str.ofString "common" then _ else if y = Str.ofString "rules" then _ else none) = _
      simp only [lmA, if_neg h1, if_neg h2]), hoA, hoB, ⟨Nat.ne_of_gt ldm.2.1, Nat.ne_of_gt ldm.1⟩, .cons _ _ (.cons _ _ (.cons _ _ (.cons _ _ .nil)))⟩
  case turn =>
    intro i m' nw v I oI h4 tk4 hi hx9 hx10 F4 N4 off4
    refine opaqT fun KQ hKQ => ?_
    first | (refine x0_13 hx9 ?_; intro dm cvs ec oA oB va vb hq7 hm hA hB hq8 hC) | (refine x1_12 hx9 ?_; intro dm cvs ec oA oB va vb hq7 hm hA hB hq8 hC) | (refine x2_11 hx9 ?_; intro dm cvs ec oA oB va vb hq7 hm hA hB hq8 hC) | (refine x3_10 hx9 ?_; intro dm cvs ec oA oB va vb hq7 hm hA hB hq8 hC) | (refine x4_9 hx9 ?_; intro dm cvs ec oA oB va vb hq7 hm hA hB hq8 hC) | (refine x5_8 hx9 ?_; intro dm cvs ec oA oB va vb hq7 hm hA hB hq8 hC) | (refine x6_7 hx9 ?_; intro dm cvs ec oA oB va vb hq7 hm hA hB hq8 hC) | (refine x7_6 hx9 ?_; intro dm cvs ec oA oB va vb hq7 hm hA hB hq8 hC) | (refine x8_5 hx9 ?_; intro dm cvs ec oA oB va vb hq7 hm hA hB hq8 hC) | (refine x9_4 hx9 ?_; intro dm cvs ec oA oB va vb hq7 hm hA hB hq8 hC) | (refine x10_3 hx9 ?_; intro dm cvs ec oA oB va vb hq7 hm hA hB hq8 hC) | obtain ⟨dm, cvs, ec, oA, oB, va, vb, hq7, hm, hA, hB, hq8, hC⟩ := hx9
    try clear hx9
    obtain rfl := hq7
    first | (refine x0_2 hq8 ?_; intro hdm1 hdm2) | (refine x1_1 hq8 ?_; intro hdm1 hdm2) | obtain ⟨hdm1, hdm2⟩ := hq8
    try clear hq8
    first | (refine x0_2 hx10 ?_; intro t4 hq9) | (refine x1_1 hx10 ?_; intro t4 hq9) | obtain ⟨t4, hq9⟩ := hx10
    try clear hx10
    obtain rfl := hq9
    have hF := frExt F4 hm
    clear F4
    obtain ⟨w1, w2, w3, w4⟩ : @Ne Nat dm I ∧ @Ne Nat (L5 + 1 + 1) I ∧ @Ne Nat (L5 + 1) I ∧ ∀ p ∈ news, p.1 ≠ I := by simpa only [List.forall_mem_cons] using off4
    have n1 : ∀ p ∈ news, p.1 ≠ L5 + 1 := fun p hp => Nat.ne_of_lt (Nat.lt_succ_of_lt (l1L p hp))
    have n2 : ∀ p ∈ news, p.1 ≠ L5 + 1 + 1 := fun p hp => Nat.ne_of_lt (Nat.lt_succ_of_lt (Nat.lt_succ_of_lt (l1L p hp)))
    k_steps
    unfold Halt
    rename Fr g5 L5 _ _ => F5
    rename News g5 L5 _ _ => N5
    first | (refine x0_2 (newsObj4 N5) ?_; intro oA2 hq10) | (refine x1_1 (newsObj4 N5) ?_; intro oA2 hq10) | obtain ⟨oA2, hq10⟩ := newsObj4 N5
    obtain rfl := hq10
    rename oA2.data = _ => hA2
    refine' ListComp_G (h₀ := g5) (L := L5) (m := lmA (some (.ref l)) (some (.ref dm))) (S := fun _ => True) (LI := False) (fun q hv nw => nw = (I, oI) :: (dm, listOf cvs.toArray ec) :: (L5 + 1 + 1, oB) :: (L5 + 1, oA2) :: news ∧ IntsAre hv ((((List.range q).filter fun k => decide (i / 2 ^ k % 2 = 1)).map fun k => 256 + k).map fun (x : Nat) => (x : Int))) (n := 4) (P := fun i v => ∃ t, v = .int (i : Int) t) (cl := [(Str.ofString "choice", L5 + 1)]) ?cl1 ?cc1 ?ck1 ?cn1 (.inl fun _ _ => rfl) (fun _ _ _ _ => trivial) ?sz1 (assign_name rfl rfl)
      ?src1 ?turn1 ?done1
    case cl1 => with_unfolding_all rfl
    case cc1 => decide
    case ck1 => rfl
    case cn1 => decide
    case sz1 => rw [sizeLine_eq]; omega
    case src1 =>
      k_steps
      unfold Halt
      rename Fr g5 L5 _ _ => F6
      rename News g5 L5 _ _ => N6
      rename IsRange _ _ _ _ _ _ _ _ => hr6
      exact (i3 _ _ _ ⟨rfl, OpenG.range1 (n := 4) (by omega) rfl F6 N6 hr6, rfl, .nil⟩)
    case turn1 =>
      intro q hv nw v I2 oI2 C2 oC2 D2 m2 h7 tk7 E7 hq hx14 hx15 hC2 hm2 F7 N7 off7 ne7
      refine opaqG1 fun KQ KZ hKQ hKZ => ?_
      first | (refine x0_2 hx14 ?_; intro hq11 hH) | (refine x1_1 hx14 ?_; intro hq11 hH) | obtain ⟨hq11, hH⟩ := hx14
      try clear hx14
      obtain rfl := hq11
      first | (refine x0_2 hx15 ?_; intro u hq12) | (refine x1_1 hx15 ?_; intro u hq12) | obtain ⟨u, hq12⟩ := hx15
      try clear hx15
      obtain rfl := hq12
      have hH' : ∀ b : Bool, decide (i / 2 ^ q % 2 = 1) = b → ((((List.range (q + 1)).filter fun k => decide (i / 2 ^ k % 2 = 1)).map fun k => 256 + k).map fun (x : Nat) => (x : Int)) = ((((List.range q).filter fun k => decide (i / 2 ^ k % 2 = 1)).map fun k => 256 + k).map fun (x : Nat) => (x : Int)) ++ if b = true then [((256 + q : Nat) : Int)] else [] := fun b hb => by
        rw [List.range_succ, List.filter_append, List.map_append, List.map_append]
        cases b <;> simp [hb] <;> simpa using hb
      refine wpAny_tests_one ?_
      k_steps
      · rename Int.fmod _ _ = 1 => hy2
        have e := hH' true (by simpa using (fd_bit i q).mp hy2)
        rw [if_pos rfl] at e
        first | exact hKQ.out _ _ (CompE.mk (by assumption) (by assumption) off7 ⟨rfl, by rw [e]; exact intsAre_app hH _ _⟩) | exact hKZ.out _ (CompE.mk (by assumption) (by assumption) off7 ⟨rfl, by rw [e]; exact intsAre_app hH _ _⟩)
      · rename Int.fmod _ _ ≠ 1 => hy2
        have e := hH' false (by simpa using fun z => hy2 ((fd_bit i q).mpr z))
        rw [if_neg (by decide), List.append_nil] at e
        first | exact hKQ.out _ _ (CompE.mk (by assumption) (by assumption) off7 ⟨rfl, by rw [e]; exact hH⟩) | exact hKZ.out _ (CompE.mk (by assumption) (by assumption) off7 ⟨rfl, by rw [e]; exact hH⟩)
    case done1 =>
      intro D2 h7 tk7 hv nw hq13 F7 N7 o7
      first | (refine x0_2 hq13 ?_; intro hq14 hH) | (refine x1_1 hq13 ?_; intro hq14 hH) | obtain ⟨hq14, hH⟩ := hq13
      try clear hq13
      obtain rfl := hq14
      have hH : IntsAre hv ((heldH i).map fun (x : Nat) => (x : Int)) := hH
      have x1 : @Ne Nat (L5 + 1 + 1) D2 := off1_all o7 (L5 + 1 + 1, oB) (by k_mem)
      k_steps
      unfold Halt
      rename Fr g5 L5 _ _ => F8
      rename News g5 L5 _ _ => N8
      first | (refine x0_2 (newsObj4' N8) ?_; intro oB2 hq15) | (refine x1_1 (newsObj4' N8) ?_; intro oB2 hq15) | obtain ⟨oB2, hq15⟩ := newsObj4' N8
      obtain rfl := hq15
      rename oB2.data = _ => hB2
      have inN : ∀ p ∈ news, p ∈ (D2, lst hv) :: (I, oI) :: (dm, listOf cvs.toArray ec) :: (L5 + 1 + 1, oB2) :: (L5 + 1, oA2) :: news := fun p hp => by repeat (first | exact hp | refine List.mem_cons_of_mem _ ?_)
      refine' ListComp_G (h₀ := g5) (L := L5) (m := lmA (some (.ref l)) (some (.ref dm))) (S := SrcAt g5 l its) (LI := True) (fun j zs nw => nw = (D2, lst hv) :: (I, oI) :: (dm, listOf cvs.toArray ec) :: (L5 + 1 + 1, oB2) :: (L5 + 1, oA2) :: news ∧ IntsAre zs ((((rs.take j).filter fun r => decide (r.1 ∉ heldH i) && ((innR r).filter fun s => decide (s ∉ heldH i)).isEmpty).map (·.1)).map fun (x : Nat) => (x : Int))) (n := its.size) (P := fun i v => its[i]? = some v) (cl := [(Str.ofString "held", L5 + 1 + 1)]) ?cl2 ?cc2 ?ck2 ?cn2
        (.inr ⟨trivial, ⟨_, _, _, rfl⟩, ?lv⟩) ?si ?sz (assign_pair (T := fun i v1 v2 => ∃ hi : i < rs.length, ∃ u1 u2 u3 b k, v1 = .int ((rs[i]).1 : Int) u1 ∧ v2 = .ref b ∧ (b, ({ cls := .type "list", data := .seq #[.int ((rs[i]).2.1 : Int) u2, .int ((rs[i]).2.2 : Int) u3] k } : Obj)) ∈ news) rfl rfl rfl rfl (by decide) ?hT)
        (nameX_L F8 ?v (i3 _ _ _ ⟨rfl, OpenG.list rfl F8 N8 (.inr ⟨_, inN _ hl, rfl, _, rfl⟩), rfl, .nil⟩)) ?turn2 ?done2
      case cl2 => with_unfolding_all rfl
      case cc2 => decide
      case ck2 => rfl
      case cn2 => decide
      case lv =>
        intro i v hv
        first | (refine x0_2 (Array.getElem?_eq_some_iff.mp hv) ?_; intro hi hq16) | (refine x1_1 (Array.getElem?_eq_some_iff.mp hv) ?_; intro hi hq16) | obtain ⟨hi, hq16⟩ := Array.getElem?_eq_some_iff.mp hv
        obtain rfl := hq16
        first | (refine x0_10 (hat i (hsz ▸ hi)) ?_; intro v' e1 t b u1 u2 u3 k e2 _) | (refine x1_9 (hat i (hsz ▸ hi)) ?_; intro v' e1 t b u1 u2 u3 k e2 _) | (refine x2_8 (hat i (hsz ▸ hi)) ?_; intro v' e1 t b u1 u2 u3 k e2 _) | (refine x3_7 (hat i (hsz ▸ hi)) ?_; intro v' e1 t b u1 u2 u3 k e2 _) | (refine x4_6 (hat i (hsz ▸ hi)) ?_; intro v' e1 t b u1 u2 u3 k e2 _) | (refine x5_5 (hat i (hsz ▸ hi)) ?_; intro v' e1 t b u1 u2 u3 k e2 _) | (refine x6_4 (hat i (hsz ▸ hi)) ?_; intro v' e1 t b u1 u2 u3 k e2 _) | (refine x7_3 (hat i (hsz ▸ hi)) ?_; intro v' e1 t b u1 u2 u3 k e2 _) | (refine x8_2 (hat i (hsz ▸ hi)) ?_; intro v' e1 t b u1 u2 u3 k e2 _) | (refine x9_1 (hat i (hsz ▸ hi)) ?_; intro v' e1 t b u1 u2 u3 k e2 _) | obtain ⟨v', e1, t, b, u1, u2, u3, k, e2, _⟩ := hat i (hsz ▸ hi)
        rw [Array.getElem?_eq_getElem hi] at e1
        exact ⟨t, (Option.some.inj e1).trans e2⟩
      case si =>
        intro i ys nw hq17
        first | (refine x0_2 hq17 ?_; intro hq18 _) | (refine x1_1 hq17 ?_; intro hq18 _) | obtain ⟨hq18, _⟩ := hq17
        try clear hq17
        obtain rfl := hq18
        exact .inr ⟨_, inN _ hl, rfl, _, rfl⟩
      case sz => rw [sizeLine_eq, hsz]; omega
      case hT =>
        intro i ys v nw hi hv hq19
        first | (refine x0_2 hq19 ?_; intro hq20 _) | (refine x1_1 hq19 ?_; intro hq20 _) | obtain ⟨hq20, _⟩ := hq19
        try clear hq19
        obtain rfl := hq20
        have hi' : i < rs.length := hsz ▸ hi
        first | (refine x0_11 (hat i hi') ?_; intro v' e1 t b u1 u2 u3 k hq21 h1 h2) | (refine x1_10 (hat i hi') ?_; intro v' e1 t b u1 u2 u3 k hq21 h1 h2) | (refine x2_9 (hat i hi') ?_; intro v' e1 t b u1 u2 u3 k hq21 h1 h2) | (refine x3_8 (hat i hi') ?_; intro v' e1 t b u1 u2 u3 k hq21 h1 h2) | (refine x4_7 (hat i hi') ?_; intro v' e1 t b u1 u2 u3 k hq21 h1 h2) | (refine x5_6 (hat i hi') ?_; intro v' e1 t b u1 u2 u3 k hq21 h1 h2) | (refine x6_5 (hat i hi') ?_; intro v' e1 t b u1 u2 u3 k hq21 h1 h2) | (refine x7_4 (hat i hi') ?_; intro v' e1 t b u1 u2 u3 k hq21 h1 h2) | (refine x8_3 (hat i hi') ?_; intro v' e1 t b u1 u2 u3 k hq21 h1 h2) | (refine x9_2 (hat i hi') ?_; intro v' e1 t b u1 u2 u3 k hq21 h1 h2) | (refine x10_1 (hat i hi') ?_; intro v' e1 t b u1 u2 u3 k hq21 h1 h2) | obtain ⟨v', e1, t, b, u1, u2, u3, k, hq21, h1, h2⟩ := hat i hi'
        obtain rfl := hq21
        rw [hv] at e1
        exact ⟨t, _, _, _, _, Option.some.inj e1, (i6 hi' u1 u2 u3 b k ⟨rfl, rfl, h2⟩), inN _ h1, rfl, rfl⟩
      case v => rfl
      case turn2 =>
        intro j zs nw v I2 oI2 C2 oC2 D3 m3 h9 tk9 E9 hj hx14 hv9 hC2 hx17 F9 N9 off9 ne9
        refine opaqG1 fun KQ KZ hKQ hKZ => ?_
        first | (refine x0_2 hx14 ?_; intro hq22 hZ) | (refine x1_1 hx14 ?_; intro hq22 hZ) | obtain ⟨hq22, hZ⟩ := hx14
        try clear hx14
        obtain rfl := hq22
        first | (refine x0_5 hx17 ?_; intro v1 v2 hq23 hm1 hm2) | (refine x1_4 hx17 ?_; intro v1 v2 hq23 hm1 hm2) | (refine x2_3 hx17 ?_; intro v1 v2 hq23 hm1 hm2) | (refine x3_2 hx17 ?_; intro v1 v2 hq23 hm1 hm2) | (refine x4_1 hx17 ?_; intro v1 v2 hq23 hm1 hm2) | obtain ⟨v1, v2, hq23, hm1, hm2⟩ := hx17
        try clear hx17
        first | (refine x0_9 hq23 ?_; intro hj' u1 u2 u3 b k hq24 hq25 hb) | (refine x1_8 hq23 ?_; intro hj' u1 u2 u3 b k hq24 hq25 hb) | (refine x2_7 hq23 ?_; intro hj' u1 u2 u3 b k hq24 hq25 hb) | (refine x3_6 hq23 ?_; intro hj' u1 u2 u3 b k hq24 hq25 hb) | (refine x4_5 hq23 ?_; intro hj' u1 u2 u3 b k hq24 hq25 hb) | (refine x5_4 hq23 ?_; intro hj' u1 u2 u3 b k hq24 hq25 hb) | (refine x6_3 hq23 ?_; intro hj' u1 u2 u3 b k hq24 hq25 hb) | (refine x7_2 hq23 ?_; intro hj' u1 u2 u3 b k hq24 hq25 hb) | (refine x8_1 hq23 ?_; intro hj' u1 u2 u3 b k hq24 hq25 hb) | obtain ⟨hj', u1, u2, u3, b, k, hq24, hq25, hb⟩ := hq23
        try clear hq23
        obtain rfl := hq24
        obtain rfl := hq25
        refine wpAny_tests_one ?_
        have hZ' : ∀ c : Bool, (decide (rs[j].1 ∉ heldH i) && ((innR rs[j]).filter fun s => decide (s ∉ heldH i)).isEmpty) = c → ((((rs.take (j + 1)).filter fun r => decide (r.1 ∉ heldH i) && ((innR r).filter fun s => decide (s ∉ heldH i)).isEmpty).map (·.1)).map fun (x : Nat) => (x : Int)) =
            ((((rs.take j).filter fun r => decide (r.1 ∉ heldH i) && ((innR r).filter fun s => decide (s ∉ heldH i)).isEmpty).map (·.1)).map fun (x : Nat) => (x : Int)) ++ if c = true then [((rs[j].1 : Nat) : Int)] else [] := fun c hc => by
          rw [List.take_add_one, List.getElem?_eq_getElem hj', Option.toList_some, List.filter_append, List.map_append, List.map_append]
          cases c
          · rw [List.filter_cons_of_neg (p := fun r : Rule => decide (r.1 ∉ heldH i) && ((innR r).filter fun s => decide (s ∉ heldH i)).isEmpty) (by simp only [hc]; decide)]; simp
          · rw [List.filter_cons_of_pos (p := fun r : Rule => decide (r.1 ∉ heldH i) && ((innR r).filter fun s => decide (s ∉ heldH i)).isEmpty) hc]; simp
        by_cases hk : rs[j].1 ∈ heldH i
        · have hb1 : decide (rs[j].1 ∉ heldH i) = false := by simp [hk]
          have e := hZ' false (by rw [hb1]; rfl)
          rw [if_neg (by decide), List.append_nil] at e
          k_steps
          first | exact hKQ.out _ _ (CompE.mk (by assumption) (by assumption) off9 ⟨rfl, by rw [e]; exact hZ⟩) | exact hKZ.out _ (CompE.mk (by assumption) (by assumption) off9 ⟨rfl, by rw [e]; exact hZ⟩)
        · have hb1 : decide (rs[j].1 ∉ heldH i) = true := by simp [hk]
          k_steps
          unfold Halt
          have inN3 : ∀ p ∈ news, p ∈ (I2, oI2) :: (C2, oC2) :: (D3, lst zs) :: (D2, lst hv) :: (I, oI) :: (dm, listOf cvs.toArray ec) :: (L5 + 1 + 1, oB2) :: (L5 + 1, oA2) :: news := fun p hp => by repeat (first | exact hp | refine List.mem_cons_of_mem _ ?_)
          refine' ListComp_G (S := SrcAt g5 b #[.int ((rs[j]).2.1 : Int) u2, .int ((rs[j]).2.2 : Int) u3]) (LI := True) (fun q ys nw => nw = (I2, oI2) :: (C2, oC2) :: (D3, lst zs) :: (D2, lst hv) :: (I, oI) :: (dm, listOf cvs.toArray ec) :: (L5 + 1 + 1, oB2) :: (L5 + 1, oA2) :: news ∧ IntsAre ys ((((bodyR rs[j]).take q).filter fun s => decide (s ∉ heldH i) && decide (256 ≤ s)).map fun (x : Nat) => (x : Int))) (cl := [(Str.ofString "held", L5 + 1 + 1)]) ?cl3 ?cc3 ?ck3 ?cn3 (.inl fun _ _ => rfl) ?si3 ?sz3 (assign_name rfl rfl)
            (LCgL.ld_own N9 (List.mem_cons_of_mem _ List.mem_cons_self) hC2 hm2 (i3 _ _ _ ⟨rfl, OpenG.list rfl F9 N9 (.inr ⟨_, inN3 _ hb, rfl, _, rfl⟩), rfl, .nil⟩)) ?turn3 ?done3
          case cl3 => with_unfolding_all rfl
          case cc3 => decide
          case ck3 => rfl
          case cn3 => decide
          case si3 =>
            intro q ys nw hq26
            first | (refine x0_2 hq26 ?_; intro hq27 _) | (refine x1_1 hq26 ?_; intro hq27 _) | obtain ⟨hq27, _⟩ := hq26
            try clear hq26
            obtain rfl := hq27
            exact .inr ⟨_, inN3 _ hb, rfl, _, rfl⟩
          case sz3 => rw [sizeLine_eq]; show 2 ≤ 16777216; omega
          case turn3 =>
            intro q ys nw v I4 oI4 C4 oC4 D4 m4 h10 tk10 E10 hq hx14 hv10 hC4 hm4 F10 N10 off10 ne10
            refine opaqG1 fun KQ KZ hKQ hKZ => ?_
            first | (refine x0_2 hx14 ?_; intro hq28 hY) | (refine x1_1 hx14 ?_; intro hq28 hY) | obtain ⟨hq28, hY⟩ := hx14
            try clear hx14
            obtain rfl := hq28
            obtain ⟨y, u, hy1, rfl⟩ : ∃ y u, (bodyR rs[j])[q]? = some y ∧ v = .int (y : Int) u := by
              rcases q with _ | _ | q
              · exact ⟨_, _, rfl, (Option.some.inj hv10).symm⟩
              · exact ⟨_, _, rfl, (Option.some.inj hv10).symm⟩
              · exact absurd hq (by simp)
            have hY' := map_take_succ hy1 fun s => decide (s ∉ heldH i) && decide (256 ≤ s)
            refine wpAny_tests_one ?_
            by_cases hk2 : y ∈ heldH i
            · have hb2 : decide (y ∉ heldH i) = false := by simp [hk2]
              rw [if_neg (by simp [hk2]), List.append_nil] at hY'
              k_steps
              all_goals first | exact hKQ.out _ _ (CompE.mk (by assumption) (by assumption) off10 ⟨rfl, by rw [hY']; exact hY⟩) | exact hKZ.out _ (CompE.mk (by assumption) (by assumption) off10 ⟨rfl, by rw [hY']; exact hY⟩)
            · have hb2 : decide (y ∉ heldH i) = true := by simp [hk2]
              by_cases h256 : 256 ≤ y
              · rw [if_pos (by simp [hk2, h256])] at hY'
                k_steps
                first | exact hKQ.out _ _ (CompE.mk (by assumption) (by assumption) off10 ⟨rfl, by rw [hY']; exact intsAre_app hY _ _⟩) | exact hKZ.out _ (CompE.mk (by assumption) (by assumption) off10 ⟨rfl, by rw [hY']; exact intsAre_app hY _ _⟩)
              · rw [if_neg (by simp [h256]), List.append_nil] at hY'
                k_steps
                first | exact hKQ.out _ _ (CompE.mk (by assumption) (by assumption) off10 ⟨rfl, by rw [hY']; exact hY⟩) | exact hKZ.out _ (CompE.mk (by assumption) (by assumption) off10 ⟨rfl, by rw [hY']; exact hY⟩)
          case done3 =>
            intro D4 h11 tk11 ys nw hq29 F11 N11 o11
            first | (refine x0_2 hq29 ?_; intro hq30 hY) | (refine x1_1 hq29 ?_; intro hq30 hY) | obtain ⟨hq30, hY⟩ := hq29
            try clear hq29
            obtain rfl := hq30
            have hY : IntsAre ys (((innR rs[j]).filter fun s => decide (s ∉ heldH i)).map fun (x : Nat) => (x : Int)) := by
              unfold innR
              rw [List.filter_filter]
              exact hY
            by_cases hf : (innR rs[j]).filter (fun s => decide (s ∉ heldH i)) = []
            · have hc : decide ((((innR rs[j]).filter fun s => decide (s ∉ heldH i)).map fun (x : Nat) => (x : Int)) = []) = true := by simpa using hf
              have e := hZ' true (by rw [hb1, hf]; rfl)
              rw [if_pos rfl] at e
              k_steps
              rename News g5 L5 _ _ => N20
              first | exact hKQ.out _ _ (CompE.mk (by assumption) (cb_drop N20 (fun p hp => by repeat (first | exact hp | refine List.mem_cons_of_mem _ ?_))) off9 ⟨rfl, by rw [e]; exact intsAre_app hZ _ _⟩) | exact hKZ.out _ (CompE.mk (by assumption) (cb_drop N20 (fun p hp => by repeat (first | exact hp | refine List.mem_cons_of_mem _ ?_))) off9 ⟨rfl, by rw [e]; exact intsAre_app hZ _ _⟩)
            · have hc : decide ((((innR rs[j]).filter fun s => decide (s ∉ heldH i)).map fun (x : Nat) => (x : Int)) = []) = false := by simpa using hf
              have e := hZ' false (by rw [hb1, Bool.true_and]; cases h : (innR rs[j]).filter (fun s => decide (s ∉ heldH i)) with | nil => exact absurd h hf | cons _ _ => rfl)
              rw [if_neg (by decide), List.append_nil] at e
              k_steps
              rename News g5 L5 _ _ => N20
              first | exact hKQ.out _ _ (CompE.mk (by assumption) (cb_drop N20 (fun p hp => by repeat (first | exact hp | refine List.mem_cons_of_mem _ ?_))) off9 ⟨rfl, by rw [e]; exact hZ⟩) | exact hKZ.out _ (CompE.mk (by assumption) (cb_drop N20 (fun p hp => by repeat (first | exact hp | refine List.mem_cons_of_mem _ ?_))) off9 ⟨rfl, by rw [e]; exact hZ⟩)
      case done2 =>
        intro D3 h9 tk9 zs nw hq31 F9 N9 o9
        first | (refine x0_2 hq31 ?_; intro hq32 hZ) | (refine x1_1 hq31 ?_; intro hq32 hZ) | obtain ⟨hq32, hZ⟩ := hq31
        try clear hq31
        obtain rfl := hq32
        have hZ : IntsAre zs ((openH rs i).map fun (x : Nat) => (x : Int)) := by
          rw [hsz, List.take_length] at hZ
          exact hZ
        by_cases ho : openH rs i = []
        · have hc : decide (((openH rs i).map fun (x : Nat) => (x : Int)) = []) = true := by simpa using ho
          k_steps
          unfold Halt
          rename Fr g5 L5 _ _ => F10
          rename News g5 L5 _ _ => N10
          have hcl : cvs.length ≤ 4 := by
            have h1 := hC.length
            rw [List.length_map] at h1
            have := comN_len (rs := rs) i
            omega
          refine' Assign_ListComp_G (S := SrcAt g5 dm cvs.toArray) (LI := True) (fun q ys nw => nw = (D2, lst hv) :: (I, oI) :: (dm, listOf cvs.toArray ec) :: (L5 + 1 + 1, oB2) :: (L5 + 1, oA2) :: news ∧ IntsAre ys ((((comN rs i).take q).filter fun s => decide (s ∈ heldH i)).map fun (x : Nat) => (x : Int))) (cl := [(Str.ofString "held", L5 + 1 + 1)]) rfl ?sw4 ?cl4 ?cc4 ?ck4 ?cn4 ?hy4 ?hp4 (.inl fun _ _ => rfl) ?si4 ?sz4 (assign_name rfl rfl)
            (nameX_L F10 ?v4 (i3 _ _ _ ⟨rfl, OpenG.list rfl F10 (cb_drop N10 (fun p hp => List.mem_cons_of_mem _ (List.mem_cons_of_mem _ hp))) (.inr ⟨_, by k_mem, rfl, _, rfl⟩), rfl, .nil⟩)) ?turn4 ?done4
          case sw4 => rfl
          case cl4 => with_unfolding_all rfl
          case cc4 => decide
          case ck4 => rfl
          case cn4 => decide
          case hy4 => rfl
          case hp4 => rfl
          case v4 => rfl
          case si4 =>
            intro q zs nw hq33
            first | (refine x0_2 hq33 ?_; intro hq34 _) | (refine x1_1 hq33 ?_; intro hq34 _) | obtain ⟨hq34, _⟩ := hq33
            try clear hq33
            obtain rfl := hq34
            exact .inr ⟨_, by k_mem, rfl, _, rfl⟩
          case sz4 => rw [sizeLine_eq, List.size_toArray]; omega
          case turn4 =>
            intro q ys nw v I4 oI4 C4 oC4 D4 m4 h10 tk10 E10 hq hx14 hv10 hC4 hm4 F11 N11 off10 ne10
            refine opaqG1 fun KQ KZ hKQ hKZ => ?_
            first | (refine x0_2 hx14 ?_; intro hq35 hY) | (refine x1_1 hx14 ?_; intro hq35 hY) | obtain ⟨hq35, hY⟩ := hx14
            try clear hx14
            obtain rfl := hq35
            first | (refine x0_4 (intsAre_inv hC (i := q) (v := v) (by simpa using hv10)) ?_; intro y u hy1 hq36) | (refine x1_3 (intsAre_inv hC (i := q) (v := v) (by simpa using hv10)) ?_; intro y u hy1 hq36) | (refine x2_2 (intsAre_inv hC (i := q) (v := v) (by simpa using hv10)) ?_; intro y u hy1 hq36) | (refine x3_1 (intsAre_inv hC (i := q) (v := v) (by simpa using hv10)) ?_; intro y u hy1 hq36) | obtain ⟨y, u, hy1, hq36⟩ := intsAre_inv hC (i := q) (v := v) (by simpa using hv10)
            obtain rfl := hq36
            have hY' := map_take_succ hy1 fun s => decide (s ∈ heldH i)
            refine wpAny_tests_one ?_
            by_cases hk2 : y ∈ heldH i
            · have hb2 : decide (y ∈ heldH i) = true := by simp [hk2]
              rw [if_pos (by simp [hk2])] at hY'
              k_steps
              first | exact hKQ.out _ _ (CompE.mk (by assumption) (by assumption) off10 ⟨rfl, by rw [hY']; exact intsAre_app hY _ _⟩) | exact hKZ.out _ (CompE.mk (by assumption) (by assumption) off10 ⟨rfl, by rw [hY']; exact intsAre_app hY _ _⟩)
            · have hb2 : decide (y ∈ heldH i) = false := by simp [hk2]
              rw [if_neg (by simp [hk2]), List.append_nil] at hY'
              k_steps
              first | exact hKQ.out _ _ (CompE.mk (by assumption) (by assumption) off10 ⟨rfl, by rw [hY']; exact hY⟩) | exact hKZ.out _ (CompE.mk (by assumption) (by assumption) off10 ⟨rfl, by rw [hY']; exact hY⟩)
          case done4 =>
            intro D4 h10 tk10 ys nw hq37 F11 N11 o11
            first | (refine x0_2 hq37 ?_; intro hq38 hY) | (refine x1_1 hq37 ?_; intro hq38 hY) | obtain ⟨hq38, hY⟩ := hq37
            try clear hq37
            obtain rfl := hq38
            have hcl2 : cvs.toArray.size = (comN rs i).length := by
              have h1 := hC.length
              rw [List.length_map] at h1
              rw [List.size_toArray]
              omega
            rw [hcl2, List.take_length] at hY
            have hE : comN rs (i + 1) = (comN rs i).filter fun s => decide (s ∈ heldH i) := by rw [comN_succ, ho]; rfl
            k_steps
            rename Fr g5 L5 _ _ => F12
            have y1 : @Ne Nat D4 I := Ne.symm (off1_all o11 (I, oI) (by k_mem))
            have y2 : @Ne Nat D4 (L5 + 1) := Ne.symm (off1_all o11 (L5 + 1, oA2) (by k_mem))
            have y3 : @Ne Nat D4 (L5 + 1 + 1) := Ne.symm (off1_all o11 (L5 + 1 + 1, oB2) (by k_mem))
            refine hKQ.out _ _ (LoopG.mk F12 (fun z hz => N11 z ?_) (List.forall_mem_cons.mpr ⟨y1, List.forall_mem_cons.mpr ⟨w2, List.forall_mem_cons.mpr ⟨w3, w4⟩⟩⟩) (i7 D4 ys ys.length oA2 oB2 _ _ ⟨rfl, ext2 (Str.ofString "common") (Str.ofString "rules") rfl rfl (fun y h1 h2 => by simp only [lmA, if_neg h1, if_neg h2]), hA2, hB2, ⟨y2, y3⟩, by rw [hE]; exact hY⟩))
            rcases List.mem_cons.mp hz with rfl | hz
            · k_mem
            rcases List.mem_cons.mp hz with rfl | hz
            · exact List.mem_cons_self
            · repeat (first | exact hz | refine List.mem_cons_of_mem _ ?_)
        · have hc : decide (((openH rs i).map fun (x : Nat) => (x : Int)) = []) = false := by simpa using ho
          have hE : comN rs (i + 1) = comN rs i := by
            rw [comN_succ, if_neg]
            intro h
            exact ho (by cases h2 : openH rs i with | nil => rfl | cons _ _ => rw [h2] at h; cases h)
          k_steps
          rename Fr g5 L5 _ _ => F10
          rename News g5 L5 _ _ => N10
          refine hKQ.out _ _ (LoopG.mk F10 (fun z hz => N10 z ?_) (List.forall_mem_cons.mpr ⟨w1, List.forall_mem_cons.mpr ⟨w2, List.forall_mem_cons.mpr ⟨w3, w4⟩⟩⟩) (i7 dm cvs ec oA2 oB2 _ _ ⟨rfl, fun _ => rfl, hA2, hB2, ⟨hdm1, hdm2⟩, by rw [hE]; exact hC⟩))
          rcases List.mem_cons.mp hz with rfl | hz
          · k_mem
          · repeat (first | exact hz | refine List.mem_cons_of_mem _ ?_)
  case done =>
    intro h5 tk5 m' nw hq39 F5 N5
    first | (refine x0_13 hq39 ?_; intro dm cvs ec oA oB va vb hq40 hm hA hB _ hC) | (refine x1_12 hq39 ?_; intro dm cvs ec oA oB va vb hq40 hm hA hB _ hC) | (refine x2_11 hq39 ?_; intro dm cvs ec oA oB va vb hq40 hm hA hB _ hC) | (refine x3_10 hq39 ?_; intro dm cvs ec oA oB va vb hq40 hm hA hB _ hC) | (refine x4_9 hq39 ?_; intro dm cvs ec oA oB va vb hq40 hm hA hB _ hC) | (refine x5_8 hq39 ?_; intro dm cvs ec oA oB va vb hq40 hm hA hB _ hC) | (refine x6_7 hq39 ?_; intro dm cvs ec oA oB va vb hq40 hm hA hB _ hC) | (refine x7_6 hq39 ?_; intro dm cvs ec oA oB va vb hq40 hm hA hB _ hC) | (refine x8_5 hq39 ?_; intro dm cvs ec oA oB va vb hq40 hm hA hB _ hC) | (refine x9_4 hq39 ?_; intro dm cvs ec oA oB va vb hq40 hm hA hB _ hC) | (refine x10_3 hq39 ?_; intro dm cvs ec oA oB va vb hq40 hm hA hB _ hC) | obtain ⟨dm, cvs, ec, oA, oB, va, vb, hq40, hm, hA, hB, _, hC⟩ := hq39
    try clear hq39
    obtain rfl := hq40
    have hF := frExt F5 hm
    clear F5
    k_steps
    refine hQ dm cvs ec _ _ (by k_asm) ?_ hC
    rename News h₀ L _ _ => N20
    intro z hz
    refine N20 z ?_
    rcases List.mem_cons.mp hz with rfl | hz
    · exact List.mem_cons_self
    · repeat (first | exact hz | refine List.mem_cons_of_mem _ ?_)
end
end
theorem flushRA : if True then True else True := by (w_top off); first | (walk1; fail) | simp
end
end
section
open PySem PySem.W PySem.Calls PyProof.Rows PyProof.Rows.LCg
set_option maxRecDepth 100000
set_option maxHeartbeats 4000000
section
theorem fillV : rw' = rw' ∧ K2 = K2 := by
  k_fill
  exact ⟨rfl, rfl⟩
local macro_rules | `(tactic| o_reads) => `(tactic| ((case B => assumption); (case F | X | N => k_asm); (case T | C => assumption); (case d | u => first | decide | (dsimp only [Around.deeper, Around.mark]; omega))))
local macro_rules | `(tactic| k_mem) => `(tactic| ((repeat (first | exact List.mem_cons_self | with_reducible assumption | refine List.mem_cons_of_mem _ ?_)); done))
local macro_rules | `(tactic| walk_at "exec Assign cons ListComp") => `(tactic| ((fail_if_success (with_reducible show wpAny _ _ (exec (Stmt.Assign [Expr.Name (PySem.Str.ofString "body") _] _ _) _) _ _ _)); (fail_if_success (with_reducible show wpAny _ _ (exec (Stmt.Assign [Expr.Name (PySem.Str.ofString "symbols") _] _ _) _) _ _ _)); refine halt ?_))
local macro_rules | `(tactic| walk_at "compareOp NotEq ref ref") => `(tactic| refine halt ?_)
local macro_rules | `(tactic| walk_at "compareOp Eq ref ref") => `(tactic| refine halt ?_)
local macro_rules | `(tactic| walk_at "compareOp Eq str str") => `(tactic| refine eqF (by assumption) ?_)
local macro_rules | `(tactic| walk_at "compareOp NotEq str str") => `(tactic| refine neF (by assumption) ?_)
local macro_rules | `(tactic| walk_at "exec For Name BinOp") => `(tactic| refine halt ?_)
local macro_rules | `(tactic| walk_at "exec For Name BinOp cons nil") => `(tactic| refine halt ?_)
local macro_rules | `(tactic| walk_at "call ref") => `(tactic| (k_here; first
  | (refine wpAny_call ?_; first
    | (k_dflt (refine' c_reply ⟨?B, ?F, ?X, ?N, ?T, ?C⟩ ?d ?u ?n ?_; o_reads; (case n => assumption)); intro t' h' tk' F' N')
    | (k_dflt (refine' c_word ⟨?B, ?F, ?X, ?N, ?T, ?C⟩ ?d ?u ?n ?_; o_reads; (case n => assumption)); intro t' h' tk' F' N')
    | (k_dflt (refine' c_symNT ⟨?B, ?F, ?X, ?N, ?T, ?C⟩ ?d ?u ?n ?_; o_reads; (case n => assumption)); intro t' h' tk' F' N'))
  | (refine halt ?_)))
local macro_rules | `(tactic| walk_at "newTuple") => `(tactic| (k_here; k_dflt (refine' kup_newTuple ?F ?N ?_ ?z; (case F | N => k_asm); (case z => kmk_size)); intro D' h' F' N' l1; (try k_lt l1)))
local macro_rules | `(tactic| walk_at "call type:range") => `(tactic| (k_here; first
  | (refine range1_rows (by k_asm) (by k_asm) ?_; intro h' tk' t1' u1' v1' hr' F' N' _; refine halt ?_)
  | (refine range3_rows (by k_asm) (by k_asm) (by decide) ?_; intro h' tk' t1' u1' v1' hr' F' N' _; refine halt ?_)))
local macro_rules | `(tactic| walk_at "subscriptTail") => `(tactic| (k_here; (fail_if_success (with_reducible show wpAny _ _ (subscriptTail (PySem.Expr.Name _ _) _ _ _) _ _ _)); k_dflt (refine kba_turn (value' := PySem.Expr.Name (PySem.Str.ofString "_") ⟨0, 0, 0, 0⟩) (fun _ => rfl) ?_)))
local macro_rules | `(tactic| walk_at "Exists") => `(tactic| refine halt ?_)
local macro_rules | `(tactic| walk_at "call builtin:len") => `(tactic| (k_here; first
  | refine call_len_list ⟨_, News.get (by k_asm) (by k_mem), rfl, _, rfl⟩ (by simp only [List.size_toArray]; omega) ?_
  | refine call_len_list (isL (by k_asm) (by kpt_turns)) (by first | omega | (simp only [List.size_toArray]; omega)) ?_))
local macro_rules | `(tactic| walk_at "subscriptTail") => `(tactic| (k_here; (with_reducible show wpAny _ _ (subscriptTail _ _ (Value.str _ _) (Value.int _ _)) _ _ _); refine itemF (by assumption) (by assumption) (by assumption) (by decide) ?_))
local macro_rules | `(tactic| walk_at "subscriptTail Name BinOp str int") => `(tactic| (k_here; refine itemF (by assumption) (by assumption) (by assumption) (by decide) ?_))
local macro_rules | `(tactic| walk_at "callWith ref cons nil") => `(tactic| (k_here; k_dflt (refine' callWith_K0 ?k1 ?k2 ?_; (case k1 => k_in); (case k2 => k_is); k_whole)))
local macro_rules | `(tactic| walk_at "And") => `(tactic| ((with_reducible show GoodW _ _ _ _ _ _ _ ∧ _); refine halt ?_))
theorem lm24 {a b c k : Nat} (h : a = min b c) (hc : c ≤ k) (hk : k ≤ 16777216) : a ≤ 16777216 := h ▸ Nat.le_trans (Nat.min_le_right _ _) (Nat.le_trans hc hk)
theorem lm25 {a i n j k : Nat} (h : a = 3 * min i n + min j k) (hn : n ≤ 5) (hj : j < 3) : a ≤ 16777216 := by omega
theorem W1 : rw'.Holds := Mine.hd (by
  k_go0
  refine opaq fun KQ hKQ => ?_
  k_steps
  unfold Halt
  refine nameE fun KE hKE => ?_
  have hPE := passE hKE
  rw [← hKE]
  clear hKE
  rename Fr _ _ _ _ => F0
  rename News _ _ _ _ => N0
  rename Top topProg _ _ _ _ _ => T0
  rename Below _ _ _ _ => B0
  rename Frag.In _ _ => X0
  rename CodeHd _ _ _ => C0
  rename IntsAre _ _ => hI
  rename Heap.IsList _ _ _ => hSc
  first | (refine x0_4 (isListAt hSc) ?_; intro sa itsS hq1 hq2) | (refine x1_3 (isListAt hSc) ?_; intro sa itsS hq1 hq2) | (refine x2_2 (isListAt hSc) ?_; intro sa itsS hq1 hq2) | (refine x3_1 (isListAt hSc) ?_; intro sa itsS hq1 hq2) | obtain ⟨sa, itsS, hq1, hq2⟩ := isListAt hSc
  obtain rfl := hq1
  obtain rfl := hq2
  rename ¬ _ < (_ : Int) => hLen
  rename 119 < _ => l119
  rename World => w
  first | (refine x0_4 (frAt' F0) ?_; intro g5 L5 hg hL) | (refine x1_3 (frAt' F0) ?_; intro g5 L5 hg hL) | (refine x2_2 (frAt' F0) ?_; intro g5 L5 hg hL) | (refine x3_1 (frAt' F0) ?_; intro g5 L5 hg hL) | obtain ⟨g5, L5, hg, hL⟩ := frAt' F0
  simp only [← hg, ← hL] at F0 N0 T0 B0 X0 C0 hSc l119 hPE
  simp only [← hL]
  refine wpAny_call ?_
  refine c_ops (A₀ := callerA) ⟨B0, F0, X0, N0, T0, C0⟩ (by decide) (by decide) ?_
  intro dop oop kvo h2 tk2 loO hDO hOps hBO F2 N2
  first | (refine x0_4 (newsObjs N0) ?_; intro oS oX hq3 hq4) | (refine x1_3 (newsObjs N0) ?_; intro oS oX hq3 hq4) | (refine x2_2 (newsObjs N0) ?_; intro oS oX hq3 hq4) | (refine x3_1 (newsObjs N0) ?_; intro oS oX hq3 hq4) | obtain ⟨oS, oX, hq3, hq4⟩ := newsObjs N0
  obtain rfl := hq3
  obtain rfl := hq4
  k_steps
  unfold Halt
  rename Fr g5 L5 _ _ => F3
  rename News g5 L5 _ _ => N3
  first | (refine x0_4 (newsAt2 N3) ?_; intro ra da hq5 hq6) | (refine x1_3 (newsAt2 N3) ?_; intro ra da hq5 hq6) | (refine x2_2 (newsAt2 N3) ?_; intro ra da hq5 hq6) | (refine x3_1 (newsAt2 N3) ?_; intro ra da hq5 hq6) | obtain ⟨ra, da, hq5, hq6⟩ := newsAt2 N3
  obtain rfl := hq5
  obtain rfl := hq6
  rename da < ra ∧ _ => lra
  rename dop < da ∧ _ => lda
  first | (refine x0_5 (id lra) ?_; intro a1 a2 a3 a4 a5) | (refine x1_4 (id lra) ?_; intro a1 a2 a3 a4 a5) | (refine x2_3 (id lra) ?_; intro a1 a2 a3 a4 a5) | (refine x3_2 (id lra) ?_; intro a1 a2 a3 a4 a5) | (refine x4_1 (id lra) ?_; intro a1 a2 a3 a4 a5) | obtain ⟨a1, a2, a3, a4, a5⟩ := id lra
  first | (refine x0_4 (id lda) ?_; intro b1 b2 b3 b4) | (refine x1_3 (id lda) ?_; intro b1 b2 b3 b4) | (refine x2_2 (id lda) ?_; intro b1 b2 b3 b4) | (refine x3_1 (id lda) ?_; intro b1 b2 b3 b4) | obtain ⟨b1, b2, b3, b4⟩ := id lda
  rename List Int => ns
  refine' for_GZ (Z := Addr × List Value) (h₀ := g5) (L := L5) (n := (xsOf ns).length) (P := fun z i v => z.2.toArray[i]? = some v) (S := fun z => SrcAt g5 z.1 z.2.toArray) (LI := True) (fun z i m nw => ∃ rv er dv ed dnew xv vv bv sv, nw = (ra, listOf rv.toArray er) :: (da, listOf dv.toArray ed) :: (dnew ++ ((z.1, listOf z.2.toArray 0) :: (dop, oop) :: (L5 + 1 + 1, oS) :: (L5 + 1, oX) :: [(119, tabObj #[])])) ∧
      (∀ y, m y = lmW (some (.ref sa)) (some (.ref dop)) (some (.ref da)) (some (.ref ra)) xv vv bv sv none none none none none y) ∧ StrsAre rv ((symsR ((rsOf ns).take i)).map fun s => acS (rep s)) ∧ RsAre dnew dv ((rsOf ns).take i) ∧ (∀ p ∈ dnew, @Ne Nat p.1 ra ∧ @Ne Nat p.1 da ∧ @Ne Nat p.1 119 ∧ @Ne Nat p.1 (L5 + 1) ∧ @Ne Nat p.1 (L5 + 1 + 1)) ∧ IntsAre z.2 (xsOf ns) ∧ @LT.lt Nat _ ra z.1)
    (fun _ => .inl fun _ _ => rfl) ?si1 ?hE1 ?src1 ?turn1 ?done1
  case hE1 => passes_own
  case si1 =>
    intro z i m nw hq7
    first | (refine x0_11 hq7 ?_; intro rv er dv ed dnew xv vv bv sv hq8 _) | (refine x1_10 hq7 ?_; intro rv er dv ed dnew xv vv bv sv hq8 _) | (refine x2_9 hq7 ?_; intro rv er dv ed dnew xv vv bv sv hq8 _) | (refine x3_8 hq7 ?_; intro rv er dv ed dnew xv vv bv sv hq8 _) | (refine x4_7 hq7 ?_; intro rv er dv ed dnew xv vv bv sv hq8 _) | (refine x5_6 hq7 ?_; intro rv er dv ed dnew xv vv bv sv hq8 _) | (refine x6_5 hq7 ?_; intro rv er dv ed dnew xv vv bv sv hq8 _) | (refine x7_4 hq7 ?_; intro rv er dv ed dnew xv vv bv sv hq8 _) | (refine x8_3 hq7 ?_; intro rv er dv ed dnew xv vv bv sv hq8 _) | (refine x9_2 hq7 ?_; intro rv er dv ed dnew xv vv bv sv hq8 _) | (refine x10_1 hq7 ?_; intro rv er dv ed dnew xv vv bv sv hq8 _) | obtain ⟨rv, er, dv, ed, dnew, xv, vv, bv, sv, hq8, _⟩ := hq7
    try clear hq7
    obtain rfl := hq8
    exact .inr ⟨_, List.mem_cons_of_mem _ (List.mem_cons_of_mem _ (List.mem_append_right _ List.mem_cons_self)), rfl, _, rfl⟩
  case src1 =>
    k_steps
    unfold Halt
    rename Fr g5 L5 _ _ => F4
    rename News g5 L5 _ _ => N4
    rename IntsAre _ ([2116] ++ _) => hI4
    first | (refine x0_4 (newsLst N4) ?_; intro xa xv hq9 hq10) | (refine x1_3 (newsLst N4) ?_; intro xa xv hq9 hq10) | (refine x2_2 (newsLst N4) ?_; intro xa xv hq9 hq10) | (refine x3_1 (newsLst N4) ?_; intro xa xv hq9 hq10) | obtain ⟨xa, xv, hq9, hq10⟩ := newsLst N4
    obtain rfl := hq9
    obtain rfl := hq10
    have hxl : xv.toArray.size = (xsOf ns).length := by rw [List.size_toArray, hI4.length]; rfl
    rename _ < xa ∧ _ => lxa
    have N5 : News g5 L5 _ ((ra, listOf [].toArray 0) :: (da, listOf [].toArray 0) :: ([] ++ ((xa, listOf xv.toArray 0) :: (dop, oop) :: (L5 + 1 + 1, oS) :: (L5 + 1, oX) :: [(119, tabObj #[])]))) := fun z hz => N4 z (by
      simp only [List.nil_append, List.mem_cons, List.not_mem_nil, or_false] at hz ⊢
      rcases hz with h | h | h | h | h | h | h <;> simp [h])
    exact ⟨(xa, xv), _, _, _, _, rfl, (OpenG.listN hxl rfl F4 N5 (.inr ⟨(listOf xv.toArray 0), List.mem_cons_of_mem _ (List.mem_cons_of_mem _ List.mem_cons_self), rfl, _, rfl⟩)), [], 0, [], 0, [], none, none, none, none, rfl, (fun y => by
      by_cases h1 : y = Str.ofString "replies"
      · subst h1; rfl
      by_cases h2 : y = Str.ofString "drawn"
      · subst h2; rfl
      by_cases h3 : y = Str.ofString "operators"
      · subst h3; rfl
      by_cases h4 : y = Str.ofString "script"
      · subst h4; rfl
      simp only [lmW, if_neg h1, if_neg h2, if_neg h3, if_neg h4]
      show (if y = Str.ofString "script" then _ else _) = _
      rw [if_neg h4]
      simp), .nil, .nil, (fun _ h => nomatch h), hI4, lxa.2.2.2.2.1⟩
  case turn1 =>
    intro z i m' nw v I oI h5 tk5 hi hx
    refine x9_7 hx ?_
    clear hx
    intro rv er dv ed dnew xv vv bv sv hq hm hRv hDv hdn hXs hzl
    obtain rfl := hq
    intro hv5 F5 N5 off5
    obtain ⟨x, tx, hx, hqx⟩ := intsAre_invI hXs (by simpa using hv5)
    obtain rfl := hqx
    have hri : (rsOf ns)[i]? = some (ruleOf x) := by unfold rsOf; rw [List.getElem?_map, hx]; rfl
    have hF := frExt F5 hm
    refine wpAny_assign_Name (storeX_L hF N5 fun h6 F6 N6 => ?_)
    clear hF F5 N5
    have hr5 := rsOf_len ns
    have hi5 : i < (rsOf ns).length := (List.getElem?_eq_some_iff.mp hri).1
    have hrl := strsAre_len hRv
    rw [List.length_map, symsR_len, List.length_take] at hrl
    have hdl := hDv.len
    rw [List.length_take] at hdl
    have hdv24 : dv.length ≤ 16777216 := lm24 hdl hr5 (by decide)
    obtain ⟨w1, w2, w3⟩ : @Ne Nat ra I ∧ @Ne Nat da I ∧ ∀ p ∈ dnew ++ ((z.1, listOf z.2.toArray 0) :: (dop, oop) :: (L5 + 1 + 1, oS) :: (L5 + 1, oX) :: [(119, tabObj #[])]), p.1 ≠ I := by simpa only [List.forall_mem_cons] using off5
    have hBd : ∀ p ∈ dnew ++ ((z.1, listOf z.2.toArray 0) :: (dop, oop) :: (L5 + 1 + 1, oS) :: (L5 + 1, oX) :: [(119, tabObj #[])]), p.1 ≠ da := List.forall_mem_append.mpr ⟨fun p hp => (hdn p hp).2.1, allCons (Nat.ne_of_gt (Nat.lt_trans a1 hzl)) (allCons (Nat.ne_of_lt b1) (allCons (Nat.ne_of_lt b2) (allCons (Nat.ne_of_lt b3) (allCons (Nat.ne_of_lt b4) (fun _ h => nomatch h)))))⟩
    have hBr : ∀ p ∈ dnew ++ ((z.1, listOf z.2.toArray 0) :: (dop, oop) :: (L5 + 1 + 1, oS) :: (L5 + 1, oX) :: [(119, tabObj #[])]), p.1 ≠ ra := List.forall_mem_append.mpr ⟨fun p hp => (hdn p hp).1, allCons (Nat.ne_of_gt hzl) (allCons (Nat.ne_of_lt a2) (allCons (Nat.ne_of_lt a3) (allCons (Nat.ne_of_lt a4) (allCons (Nat.ne_of_lt a5) (fun _ h => nomatch h)))))⟩
    k_steps
    unfold Halt
    refine opaq fun KQ1 hKQ1 => ?_
    rename Fr g5 L5 _ _ => F7
    rename News g5 L5 _ _ => N7
    rename IntsAre _ (List.map _ [_, _]) => hYs
    first | (refine x0_3 (bodyI hYs) ?_; intro q1 q2 hq13) | (refine x1_2 (bodyI hYs) ?_; intro q1 q2 hq13) | (refine x2_1 (bodyI hYs) ?_; intro q1 q2 hq13) | obtain ⟨q1, q2, hq13⟩ := bodyI hYs
    obtain rfl := hq13
    rw [headI, List.push_toArray] at N7
    first | (refine x0_4 (newsAt2 N7) ?_; intro Dt Db hq14 hq15) | (refine x1_3 (newsAt2 N7) ?_; intro Dt Db hq14 hq15) | (refine x2_2 (newsAt2 N7) ?_; intro Dt Db hq14 hq15) | (refine x3_1 (newsAt2 N7) ?_; intro Dt Db hq14 hq15) | obtain ⟨Dt, Db, hq14, hq15⟩ := newsAt2 N7
    obtain rfl := hq14
    obtain rfl := hq15
    first | (refine x0_2 (newsTup N7) ?_; intro uh huh) | (refine x1_1 (newsTup N7) ?_; intro uh huh) | obtain ⟨uh, huh⟩ := newsTup N7
    rw [← huh] at N7
    clear huh
    rename Db < Dt ∧ _ => lDt
    rename _ ≠ Db ∧ I ≠ Db ∧ _ => oDb
    first | (refine x0_6 (id lDt) ?_; intro c1 c2 c3 c4 c5 c6) | (refine x1_5 (id lDt) ?_; intro c1 c2 c3 c4 c5 c6) | (refine x2_4 (id lDt) ?_; intro c1 c2 c3 c4 c5 c6) | (refine x3_3 (id lDt) ?_; intro c1 c2 c3 c4 c5 c6) | (refine x4_2 (id lDt) ?_; intro c1 c2 c3 c4 c5 c6) | (refine x5_1 (id lDt) ?_; intro c1 c2 c3 c4 c5 c6) | obtain ⟨c1, c2, c3, c4, c5, c6⟩ := id lDt
    obtain ⟨d1, d2, d3, d4, dB5⟩ : @Ne Nat _ Db ∧ @Ne Nat I Db ∧ @Ne Nat ra Db ∧ @Ne Nat da Db ∧ Off1 Db _ := oDb
    have cB := Bnd.of c6
    have cm1 : (119, tabObj #[]) ∈ dnew ++ ((z.1, listOf z.2.toArray 0) :: (dop, oop) :: (L5 + 1 + 1, oS) :: (L5 + 1, oX) :: [(119, tabObj #[])]) := List.mem_append_right _ (by k_mem)
    have cm2 : (L5 + 1, oX) ∈ dnew ++ ((z.1, listOf z.2.toArray 0) :: (dop, oop) :: (L5 + 1 + 1, oS) :: (L5 + 1, oX) :: [(119, tabObj #[])]) := List.mem_append_right _ (by k_mem)
    have cm3 : (L5 + 1 + 1, oS) ∈ dnew ++ ((z.1, listOf z.2.toArray 0) :: (dop, oop) :: (L5 + 1 + 1, oS) :: (L5 + 1, oX) :: [(119, tabObj #[])]) := List.mem_append_right _ (by k_mem)
    clear hYs
    obtain ⟨r, hr⟩ : ∃ r, r = ruleOf x := ⟨_, rfl⟩
    rw [← hr] at N7
    have hYb : IntsAre [.int ((r.2.1 : Nat) : Int) q1, .int ((r.2.2 : Nat) : Int) q2] [((r.2.1 : Nat) : Int), ((r.2.2 : Nat) : Int)] := .cons _ _ (.cons _ _ .nil)
    refine' for_GZ (Z := Addr × List Value) (h₀ := g5) (L := L5) (n := 3) (P := fun y i v => y.2.toArray[i]? = some v) (S := fun y => SrcAt g5 y.1 y.2.toArray) (LI := True) (fun y j m nw => ∃ rv er xv vv sv, nw = (I, oI) :: (ra, listOf rv.toArray er) :: (da, listOf (dv ++ [Value.ref Dt]).toArray (ed + 1)) :: (y.1, listOf y.2.toArray 0) :: ((Dt, ({ cls := .type "tuple", data := .seq #[.int (r.1 : Int) uh, .ref Db] } : Obj)) :: (Db, lst [.int ((r.2.1 : Nat) : Int) q1, .int ((r.2.2 : Nat) : Int) q2]) :: dnew ++ ((z.1, listOf z.2.toArray 0) :: (dop, oop) :: (L5 + 1 + 1, oS) :: (L5 + 1, oX) :: [(119, tabObj #[])])) ∧
      (∀ y, m y = lmW (some (.ref sa)) (some (.ref dop)) (some (.ref da)) (some (.ref ra)) xv vv (some (.ref Db)) sv none none none none none y) ∧ StrsAre rv ((symsR ((rsOf ns).take i) ++ (symR r).take j).map fun s => acS (rep s)) ∧ IntsAre y.2 ((symR r).map fun (x : Nat) => (x : Int)) ∧ @Ne Nat y.1 ra ∧ @Ne Nat y.1 I)
      (fun _ => .inl fun _ _ => rfl) ?si2 ?hE2 ?src2 ?turn2 ?done2
    case hE2 => passes_own
    case si2 =>
      intro y j m nw hq16
      first | (refine x0_7 hq16 ?_; intro rv er xv vv sv hq17 _) | (refine x1_6 hq16 ?_; intro rv er xv vv sv hq17 _) | (refine x2_5 hq16 ?_; intro rv er xv vv sv hq17 _) | (refine x3_4 hq16 ?_; intro rv er xv vv sv hq17 _) | (refine x4_3 hq16 ?_; intro rv er xv vv sv hq17 _) | (refine x5_2 hq16 ?_; intro rv er xv vv sv hq17 _) | (refine x6_1 hq16 ?_; intro rv er xv vv sv hq17 _) | obtain ⟨rv, er, xv, vv, sv, hq17, _⟩ := hq16
      try clear hq16
      obtain rfl := hq17
      exact .inr ⟨_, List.mem_cons_of_mem _ (List.mem_cons_of_mem _ (List.mem_cons_of_mem _ List.mem_cons_self)), rfl, _, rfl⟩
    case src2 =>
      k_steps
      unfold Halt
      rename Fr g5 L5 _ _ => F8
      rename News g5 L5 _ _ => N8
      simp only [headI, ← hr] at N8
      first | (refine x0_2 (newsAt1 N8) ?_; intro ya hq18) | (refine x1_1 (newsAt1 N8) ?_; intro ya hq18) | obtain ⟨ya, hq18⟩ := newsAt1 N8
      obtain rfl := hq18
      first | (refine x0_2 (newsTok3 N8) ?_; intro ty hty) | (refine x1_1 (newsTok3 N8) ?_; intro ty hty) | obtain ⟨ty, hty⟩ := newsTok3 N8
      rw [← hty] at N8
      rename _ < ya ∧ _ => lya
      have N9 : News g5 L5 _ ((I, oI) :: (ra, listOf rv.toArray er) :: (da, listOf (dv ++ [Value.ref Dt]).toArray (ed + 1)) :: (ya, listOf [.int (r.1 : Int) ty, .int ((r.2.1 : Nat) : Int) q1, .int ((r.2.2 : Nat) : Int) q2].toArray 0) :: ((Dt, ({ cls := .type "tuple", data := .seq #[.int (r.1 : Int) uh, .ref Db] } : Obj)) :: (Db, lst [.int ((r.2.1 : Nat) : Int) q1, .int ((r.2.2 : Nat) : Int) q2]) :: dnew ++ ((z.1, listOf z.2.toArray 0) :: (dop, oop) :: (L5 + 1 + 1, oS) :: (L5 + 1, oX) :: [(119, tabObj #[])]))) := fun z hz => N8 z (by
        simp only [List.cons_append, List.mem_cons] at hz ⊢
        rcases hz with h | h | h | h | h | h | h <;> simp only [h, true_or, or_true])
      first | (refine x0_7 (id lya) ?_; intro _ _ _ _ lyI lyr _) | (refine x1_6 (id lya) ?_; intro _ _ _ _ lyI lyr _) | (refine x2_5 (id lya) ?_; intro _ _ _ _ lyI lyr _) | (refine x3_4 (id lya) ?_; intro _ _ _ _ lyI lyr _) | (refine x4_3 (id lya) ?_; intro _ _ _ _ lyI lyr _) | (refine x5_2 (id lya) ?_; intro _ _ _ _ lyI lyr _) | (refine x6_1 (id lya) ?_; intro _ _ _ _ lyI lyr _) | obtain ⟨_, _, _, _, lyI, lyr, _⟩ := id lya
      exact (i5 (ya, [.int (r.1 : Int) ty, .int ((r.2.1 : Nat) : Int) q1, .int ((r.2.2 : Nat) : Int) q2]) _ _ _ _ ⟨rfl, OpenG.listN rfl rfl F8 N9 (.inr ⟨(listOf [.int (r.1 : Int) ty, .int ((r.2.1 : Nat) : Int) q1, .int ((r.2.2 : Nat) : Int) q2].toArray 0), List.mem_cons_of_mem _ (List.mem_cons_of_mem _ (List.mem_cons_of_mem _ List.mem_cons_self)), rfl, _, rfl⟩), rv, er, some (.int x tx), _, sv, rfl, ext3 (Str.ofString "body") (Str.ofString "v") (Str.ofString "x") rfl rfl rfl (fun y h1 h2 h3 => by simp only [lmW, if_neg h1, if_neg h2, if_neg h3]), (by rw [List.take_zero, List.append_nil]; exact hRv), .cons _ _ (.cons _ _ (.cons _ _ .nil)), Nat.ne_of_gt lyr, Nat.ne_of_gt lyI⟩)
    case turn2 =>
      intro y j m2 nw v I2 oI2 h9 tk9 hj hx10 hv9 F9 N9 off9
      refine opaqT fun KQ hKQ => ?_
      first | (refine x0_11 hx10 ?_; intro rv er xv vv sv hq19 hm2 hRv hY hy1 hy2) | (refine x1_10 hx10 ?_; intro rv er xv vv sv hq19 hm2 hRv hY hy1 hy2) | (refine x2_9 hx10 ?_; intro rv er xv vv sv hq19 hm2 hRv hY hy1 hy2) | (refine x3_8 hx10 ?_; intro rv er xv vv sv hq19 hm2 hRv hY hy1 hy2) | (refine x4_7 hx10 ?_; intro rv er xv vv sv hq19 hm2 hRv hY hy1 hy2) | (refine x5_6 hx10 ?_; intro rv er xv vv sv hq19 hm2 hRv hY hy1 hy2) | (refine x6_5 hx10 ?_; intro rv er xv vv sv hq19 hm2 hRv hY hy1 hy2) | (refine x7_4 hx10 ?_; intro rv er xv vv sv hq19 hm2 hRv hY hy1 hy2) | (refine x8_3 hx10 ?_; intro rv er xv vv sv hq19 hm2 hRv hY hy1 hy2) | (refine x9_2 hx10 ?_; intro rv er xv vv sv hq19 hm2 hRv hY hy1 hy2) | (refine x10_1 hx10 ?_; intro rv er xv vv sv hq19 hm2 hRv hY hy1 hy2) | obtain ⟨rv, er, xv, vv, sv, hq19, hm2, hRv, hY, hy1, hy2⟩ := hx10
      try clear hx10
      obtain rfl := hq19
      first | (refine x0_4 (intsAre_inv hY (i := j) (v := v) (by simpa using hv9)) ?_; intro sy us hsy hq20) | (refine x1_3 (intsAre_inv hY (i := j) (v := v) (by simpa using hv9)) ?_; intro sy us hsy hq20) | (refine x2_2 (intsAre_inv hY (i := j) (v := v) (by simpa using hv9)) ?_; intro sy us hsy hq20) | (refine x3_1 (intsAre_inv hY (i := j) (v := v) (by simpa using hv9)) ?_; intro sy us hsy hq20) | obtain ⟨sy, us, hsy, hq20⟩ := intsAre_inv hY (i := j) (v := v) (by simpa using hv9)
      obtain rfl := hq20
      have hsym : IsSym sy := ruleOf_sym x sy (hr ▸ List.mem_of_getElem? hsy)
      have hF := frExt F9 hm2
      refine wpAny_assign_Name (storeX_L hF N9 fun h10 F10 N10 => ?_)
      clear hF F9 N9
      obtain ⟨g1, g2, g3, g4, g5'⟩ : @Ne Nat I I2 ∧ @Ne Nat ra I2 ∧ @Ne Nat da I2 ∧ @Ne Nat y.1 I2 ∧ ∀ p ∈ (Dt, ({ cls := .type "tuple", data := .seq #[.int (r.1 : Int) uh, .ref Db] } : Obj)) :: (Db, lst [.int ((r.2.1 : Nat) : Int) q1, .int ((r.2.2 : Nat) : Int) q2]) :: dnew ++ ((z.1, listOf z.2.toArray 0) :: (dop, oop) :: (L5 + 1 + 1, oS) :: (L5 + 1, oX) :: [(119, tabObj #[])]), p.1 ≠ I2 := by simpa only [List.forall_mem_cons] using off9
      have hBr2 : ∀ p ∈ (Dt, ({ cls := .type "tuple", data := .seq #[.int (r.1 : Int) uh, .ref Db] } : Obj)) :: (Db, lst [.int ((r.2.1 : Nat) : Int) q1, .int ((r.2.2 : Nat) : Int) q2]) :: dnew ++ ((z.1, listOf z.2.toArray 0) :: (dop, oop) :: (L5 + 1 + 1, oS) :: (L5 + 1, oX) :: [(119, tabObj #[])]), p.1 ≠ ra := allCons (Nat.ne_of_gt c4) (allCons (Ne.symm d3) hBr)
      have offI2 : ∀ o : Obj, ∀ p ∈ (I, oI) :: (ra, o) :: (da, listOf (dv ++ [Value.ref Dt]).toArray (ed + 1)) :: (y.1, listOf y.2.toArray 0) :: ((Dt, ({ cls := .type "tuple", data := .seq #[.int (r.1 : Int) uh, .ref Db] } : Obj)) :: (Db, lst [.int ((r.2.1 : Nat) : Int) q1, .int ((r.2.2 : Nat) : Int) q2]) :: dnew ++ ((z.1, listOf z.2.toArray 0) :: (dop, oop) :: (L5 + 1 + 1, oS) :: (L5 + 1, oX) :: [(119, tabObj #[])])), p.1 ≠ I2 := fun o => allCons g1 (allCons g2 (allCons g3 (allCons g4 g5')))
      have hrl2 := strsAre_len hRv
      rw [List.length_map, List.length_append, List.length_take, symsR_len, List.length_take] at hrl2
      have hrv24 : rv.length ≤ 16777216 := lm25 hrl2 hr5 hj
      have hopm : (dop, oop) ∈ (Dt, ({ cls := .type "tuple", data := .seq #[.int (r.1 : Int) uh, .ref Db] } : Obj)) :: (Db, lst [.int ((r.2.1 : Nat) : Int) q1, .int ((r.2.2 : Nat) : Int) q2]) :: dnew ++ ((z.1, listOf z.2.toArray 0) :: (dop, oop) :: (L5 + 1 + 1, oS) :: (L5 + 1, oX) :: [(119, tabObj #[])]) := List.mem_append_right _ (List.mem_cons_of_mem _ List.mem_cons_self)
      rcases hsym with hs | hs
      · have hs1 : (255 : Int) < (sy : Int) := by have := hs.1; omega
        k_steps
        rename Fr g5 L5 _ _ => F11
        rename News g5 L5 _ _ => N11
        rw [List.push_toArray] at N11
        exact hKQ.out _ _ (LoopG.mk F11 N11 (offI2 _) (i5 _ _ xv vv _ ⟨rfl, ext2 (Str.ofString "symbol") (Str.ofString "symbol") rfl rfl (fun y h1 _ => by simp only [lmW, if_neg h1]), strsAre_snoc hRv hsy, hY, hy1, hy2⟩))
      · have hs1 : ¬ (255 : Int) < (sy : Int) := by have := hs.2; omega
        first | (refine x0_2 (hOps.get _ (opOf_mem hs)) ?_; intro to hvo) | (refine x1_1 (hOps.get _ (opOf_mem hs)) ?_; intro to hvo) | obtain ⟨to, hvo⟩ := hOps.get _ (opOf_mem hs)
        dsimp only at hvo
        have hol : (acS (opOf sy)).length ≤ 100 := Nat.le_trans (show (opOf sy).length ≤ 4 from (op_facts (opOf_mem hs)).1) (by decide)
        k_steps
        rename Fr g5 L5 _ _ => F11
        rename News g5 L5 _ _ => N11
        rw [List.push_toArray, rep_op hs] at N11
        exact hKQ.out _ _ (LoopG.mk F11 N11 (offI2 _) (i5 _ _ xv vv _ ⟨rfl, ext2 (Str.ofString "symbol") (Str.ofString "symbol") rfl rfl (fun y h1 _ => by simp only [lmW, if_neg h1]), strsAre_snoc hRv hsy, hY, hy1, hy2⟩))
    case done2 =>
      intro y h9 tk9 m2 nw hq21 F9 N9
      first | (refine x0_11 hq21 ?_; intro rv er xv vv sv hq22 hm2 hRv hY _ _) | (refine x1_10 hq21 ?_; intro rv er xv vv sv hq22 hm2 hRv hY _ _) | (refine x2_9 hq21 ?_; intro rv er xv vv sv hq22 hm2 hRv hY _ _) | (refine x3_8 hq21 ?_; intro rv er xv vv sv hq22 hm2 hRv hY _ _) | (refine x4_7 hq21 ?_; intro rv er xv vv sv hq22 hm2 hRv hY _ _) | (refine x5_6 hq21 ?_; intro rv er xv vv sv hq22 hm2 hRv hY _ _) | (refine x6_5 hq21 ?_; intro rv er xv vv sv hq22 hm2 hRv hY _ _) | (refine x7_4 hq21 ?_; intro rv er xv vv sv hq22 hm2 hRv hY _ _) | (refine x8_3 hq21 ?_; intro rv er xv vv sv hq22 hm2 hRv hY _ _) | (refine x9_2 hq21 ?_; intro rv er xv vv sv hq22 hm2 hRv hY _ _) | (refine x10_1 hq21 ?_; intro rv er xv vv sv hq22 hm2 hRv hY _ _) | obtain ⟨rv, er, xv, vv, sv, hq22, hm2, hRv, hY, _, _⟩ := hq21
      try clear hq21
      obtain rfl := hq22
      have hri' : (rsOf ns)[i] = r := hr ▸ (List.getElem?_eq_some_iff.mp hri).2
      have hT : (rsOf ns).take (i + 1) = (rsOf ns).take i ++ [r] := by rw [List.take_add_one, List.getElem?_eq_getElem hi5, hri']; rfl
      have N9' : News g5 L5 h9 ((I, oI) :: (ra, listOf rv.toArray er) :: (da, listOf (dv ++ [Value.ref Dt]).toArray (ed + 1)) :: ((Dt, ({ cls := .type "tuple", data := .seq #[.int (r.1 : Int) uh, .ref Db] } : Obj)) :: (Db, lst [.int ((r.2.1 : Nat) : Int) q1, .int ((r.2.2 : Nat) : Int) q2]) :: dnew ++ ((z.1, listOf z.2.toArray 0) :: (dop, oop) :: (L5 + 1 + 1, oS) :: (L5 + 1, oX) :: [(119, tabObj #[])]))) := fun p hp => N9 p (by
        rcases List.mem_cons.mp hp with h | hp
        · rw [h]; exact List.mem_cons_self
        rcases List.mem_cons.mp hp with h | hp
        · rw [h]; exact List.mem_cons_of_mem _ List.mem_cons_self
        rcases List.mem_cons.mp hp with h | hp
        · rw [h]; exact List.mem_cons_of_mem _ (List.mem_cons_of_mem _ List.mem_cons_self)
        exact List.mem_cons_of_mem _ (List.mem_cons_of_mem _ (List.mem_cons_of_mem _ (List.mem_cons_of_mem _ hp))))
      refine hKQ1.out _ _ ?_
      (try dsimp only)
      k_steps
      refine (i4 _ _ _ _ ⟨rfl, F9, N9', allCons w1 (allCons w2 (allCons (Nat.ne_of_gt c3) (allCons (Ne.symm d2) w3))), rv, er, dv ++ [Value.ref Dt], ed + 1, (Dt, ({ cls := .type "tuple", data := .seq #[.int (r.1 : Int) uh, .ref Db] } : Obj)) :: (Db, lst [.int ((r.2.1 : Nat) : Int) q1, .int ((r.2.2 : Nat) : Int) q2]) :: dnew, xv, vv, some (.ref Db), sv, rfl, hm2, ?_, ?_, ?_, hXs, hzl⟩)
      · rw [symsR_succ hi5, hri']
        exact hRv
      · rw [hT]
        exact (hDv.mono fun p hp => List.mem_cons_of_mem _ (List.mem_cons_of_mem _ hp)).app (i6 Dt Db uh q1 q2 2 ⟨rfl, List.mem_cons_self, List.mem_cons_of_mem _ List.mem_cons_self⟩)
      · exact List.forall_mem_cons.mpr ⟨⟨Nat.ne_of_gt c4, Nat.ne_of_gt c5, Nat.ne_of_gt (cB (119, tabObj #[]) cm1), Nat.ne_of_gt (cB (L5 + 1, oX) cm2), Nat.ne_of_gt (cB (L5 + 1 + 1, oS) cm3)⟩, List.forall_mem_cons.mpr ⟨⟨Ne.symm d3, Ne.symm d4, Ne.symm (off1_all dB5 _ cm1), Ne.symm (off1_all dB5 _ cm2), Ne.symm (off1_all dB5 _ cm3)⟩, hdn⟩⟩
  case done1 =>
    intro z h5 tk5 m' nw hq23 F5 N5
    first | (refine x2_14 hq23 ?_; intro rv er dv ed dnew xv vv bv sv hq24 hm hRv hDv hdn hXs hzl) | (refine x3_13 hq23 ?_; intro rv er dv ed dnew xv vv bv sv hq24 hm hRv hDv hdn hXs hzl) | (refine x4_12 hq23 ?_; intro rv er dv ed dnew xv vv bv sv hq24 hm hRv hDv hdn hXs hzl) | (refine x5_11 hq23 ?_; intro rv er dv ed dnew xv vv bv sv hq24 hm hRv hDv hdn hXs hzl) | (refine x6_10 hq23 ?_; intro rv er dv ed dnew xv vv bv sv hq24 hm hRv hDv hdn hXs hzl) | (refine x7_9 hq23 ?_; intro rv er dv ed dnew xv vv bv sv hq24 hm hRv hDv hdn hXs hzl) | (refine x8_8 hq23 ?_; intro rv er dv ed dnew xv vv bv sv hq24 hm hRv hDv hdn hXs hzl) | (refine x9_7 hq23 ?_; intro rv er dv ed dnew xv vv bv sv hq24 hm hRv hDv hdn hXs hzl) | (refine x10_6 hq23 ?_; intro rv er dv ed dnew xv vv bv sv hq24 hm hRv hDv hdn hXs hzl) | obtain ⟨rv, er, dv, ed, dnew, xv, vv, bv, sv, hq24, hm, hRv, hDv, hdn, hXs, hzl⟩ := hq23
    try clear hq23
    obtain rfl := hq24
    have hxr : (xsOf ns).length = (rsOf ns).length := (List.length_map ..).symm
    rw [hxr, List.take_length] at hRv hDv
    have hF := frExt F5 hm
    clear F5
    obtain ⟨sy, hsy⟩ : ∃ sy, sy = symsR (rsOf ns) := ⟨_, rfl⟩
    rw [← hsy] at hRv
    have hsyl : sy.length ≤ 15 := by rw [hsy, symsR_len]; have := rsOf_len ns; omega
    have hsys : ∀ s ∈ sy, IsSym s := hsy ▸ rsOf_sym ns
    have hrvl : rv.length = sy.length := by have := strsAre_len hRv; rwa [List.length_map] at this
    k_steps
    unfold Halt
    rename Fr g5 L5 _ _ => F6
    rename News g5 L5 _ _ => N6
    refine' for_G (h₀ := g5) (L := L5) (n := sy.length) (P := fun i v => ∃ t, v = .int (i : Int) t) (S := fun _ => True) (LI := False) (fun k m nw => nw = (ra, listOf rv.toArray er) :: (da, listOf dv.toArray ed) :: (dnew ++ ((z.1, listOf z.2.toArray 0) :: (dop, oop) :: (L5 + 1 + 1, oS) :: (L5 + 1, oX) :: [(119, tabObj #[])])) ∧ ∃ tt kv, ∀ y, m y = lmW (some (.ref sa)) (some (.ref dop)) (some (.ref da)) (some (.ref ra)) xv vv bv sv (some (.str (acS (txtF 0 (sy.take k))) tt)) kv none none none y)
      (.inl fun _ _ => rfl) (fun _ _ _ _ => trivial) ?hE3 ?src3 ?turn3 ?done3
    case hE3 => passes_own
    case src3 =>
      k_steps
      unfold Halt
      rename Fr g5 L5 _ _ => F7
      rename News g5 L5 _ _ => N7
      rename IsRange _ _ _ _ _ _ _ _ => hr7
      have hrs : rv.toArray.size = sy.length := by rw [List.size_toArray, hrvl]
      rw [hrs] at hr7
      exact (i4 _ _ _ _ ⟨rfl, OpenG.range1 (by omega) rfl F7 N7 hr7, rfl, _, none, ext2 (Str.ofString "text") (Str.ofString "text") rfl rfl (fun y h1 _ => by simp only [lmW, if_neg h1])⟩)
    case turn3 =>
      intro k m2 nw v I oI h8 tk8 hk hx9 hx10 F8 N8 off8
      refine opaqT fun KQ hKQ => ?_
      first | (refine x0_4 hx9 ?_; intro hq25 tt kv hm2) | (refine x1_3 hx9 ?_; intro hq25 tt kv hm2) | (refine x2_2 hx9 ?_; intro hq25 tt kv hm2) | (refine x3_1 hx9 ?_; intro hq25 tt kv hm2) | obtain ⟨hq25, tt, kv, hm2⟩ := hx9
      try clear hx9
      obtain rfl := hq25
      first | (refine x0_2 hx10 ?_; intro t8 hq26) | (refine x1_1 hx10 ?_; intro t8 hq26) | obtain ⟨t8, hq26⟩ := hx10
      try clear hx10
      obtain rfl := hq26
      first | (refine x0_2 (strsAre_get hRv (i := k) (n := acS (rep sy[k])) (by rw [List.getElem?_map, List.getElem?_eq_getElem hk]; rfl)) ?_; intro trk hrk) | (refine x1_1 (strsAre_get hRv (i := k) (n := acS (rep sy[k])) (by rw [List.getElem?_map, List.getElem?_eq_getElem hk]; rfl)) ?_; intro trk hrk) | obtain ⟨trk, hrk⟩ := strsAre_get hRv (i := k) (n := acS (rep sy[k])) (by rw [List.getElem?_map, List.getElem?_eq_getElem hk]; rfl)
      have hks : IsSym sy[k] := hsys _ (List.getElem_mem hk)
      have hk15 : k < 15 := by omega
      have hF := frExt F8 hm2
      refine wpAny_assign_Name (storeX_L hF N8 fun h9 F9 N9 => ?_)
      clear hF F8 N8
      first | (refine x0_3 (wsC_item k) ?_; intro hit hi0 hi4) | (refine x1_2 (wsC_item k) ?_; intro hit hi0 hi4) | (refine x2_1 (wsC_item k) ?_; intro hit hi0 hi4) | obtain ⟨hit, hi0, hi4⟩ := wsC_item k
      have htl : (acS (txtF 0 (sy.take k))).length ≤ 2000 := by
        have h1 := txtF_len (sy.take k) 0 (fun n hn => hsys n (List.mem_of_mem_take hn))
        have h2 : (sy.take k).length ≤ 15 := by rw [List.length_take]; omega
        exact Nat.le_trans (show (txtF 0 (sy.take k)).length ≤ 101 * (sy.take k).length from h1) (by omega)
      have hwl : (acS (wordN ((k : Int).fmod 2 == 0) sy[k])).length ≤ 100 := wordN_len hks
      have hws : (acS [wsC k]).length ≤ 1 := Nat.le_refl _
      have hpk : ((k : Int).fmod 2 == 0) = decide (k % 2 = 0) := by
        rw [show (k : Int).fmod 2 = ((k % 2 : Nat) : Int) from fmN k 2]
        by_cases h : k % 2 = 0
        · rw [h]; rfl
        · rw [decide_eq_false h]; exact beq_eq_false_iff_ne.mpr (by omega)
      k_steps
      rename Fr g5 L5 _ _ => F10
      rename News g5 L5 _ _ => N10
      have hE : acS (txtF 0 (sy.take k)) ++ (acS (wordN ((k : Int).fmod 2 == 0) sy[k]) ++ Txt.item (Str.ofString " \t\n\r") ((k : Int).fmod 4)) = acS (txtF 0 (sy.take (k + 1))) := by
        have hl : 0 + (sy.take k).length = k := by rw [List.length_take]; omega
        rw [hit, hpk, acS_app, acS_app, List.take_add_one, List.getElem?_eq_getElem hk, Option.toList_some, txtF_snoc, hl]
        rfl
      rw [hE] at F10
      exact hKQ.out _ _ (LoopG.mk F10 N10 off8 ⟨rfl, _, _, ext2 (Str.ofString "text") (Str.ofString "k") rfl rfl (fun y h1 h2 => by simp only [lmW, if_neg h1, if_neg h2])⟩)
    case done3 =>
      intro h8 tk8 m2 nw hq27 F8 N8
      first | (refine x0_4 hq27 ?_; intro hq28 tt kv hm2) | (refine x1_3 hq27 ?_; intro hq28 tt kv hm2) | (refine x2_2 hq27 ?_; intro hq28 tt kv hm2) | (refine x3_1 hq27 ?_; intro hq28 tt kv hm2) | obtain ⟨hq28, tt, kv, hm2⟩ := hq27
      try clear hq27
      obtain rfl := hq28
      rw [List.take_length] at hm2
      have hF := frExt F8 hm2
      clear F8
      k_steps
      unfold Halt
      rename Fr g5 L5 _ _ => F9
      rename News g5 L5 _ _ => N9
      have NX : ∀ p ∈ (L5 + 1 + 1, oS) :: (L5 + 1, oX) :: (ra, listOf rv.toArray er) :: (da, listOf dv.toArray ed) :: (dnew ++ [(z.1, listOf z.2.toArray 0), (dop, oop)]), p.1 ≠ 119 := allCons (Nat.ne_of_gt (Nat.lt_succ_of_lt (Nat.lt_succ_of_lt l119))) (allCons (Nat.ne_of_gt (Nat.lt_succ_of_lt l119)) (allCons (Nat.ne_of_gt a5) (allCons (Nat.ne_of_gt b4) (List.forall_mem_append.mpr ⟨fun p hp => (hdn p hp).2.2.1, allCons (Nat.ne_of_gt (Nat.lt_trans a5 hzl)) (allCons (Nat.ne_of_gt (hBO (119, tabObj #[]) (by k_mem))) (fun _ h => nomatch h))⟩))))
      have N10 : News g5 L5 h8 ((119, tabObj #[]) :: (L5 + 1 + 1, oS) :: (L5 + 1, oX) :: (ra, listOf rv.toArray er) :: (da, listOf dv.toArray ed) :: (dnew ++ [(z.1, listOf z.2.toArray 0), (dop, oop)])) := fun p hp => N9 p (by
        simp only [List.mem_cons, List.mem_append, List.not_mem_nil, or_false] at hp ⊢
        rcases hp with h | h | h | h | h | h | h | h <;> simp only [h, true_or, or_true])
      have hTl : (acS (txtF 0 sy)).length ≤ 2000 := Nat.le_trans (show (txtF 0 sy).length ≤ 101 * sy.length from txtF_len sy 0 hsys) (by omega)
      refine c_lexer (A₀ := callerA) ⟨B0, F9, X0, N10, T0, C0⟩ (by decide) (by decide) NX (acS (txtF 0 sy)) tt (by omega) ?_
      intro C t1 tp h10 tk10 t9 hC1 hC2 hC3 hC4 hR O hCn F10 N11 hP
      first | (refine x0_12 (id O) ?_; intro o1 o2 o3 o4 o5 o6 o7 o8 o9 _ _ _) | (refine x1_11 (id O) ?_; intro o1 o2 o3 o4 o5 o6 o7 o8 o9 _ _ _) | (refine x2_10 (id O) ?_; intro o1 o2 o3 o4 o5 o6 o7 o8 o9 _ _ _) | (refine x3_9 (id O) ?_; intro o1 o2 o3 o4 o5 o6 o7 o8 o9 _ _ _) | (refine x4_8 (id O) ?_; intro o1 o2 o3 o4 o5 o6 o7 o8 o9 _ _ _) | (refine x5_7 (id O) ?_; intro o1 o2 o3 o4 o5 o6 o7 o8 o9 _ _ _) | (refine x6_6 (id O) ?_; intro o1 o2 o3 o4 o5 o6 o7 o8 o9 _ _ _) | (refine x7_5 (id O) ?_; intro o1 o2 o3 o4 o5 o6 o7 o8 o9 _ _ _) | (refine x8_4 (id O) ?_; intro o1 o2 o3 o4 o5 o6 o7 o8 o9 _ _ _) | (refine x9_3 (id O) ?_; intro o1 o2 o3 o4 o5 o6 o7 o8 o9 _ _ _) | (refine x10_2 (id O) ?_; intro o1 o2 o3 o4 o5 o6 o7 o8 o9 _ _ _) | obtain ⟨o1, o2, o3, o4, o5, o6, o7, o8, o9, _, _, _⟩ := id O
      first | (refine x0_2 (hCn (L5 + 1 + 1, oS) (by k_mem)) ?_; intro k1 k2) | (refine x1_1 (hCn (L5 + 1 + 1, oS) (by k_mem)) ?_; intro k1 k2) | obtain ⟨k1, k2⟩ := hCn (L5 + 1 + 1, oS) (by k_mem)
      dsimp only at k1 k2
      have z0 : @LT.lt Nat _ (L5 + 1) (L5 + 1 + 1) := Nat.lt_succ_self _
      have f_ca : @LT.lt Nat _ (L5 + 1 + 1) C.ca := k1
      have f_ct : @LT.lt Nat _ (L5 + 1 + 1) C.ct := k2
      have f_al : @LT.lt Nat _ (L5 + 1 + 1) C.al := Nat.lt_trans f_ca o1
      have f_c2 : @LT.lt Nat _ (L5 + 1 + 1) C.c2 := Nat.lt_trans f_al o3
      have f_r : @LT.lt Nat _ (L5 + 1 + 1) C.r := Nat.lt_trans f_c2 o4
      have f_f : @LT.lt Nat _ (L5 + 1 + 1) C.f := Nat.lt_trans f_r o5
      have f_dx : @LT.lt Nat _ (L5 + 1 + 1) C.dx := Nat.lt_trans f_f o6
      have f_d : @LT.lt Nat _ (L5 + 1 + 1) C.d := Nat.lt_trans f_dx o7
      have f_x : @LT.lt Nat _ (L5 + 1 + 1) C.x := Nat.lt_trans f_d o8
      have f_l : @LT.lt Nat _ (L5 + 1 + 1) C.l := Nat.lt_trans f_x o9
      have e_ca : @LT.lt Nat _ (L5 + 1) C.ca := Nat.lt_of_succ_lt f_ca
      have e_ct : @LT.lt Nat _ (L5 + 1) C.ct := Nat.lt_of_succ_lt f_ct
      have e_al : @LT.lt Nat _ (L5 + 1) C.al := Nat.lt_of_succ_lt f_al
      have e_c2 : @LT.lt Nat _ (L5 + 1) C.c2 := Nat.lt_of_succ_lt f_c2
      have e_r : @LT.lt Nat _ (L5 + 1) C.r := Nat.lt_of_succ_lt f_r
      have e_f : @LT.lt Nat _ (L5 + 1) C.f := Nat.lt_of_succ_lt f_f
      have e_dx : @LT.lt Nat _ (L5 + 1) C.dx := Nat.lt_of_succ_lt f_dx
      have e_d : @LT.lt Nat _ (L5 + 1) C.d := Nat.lt_of_succ_lt f_d
      have e_x : @LT.lt Nat _ (L5 + 1) C.x := Nat.lt_of_succ_lt f_x
      have e_l : @LT.lt Nat _ (L5 + 1) C.l := Nat.lt_of_succ_lt f_l
      have n1 : ∀ p ∈ dnew ++ [(z.1, listOf z.2.toArray 0), (dop, oop)], p.1 ≠ L5 + 1 := List.forall_mem_append.mpr ⟨fun p hp => (hdn p hp).2.2.2.1, allCons (Nat.ne_of_gt (Nat.lt_trans a4 hzl)) (allCons (Nat.ne_of_gt (hBO (L5 + 1, oX) (by k_mem))) (fun _ h => nomatch h))⟩
      have n2 : ∀ p ∈ dnew ++ [(z.1, listOf z.2.toArray 0), (dop, oop)], p.1 ≠ L5 + 1 + 1 := List.forall_mem_append.mpr ⟨fun p hp => (hdn p hp).2.2.2.2, allCons (Nat.ne_of_gt (Nat.lt_trans a3 hzl)) (allCons (Nat.ne_of_gt (hBO (L5 + 1 + 1, oS) (by k_mem))) (fun _ h => nomatch h))⟩
      first | (refine x0_2 hP ?_; intro ps N119) | (refine x1_1 hP ?_; intro ps N119) | obtain ⟨ps, N119⟩ := hP
      try clear hP
      first | (refine x0_2 (tab_in O N11 N119) ?_; intro O1 N11a) | (refine x1_1 (tab_in O N11 N119) ?_; intro O1 N11a) | obtain ⟨O1, N11a⟩ := tab_in O N11 N119
      have n1a := memIns n1 (show (119, tabObj ps).1 ≠ L5 + 1 from Nat.ne_of_lt (Nat.lt_succ_of_lt l119))
      have n2a := memIns n2 (show (119, tabObj ps).1 ≠ L5 + 1 + 1 from Nat.ne_of_lt (Nat.lt_succ_of_lt (Nat.lt_succ_of_lt l119)))
      have hDv1 : RsAre (dnew ++ [(119, tabObj ps)]) dv (rsOf ns) := hDv.mono fun p hp => List.mem_append_left _ hp
      have m119 : (119, tabObj ps) ∈ dnew ++ [(119, tabObj ps)] := List.mem_append_right _ List.mem_cons_self
      clear hdn N10 N9 hDv O n1 n2 N11 N119
      generalize dnew ++ [(119, tabObj ps)] = dnew at O1 N11a n1a n2a hDv1 m119
      have O := O1
      have N11 := N11a
      have n1 := n1a
      have n2 := n2a
      have hDv := hDv1
      clear O1 N11a n1a n2a hDv1
      dsimp only [lexL] at N11
      k_steps
      unfold Halt
      rename Fr g5 L5 _ _ => F12
      rename News g5 L5 _ _ => N12
      first | (refine x0_2 (newsCell (C := C) (w := w) (S := ⟨1, t1, [], 0, 0, tp, 0⟩) N12) ?_; intro oX2 hq29) | (refine x1_1 (newsCell (C := C) (w := w) (S := ⟨1, t1, [], 0, 0, tp, 0⟩) N12) ?_; intro oX2 hq29) | obtain ⟨oX2, hq29⟩ := newsCell (C := C) (w := w) (S := ⟨1, t1, [], 0, 0, tp, 0⟩) N12
      obtain rfl := hq29
      rename oX2.data = _ => hX2
      have OO : LexO C ((L5 + 1 + 1, oS) :: (L5 + 1, oX2) :: (ra, listOf rv.toArray er) :: (da, listOf dv.toArray ed) :: (dnew ++ [(z.1, listOf z.2.toArray 0), (dop, oop)])) := O.swap2
      have hraL : ∀ S : LexS, (ra, listOf rv.toArray er) ∈ lexL w C S ((L5 + 1 + 1, oS) :: (L5 + 1, oX2) :: (ra, listOf rv.toArray er) :: (da, listOf dv.toArray ed) :: (dnew ++ [(z.1, listOf z.2.toArray 0), (dop, oop)])) := fun S => by
        dsimp only [lexL]
        k_mem
      have hT0 : (acS (txtF 0 sy)).cps.toList = txtF 0 sy := by show (txtF 0 sy).toArray.toList = _; simp
      refine' Assign_ListComp_G (S := SrcAt g5 ra rv.toArray) (LI := True) (n := sy.length) (P := fun i v => rv.toArray[i]? = some v) (fun q ys nw => ∃ S : LexS, nw = lexL w C S ((L5 + 1 + 1, oS) :: (L5 + 1, oX2) :: (ra, listOf rv.toArray er) :: (da, listOf dv.toArray ed) :: (dnew ++ [(z.1, listOf z.2.toArray 0), (dop, oop)])) ∧ S.items = [] ∧ (0 ≤ S.ln ∧ S.ln ≤ S.pos + 1) ∧ (acS (txtF 0 sy)).cps.toList.drop S.pos = leftT q (sy.drop q) ∧ S.pos ≤ 3000 * q ∧ StrsAre ys ((sy.take q).map fun s => acS (rep s))) (cl := [(Str.ofString "lexer", L5 + 1)]) rfl ?sw4 ?cl4 ?cc4 ?ck4 ?cn4 ?hy4 ?hp4 (.inl fun _ _ => rfl) ?si4 ?sz4 (assign_name rfl rfl)
        (nameX_L F12 ?v4 (i3 _ _ _ ⟨rfl, OpenG.listN (by rw [List.size_toArray, hrvl]) rfl F12 N12 (.inr ⟨listOf rv.toArray er, hraL ⟨1, t1, [], 0, 0, tp, 0⟩, rfl, _, rfl⟩), ⟨1, t1, [], 0, 0, tp, 0⟩, rfl, rfl, ⟨(by show (0 : Int) ≤ 1; omega), (by show (1 : Int) ≤ ((0 : Nat) : Int) + 1; omega)⟩, ?hd4, Nat.zero_le _, .nil⟩)) ?turn4 ?done4
      case sw4 => rfl
      case cl4 => with_unfolding_all rfl
      case cc4 => decide
      case ck4 => rfl
      case cn4 => decide
      case hy4 => rfl
      case hp4 => rfl
      case v4 => rfl
      case hd4 =>
        rw [hT0]
        rfl
      case si4 =>
        intro q zs nw hq30
        first | (refine x0_3 hq30 ?_; intro S hq31 _) | (refine x1_2 hq30 ?_; intro S hq31 _) | (refine x2_1 hq30 ?_; intro S hq31 _) | obtain ⟨S, hq31, _⟩ := hq30
        try clear hq30
        obtain rfl := hq31
        exact .inr ⟨listOf rv.toArray er, hraL S, rfl, _, rfl⟩
      case sz4 => rw [sizeLine_eq]; omega
      case turn4 =>
        intro q ys nw v I oI C2 oC2 D2 m4 h13 tk13 E4 hq hx14 hv13 hC2 hm4 F13 N13 off13 ne13
        refine opaqG fun KQ hKQ => ?_
        first | (refine x0_7 hx14 ?_; intro S hq32 hS1 hS2 hS3 hS4 hY) | (refine x1_6 hx14 ?_; intro S hq32 hS1 hS2 hS3 hS4 hY) | (refine x2_5 hx14 ?_; intro S hq32 hS1 hS2 hS3 hS4 hY) | (refine x3_4 hx14 ?_; intro S hq32 hS1 hS2 hS3 hS4 hY) | (refine x4_3 hx14 ?_; intro S hq32 hS1 hS2 hS3 hS4 hY) | (refine x5_2 hx14 ?_; intro S hq32 hS1 hS2 hS3 hS4 hY) | (refine x6_1 hx14 ?_; intro S hq32 hS1 hS2 hS3 hS4 hY) | obtain ⟨S, hq32, hS1, hS2, hS3, hS4, hY⟩ := hx14
        try clear hx14
        obtain rfl := hq32
        have hqs : IsSym sy[q] := hsys _ (List.getElem_mem hq)
        rw [List.drop_eq_getElem_cons hq] at hS3
        first | (refine x0_7 S ?_; intro ln tl1 items e pos tlp e2) | (refine x1_6 S ?_; intro ln tl1 items e pos tlp e2) | (refine x2_5 S ?_; intro ln tl1 items e pos tlp e2) | (refine x3_4 S ?_; intro ln tl1 items e pos tlp e2) | (refine x4_3 S ?_; intro ln tl1 items e pos tlp e2) | (refine x5_2 S ?_; intro ln tl1 items e pos tlp e2) | (refine x6_1 S ?_; intro ln tl1 items e pos tlp e2) | obtain ⟨ln, tl1, items, e, pos, tlp, e2⟩ := S
        try clear S
        dsimp only at hS1 hS2 hS3 hS4
        subst hS1
        have hO3 := OO.off3 (w := w) (S := ⟨ln, tl1, [], e, pos, tlp, e2⟩) (oI := oI) (oD := oC2) (oE := lst ys) off13
        have hdl3 : ((acS (txtF 0 sy)).cps.toList.drop pos).length ≤ 2000 := by
          rw [hT0, List.length_drop]
          exact Nat.le_trans (Nat.sub_le _ _) hTl
        have hlex := N13
        dsimp only [lexL] at N13
        k_steps
        unfold Halt
        refine wpAny_call ?_
        refine c_gt (A₀ := callerA) (C := C) (ln := ln) (t1 := tl1) (e := e) (pos := pos) (tp := tlp) (e2 := e2) hR hO3 ⟨B0, F13, X0, lexL_in3 hlex, T0, C0⟩ (by decide) (by decide) (by omega) hS2 (by rw [hS3]; exact leftT_tk hqs) (Nat.lt_of_le_of_lt hTl (by decide)) ?_
        intro S' t15 h15 tk15 gg1 gg2 gg3 gg4 F15 N15
        refine hKQ.out _ _ (CompE.mk F15 (lexL_out3 N15) (off3_lex off13) ⟨S', rfl, gg1, gg2, gg3, by omega, ?_⟩)
        rw [List.take_add_one, List.getElem?_eq_getElem hq, List.map_append]
        exact strsAre_app hY _ _
      case done4 =>
        intro D4 h13 tk13 ys nw hq33 F13 N13 o13
        first | (refine x0_7 hq33 ?_; intro S hq34 hS1 hS2 hS3 hS4 hY) | (refine x1_6 hq33 ?_; intro S hq34 hS1 hS2 hS3 hS4 hY) | (refine x2_5 hq33 ?_; intro S hq34 hS1 hS2 hS3 hS4 hY) | (refine x3_4 hq33 ?_; intro S hq34 hS1 hS2 hS3 hS4 hY) | (refine x4_3 hq33 ?_; intro S hq34 hS1 hS2 hS3 hS4 hY) | (refine x5_2 hq33 ?_; intro S hq34 hS1 hS2 hS3 hS4 hY) | (refine x6_1 hq33 ?_; intro S hq34 hS1 hS2 hS3 hS4 hY) | obtain ⟨S, hq34, hS1, hS2, hS3, hS4, hY⟩ := hq33
        try clear hq33
        obtain rfl := hq34
        rw [List.take_length] at hY
        rw [List.drop_length] at hS3
        have hlex := N13
        first | (refine x0_7 S ?_; intro ln tl1 items e pos tlp e2) | (refine x1_6 S ?_; intro ln tl1 items e pos tlp e2) | (refine x2_5 S ?_; intro ln tl1 items e pos tlp e2) | (refine x3_4 S ?_; intro ln tl1 items e pos tlp e2) | (refine x4_3 S ?_; intro ln tl1 items e pos tlp e2) | (refine x5_2 S ?_; intro ln tl1 items e pos tlp e2) | (refine x6_1 S ?_; intro ln tl1 items e pos tlp e2) | obtain ⟨ln, tl1, items, e, pos, tlp, e2⟩ := S
        try clear S
        dsimp only at hS1 hS2 hS3 hS4
        subst hS1
        dsimp only [lexL] at N13
        k_steps
        unfold Halt
        refine ne_dat (news := (D4, lst ys) :: lexL w C ⟨ln, tl1, [], e, pos, tlp, e2⟩ ((L5 + 1 + 1, oS) :: (L5 + 1, oX2) :: (ra, listOf rv.toArray er) :: (da, listOf dv.toArray ed) :: (dnew ++ [(z.1, listOf z.2.toArray 0), (dop, oop)]))) hlex List.mem_cons_self (List.mem_cons_of_mem _ (hraL _)) (strsDat hY) (strsDat hRv) (ok_strs hsys) (by ke_room) ?_
        k_steps
        unfold Halt
        rename Fr g5 L5 _ _ => F14
        have o14 := off1_all o13
        have hO4 : LexO C ((D4, lst ys) :: (L5 + 1 + 1, oS) :: (L5 + 1, oX2) :: (ra, listOf rv.toArray er) :: (da, listOf dv.toArray ed) :: (dnew ++ [(z.1, listOf z.2.toArray 0), (dop, oop)])) := OO.cons (x := (D4, lst ys)) (Ne.symm (o14 (C.d, lexD w C ⟨ln, tl1, [], e, pos, tlp, e2⟩) (List.mem_cons_of_mem _ (List.mem_cons_of_mem _ List.mem_cons_self)))) (Ne.symm (o14 (C.al, listOf #[.int (pos : Int) tlp] e2) (List.mem_cons_of_mem _ (List.mem_cons_of_mem _ (List.mem_cons_of_mem _ (List.mem_cons_of_mem _ (List.mem_cons_of_mem _ (List.mem_cons_of_mem _ (List.mem_cons_of_mem _ List.mem_cons_self))))))))) (Ne.symm (o14 (C.l, listOf #[] e) List.mem_cons_self))
        refine wpAny_call ?_
        refine c_gt (A₀ := callerA) (C := C) (ln := ln) (t1 := tl1) (e := e) (pos := pos) (tp := tlp) (e2 := e2) hR hO4 ⟨B0, F14, X0, lexL_in hlex, T0, C0⟩ (by decide) (by decide) (by omega) hS2 (by rw [hS3]; exact leftT_end _) (Nat.lt_of_le_of_lt hTl (by decide)) ?_
        intro S' t15 h15 tk15 gg1 gg2 gg3 gg4 F15 N15
        have hne0 : (acS [] != Str.ofString "") = false := by decide
        have hl15 := lexL_out N15
        dsimp only [lexL] at N15
        k_steps
        unfold Halt
        rename Fr g5 L5 _ _ => F16
        have hysl : ys.length = sy.length := by have := strsAre_len hY; rwa [List.length_map] at this
        refine' ListComp_G (h₀ := g5) (L := L5) (S := SrcAt g5 D4 ys.toArray) (LI := True) (n := sy.length) (P := fun i v => ys.toArray[i]? = some v) (fun q xs nw => nw = (D4, lst ys) :: lexL w C S' ((L5 + 1 + 1, oS) :: (L5 + 1, oX2) :: (ra, listOf rv.toArray er) :: (da, listOf dv.toArray ed) :: (dnew ++ [(z.1, listOf z.2.toArray 0), (dop, oop)])) ∧ IntsAre xs ((sy.take q).map fun (x : Nat) => (x : Int))) (cl := []) ?cl5 ?cc5 ?ck5 ?cn5 (.inl fun _ _ => rfl) ?si5 ?sz5 (assign_name rfl rfl)
          (nameX_L F16 ?v5 (i3 _ _ _ ⟨rfl, OpenG.listN (by rw [List.size_toArray, hysl]) rfl F16 hl15 (.inr ⟨_, List.mem_cons_self, rfl, _, rfl⟩), rfl, .nil⟩)) ?turn5 ?done5
        case cl5 => with_unfolding_all rfl
        case cc5 => decide
        case ck5 => rfl
        case cn5 => decide
        case v5 => rfl
        case si5 =>
          intro q zs nw hq35
          first | (refine x0_2 hq35 ?_; intro hq36 _) | (refine x1_1 hq35 ?_; intro hq36 _) | obtain ⟨hq36, _⟩ := hq35
          try clear hq35
          obtain rfl := hq36
          exact .inr ⟨_, List.mem_cons_self, rfl, _, rfl⟩
        case sz5 => rw [sizeLine_eq]; omega
        case turn5 =>
          intro q xs nw v I oI C2 oC2 D2 m4 h17 tk17 E5 hq hx14 hv17 hC2 hm4 F17 N17 off17 ne17
          refine opaqG fun KQ hKQ => ?_
          first | (refine x0_2 hx14 ?_; intro hq37 hXs5) | (refine x1_1 hx14 ?_; intro hq37 hXs5) | obtain ⟨hq37, hXs5⟩ := hx14
          try clear hx14
          obtain rfl := hq37
          have hqs : IsSym sy[q] := hsys _ (List.getElem_mem hq)
          first | (refine x0_2 (strsAre_get hY (i := q) (n := acS (rep sy[q])) (by rw [List.getElem?_map, List.getElem?_eq_getElem hq]; rfl)) ?_; intro tw htw) | (refine x1_1 (strsAre_get hY (i := q) (n := acS (rep sy[q])) (by rw [List.getElem?_map, List.getElem?_eq_getElem hq]; rfl)) ?_; intro tw htw) | obtain ⟨tw, htw⟩ := strsAre_get hY (i := q) (n := acS (rep sy[q])) (by rw [List.getElem?_map, List.getElem?_eq_getElem hq]; rfl)
          obtain rfl : v = .str (acS (rep sy[q])) tw := Option.some.inj (hv17.symm.trans (by simpa using htw))
          have hsn : IntsAre xs ((sy.take q).map fun (x : Nat) => (x : Int)) → ∀ t, IntsAre (xs ++ [.int ((sy[q] : Nat) : Int) t]) ((sy.take (q + 1)).map fun (x : Nat) => (x : Int)) := fun h t => by
            rw [List.take_add_one, List.getElem?_eq_getElem hq, List.map_append]
            exact intsAre_app h _ _
          rcases hqs with hs | hs
          · k_steps
            exact hKQ.out _ _ (CompE.mk (by assumption) (by assumption) off17 ⟨rfl, hsn hXs5 _⟩)
          · obtain ⟨f1, f2, f3, f4, f5, f6, f7, f8⟩ := op_facts (opOf_mem hs)
            first | (refine x0_2 (in108 w.params _ (opOf_mem hs)) ?_; intro t0 h108) | (refine x1_1 (in108 w.params _ (opOf_mem hs)) ?_; intro t0 h108) | obtain ⟨t0, h108⟩ := in108 w.params _ (opOf_mem hs)
            k_steps
            unfold Halt
            refine wpAny_call ?_
            refine c_symO (A₀ := callerA) (ops := opOf sy[q]) ⟨B0, F17, X0, N17, T0, C0⟩ (by decide) (by decide) f1 f2 f3 f4 f5 f6 f7 f8 h108 ?_
            intro h18 tk18 F18 N18
            exact hKQ.out _ _ (CompE.mk F18 N18 off17 ⟨rfl, hsn hXs5 _⟩)
        case done5 =>
          intro D5 h17 tk17 xs nw hq38 F17 N17 o17
          first | (refine x0_2 hq38 ?_; intro hq39 hXs5) | (refine x1_1 hq38 ?_; intro hq39 hXs5) | obtain ⟨hq39, hXs5⟩ := hq38
          try clear hq38
          obtain rfl := hq39
          rw [List.take_length] at hXs5
          have y1 : @Ne Nat (L5 + 1 + 1) D5 := off1_all o17 (L5 + 1 + 1, oS) (List.mem_cons_of_mem _ (by dsimp only [lexL]; k_mem))
          have y2 : @Ne Nat (L5 + 1 + 1) D4 := o14 (L5 + 1 + 1, oS) (by dsimp only [lexL]; k_mem)
          dsimp only [lexL] at N17
          k_steps
          unfold Halt
          rename Fr g5 L5 _ _ => F18
          rename News g5 L5 _ _ => N18
          have F18m := frExt (m' := lmW (some (.ref sa)) (some (.ref dop)) (some (.ref da)) (some (.ref ra)) xv vv bv sv (some (.str (acS (txtF 0 sy)) tt)) kv (some (.ref D4)) none none) F18 (ext2 (Str.ofString "words") (Str.ofString "words") rfl rfl (fun y h1 _ => by simp only [lmW, if_neg h1]))
          clear F18
          first | (refine x0_2 (newsCell2 (C := C) (w := w) (S := S') N18) ?_; intro oS2 hq40) | (refine x1_1 (newsCell2 (C := C) (w := w) (S := S') N18) ?_; intro oS2 hq40) | obtain ⟨oS2, hq40⟩ := newsCell2 (C := C) (w := w) (S := S') N18
          obtain rfl := hq40
          rename oS2.data = _ => hoS2
          have hrl5 := rsOf_len ns
          have hxsl : xs.length = 3 * (rsOf ns).length := by
            have h1 := hXs5.length
            rw [List.length_map] at h1
            rw [h1, hsy, symsR_len]
          have hxsz : xs.toArray.size = 3 * (rsOf ns).length := by rw [List.size_toArray, hxsl]
          have hb5 : (D5, listOf xs.toArray xs.length) ∈ (D5, lst xs) :: (D4, lst ys) :: lexL w C S' ((L5 + 1 + 1, oS2) :: (L5 + 1, oX2) :: (ra, listOf rv.toArray er) :: (da, listOf dv.toArray ed) :: (dnew ++ [(z.1, listOf z.2.toArray 0), (dop, oop)])) := List.mem_cons_self
          refine' Assign_ListComp_G (h₀ := g5) (L := L5) (m := lmW (some (.ref sa)) (some (.ref dop)) (some (.ref da)) (some (.ref ra)) xv vv bv sv (some (.str (acS (txtF 0 sy)) tt)) kv (some (.ref D4)) none none) (S := fun _ => True) (LI := False) (n := (rsOf ns).length) (P := fun i v => ∃ t, v = .int ((3 * i : Nat) : Int) t) (fun q zs nw => ∃ tn, nw = (D5, lst xs) :: (D4, lst ys) :: lexL w C S' ((L5 + 1 + 1, oS2) :: (L5 + 1, oX2) :: (ra, listOf rv.toArray er) :: (da, listOf dv.toArray ed) :: (tn ++ (dnew ++ [(z.1, listOf z.2.toArray 0), (dop, oop)]))) ∧ RsAre tn zs ((rsOf ns).take q) ∧ ∀ p ∈ tn, p.1 ≠ C.d ∧ p.1 ≠ C.al ∧ p.1 ≠ C.l) (cl := [(Str.ofString "symbols", L5 + 1 + 1)]) rfl ?sw6 ?cl6 ?cc6 ?ck6 ?cn6 ?hy6 ?hp6 (.inl fun _ _ => rfl) (fun _ _ _ _ => trivial) ?sz6 (assign_name rfl rfl)
            ?src6 ?turn6 ?done6
          case sw6 => rfl
          case cl6 => with_unfolding_all rfl
          case cc6 => decide
          case ck6 => rfl
          case cn6 => decide
          case hy6 => rfl
          case hp6 => rfl
          case sz6 => rw [sizeLine_eq]; omega
          case src6 =>
            k_steps
            unfold Halt
            rename Fr g5 L5 _ _ => F19
            rename News g5 L5 _ _ => N19
            rename IsRange _ _ _ _ _ _ _ _ => hr19
            rw [hxsz] at hr19
            exact (i3 _ _ _ ⟨rfl, OpenG.range3 hrl5 rfl F19 N19 hr19, [], rfl, .nil, fun _ h => nomatch h⟩)
          case turn6 =>
            intro q zs nw v I oI C2 oC2 D2 m4 h19 tk19 E6 hq hx14 hx15 hC2 hm4 F19 N19 off19 ne19
            refine opaqG fun KQ hKQ => ?_
            first | (refine x0_4 hx14 ?_; intro tn hq41 hRs htn) | (refine x1_3 hx14 ?_; intro tn hq41 hRs htn) | (refine x2_2 hx14 ?_; intro tn hq41 hRs htn) | (refine x3_1 hx14 ?_; intro tn hq41 hRs htn) | obtain ⟨tn, hq41, hRs, htn⟩ := hx14
            try clear hx14
            obtain rfl := hq41
            first | (refine x0_2 hx15 ?_; intro u hq42) | (refine x1_1 hx15 ?_; intro u hq42) | obtain ⟨u, hq42⟩ := hx15
            try clear hx15
            obtain rfl := hq42
            first | (refine x0_2 (intsAre_get hXs5 (i := 3 * q) (n := (((rsOf ns)[q].1 : Nat) : Int)) (by rw [List.getElem?_map, hsy, sy_head hq]; rfl)) ?_; intro tx0 hx0) | (refine x1_1 (intsAre_get hXs5 (i := 3 * q) (n := (((rsOf ns)[q].1 : Nat) : Int)) (by rw [List.getElem?_map, hsy, sy_head hq]; rfl)) ?_; intro tx0 hx0) | obtain ⟨tx0, hx0⟩ := intsAre_get hXs5 (i := 3 * q) (n := (((rsOf ns)[q].1 : Nat) : Int)) (by rw [List.getElem?_map, hsy, sy_head hq]; rfl)
            have hlex19 := N19
            dsimp only [lexL] at N19
            k_steps
            rename Fr g5 L5 _ _ => F20
            rename News g5 L5 _ _ => N20
            first | (refine x0_4 (newsAt2 N20) ?_; intro tt6 tb6 hq43 hq44) | (refine x1_3 (newsAt2 N20) ?_; intro tt6 tb6 hq43 hq44) | (refine x2_2 (newsAt2 N20) ?_; intro tt6 tb6 hq43 hq44) | (refine x3_1 (newsAt2 N20) ?_; intro tt6 tb6 hq43 hq44) | obtain ⟨tt6, tb6, hq43, hq44⟩ := newsAt2 N20
            obtain rfl := hq43
            obtain rfl := hq44
            rename IntsAre _ (List.take _ (List.drop _ _)) => hW
            first | (refine x0_3 (body_of hsy hq hW) ?_; intro t1' t2' hq45) | (refine x1_2 (body_of hsy hq hW) ?_; intro t1' t2' hq45) | (refine x2_1 (body_of hsy hq hW) ?_; intro t1' t2' hq45) | obtain ⟨t1', t2', hq45⟩ := body_of hsy hq hW
            obtain rfl := hq45
            rename tb6 < tt6 ∧ _ => lT
            rename I < tb6 ∧ _ => lB
            first | (refine x1_14 (id lT) ?_; intro _ lT1 lT2 lT3 _ _ lT4 _ lT5 _ _ _ _ lT6 _) | (refine x2_13 (id lT) ?_; intro _ lT1 lT2 lT3 _ _ lT4 _ lT5 _ _ _ _ lT6 _) | (refine x3_12 (id lT) ?_; intro _ lT1 lT2 lT3 _ _ lT4 _ lT5 _ _ _ _ lT6 _) | (refine x4_11 (id lT) ?_; intro _ lT1 lT2 lT3 _ _ lT4 _ lT5 _ _ _ _ lT6 _) | (refine x5_10 (id lT) ?_; intro _ lT1 lT2 lT3 _ _ lT4 _ lT5 _ _ _ _ lT6 _) | (refine x6_9 (id lT) ?_; intro _ lT1 lT2 lT3 _ _ lT4 _ lT5 _ _ _ _ lT6 _) | (refine x7_8 (id lT) ?_; intro _ lT1 lT2 lT3 _ _ lT4 _ lT5 _ _ _ _ lT6 _) | (refine x8_7 (id lT) ?_; intro _ lT1 lT2 lT3 _ _ lT4 _ lT5 _ _ _ _ lT6 _) | (refine x9_6 (id lT) ?_; intro _ lT1 lT2 lT3 _ _ lT4 _ lT5 _ _ _ _ lT6 _) | (refine x10_5 (id lT) ?_; intro _ lT1 lT2 lT3 _ _ lT4 _ lT5 _ _ _ _ lT6 _) | obtain ⟨_, lT1, lT2, lT3, _, _, lT4, _, lT5, _, _, _, _, lT6, _⟩ := id lT
            first | (refine x0_14 (id lB) ?_; intro lB1 lB2 lB3 _ _ lB4 _ lB5 _ _ _ _ lB6 _) | (refine x1_13 (id lB) ?_; intro lB1 lB2 lB3 _ _ lB4 _ lB5 _ _ _ _ lB6 _) | (refine x2_12 (id lB) ?_; intro lB1 lB2 lB3 _ _ lB4 _ lB5 _ _ _ _ lB6 _) | (refine x3_11 (id lB) ?_; intro lB1 lB2 lB3 _ _ lB4 _ lB5 _ _ _ _ lB6 _) | (refine x4_10 (id lB) ?_; intro lB1 lB2 lB3 _ _ lB4 _ lB5 _ _ _ _ lB6 _) | (refine x5_9 (id lB) ?_; intro lB1 lB2 lB3 _ _ lB4 _ lB5 _ _ _ _ lB6 _) | (refine x6_8 (id lB) ?_; intro lB1 lB2 lB3 _ _ lB4 _ lB5 _ _ _ _ lB6 _) | (refine x7_7 (id lB) ?_; intro lB1 lB2 lB3 _ _ lB4 _ lB5 _ _ _ _ lB6 _) | (refine x8_6 (id lB) ?_; intro lB1 lB2 lB3 _ _ lB4 _ lB5 _ _ _ _ lB6 _) | (refine x9_5 (id lB) ?_; intro lB1 lB2 lB3 _ _ lB4 _ lB5 _ _ _ _ lB6 _) | (refine x10_4 (id lB) ?_; intro lB1 lB2 lB3 _ _ lB4 _ lB5 _ _ _ _ lB6 _) | obtain ⟨lB1, lB2, lB3, _, _, lB4, _, lB5, _, _, _, _, lB6, _⟩ := id lB
            have N21 : News g5 L5 _ ((I, oI) :: (C2, oC2) :: (D2, lst zs) :: (D5, lst xs) :: (D4, lst ys) :: lexL w C S' ((L5 + 1 + 1, oS2) :: (L5 + 1, oX2) :: (ra, listOf rv.toArray er) :: (da, listOf dv.toArray ed) :: ((tt6, ({ cls := .type "tuple", data := .seq #[.int (((rsOf ns)[q].1 : Nat) : Int) tx0, .ref tb6] } : Obj)) :: (tb6, listOf [.int (((rsOf ns)[q].2.1 : Nat) : Int) t1', .int (((rsOf ns)[q].2.2 : Nat) : Int) t2'].toArray 0) :: tn ++ (dnew ++ [(z.1, listOf z.2.toArray 0), (dop, oop)])))) := fun p hp => N20 p (by
              rcases List.mem_cons.mp hp with h | hp
              · rw [h]; exact List.mem_cons_of_mem _ (List.mem_cons_of_mem _ List.mem_cons_self)
              rcases List.mem_cons.mp hp with h | hp
              · rw [h]; exact List.mem_cons_of_mem _ (List.mem_cons_of_mem _ (List.mem_cons_of_mem _ List.mem_cons_self))
              rcases List.mem_cons.mp hp with h | hp
              · rw [h]; exact List.mem_cons_of_mem _ (List.mem_cons_of_mem _ (List.mem_cons_of_mem _ (List.mem_cons_of_mem _ List.mem_cons_self)))
              rcases memT hp with h | h | h
              · rw [h]; exact List.mem_cons_self
              · rw [h]; exact List.mem_cons_of_mem _ List.mem_cons_self
              · exact List.mem_cons_of_mem _ (List.mem_cons_of_mem _ (List.mem_cons_of_mem _ (List.mem_cons_of_mem _ (List.mem_cons_of_mem _ h)))))
            have off21 : Off3 I C2 D2 ((D5, lst xs) :: (D4, lst ys) :: lexL w C S' ((L5 + 1 + 1, oS2) :: (L5 + 1, oX2) :: (ra, listOf rv.toArray er) :: (da, listOf dv.toArray ed) :: ((tt6, ({ cls := .type "tuple", data := .seq #[.int (((rsOf ns)[q].1 : Nat) : Int) tx0, .ref tb6] } : Obj)) :: (tb6, listOf [.int (((rsOf ns)[q].2.1 : Nat) : Int) t1', .int (((rsOf ns)[q].2.2 : Nat) : Int) t2'].toArray 0) :: tn ++ (dnew ++ [(z.1, listOf z.2.toArray 0), (dop, oop)])))) := off3_mk fun p hp => by
              rcases memT hp with h | h | h
              · rw [h]; exact ⟨Nat.ne_of_gt lT1, Nat.ne_of_gt lT2, Nat.ne_of_gt lT3⟩
              · rw [h]; exact ⟨Nat.ne_of_gt lB1, Nat.ne_of_gt lB2, Nat.ne_of_gt lB3⟩
              · exact off3_all off19 p h
            refine hKQ.out _ _ (CompE.mk F20 N21 off21 ⟨_, rfl, ?_, ?_⟩)
            · rw [List.take_add_one, List.getElem?_eq_getElem hq]
              exact (hRs.mono fun p hp => List.mem_cons_of_mem _ (List.mem_cons_of_mem _ hp)).app (i6 tt6 tb6 tx0 t1' t2' 0 ⟨rfl, List.mem_cons_self, List.mem_cons_of_mem _ List.mem_cons_self⟩)
            · exact List.forall_mem_cons.mpr ⟨⟨Nat.ne_of_gt lT5, Nat.ne_of_gt lT6, Nat.ne_of_gt lT4⟩, List.forall_mem_cons.mpr ⟨⟨Nat.ne_of_gt lB5, Nat.ne_of_gt lB6, Nat.ne_of_gt lB4⟩, htn⟩⟩
          case done6 =>
            intro D6 h19 tk19 zs nw hq46 F19 N19 o19
            first | (refine x0_4 hq46 ?_; intro tn hq47 hRs htn) | (refine x1_3 hq46 ?_; intro tn hq47 hRs htn) | (refine x2_2 hq46 ?_; intro tn hq47 hRs htn) | (refine x3_1 hq46 ?_; intro tn hq47 hRs htn) | obtain ⟨tn, hq47, hRs, htn⟩ := hq46
            try clear hq46
            obtain rfl := hq47
            rw [List.take_length] at hRs
            have hlex19 := N19
            have hxda : ∀ p ∈ dnew, p ∈ (D6, lst zs) :: (D5, lst xs) :: (D4, lst ys) :: lexL w C S' ((L5 + 1 + 1, oS2) :: (L5 + 1, oX2) :: (ra, listOf rv.toArray er) :: (da, listOf dv.toArray ed) :: (tn ++ (dnew ++ [(z.1, listOf z.2.toArray 0), (dop, oop)]))) := fun p hp => List.mem_cons_of_mem _ (List.mem_cons_of_mem _ (List.mem_cons_of_mem _ (List.mem_append_right [_, _, _, _, _, _, _, _, _, _] (List.mem_cons_of_mem _ (List.mem_cons_of_mem _ (List.mem_cons_of_mem _ (List.mem_cons_of_mem _ (List.mem_append_right _ (List.mem_append_left _ hp)))))))))
            have hxtn : ∀ p ∈ tn, p ∈ (D6, lst zs) :: (D5, lst xs) :: (D4, lst ys) :: lexL w C S' ((L5 + 1 + 1, oS2) :: (L5 + 1, oX2) :: (ra, listOf rv.toArray er) :: (da, listOf dv.toArray ed) :: (tn ++ (dnew ++ [(z.1, listOf z.2.toArray 0), (dop, oop)]))) := fun p hp => List.mem_cons_of_mem _ (List.mem_cons_of_mem _ (List.mem_cons_of_mem _ (List.mem_append_right [_, _, _, _, _, _, _, _, _, _] (List.mem_cons_of_mem _ (List.mem_cons_of_mem _ (List.mem_cons_of_mem _ (List.mem_cons_of_mem _ (List.mem_append_left _ hp))))))))
            have hmda : (da, listOf dv.toArray ed) ∈ (D6, lst zs) :: (D5, lst xs) :: (D4, lst ys) :: lexL w C S' ((L5 + 1 + 1, oS2) :: (L5 + 1, oX2) :: (ra, listOf rv.toArray er) :: (da, listOf dv.toArray ed) :: (tn ++ (dnew ++ [(z.1, listOf z.2.toArray 0), (dop, oop)]))) := List.mem_cons_of_mem _ (List.mem_cons_of_mem _ (List.mem_cons_of_mem _ (List.mem_append_right [_, _, _, _, _, _, _, _, _, _] (by k_mem))))
            dsimp only [lexL] at N19
            k_steps
            unfold Halt
            refine ne_dat (news := (D6, lst zs) :: (D5, lst xs) :: (D4, lst ys) :: lexL w C S' ((L5 + 1 + 1, oS2) :: (L5 + 1, oX2) :: (ra, listOf rv.toArray er) :: (da, listOf dv.toArray ed) :: (tn ++ (dnew ++ [(z.1, listOf z.2.toArray 0), (dop, oop)])))) hlex19 List.mem_cons_self hmda (rulesDat (hRs.mono hxtn)) (rulesDat (hDv.mono hxda)) ok_rules (by ke_room) ?_
            k_steps
            unfold Halt
            rename Fr g5 L5 _ _ => F20
            have hO6 : LexO C ((L5 + 1 + 1, oS2) :: (L5 + 1, oX2) :: (ra, listOf rv.toArray er) :: (da, listOf dv.toArray ed) :: (tn ++ (dnew ++ [(z.1, listOf z.2.toArray 0), (dop, oop)]))) := by
              first | (refine x0_12 OO ?_; intro q1 q2 q3 q4 q5 q6 q7 q8 q9 nd nal nl) | (refine x1_11 OO ?_; intro q1 q2 q3 q4 q5 q6 q7 q8 q9 nd nal nl) | (refine x2_10 OO ?_; intro q1 q2 q3 q4 q5 q6 q7 q8 q9 nd nal nl) | (refine x3_9 OO ?_; intro q1 q2 q3 q4 q5 q6 q7 q8 q9 nd nal nl) | (refine x4_8 OO ?_; intro q1 q2 q3 q4 q5 q6 q7 q8 q9 nd nal nl) | (refine x5_7 OO ?_; intro q1 q2 q3 q4 q5 q6 q7 q8 q9 nd nal nl) | (refine x6_6 OO ?_; intro q1 q2 q3 q4 q5 q6 q7 q8 q9 nd nal nl) | (refine x7_5 OO ?_; intro q1 q2 q3 q4 q5 q6 q7 q8 q9 nd nal nl) | (refine x8_4 OO ?_; intro q1 q2 q3 q4 q5 q6 q7 q8 q9 nd nal nl) | (refine x9_3 OO ?_; intro q1 q2 q3 q4 q5 q6 q7 q8 q9 nd nal nl) | (refine x10_2 OO ?_; intro q1 q2 q3 q4 q5 q6 q7 q8 q9 nd nal nl) | obtain ⟨q1, q2, q3, q4, q5, q6, q7, q8, q9, nd, nal, nl⟩ := OO
              try clear OO
              simp only [List.forall_mem_cons] at nd nal nl
              first | (refine x0_5 nd ?_; intro d1 d2 d3 d4 d5) | (refine x1_4 nd ?_; intro d1 d2 d3 d4 d5) | (refine x2_3 nd ?_; intro d1 d2 d3 d4 d5) | (refine x3_2 nd ?_; intro d1 d2 d3 d4 d5) | (refine x4_1 nd ?_; intro d1 d2 d3 d4 d5) | obtain ⟨d1, d2, d3, d4, d5⟩ := nd
              try clear nd
              first | (refine x0_5 nal ?_; intro l1 l2 l3 l4 l5) | (refine x1_4 nal ?_; intro l1 l2 l3 l4 l5) | (refine x2_3 nal ?_; intro l1 l2 l3 l4 l5) | (refine x3_2 nal ?_; intro l1 l2 l3 l4 l5) | (refine x4_1 nal ?_; intro l1 l2 l3 l4 l5) | obtain ⟨l1, l2, l3, l4, l5⟩ := nal
              try clear nal
              first | (refine x0_5 nl ?_; intro m1 m2 m3 m4 m5) | (refine x1_4 nl ?_; intro m1 m2 m3 m4 m5) | (refine x2_3 nl ?_; intro m1 m2 m3 m4 m5) | (refine x3_2 nl ?_; intro m1 m2 m3 m4 m5) | (refine x4_1 nl ?_; intro m1 m2 m3 m4 m5) | obtain ⟨m1, m2, m3, m4, m5⟩ := nl
              try clear nl
              exact ⟨q1, q2, q3, q4, q5, q6, q7, q8, q9, allCons d1 (allCons d2 (allCons d3 (allCons d4 (List.forall_mem_append.mpr ⟨fun p hp => (htn p hp).1, d5⟩)))), allCons l1 (allCons l2 (allCons l3 (allCons l4 (List.forall_mem_append.mpr ⟨fun p hp => (htn p hp).2.1, l5⟩)))), allCons m1 (allCons m2 (allCons m3 (allCons m4 (List.forall_mem_append.mpr ⟨fun p hp => (htn p hp).2.2, m5⟩))))⟩
            have e4 := offL_all o14
            have e5 := offL_all (fun p hp => off1_all o17 p (List.mem_cons_of_mem _ hp))
            have e6 := offL_all (fun p hp => off1_all o19 p (List.mem_cons_of_mem _ (List.mem_cons_of_mem _ hp)))
            have hO7 : LexO C ((D6, lst zs) :: (D5, lst xs) :: (D4, lst ys) :: ((L5 + 1 + 1, oS2) :: (L5 + 1, oX2) :: (ra, listOf rv.toArray er) :: (da, listOf dv.toArray ed) :: (tn ++ (dnew ++ [(z.1, listOf z.2.toArray 0), (dop, oop)])))) := ((hO6.cons (x := (D4, lst ys)) (Ne.symm e4.2.2.1) (Ne.symm e4.2.2.2.2.2.2.2.1) (Ne.symm e4.1)).cons (x := (D5, lst xs)) (Ne.symm e5.2.2.1) (Ne.symm e5.2.2.2.2.2.2.2.1) (Ne.symm e5.1)).cons (x := (D6, lst zs)) (Ne.symm e6.2.2.1) (Ne.symm e6.2.2.2.2.2.2.2.1) (Ne.symm e6.1)
            have hRu : RulesAt ((D6, lst zs) :: (D5, lst xs) :: (D4, lst ys) :: ((L5 + 1 + 1, oS2) :: (L5 + 1, oX2) :: (ra, listOf rv.toArray er) :: (da, listOf dv.toArray ed) :: (tn ++ (dnew ++ [(z.1, listOf z.2.toArray 0), (dop, oop)])))) D6 (rsOf ns) := (hRs.mono fun p hp => List.mem_cons_of_mem _ (List.mem_cons_of_mem _ (List.mem_cons_of_mem _ (List.mem_cons_of_mem _ (List.mem_cons_of_mem _ (List.mem_cons_of_mem _ (List.mem_cons_of_mem _ (List.mem_append_left _ hp)))))))).at List.mem_cons_self
            have hdl5 : ((acS (txtF 0 sy)).cps.toList.drop pos).length ≤ 2000 := by
              rw [hT0, List.length_drop]
              exact Nat.le_trans (Nat.sub_le _ _) hTl
            refine wpAny_call ?_
            refine c_line (A₀ := callerA) (C := C) (S := S') (T := acS (txtF 0 sy)) hR hO7 ⟨B0, F20, X0, lexL_in3 hlex19, T0, C0⟩ (by decide) (by decide) hRu (rsOf_nt ns) hrl5 gg1 (by omega) gg2 gg3 (Nat.lt_of_le_of_lt hTl (by decide)) ?_
            intro dc camev ec cnew S3 h20 tk20 v1 v2 v3 v4 F21 N21 O21 hCam
            have hlex21 := N21
            have hBase := hsT_base (rsOf_nt ns) 4
            dsimp only [lexL] at N21
            k_steps
            unfold Halt
            rename Fr g5 L5 _ _ => F22
            rename News g5 L5 _ _ => hlex21
            refine wpAny_call ?_
            refine c_due (A₀ := callerA) (news := lexL w C S3 ((dc, listOf camev.toArray ec) :: (cnew ++ (D6, lst zs) :: (D5, lst xs) :: (D4, lst ys) :: ((L5 + 1 + 1, oS2) :: (L5 + 1, oX2) :: (ra, listOf rv.toArray er) :: (da, listOf dv.toArray ed) :: (tn ++ (dnew ++ [(z.1, listOf z.2.toArray 0), (dop, oop)])))))) (hs := hsT (rsOf ns) 4) (camev := camev) (ec := ec) ⟨B0, F22, X0, hlex21, T0, C0⟩ (by decide) (by decide) ((hDv.mono fun p hp => ?mdn).at (e := ed) ?mda) hrl5 (hCam.mono fun p hp => ?mcn) ?mdc hBase.1.nodup hBase.2.1 ?_
            case mdn => exact List.mem_append_right [_, _, _, _, _, _, _, _, _, _] (List.mem_cons_of_mem _ (List.mem_append_right _ (List.mem_cons_of_mem _ (List.mem_cons_of_mem _ (List.mem_cons_of_mem _ (List.mem_cons_of_mem _ (List.mem_cons_of_mem _ (List.mem_cons_of_mem _ (List.mem_cons_of_mem _ (List.mem_append_right _ (List.mem_append_left _ hp)))))))))))
            case mda => exact List.mem_append_right [_, _, _, _, _, _, _, _, _, _] (List.mem_cons_of_mem _ (List.mem_append_right _ (by k_mem)))
            case mcn => exact List.mem_append_right [_, _, _, _, _, _, _, _, _, _] (List.mem_cons_of_mem _ (List.mem_append_left _ hp))
            case mdc => exact List.mem_append_right [_, _, _, _, _, _, _, _, _, _] List.mem_cons_self
            intro dd duev ed2 dnew2 h23 tk23 F23 N23 hDue
            rw [due_map (rsOf_nt ns)] at hDue
            k_steps
            unfold Halt
            have hmc : (dc, listOf camev.toArray ec) ∈ lexL w C S3 ((dc, listOf camev.toArray ec) :: (cnew ++ (D6, lst zs) :: (D5, lst xs) :: (D4, lst ys) :: ((L5 + 1 + 1, oS2) :: (L5 + 1, oX2) :: (ra, listOf rv.toArray er) :: (da, listOf dv.toArray ed) :: (tn ++ (dnew ++ [(z.1, listOf z.2.toArray 0), (dop, oop)]))))) := List.mem_append_right [_, _, _, _, _, _, _, _, _, _] List.mem_cons_self
            have hcn : ∀ p ∈ cnew, p ∈ lexL w C S3 ((dc, listOf camev.toArray ec) :: (cnew ++ (D6, lst zs) :: (D5, lst xs) :: (D4, lst ys) :: ((L5 + 1 + 1, oS2) :: (L5 + 1, oX2) :: (ra, listOf rv.toArray er) :: (da, listOf dv.toArray ed) :: (tn ++ (dnew ++ [(z.1, listOf z.2.toArray 0), (dop, oop)]))))) := fun p hp => List.mem_append_right [_, _, _, _, _, _, _, _, _, _] (List.mem_cons_of_mem _ (List.mem_append_left _ hp))
            refine ne_dat (news := (dd, listOf duev.toArray ed2) :: (dnew2 ++ lexL w C S3 ((dc, listOf camev.toArray ec) :: (cnew ++ (D6, lst zs) :: (D5, lst xs) :: (D4, lst ys) :: ((L5 + 1 + 1, oS2) :: (L5 + 1, oX2) :: (ra, listOf rv.toArray er) :: (da, listOf dv.toArray ed) :: (tn ++ (dnew ++ [(z.1, listOf z.2.toArray 0), (dop, oop)]))))))) N23 (List.mem_cons_of_mem _ (List.mem_append_right _ hmc)) List.mem_cons_self (cameDat (hCam.mono fun p hp => List.mem_cons_of_mem _ (List.mem_append_right _ (hcn p hp)))) (cameDat (hDue.mono fun p hp => List.mem_cons_of_mem _ (List.mem_append_left _ hp))) ok_came (by ke_room) ?_
            have N24 : News g5 L5 h23 (lexL w C S3 ((dc, listOf camev.toArray ec) :: (cnew ++ (D6, lst zs) :: (D5, lst xs) :: (D4, lst ys) :: ((L5 + 1 + 1, oS2) :: (L5 + 1, oX2) :: (ra, listOf rv.toArray er) :: (da, listOf dv.toArray ed) :: (tn ++ (dnew ++ [(z.1, listOf z.2.toArray 0), (dop, oop)])))))) := fun p hp => N23 p (List.mem_cons_of_mem _ (List.mem_append_right _ hp))
            clear N23
            k_steps
            unfold Halt
            rename Fr g5 L5 _ _ => F24
            have hcl2 := hCam.len
            have hhl4 := hBase.2.1
            have hcz : camev.toArray.size = (hsT (rsOf ns) 4).length := by rw [List.size_toArray, hcl2]
            have hlv : ∀ i v, camev.toArray[i]? = some v → ∃ T, v = Value.ref T := fun i v hv => by
              first | (refine x0_2 (Array.getElem?_eq_some_iff.mp hv) ?_; intro hi hq48) | (refine x1_1 (Array.getElem?_eq_some_iff.mp hv) ?_; intro hi hq48) | obtain ⟨hi, hq48⟩ := Array.getElem?_eq_some_iff.mp hv
              obtain rfl := hq48
              have hi' : i < (hsT (rsOf ns) 4).length := by rw [← hcz]; exact hi
              first | (refine x0_6 (hCam.get hi') ?_; intro t tx th k e _) | (refine x1_5 (hCam.get hi') ?_; intro t tx th k e _) | (refine x2_4 (hCam.get hi') ?_; intro t tx th k e _) | (refine x3_3 (hCam.get hi') ?_; intro t tx th k e _) | (refine x4_2 (hCam.get hi') ?_; intro t tx th k e _) | (refine x5_1 (hCam.get hi') ?_; intro t tx th k e _) | obtain ⟨t, tx, th, k, e, _⟩ := hCam.get hi'
              have q : camev.toArray[i]? = some (.ref t) := by simpa using e
              rw [hv] at q
              exact ⟨t, Option.some.inj q⟩
            have hcm7 := hmc
            have hsub7 := hcn
            refine' ListComp_G (h₀ := g5) (L := L5) (S := SrcAt g5 dc camev.toArray) (LI := True) (n := (hsT (rsOf ns) 4).length) (P := fun i v => camev.toArray[i]? = some v) (fun q us nw => nw = lexL w C S3 ((dc, listOf camev.toArray ec) :: (cnew ++ (D6, lst zs) :: (D5, lst xs) :: (D4, lst ys) :: ((L5 + 1 + 1, oS2) :: (L5 + 1, oX2) :: (ra, listOf rv.toArray er) :: (da, listOf dv.toArray ed) :: (tn ++ (dnew ++ [(z.1, listOf z.2.toArray 0), (dop, oop)]))))) ∧ IntsAre us (((hsT (rsOf ns) 4).take q).map fun p => ((p.2 : Nat) : Int))) (cl := []) ?cl7 ?cc7 ?ck7 ?cn7 (.inr ⟨trivial, (i3 _ _ _ rfl), ?lv7⟩) ?si7 ?sz7
              (assign_pair (T := fun i v1 v2 => ∃ hi : i < (hsT (rsOf ns) 4).length, ∃ t1 t2, v1 = .int (((hsT (rsOf ns) 4)[i].2 : Nat) : Int) t1 ∧ v2 = .int (((hsT (rsOf ns) 4)[i].1 : Nat) : Int) t2) rfl rfl rfl rfl (by decide) ?hT7)
              (nameX_L F24 ?v7 (i3 _ _ _ ⟨rfl, OpenG.listN hcz rfl F24 N24 (.inr ⟨listOf camev.toArray ec, hcm7, rfl, _, rfl⟩), rfl, .nil⟩)) ?turn7 ?done7
            case cl7 => with_unfolding_all rfl
            case cc7 => decide
            case ck7 => rfl
            case cn7 => decide
            case lv7 => exact hlv
            case si7 =>
              intro q us nw hq49
              first | (refine x0_2 hq49 ?_; intro hq50 _) | (refine x1_1 hq49 ?_; intro hq50 _) | obtain ⟨hq50, _⟩ := hq49
              try clear hq49
              obtain rfl := hq50
              exact .inr ⟨listOf camev.toArray ec, hcm7, rfl, _, rfl⟩
            case sz7 => rw [sizeLine_eq]; omega
            case hT7 =>
              intro q us v nw hq hv hq51
              first | (refine x0_2 hq51 ?_; intro hq52 _) | (refine x1_1 hq51 ?_; intro hq52 _) | obtain ⟨hq52, _⟩ := hq51
              try clear hq51
              obtain rfl := hq52
              first | (refine x0_6 (hCam.get hq) ?_; intro t tx th k e hm) | (refine x1_5 (hCam.get hq) ?_; intro t tx th k e hm) | (refine x2_4 (hCam.get hq) ?_; intro t tx th k e hm) | (refine x3_3 (hCam.get hq) ?_; intro t tx th k e hm) | (refine x4_2 (hCam.get hq) ?_; intro t tx th k e hm) | (refine x5_1 (hCam.get hq) ?_; intro t tx th k e hm) | obtain ⟨t, tx, th, k, e, hm⟩ := hCam.get hq
              obtain rfl : v = .ref t := Option.some.inj (hv.symm.trans (by simpa using e))
              exact (i5 t _ _ _ _ ⟨rfl, (i3 hq th tx ⟨rfl, rfl⟩), hsub7 _ hm, rfl, rfl⟩)
            case v7 => rfl
            case turn7 =>
              intro q us nw v I oI C2 oC2 E2 m4 hh tk E3 hq hx14 hv hC2 hx17 FF NN offf nee
              refine opaqG fun KQ hKQ => ?_
              first | (refine x0_2 hx14 ?_; intro hq53 hU) | (refine x1_1 hx14 ?_; intro hq53 hU) | obtain ⟨hq53, hU⟩ := hx14
              try clear hx14
              obtain rfl := hq53
              first | (refine x0_5 hx17 ?_; intro v1' v2' hq54 hm1 hm2') | (refine x1_4 hx17 ?_; intro v1' v2' hq54 hm1 hm2') | (refine x2_3 hx17 ?_; intro v1' v2' hq54 hm1 hm2') | (refine x3_2 hx17 ?_; intro v1' v2' hq54 hm1 hm2') | (refine x4_1 hx17 ?_; intro v1' v2' hq54 hm1 hm2') | obtain ⟨v1', v2', hq54, hm1, hm2'⟩ := hx17
              try clear hx17
              first | (refine x0_5 hq54 ?_; intro hq' t1' t2' hq55 hq56) | (refine x1_4 hq54 ?_; intro hq' t1' t2' hq55 hq56) | (refine x2_3 hq54 ?_; intro hq' t1' t2' hq55 hq56) | (refine x3_2 hq54 ?_; intro hq' t1' t2' hq55 hq56) | (refine x4_1 hq54 ?_; intro hq' t1' t2' hq55 hq56) | obtain ⟨hq', t1', t2', hq55, hq56⟩ := hq54
              try clear hq54
              obtain rfl := hq55
              obtain rfl := hq56
              k_steps
              exact hKQ.out _ _ (CompE.mk (by assumption) (by assumption) offf ⟨rfl, by rw [List.take_add_one, List.getElem?_eq_getElem hq, List.map_append]; exact intsAre_app hU _ _⟩)
            case done7 =>
              intro D7 h25 tk25 us7 nw hq57 F25 N25 o25
              first | (refine x0_2 hq57 ?_; intro hq58 hU7) | (refine x1_1 hq57 ?_; intro hq58 hU7) | obtain ⟨hq58, hU7⟩ := hq57
              try clear hq57
              obtain rfl := hq58
              rw [List.take_length] at hU7
              have hU7' := hU7
              clear hU7
              k_steps
              unfold Halt
              rename Fr g5 L5 _ _ => F26
              have hcm8 : (dc, listOf camev.toArray ec) ∈ (D7, lst us7) :: lexL w C S3 ((dc, listOf camev.toArray ec) :: (cnew ++ (D6, lst zs) :: (D5, lst xs) :: (D4, lst ys) :: ((L5 + 1 + 1, oS2) :: (L5 + 1, oX2) :: (ra, listOf rv.toArray er) :: (da, listOf dv.toArray ed) :: (tn ++ (dnew ++ [(z.1, listOf z.2.toArray 0), (dop, oop)]))))) := List.mem_cons_of_mem _ hmc
              have hsub8 : ∀ p ∈ cnew, p ∈ (D7, lst us7) :: lexL w C S3 ((dc, listOf camev.toArray ec) :: (cnew ++ (D6, lst zs) :: (D5, lst xs) :: (D4, lst ys) :: ((L5 + 1 + 1, oS2) :: (L5 + 1, oX2) :: (ra, listOf rv.toArray er) :: (da, listOf dv.toArray ed) :: (tn ++ (dnew ++ [(z.1, listOf z.2.toArray 0), (dop, oop)]))))) := fun p hp => List.mem_cons_of_mem _ (hcn p hp)
              refine' ListComp_G (h₀ := g5) (L := L5) (S := SrcAt g5 dc camev.toArray) (LI := True) (n := (hsT (rsOf ns) 4).length) (P := fun i v => camev.toArray[i]? = some v) (fun q us nw => nw = (D7, lst us7) :: lexL w C S3 ((dc, listOf camev.toArray ec) :: (cnew ++ (D6, lst zs) :: (D5, lst xs) :: (D4, lst ys) :: ((L5 + 1 + 1, oS2) :: (L5 + 1, oX2) :: (ra, listOf rv.toArray er) :: (da, listOf dv.toArray ed) :: (tn ++ (dnew ++ [(z.1, listOf z.2.toArray 0), (dop, oop)]))))) ∧ IntsAre us (((hsT (rsOf ns) 4).take q).map fun p => ((p.2 : Nat) : Int))) (cl := []) ?cl8 ?cc8 ?ck8 ?cn8 (.inr ⟨trivial, (i3 _ _ _ rfl), ?lv8⟩) ?si8 ?sz8
                (assign_pair (T := fun i v1 v2 => ∃ hi : i < (hsT (rsOf ns) 4).length, ∃ t1 t2, v1 = .int (((hsT (rsOf ns) 4)[i].2 : Nat) : Int) t1 ∧ v2 = .int (((hsT (rsOf ns) 4)[i].1 : Nat) : Int) t2) rfl rfl rfl rfl (by decide) ?hT8)
                (nameX_L F26 ?v8 (i3 _ _ _ ⟨rfl, OpenG.listN hcz rfl F26 N25 (.inr ⟨listOf camev.toArray ec, hcm8, rfl, _, rfl⟩), rfl, .nil⟩)) ?turn8 ?done8
              case cl8 => with_unfolding_all rfl
              case cc8 => decide
              case ck8 => rfl
              case cn8 => decide
              case lv8 => exact hlv
              case si8 =>
                intro q us nw hq59
                first | (refine x0_2 hq59 ?_; intro hq60 _) | (refine x1_1 hq59 ?_; intro hq60 _) | obtain ⟨hq60, _⟩ := hq59
                try clear hq59
                obtain rfl := hq60
                exact .inr ⟨listOf camev.toArray ec, hcm8, rfl, _, rfl⟩
              case sz8 => rw [sizeLine_eq]; omega
              case hT8 =>
                intro q us v nw hq hv hq61
                first | (refine x0_2 hq61 ?_; intro hq62 _) | (refine x1_1 hq61 ?_; intro hq62 _) | obtain ⟨hq62, _⟩ := hq61
                try clear hq61
                obtain rfl := hq62
                first | (refine x0_6 (hCam.get hq) ?_; intro t tx th k e hm) | (refine x1_5 (hCam.get hq) ?_; intro t tx th k e hm) | (refine x2_4 (hCam.get hq) ?_; intro t tx th k e hm) | (refine x3_3 (hCam.get hq) ?_; intro t tx th k e hm) | (refine x4_2 (hCam.get hq) ?_; intro t tx th k e hm) | (refine x5_1 (hCam.get hq) ?_; intro t tx th k e hm) | obtain ⟨t, tx, th, k, e, hm⟩ := hCam.get hq
                obtain rfl : v = .ref t := Option.some.inj (hv.symm.trans (by simpa using e))
                exact (i5 t _ _ _ _ ⟨rfl, (i3 hq th tx ⟨rfl, rfl⟩), hsub8 _ hm, rfl, rfl⟩)
              case v8 => rfl
              case turn8 =>
                intro q us nw v I oI C2 oC2 E2 m4 hh tk E3 hq hx14 hv hC2 hx17 FF NN offf nee
                refine opaqG fun KQ hKQ => ?_
                first | (refine x0_2 hx14 ?_; intro hq63 hU) | (refine x1_1 hx14 ?_; intro hq63 hU) | obtain ⟨hq63, hU⟩ := hx14
                try clear hx14
                obtain rfl := hq63
                first | (refine x0_5 hx17 ?_; intro v1' v2' hq64 hm1 hm2') | (refine x1_4 hx17 ?_; intro v1' v2' hq64 hm1 hm2') | (refine x2_3 hx17 ?_; intro v1' v2' hq64 hm1 hm2') | (refine x3_2 hx17 ?_; intro v1' v2' hq64 hm1 hm2') | (refine x4_1 hx17 ?_; intro v1' v2' hq64 hm1 hm2') | obtain ⟨v1', v2', hq64, hm1, hm2'⟩ := hx17
                try clear hx17
                first | (refine x0_5 hq64 ?_; intro hq' t1' t2' hq65 hq66) | (refine x1_4 hq64 ?_; intro hq' t1' t2' hq65 hq66) | (refine x2_3 hq64 ?_; intro hq' t1' t2' hq65 hq66) | (refine x3_2 hq64 ?_; intro hq' t1' t2' hq65 hq66) | (refine x4_1 hq64 ?_; intro hq' t1' t2' hq65 hq66) | obtain ⟨hq', t1', t2', hq65, hq66⟩ := hq64
                try clear hq64
                obtain rfl := hq65
                obtain rfl := hq66
                k_steps
                exact hKQ.out _ _ (CompE.mk (by assumption) (by assumption) offf ⟨rfl, by rw [List.take_add_one, List.getElem?_eq_getElem hq, List.map_append]; exact intsAre_app hU _ _⟩)
              case done8 =>
                intro D8 h27 tk27 us8 nw hq67 F27 N27 o27
                first | (refine x0_2 hq67 ?_; intro hq68 hU8) | (refine x1_1 hq67 ?_; intro hq68 hU8) | obtain ⟨hq68, hU8⟩ := hq67
                try clear hq67
                obtain rfl := hq68
                rw [List.take_length] at hU8
                have hl8 : ((hsT (rsOf ns) 4).map fun p => ((p.2 : Nat) : Int)).length ≤ 4 := by rw [List.length_map]; exact hhl4
                k_steps
                unfold Halt
                rename News g5 L5 _ _ => N28'
                rename List.Perm _ _ => hp8
                rename List.Pairwise _ _ => hw8
                rename IntsAre _ _ => hI8
                rename Fr g5 L5 _ _ => F28'
                refine ne_ints N28' (List.mem_cons_of_mem _ (List.mem_cons_of_mem _ List.mem_cons_self)) List.mem_cons_self hU7' hI8 (pair_sorted hp8 hw8 (heights_sorted hBase.1)).symm (by ke_room) ?_
                have N28 : News g5 L5 _ (lexL w C S3 ((dc, listOf camev.toArray ec) :: (cnew ++ (D6, lst zs) :: (D5, lst xs) :: (D4, lst ys) :: ((L5 + 1 + 1, oS2) :: (L5 + 1, oX2) :: (ra, listOf rv.toArray er) :: (da, listOf dv.toArray ed) :: (tn ++ (dnew ++ [(z.1, listOf z.2.toArray 0), (dop, oop)])))))) := fun p hp => N28' p (List.mem_cons_of_mem _ (List.mem_cons_of_mem _ (List.mem_cons_of_mem _ hp)))
                k_steps
                unfold Halt
                rename Fr g5 L5 _ _ => F28
                have hcm9 := hmc
                have hsub9 := hcn
                refine' ListComp_G (h₀ := g5) (L := L5) (S := SrcAt g5 dc camev.toArray) (LI := True) (n := (hsT (rsOf ns) 4).length) (P := fun i v => camev.toArray[i]? = some v) (fun q us nw => nw = lexL w C S3 ((dc, listOf camev.toArray ec) :: (cnew ++ (D6, lst zs) :: (D5, lst xs) :: (D4, lst ys) :: ((L5 + 1 + 1, oS2) :: (L5 + 1, oX2) :: (ra, listOf rv.toArray er) :: (da, listOf dv.toArray ed) :: (tn ++ (dnew ++ [(z.1, listOf z.2.toArray 0), (dop, oop)]))))) ∧ IntsAre us (((hsT (rsOf ns) 4).take q).map fun p => ((p.1 : Nat) : Int))) (cl := []) ?cl9 ?cc9 ?ck9 ?cn9 (.inr ⟨trivial, (i3 _ _ _ rfl), ?lv9⟩) ?si9 ?sz9
                  (assign_pair (T := fun i v1 v2 => ∃ hi : i < (hsT (rsOf ns) 4).length, ∃ t1 t2, v1 = .int (((hsT (rsOf ns) 4)[i].2 : Nat) : Int) t1 ∧ v2 = .int (((hsT (rsOf ns) 4)[i].1 : Nat) : Int) t2) rfl rfl rfl rfl (by decide) ?hT9)
                  (nameX_L F28 ?v9 (i3 _ _ _ ⟨rfl, OpenG.listN hcz rfl F28 N28 (.inr ⟨listOf camev.toArray ec, hcm9, rfl, _, rfl⟩), rfl, .nil⟩)) ?turn9 ?done9
                case cl9 => with_unfolding_all rfl
                case cc9 => decide
                case ck9 => rfl
                case cn9 => decide
                case lv9 => exact hlv
                case si9 =>
                  intro q us nw hq69
                  first | (refine x0_2 hq69 ?_; intro hq70 _) | (refine x1_1 hq69 ?_; intro hq70 _) | obtain ⟨hq70, _⟩ := hq69
                  try clear hq69
                  obtain rfl := hq70
                  exact .inr ⟨listOf camev.toArray ec, hcm9, rfl, _, rfl⟩
                case sz9 => rw [sizeLine_eq]; omega
                case hT9 =>
                  intro q us v nw hq hv hq71
                  first | (refine x0_2 hq71 ?_; intro hq72 _) | (refine x1_1 hq71 ?_; intro hq72 _) | obtain ⟨hq72, _⟩ := hq71
                  try clear hq71
                  obtain rfl := hq72
                  first | (refine x0_6 (hCam.get hq) ?_; intro t tx th k e hm) | (refine x1_5 (hCam.get hq) ?_; intro t tx th k e hm) | (refine x2_4 (hCam.get hq) ?_; intro t tx th k e hm) | (refine x3_3 (hCam.get hq) ?_; intro t tx th k e hm) | (refine x4_2 (hCam.get hq) ?_; intro t tx th k e hm) | (refine x5_1 (hCam.get hq) ?_; intro t tx th k e hm) | obtain ⟨t, tx, th, k, e, hm⟩ := hCam.get hq
                  obtain rfl : v = .ref t := Option.some.inj (hv.symm.trans (by simpa using e))
                  exact (i5 t _ _ _ _ ⟨rfl, (i3 hq th tx ⟨rfl, rfl⟩), hsub9 _ hm, rfl, rfl⟩)
                case v9 => rfl
                case turn9 =>
                  intro q us nw v I oI C2 oC2 E2 m4 hh tk E3 hq hx14 hv hC2 hx17 FF NN offf nee
                  refine opaqG fun KQ hKQ => ?_
                  first | (refine x0_2 hx14 ?_; intro hq73 hU) | (refine x1_1 hx14 ?_; intro hq73 hU) | obtain ⟨hq73, hU⟩ := hx14
                  try clear hx14
                  obtain rfl := hq73
                  first | (refine x0_5 hx17 ?_; intro v1' v2' hq74 hm1 hm2') | (refine x1_4 hx17 ?_; intro v1' v2' hq74 hm1 hm2') | (refine x2_3 hx17 ?_; intro v1' v2' hq74 hm1 hm2') | (refine x3_2 hx17 ?_; intro v1' v2' hq74 hm1 hm2') | (refine x4_1 hx17 ?_; intro v1' v2' hq74 hm1 hm2') | obtain ⟨v1', v2', hq74, hm1, hm2'⟩ := hx17
                  try clear hx17
                  first | (refine x0_5 hq74 ?_; intro hq' t1' t2' hq75 hq76) | (refine x1_4 hq74 ?_; intro hq' t1' t2' hq75 hq76) | (refine x2_3 hq74 ?_; intro hq' t1' t2' hq75 hq76) | (refine x3_2 hq74 ?_; intro hq' t1' t2' hq75 hq76) | (refine x4_1 hq74 ?_; intro hq' t1' t2' hq75 hq76) | obtain ⟨hq', t1', t2', hq75, hq76⟩ := hq74
                  try clear hq74
                  obtain rfl := hq75
                  obtain rfl := hq76
                  k_steps
                  exact hKQ.out _ _ (CompE.mk (by assumption) (by assumption) offf ⟨rfl, by rw [List.take_add_one, List.getElem?_eq_getElem hq, List.map_append]; exact intsAre_app hU _ _⟩)
                case done9 =>
                  intro D9 h29 tk29 us9 nw hq77 F29 N29 o29
                  first | (refine x0_2 hq77 ?_; intro hq78 hU9) | (refine x1_1 hq77 ?_; intro hq78 hU9) | obtain ⟨hq78, hU9⟩ := hq77
                  try clear hq77
                  obtain rfl := hq78
                  rw [List.take_length] at hU9
                  have hl9 : ((hsT (rsOf ns) 4).map fun p => ((p.1 : Nat) : Int)).length ≤ 4 := by rw [List.length_map]; exact hhl4
                  k_steps
                  unfold Halt
                  rename News g5 L5 _ _ => N30
                  rename List.Perm _ _ => hp9
                  rename List.Pairwise _ _ => hw9
                  rename IntsAre _ _ => hI9
                  rename Fr g5 L5 _ _ => F30
                  refine wpAny_call ?_
                  refine c_all (A₀ := callerA) ⟨B0, F30, X0, N30, T0, C0⟩ (by decide) (by decide) ((hDv.mono fun p hp => ?mdn9).at (e := ed) ?mda9) hrl5 ?_
                  case mdn9 => exact List.mem_cons_of_mem _ (List.mem_cons_of_mem _ (List.mem_append_right [_, _, _, _, _, _, _, _, _, _] (List.mem_cons_of_mem _ (List.mem_append_right _ (List.mem_cons_of_mem _ (List.mem_cons_of_mem _ (List.mem_cons_of_mem _ (List.mem_cons_of_mem _ (List.mem_cons_of_mem _ (List.mem_cons_of_mem _ (List.mem_cons_of_mem _ (List.mem_append_right _ (List.mem_append_left _ hp)))))))))))))
                  case mda9 => exact List.mem_cons_of_mem _ (List.mem_cons_of_mem _ (List.mem_append_right [_, _, _, _, _, _, _, _, _, _] (List.mem_cons_of_mem _ (List.mem_append_right _ (by k_mem)))))
                  intro dd3 cvs ed3 h31 tk31 F31 N31 hCv
                  have hkeys : ((hsT (rsOf ns) 4).map fun p => ((p.1 : Nat) : Int)) = (keysH (hsT (rsOf ns) 4)).map fun (x : Nat) => (x : Int) := by
                    unfold keysH
                    rw [List.map_map]
                    rfl
                  rw [hkeys] at hp9
                  rw [common_law (rsOf_nt ns) (rsOf_in ns)] at hCv
                  have N32 : News g5 L5 h31 (lexL w C S3 ((dc, listOf camev.toArray ec) :: (cnew ++ (D6, lst zs) :: (D5, lst xs) :: (D4, lst ys) :: ((L5 + 1 + 1, oS2) :: (L5 + 1, oX2) :: (ra, listOf rv.toArray er) :: (da, listOf dv.toArray ed) :: (tn ++ (dnew ++ [(z.1, listOf z.2.toArray 0), (dop, oop)])))))) := fun p hp => N31 p (List.mem_cons_of_mem _ (List.mem_cons_of_mem _ (List.mem_cons_of_mem _ hp)))
                  have hS3 := lexS_nil S3 v1
                  have N33 : News g5 L5 h31 (lexL w C ⟨S3.ln, S3.t1, [], S3.e, S3.pos, S3.tp, S3.e2⟩ ((dc, listOf camev.toArray ec) :: (cnew ++ (D6, lst zs) :: (D5, lst xs) :: (D4, lst ys) :: ((L5 + 1 + 1, oS2) :: (L5 + 1, oX2) :: (ra, listOf rv.toArray er) :: (da, listOf dv.toArray ed) :: (tn ++ (dnew ++ [(z.1, listOf z.2.toArray 0), (dop, oop)])))))) := by rw [← hS3]; exact N32
                  k_steps
                  unfold Halt
                  refine eq_ints N31 (List.mem_cons_of_mem _ List.mem_cons_self) List.mem_cons_self hI9 hCv (pair_sorted (hp9.trans ((common_perm (rs := rsOf ns) hBase.1.nodup hBase.2.2).map fun (x : Nat) => (x : Int)).symm) hw9 common_sorted) (by ke_room) ?_
                  have N35 : News g5 L5 h31 ((L5 + 1, oX2) :: lexL w C ⟨S3.ln, S3.t1, [], S3.e, S3.pos, S3.tp, S3.e2⟩ ((dc, listOf camev.toArray ec) :: (cnew ++ (D6, lst zs) :: (D5, lst xs) :: (D4, lst ys) :: ((L5 + 1 + 1, oS2) :: (L5 + 1, oX2) :: (ra, listOf rv.toArray er) :: (da, listOf dv.toArray ed) :: (tn ++ (dnew ++ [(z.1, listOf z.2.toArray 0), (dop, oop)])))))) := fun p hp => by
                    rcases List.mem_cons.mp hp with h | hp
                    · rw [h]
                      exact N33 _ (List.mem_append_right [_, _, _, _, _, _, _, _, _, _] (List.mem_cons_of_mem _ (List.mem_append_right _ (by k_mem))))
                    · exact N33 p hp
                  clear N32 N31 N30
                  dsimp only [lexL] at N35
                  k_steps
                  unfold Halt
                  rename Fr g5 L5 _ _ => F32
                  refine wpAny_call ?_
                  refine c_gt (A₀ := callerA) (C := C) (ln := S3.ln) (t1 := S3.t1) (e := S3.e) (pos := S3.pos) (tp := S3.tp) (e2 := S3.e2) hR O21 ⟨B0, F32, X0, N33, T0, C0⟩ (by decide) (by decide) (by omega) v2 (r := []) (rest := []) (by rw [v3]; exact .eof) (Nat.lt_of_le_of_lt hTl (by decide)) ?_
                  intro S9 t33 h33 tk33 _ _ _ _ F33 N34
                  have hq1 : (acS [] == Str.ofString "") = true := by decide
                  k_steps
                  refine hKQ.out _ _ ?_
                  dsimp only
                  k_steps
                  unfold Halt
                  refine ⟨?gw, ?gr⟩
                  case gw =>
                    rw [hg] at F33
                    refine goodW_bool F33 (by assumption) (raisesW_false ?_) ?_
                    · wrow_none_raised
                    · kc_post
                  case gr =>
                    refine ⟨GrownAt.of N34 (ps := ps) ?_, True.intro⟩
                    dsimp only [lexL]
                    simp only [List.mem_cons, List.mem_append, m119, true_or, or_true])
end
end
theorem flushW1 : if True then True else True := by (w_top off); first | (walk1; fail) | simp
end
end Mine
end
theorem PySem.Challenge.cw_tr0046_01_holds : PySem.Challenge.rw_tr0046_01.Holds := by
  rw [Mine.rw_eq]
  exact Mine.W1
