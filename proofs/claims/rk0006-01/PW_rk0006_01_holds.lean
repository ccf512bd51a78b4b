import PyProof.Rows.All
import Wide.All
import OpenK.AllK
import Wide.FinOn
import Open.Tops
import PySem.Challenge.RW_rk0006_01
set_option rowWalk.seconds 0
set_option linter.all false
set_option Elab.async false
namespace Mine
section
open PySem PySem.W PyProof.Rows
set_option Elab.async false
theorem offTop : True ∧ True := by
  w_top off
  walk1 <;> trivial
set_option maxRecDepth 100000
set_option maxHeartbeats 8000000
open_shared top for PySem.Challenge.pw_rk0006_01 leaving 6
end
section
open PySem PySem.W PyProof.Rows
set_option Elab.async false
set_option maxRecDepth 100000
set_option maxHeartbeats 8000000
noncomputable def keptAt : List Nat → List Stmt → List Stmt
  | [], _ => []
  | i :: is, l => (l[i]?).toList ++ keptAt is l
noncomputable def lawView : Program := { PySem.Challenge.pw_rk0006_01 with main := { PySem.Challenge.pw_rk0006_01.main with body := keptAt [0, 1, 4, 5, 6, 9, 11, 12, 13, 14, 15] PySem.Challenge.pw_rk0006_01.main.body } }
theorem opens : opening PySem.Challenge.pw_rk0006_01 = plainProg PySem.Challenge.pw_rk0006_01.main.scope.names := by kernel_rfl
theorem fences (s : Shared) : fenceModules? PySem.Challenge.pw_rk0006_01 s = some s := by kernel_rfl
theorem holds_both {r : OpenRow} {q : Program} {loose : List Str} {Xt : Shared → Bool} {XP : (Str → Option Value) → Heap → Prop} {α : Type} {Yf : Shared → α} {Ya : World → α} {YP : World → Heap → Prop} {d : DefRec} {kwd : List (Str × PySem.Expr)} {N : Nat}
    (hY : ∀ w s, Yf s = Ya w → YP w s.heap) (hYk : ∀ w h h', YP w h → (∀ b o, h.get? b = some o → h'.get? b = some o) → YP w h')
    (hX : ∀ s, Xt s = true → XP (s.heap.nsMap mainGlobals) s.heap) (hXk : ∀ mg h h', XP mg h → (∀ b o, h.get? b = some o → h'.get? b = some o) → XP mg h')
    (hdef : defOf q r.name = some (d, kwd)) (hp : r.prog.theDef r.name = some (d.params, d.body, d.scope)) (hk : kwWritten? d.params.kwonlyargs d.params.kw_defaults = some kwd) (hRf : ∀ s, Xt s = true → RecFacts r.records s.heap) (hwr : (!r.writes || r.records.isEmpty) = true)
    (k1 : r.wellSaid = true) (ok : (chainsOk q && opensWell r.prog && (frees r.toRowW && r.within.isEmpty)) = true) (hb : r.prog.bare) (hw : r.toRowW.promised)
    (both : LeftO r.prog q loose Xt Yf Ya N ∧ WalkO q loose XP YP r.toRowW d kwd fun f vs => PySem.call f vs) : r.Holds :=
  holds_open both.1 hY hYk hX hXk hdef hp hk hRf hwr k1 ok hb hw both.2
local macro_rules | `(tactic| o_head $H) => `(tactic|
  refine holds_both (q := lawView) (loose := [Str.ofString "FileExpander", Str.ofString "MacroExpansion", Str.ofString "Token", Str.ofString "SourceLocation", Str.ofString "CToken"]) (Xt := fun s => xlAt lawView [] s && recOk (RowW.records PySem.Challenge.rw_rk0006_01.row.toRowW) s) (XP := XL lawView []) (Yf := Hook.obs $H) (Ya := Hook.val $H) (YP := Hook.says $H) (N := 4588) (Hook.of $H) (Hook.keeps $H) (fun s e => xl_of s (Bool.and_eq_true_iff.mp e).1) XL.keeps (by rfl) (by rfl) (by rfl) (fun s e => recFacts_of (Bool.and_eq_true_iff.mp e).2) (by rfl) (by first | assumption | decide +kernel) (by decide +kernel) ⟨rfl, rfl, rfl, rfl, rfl, by decide +kernel⟩ ?hw ?hc)
open_top hd for PySem.Challenge.rw_rk0006_01
theorem offHd : True ∧ True := by
  w_top off
  walk1 <;> trivial
end
section
open PySem PySem.W PyProof.Rows
set_option Elab.async false
theorem offLeft : True ∧ True := by
  w_top off
  walk1 <;> trivial
set_option maxRecDepth 100000
set_option maxHeartbeats 8000000
/-- some steps of the top, over a tree of objects -/
noncomputable def topGoT (tb : String → Option Builtin) (p : Program) (w : World) (n₀ : Nat) (ann : Option Value) : Nat → SharedT → Thread → Option (SharedT × Thread)
  | 0, s, t => some (s, t)
  | n + 1, s, t => match through t with
    | true => none
    | false => match stepOk n₀ ann t with
      | false => none
      | true => match stepT (denote tb) p w s t with
        | some (s', t') => topGoT tb p w n₀ ann n s' t'
        | none => none
theorem topGo_of {tb : String → Option Builtin} {p : Program} {w : World} {n₀ : Nat} {ann : Option Value} : ∀ {n : Nat} {s s' : SharedT} {t t' : Thread}, topGoT tb p w n₀ ann n s t = some (s', t') → topGo tb p w n₀ ann n s.abs t = some (s'.abs, t')
  | 0, _, _, _, _, h => by cases h; rfl
  | n + 1, s, s', t, t', h => by
    unfold topGoT at h
    unfold topGo
    cases ht : through t with
    | true => rw [ht] at h; cases h
    | false =>
      rw [ht] at h
      cases hk : stepOk n₀ ann t with
      | false => rw [hk] at h; cases h
      | true =>
        rw [hk] at h
        cases hs : stepT (denote tb) p w s t with
        | none => rw [hs] at h; cases h
        | some r => obtain ⟨s₂, t₂⟩ := r; rw [hs] at h; rw [stepT_spec hs]; exact topGo_of h
noncomputable def seenT (p q : Program) (loose : List Str) (Xt : Shared → Bool) {α : Type} (Yf : Shared → α) (h₀ : Heap) (s : Shared) :=
  ((staticsOk (importedModules p.main.body) h₀ s.heap && namesBound p s.heap && gensDone s && laidKept h₀ s.heap), openSeen q loose (importedModules p.main.body) Xt true s, Yf s)
theorem fin_run {p : Program} {w : World} {m₀ : Nat} {ann : Option Value} {s : Shared} {c : Code} {pos q : Pos} : topRun treeTable p w m₀ ann 2 s ⟨doneF .next, c, pos, [topFrame q]⟩ = some s := by
  obtain ⟨h, g, d, t, o⟩ := s
  rfl
/-- the head's premise from the top's run, the run's first part handed in -/
theorem left_tree {p q : Program} {loose : List Str} {Xt : Shared → Bool} {α : Type} {Yf : Shared → α} {Ya : World → α} {N M n m₀ : Nat} {ann : Option Value} {T₀ : Params → BT} {life : Life} {S : World → OsState → SharedT} {env : Env} {b l : List Stmt} {pos qp : Pos}
    (op : opening p = plainProg p.main.scope.names) (le : Nat.ble 600 N = true) (fe : ∀ s, fenceModules? p s = some s)
    (tree : ∀ P, absHeap (T₀ P) m₀ life = boot_heap P)
    (size : ∀ P, ((boot_heap P).isNs mainGlobals, (boot_heap P).objs.size, (boot_heap P).nsMap mainGlobals "__annotations__") = (true, m₀, ann))
    (first : ∀ (w : World) (os : OsState) (r : Shared), topRun treeTable p w m₀ ann (n + 2) (S w os).abs (restOf l env (.body b env) pos [topFrame qp]) = some r → topRun treeTable p w m₀ ann M (SharedT.abs ⟨T₀ w.params, m₀, life, Array.mk [], boot_drawn, boot_toks, os⟩) (topStub p) = some r) (leM : Nat.ble M N = true)
    (h : ∀ (w : World) (os : OsState), (segRunT treeTable p w m₀ ann 1 n (S w os) (piecesOf l env (.body b env) pos [topFrame qp])).map (fun x => (x.1, x.2.2.1, seenT p q loose Xt Yf (boot_heap w.params) x.2.1.abs)) = some (.next, .body b env, (true, openGood q loose, Ya w))) :
    LeftO p q loose Xt Yf Ya N := by
  intro w
  obtain ⟨⟨h₀, gs, d, k, os⟩, e, e'⟩ := Option.map_eq_some_iff.mp (boot_open (N := N) op le fe w)
  simp only [Prod.mk.injEq] at e'
  obtain ⟨rfl, rfl, rfl, rfl⟩ := e'
  obtain ⟨⟨f, s', c, pos'⟩, r, look⟩ := Option.map_eq_some_iff.mp (h w os)
  unfold seenT at look
  simp only [Prod.mk.injEq] at look
  obtain ⟨rfl, rfl, l1, l2, l3⟩ := look
  have z := piece_app (rest := []) (segRun_of r) (piece_nil (fin_run (s := s'.abs)))
  rw [List.append_nil] at z
  have r' := topRun_mono (N - M) _ _ _ _ (first w os _ z)
  rw [show M + (N - M) = N by have := Nat.le_of_ble_eq_true leM; omega] at r'
  unfold SharedT.abs at r'
  rw [tree] at r'
  have z := size w.params
  simp only [Prod.mk.injEq] at z
  obtain ⟨z1, z2, z3⟩ := z
  unfold SharedT.abs at l1 l2 l3
  have t : topFrom treeTable p w N ⟨boot_heap w.params, Array.mk [], boot_drawn, boot_toks, os⟩ = some ⟨absHeap s'.tree s'.n s'.life, s'.gens, s'.drawn, s'.toks, s'.os⟩ := by
    unfold topFrom
    dsimp only
    rw [z1, z2, z3, r']
    show (match staticsOk (importedModules p.main.body) (boot_heap w.params) (absHeap s'.tree s'.n s'.life) && namesBound p (absHeap s'.tree s'.n s'.life) && gensDone ⟨absHeap s'.tree s'.n s'.life, s'.gens, s'.drawn, s'.toks, s'.os⟩ && laidKept (boot_heap w.params) (absHeap s'.tree s'.n s'.life) with | true => _ | false => _) = _
    rw [l1]
  unfold openEnds
  rw [e]
  show (topFrom treeTable p w N _).map _ = _
  rw [t]
  exact congrArg some (Prod.ext l2 l3)
/-- the top's first part: the opening steps, the block's start, the statements that 'top' has run -/
theorem first_of {p : Program} {w : World} {env : Env} {b l rest : List Stmt} {q pos pos' posK : Pos} {k₀ kb N M m₀ : Nat} {ann : Option Value} {S0 Sa Sb Sk : SharedT} {r : Shared}
    (pre : topGoT treeTable p w m₀ ann k₀ S0 (topStub p) = some (Sa, ⟨denote treeTable (.body b env), .body b env, pos, [topFrame q]⟩))
    (block : segRunT treeTable p w m₀ ann 1 kb Sa (blockOf b env (.body b env) pos [topFrame q]) = some (.next, Sb, .body b env, pos')) (hb : l = b)
    (chain : topRun treeTable p w m₀ ann N Sk.abs (restOf rest env (.body b env) posK [topFrame q]) = some r → topRun treeTable p w m₀ ann M Sb.abs (restOf l env (.body b env) pos' [topFrame q]) = some r)
    (h : topRun treeTable p w m₀ ann N Sk.abs (restOf rest env (.body b env) posK [topFrame q]) = some r) : topRun treeTable p w m₀ ann (k₀ + (kb + M)) S0.abs (topStub p) = some r := by
  have z := chain h
  rw [hb] at z
  exact go_top (topGo_of pre) (piece_block (segRun_of block) z)
def asK : List Nat := [2, 3, 15, 17, 18, 20, 21, 29, 31, 32, 34, 35, 36, 38, 39, 41, 42, 43, 45, 46, 48, 49, 50, 51, 53, 54, 56, 57,
          58, 60, 61, 63, 64, 65, 66, 67, 68, 69, 79, 81, 82, 84, 85, 86, 88, 89, 91, 92, 93, 94, 96, 97, 99, 100, 101,
          103, 104, 106, 107, 108, 109, 110, 111, 112, 122, 124, 125, 127, 128, 129, 131, 132, 134, 135, 136, 137, 138,
          139, 140, 150, 151, 153, 154, 156, 157, 158, 160, 161, 163, 164, 165, 167, 168, 169, 170, 171, 181, 182, 183,
          185, 186, 188, 189, 190, 192, 193, 195, 196, 197, 199, 200, 201, 202, 203, 204, 205, 208, 211, 216, 217, 219,
          220, 222, 223, 224, 226, 227, 229, 230, 231, 233, 234, 236, 237, 238, 239, 241, 242, 244, 245, 246, 247, 248,
          249, 250, 253, 255, 256, 258, 259, 260, 262, 263, 265, 266, 267, 269, 270, 272, 273, 274, 277, 278]
def lawLoose : List Str := [Str.ofString "FileExpander", Str.ofString "MacroExpansion", Str.ofString "Token", Str.ofString "SourceLocation", Str.ofString "CToken"]
noncomputable def boot0 (P : Params) : BT :=
  .node (boot_o_0 P) (.node (boot_o_1 P) (.node (boot_o_3 P) (.node (boot_o_7 P) .nil .nil) .nil) (.node (boot_o_5 P) (.node (boot_o_9 P) .nil .nil) .nil))
    (.node (boot_o_2 P) (.node (boot_o_4 P) (.node (boot_o_8 P) .nil .nil) .nil) (.node (boot_o_6 P) (.node (boot_o_10 P) .nil .nil) .nil))
theorem boot0_is (P : Params) : absHeap (boot0 P) 11 {} = boot_heap P := by kernel_rfl
theorem boot0_size (P : Params) : ((boot_heap P).isNs mainGlobals, (boot_heap P).objs.size, (boot_heap P).nsMap mainGlobals "__annotations__") = (true, 11, some (.ref 6)) := by kernel_rfl
abbrev posz : Pos := ⟨0, 0, 0, 0⟩
noncomputable def lawBlock : List Stmt := behindTheImports PySem.Challenge.pw_rk0006_01
noncomputable abbrev lawCode : Code := .body lawBlock top.env_1
noncomputable def st0 (w : World) (os : OsState) : SharedT := ⟨boot0 w.params, 11, {}, Array.mk [], boot_drawn, boot_toks, os⟩
noncomputable def stA (w : World) (os : OsState) : SharedT := match topGoT treeTable PySem.Challenge.pw_rk0006_01 w 11 (some (.ref 6)) 12 (st0 w os) (topStub PySem.Challenge.pw_rk0006_01) with
  | some (s, _) => s
  | none => st0 w os
noncomputable def stB (w : World) (os : OsState) : SharedT := ⟨top.tree_4 w.params, 15, {}, Array.mk [], {}, 187, os⟩
theorem run_pre (w : World) (os : OsState) : topGoT treeTable PySem.Challenge.pw_rk0006_01 w 11 (some (.ref 6)) 12 (st0 w os) (topStub PySem.Challenge.pw_rk0006_01) =
    some (stA w os, ⟨denote treeTable lawCode, lawCode, posz, [topFrame posz]⟩) := by kernel_rfl
theorem run_block (w : World) (os : OsState) : segRunT treeTable PySem.Challenge.pw_rk0006_01 w 11 (some (.ref 6)) 1 1 (stA w os) (blockOf lawBlock top.env_1 lawCode posz [topFrame posz]) = some (.next, stB w os, lawCode, posz) := by kernel_rfl
noncomputable def lawRest : List Stmt := lawBlock.drop 10
abbrev posk : Pos := ⟨113, 0, 113, 8⟩
noncomputable def stK (w : World) (os : OsState) : SharedT := ⟨top.tree_214 w.params, 208, {}, Array.mk [], {}, 466, os⟩
theorem run_first (w : World) (os : OsState) (r : Shared) (h : topRun treeTable PySem.Challenge.pw_rk0006_01 w 11 (some (.ref 6)) (600 + 2) (stK w os).abs (restOf lawRest top.env_1 lawCode posk [topFrame posz]) = some r) :
    topRun treeTable PySem.Challenge.pw_rk0006_01 w 11 (some (.ref 6)) (12 + (1 + (Nat.add 39 (Nat.add 417 (Nat.add 387 (Nat.add 264 (Nat.add 297 (Nat.add 331 (600 + 2))))))))) (st0 w os).abs (topStub PySem.Challenge.pw_rk0006_01) = some r :=
  first_of (run_pre w os) (run_block w os) (by kernel_rfl : top.sts_4 ++ (top.sts_15 ++ (top.sts_68 ++ (top.sts_114 ++ (top.sts_145 ++ (top.sts_179 ++ lawRest))))) = lawBlock)
    (top.chain PySem.Challenge.pw_rk0006_01 lawBlock w os lawRest (600 + 2) r) h
/-- the rest of the top and the looks at its end -/
noncomputable def topT (p : Program) (b : List Stmt) (w : World) (os : OsState) := (segRunT treeTable p w 11 (some (.ref 6)) 1 600 (stK w os) (piecesOf lawRest top.env_1 (.body b top.env_1) posk [topFrame posz])).map fun x =>
  (x.1, x.2.2.1, seenT PySem.Challenge.pw_rk0006_01 lawView lawLoose (fun s => xlAt lawView [] s && recOk PySem.Challenge.rw_rk0006_01.row.records s) (fun s => asK.map s.heap.get?) (boot_heap w.params) x.2.1.abs)
noncomputable def topR (b : List Stmt) (w : World) := some (Flow.next, Code.body b top.env_1, (true, openGood lawView lawLoose, (Mine.hd.heap_39 w.params).map fun p => some p.2))
theorem topT_is : topT = topT := rfl
name_quick lawTopQ for Mine.topT by Mine.topT_is
theorem topQ_eq (p : Program) (b : List Stmt) (w : World) (os : OsState) : PySem.W.Fast.lawTopQ p b w os = topR b w := by kernel_rfl
theorem topT_eq (w : World) (os : OsState) : topT PySem.Challenge.pw_rk0006_01 lawBlock w os = topR lawBlock w := by
  rw [PySem.W.Fast.lawTopQ_eq]
  exact topQ_eq _ _ w os
theorem left : LeftO PySem.Challenge.pw_rk0006_01 lawView lawLoose (fun s => xlAt lawView [] s && recOk PySem.Challenge.rw_rk0006_01.row.records s) (fun s => asK.map s.heap.get?) (fun w => (Mine.hd.heap_39 w.params).map fun p => some p.2) 4588 :=
  left_tree opens (by decide) fences boot0_is boot0_size run_first (by decide) topT_eq
end
section
open PySem PySem.W PySem.Calls PyProof.Rows PySem.Spec
set_option Elab.async false
set_option maxRecDepth 100000
theorem offBase : True ∧ True := by
  w_top off
  walk1 <;> trivial
/-- what a call leaves alone: all objects off M are as they were -/
def Chg (M : List Addr) (h h' : Heap) : Prop := ∀ b o, b ∉ M → h.get? b = some o → h'.get? b = some o
theorem Chg.refl {M : List Addr} {h : Heap} : Chg M h h := fun _ _ _ e => e
theorem Chg.trans {M : List Addr} {h h' h'' : Heap} (a : Chg M h h') (b : Chg M h' h'') : Chg M h h'' := fun x o n e => b x o n (a x o n e)
theorem Chg.mono {M M' : List Addr} {h h' : Heap} (a : Chg M h h') (s : ∀ b ∈ M, b ∈ M') : Chg M' h h' := fun x o n e => a x o (fun q => n (s x q)) e
theorem Chg.of_keeps {M : List Addr} {h h' : Heap} (a : ∀ b o, h.get? b = some o → h'.get? b = some o) : Chg M h h' := fun x o _ e => a x o e

/-- the objects of a list stand in the heap -/
def Here (h : Heap) (l : List (Addr × Obj)) : Prop := ∀ p ∈ l, h.get? p.1 = some p.2
theorem Here.chg {M : List Addr} {h h' : Heap} {l : List (Addr × Obj)} (a : Here h l) (c : Chg M h h') (n : ∀ p ∈ l, p.1 ∉ M) : Here h' l := fun p hp => c _ _ (n p hp) (a p hp)
theorem Here.of_news {h₀ h : Heap} {L : Addr} {l : List (Addr × Obj)} (N : News h₀ L h l) : Here h l := fun p hp => (N p hp).1

theorem Fr.chg {M : List Addr} {h₀ h h' : Heap} {L : Addr} {m : Str → Option Value} (F : Fr h₀ L h m) (c : Chg M h h') (nL : L ∉ M) (nb : ∀ b ∈ M, h₀.get? b = none) : Fr h₀ L h' m := by
  obtain ⟨oL, a1, a2, hL, a3⟩ := F.ns
  exact ⟨⟨oL, a1, a2, c _ _ nL hL, a3⟩, fun b o e => c _ _ (fun q => by rw [nb b q] at e; cases e) (F.keep b o e), F.above⟩
theorem News.chg {M : List Addr} {h₀ h h' : Heap} {L : Addr} {l : List (Addr × Obj)} (N : News h₀ L h l) (c : Chg M h h') (n : ∀ p ∈ l, p.1 ∉ M) : News h₀ L h' l :=
  fun p hp => ⟨c _ _ (n p hp) (N p hp).1, (N p hp).2⟩

/-- the place from which a def is called -/
structure Site (K : Frag) (p : Program) (loose : List Str) (mean : ExcName → Option Value) (mg mb : Str → Option Value) (A : Around) (env : Env) (outer : List Env) (A₀ : Around) (base h₀ : Heap) (L : Addr) (m : Str → Option Value) (h : Heap) : Prop where
  B : Below A₀ base outer h₀
  F : Fr h₀ L h m
  X : K.In h₀
  T : Top p loose mean mg mb h₀
  hA : A.frames = some (env :: outer)
  hh : A.handled = none
  hf : env.frame = some L
  hk : env.scope.kind = .function

/-- at a def's end: what its frame leaves behind -/
def LeaveH (g : Heap) (R : List (Addr × Obj) → Value → Shared → Prop) (v : Value) (s' : Shared) : Prop :=
  ∃ L' m' news', Fr g L' s'.heap m' ∧ News g L' s'.heap news' ∧ R news' v s'

section
variable {prog : Program} {w : World} {A A₀ : Around} {s : Shared} {K : Frag} {L : Addr} {h₀ base : Heap} {m mg mb : Str → Option Value} {muts : List (Addr × Obj)} {p : Program} {loose : List Str} {mean : ExcName → Option Value}
  {env : Env} {outer : List Env} {R : Result → Shared → Prop} {name qual : Str} {params : Arguments} {body : List Stmt} {scope : Scope} {dV kV doc pm cdv ct oc : Value} {an od : Option Addr} {osl : Array (Option Value)} {f : Addr} {args : Args} {binds : List (Str × Value)}

theorem enterH (S : Site K p loose mean mg mb A env outer A₀ base h₀ L m s.heap) (N : News h₀ L s.heap muts)
    (ho : K.lookup f = some ⟨oc, od, .func (fnOf name qual params body scope dV kV doc pm an cdv ct), osl⟩) (hcd : codeIn K cdv qual = true) (hroom : A.depth < recursionLimit)
    (hbind : BindsTo s (fnOf name qual params body scope dV kV doc pm an cdv ct) args binds) (hloc : ∀ y ∈ binds, scope.names.lookup y.1 = some .local)
    (h : ∀ g L' h₁, (∀ b o, s.heap.get? b = some o → b ∉ muts.map (·.1) → g.get? b = some o) → Fr g L' h₁ (fun y => binds.reverse.lookup y) → News g L' h₁ muts → Below A base (env :: outer) g → K.In g → Top p loose mean mg mb g → (∀ p ∈ muts, p.1 < L') →
      wpAny (model prog w) (A.deeper (envOf qual scope L' f cdv)) (execs body (envOf qual scope L' f cdv))
        (fun fl s' => LeaveH g (fun news' v s' => Chg (muts.map (·.1)) s.heap s'.heap → Here s'.heap news' → R (.ok (.ret v)) s') (match fl with | .ret v => v | _ => .none) s')
        (fun e s' => wpAny (model prog w) (A.deeper (envOf qual scope L' f cdv)) («leaving» (envOf qual scope L' f cdv) e) (fun _ s'' => R (.error e) s'') (fun e' s'' => R (.error e') s'') s')
        { s with heap := h₁, toks := s.toks + binds.length })
    (hco : scope.isCoroutine = false) (hgen : scope.isGenerator = false) (hk : scope.kind = .function)
    (hcell : ∀ x ∈ scope.names, x.2 ≠ .cell) : codeAny (model prog w) A (.call (.ref f) args) R s := by
  obtain ⟨B, F, X₀, T, hA, hh, hf, hke⟩ := S
  obtain ⟨FG, BG, st, lv⟩ := groundX (R := R) B F N hA hf hke
  refine codeAny_call_def (fd := fnOf name qual params body scope dV kV doc pm an cdv ct) (body := body) (binds := binds) hroom ((X₀.keeps F.keep) _ _ ho) rfl (T.nolimit.keeps F.keep) (codeRec_of (X₀.keeps F.keep) hcd) rfl hbind hcell hloc (fun h₁ hns hk₁ => ?_) hco hgen hk
  refine wpAny_mono (h _ s.heap.objs.size h₁ (fun b o e n => hideAll_get _ e n) ⟨hns, fun b o e => hk₁ b o (of_hideAll _ e), Nat.le_of_eq (hideAll_size _ _)⟩
    (fun p hp => ⟨hk₁ _ _ (N p hp).1, Nat.ne_of_lt (Heap.lt_size (N p hp).1), hideAll_none _ (List.mem_map_of_mem hp)⟩) BG (X₀.keeps st) (T.keeps st) (fun p hp => Heap.lt_size (N p hp).1)) (fun fl s' hl => ?_) fun _ _ y => y
  obtain ⟨L', m', news', F', N', k⟩ := hl
  exact k (fun b o n e => F'.keep b o (hideAll_get _ e n)) (Here.of_news N')
end

/-- a list's iterator -/
abbrev itObj (src : Value) (i : Nat) : Obj := { cls := .type "list_iterator", data := .fields #[src, .int i 0] }

section
variable {prog : Program} {w : World} {A : Around} {E : Value → Shared → Prop} {s : Shared} {it row : Addr} {items : Array Value} {i n : Nat}

theorem pyNext_item {x : Value} {Q : Option Value → Shared → Prop} (hit : s.heap.get? it = some (itObj (.ref row) i)) (hl : s.heap.IsList row items) (hx : items[i]? = some x)
    (hQ : ∀ h', h'.get? it = some (itObj (.ref row) (i + 1)) → Heap.SameBut it s.heap h' → Q (some x) { s with heap := h' }) : wpAny (model prog w) A (pyNext (.ref it)) Q E s := by
  have hit' : s.heap.IsListIter it row i := ⟨_, hit, rfl, rfl⟩
  obtain ⟨ol, hol, _, nl, hdl⟩ := hl
  unfold pyNext
  refine wpAny_bind (wpAny_attempt (wpAny_callSpecial?_slot (name := Str.ofString "__next__") hit'.typeIs slot_listiter_next
    (wpAny_call_entry slot_listiter_next hit'.typeIs entry_listiter_next ?_ (args_listiter_next _))))
  show wpAny _ _ (field (.ref it) 0 >>= _) _ _ s
  refine wpAny_bind (wpAny_field hit rfl (x := .ref row) rfl ?_)
  show wpAny _ _ (if (Value.ref row == Value.none) = true then _ else _) _ _ s
  rw [if_neg (show ¬ ((Value.ref row == Value.none) = true) from Bool.false_ne_true)]
  show wpAny _ _ (field (.ref it) 1 >>= _) _ _ s
  refine wpAny_bind (wpAny_field hit rfl (x := .int i 0) rfl ?_)
  show wpAny _ _ (seqItems? (.ref row) >>= _) _ _ s
  refine wpAny_bind (wpAny_seqItems hol hdl ?_)
  simp only [Int.toNat_natCast, hx]
  refine wpAny_bind (wpAny_setField hit rfl (by simp) (wpAny_pure ⟨x, rfl, wpAny_pure (hQ _ ?_ (Heap.SameBut.update ..))⟩))
  exact Heap.get?_update_self _ hit rfl

theorem pyNext_end {Q : Option Value → Shared → Prop} (hh : A.handled = none) (hit : s.heap.get? it = some (itObj (.ref row) i)) (hl : s.heap.IsList row items) (hx : items[i]? = none)
    (hQ : ∀ h', h'.get? it = some (itObj .none i) → Heap.ExtBut it s.heap h' → Q none { s with heap := h' }) : wpAny (model prog w) A (pyNext (.ref it)) Q E s := by
  have hit' : s.heap.IsListIter it row i := ⟨_, hit, rfl, rfl⟩
  obtain ⟨ol, hol, _, nl, hdl⟩ := hl
  unfold pyNext
  refine wpAny_bind (wpAny_attempt (wpAny_callSpecial?_slot (name := Str.ofString "__next__") hit'.typeIs slot_listiter_next
    (wpAny_call_entry slot_listiter_next hit'.typeIs entry_listiter_next ?_ (args_listiter_next _))))
  show wpAny _ _ (field (.ref it) 0 >>= _) _ _ s
  refine wpAny_bind (wpAny_field hit rfl (x := .ref row) rfl ?_)
  show wpAny _ _ (if (Value.ref row == Value.none) = true then _ else _) _ _ s
  rw [if_neg (show ¬ ((Value.ref row == Value.none) = true) from Bool.false_ne_true)]
  show wpAny _ _ (field (.ref it) 1 >>= _) _ _ s
  refine wpAny_bind (wpAny_field hit rfl (x := .int i 0) rfl ?_)
  show wpAny _ _ (seqItems? (.ref row) >>= _) _ _ s
  refine wpAny_bind (wpAny_seqItems hol hdl ?_)
  simp only [Int.toNat_natCast, hx]
  refine wpAny_bind (wpAny_rule (wpAny_bind (wpAny_setField hit rfl (by simp) ?_)))
  show wpAny _ _ (newExc (.type "StopIteration") [] >>= _) _ _ _
  refine wpAny_bind ?_
  simp only [newExc, newTuple]
  refine wpAny_bind (wpAny_newObj_type ?_ (by size_fits))
  refine wpAny_bind (m := firstArgMember _ _) (wpAny_of_eq (a := Value.none) (by first | rfl | (simp only [firstArgMember]; rfl)) ?_)
  refine wpAny_newObj_type ?_ (by size_fits)
  simp only [raiseNew]
  refine wpAny_bind (wpAny_handled ?_)
  rw [show A.in1.handled = none from hh]
  refine wpAny_bind (wpAny_pure (wpAny_throw ?_))
  refine wpAny_bind (wpAny_isInstance (T := "StopIteration") (b := true) ⟨_, Heap.get?_push_size _ rfl, rfl⟩ isSubtype_stop ?_)
  refine wpAny_pure (hQ _ ?_ (((Heap.SameBut.update ..).extBut.push _).push _))
  exact Heap.get?_push_of_some _ (Heap.get?_push_of_some _ (Heap.get?_update_self _ hit rfl))

theorem pyNext_ended {Q : Option Value → Shared → Prop} (hh : A.handled = none) (hit : s.heap.get? it = some (itObj .none i))
    (hQ : ∀ h', h'.get? it = some (itObj .none i) → Heap.ExtBut it s.heap h' → Q none { s with heap := h' }) : wpAny (model prog w) A (pyNext (.ref it)) Q E s := by
  have ty : s.TypeIs (.ref it) "list_iterator" := ⟨_, hit, rfl⟩
  unfold pyNext
  refine wpAny_bind (wpAny_attempt (wpAny_callSpecial?_slot (name := Str.ofString "__next__") ty slot_listiter_next
    (wpAny_call_entry slot_listiter_next ty entry_listiter_next ?_ (args_listiter_next _))))
  show wpAny _ _ (field (.ref it) 0 >>= _) _ _ s
  refine wpAny_bind (wpAny_field hit rfl (x := .none) rfl ?_)
  show wpAny _ _ (if (Value.none == Value.none) = true then _ else _) _ _ s
  rw [if_pos (show ((Value.none == Value.none) = true) from by decide)]
  refine wpAny_bind (wpAny_rule ?_)
  refine wpAny_bind ?_
  simp only [newExc, newTuple]
  refine wpAny_bind ?_
  refine wpAny_bind (wpAny_newObj_type ?_ (by size_fits))
  refine wpAny_bind (m := firstArgMember _ _) (wpAny_of_eq (a := Value.none) (by first | rfl | (simp only [firstArgMember]; rfl)) ?_)
  refine wpAny_newObj_type ?_ (by size_fits)
  simp only [raiseNew]
  refine wpAny_bind (wpAny_handled ?_)
  rw [show A.in1.handled = none from hh]
  refine wpAny_bind (wpAny_pure (wpAny_throw ?_))
  refine wpAny_bind (wpAny_isInstance (T := "StopIteration") (b := true) ⟨_, Heap.get?_push_size _ rfl, rfl⟩ isSubtype_stop ?_)
  refine wpAny_pure (hQ _ ?_ ((((Heap.SameBut.refl _ _).extBut).push _).push _))
  exact Heap.get?_push_of_some _ (Heap.get?_push_of_some _ hit)
end
end
section
open PySem PySem.W PySem.Calls PyProof.Rows PySem.Spec
set_option Elab.async false
set_option maxRecDepth 100000
theorem offRules : True ∧ True := by
  w_top off
  walk1 <;> trivial
/-- one object of a ledger turned -/
def setL (d : Addr) (o' : Obj) (l : List (Addr × Obj)) : List (Addr × Obj) := l.map fun p => if p.1 = d then (d, o') else p

section
variable {prog : Program} {w : World} {A : Around} {E : Value → Shared → Prop} {s : Shared} {h₀ h h' : Heap} {L d it row : Addr} {m : Str → Option Value} {news news' : List (Addr × Obj)} {items : Array Value} {o o' : Obj} {i n : Nat}

theorem Fr.ext (F : Fr h₀ L h m) (c : Heap.ExtBut d h h') (hL : d ≠ L) (hn : h₀.get? d = none) : Fr h₀ L h' m := by
  obtain ⟨oL, a1, a2, hoL, a3⟩ := F.ns
  refine ⟨⟨oL, a1, a2, c _ _ hL.symm hoL, a3⟩, fun b x e => c _ _ ?_ (F.keep b x e), F.above⟩
  rintro rfl
  rw [hn] at e
  cases e
theorem News.turn (N : News h₀ L h news) (U : Upd d o o' news news') (c : Heap.ExtBut d h h') (e : h'.get? d = some o') : News h₀ L h' news' := by
  obtain ⟨pre, post, rfl, rfl, a, b⟩ := U.split
  intro p hp
  rcases List.mem_append.mp hp with q | q
  · have z := N p (List.mem_append_left _ q)
    exact ⟨c _ _ (a p q) z.1, z.2⟩
  · rcases List.mem_cons.mp q with rfl | q
    · exact ⟨e, (N (d, o) (List.mem_append_right _ (.head _))).2⟩
    · have z := N p (List.mem_append_right _ (.tail _ q))
      exact ⟨c _ _ (b p q) z.1, z.2⟩
theorem Upd.mem : ∀ {l l' : List (Addr × Obj)}, Upd d o o' l l' → (d, o) ∈ l
  | _, _, .head _ => .head _
  | _, _, .tail _ u => .tail _ (Upd.mem u)

theorem call_next {dflt : Value} {Q : Value → Shared → Prop} (ty : s.TypeIs (.ref it) "list_iterator")
    (h : wpAny (model prog w) A.in1 (pyNext (.ref it)) (fun r s' => Q (r.getD dflt) s') E s) :
    wpAny (model prog w) A (call (.builtin "next") [.ref it, dflt]) Q E s := by
  refine call_function_entry (by decide +kernel) (by decide +kernel) kdk_entry_next (kdk_args_next2 _ _) ?_
  unfold Builtin.«next»
  refine wpAny_bind (m := someArgs "next" 1 2 _) (wpAny_of_eq (a := [Value.ref it, dflt]) (by first | rfl | kernel_rfl!) ?_)
  dsimp only
  refine wpAny_bind (wpAny_specialOf (name := Str.ofString "__next__") ty slot_listiter_next.lookup ?_)
  refine wpAny_ite_split (fun hab => absurd hab (by decide)) (fun _ => ?_)
  exact wpAny_bind (wpAny_mono h (fun r s' hr => wpAny_pure ⟨_, rfl, hr⟩) fun _ _ e => e)


theorem isList_of (N : News h₀ L s.heap news) {l : List Value} (hm : (d, listOf l.toArray n) ∈ news) : s.heap.IsList d l.toArray := ⟨_, (N _ hm).1, rfl, _, rfl⟩

theorem truthy_L {l : List Value} {b : Bool} {Q : Bool → Shared → Prop} (N : News h₀ L s.heap news) (hm : (d, listOf l.toArray n) ∈ news) (hz : l.length ≤ sizeLine) (hb : (!l.isEmpty) = b)
    (h : Q b { s with toks := s.toks + 1 + 1 }) : wpAny (model prog w) A (truthy (.ref d)) Q E s := by
  refine wpAny_truthy_list (isList_of N hm) ?_ ?_
  · rw [List.size_toArray]; rw [sizeLine_eq] at hz; omega
  · have e : (!l.toArray.isEmpty) = b := by rw [List.isEmpty_toArray]; exact hb
    rw [e]; exact h

theorem item_L {value slice : Expr} {l : List Value} {k : Int} {u : Tok} {v : Value} {Q : Value → Shared → Prop} (N : News h₀ L s.heap news) (hm : (d, listOf l.toArray n) ∈ news) (h0 : 0 ≤ k) (hk : k < 2 ^ 63) (hx : l[k.toNat]? = some v) (h : Q v s)
    (hs : subscripted slice false (.ref d) (.int k u) = operate [.ref d, .int k u] (getItem (.ref d) (.int k u)) := by with_unfolding_all rfl) :
    wpAny (model prog w) A (subscriptTail value slice (.ref d) (.int k u)) Q E s :=
  tail_any (isList_of N hm).typeIs slot_list_getitem.lookup (wpAny_getItem_list (isList_of N hm) h0 hk (by simpa using hx) h) hs

theorem item_B {value slice : Expr} {l : List Value} {k : Int} {u : Tok} {v : Value} {Q : Value → Shared → Prop} (hl : s.heap.IsList d l.toArray) (h0 : 0 ≤ k) (hk : k < 2 ^ 63) (hx : l[k.toNat]? = some v) (h : Q v s)
    (hs : subscripted slice false (.ref d) (.int k u) = operate [.ref d, .int k u] (getItem (.ref d) (.int k u)) := by with_unfolding_all rfl) :
    wpAny (model prog w) A (subscriptTail value slice (.ref d) (.int k u)) Q E s :=
  tail_any hl.typeIs slot_list_getitem.lookup (wpAny_getItem_list hl h0 hk (by simpa using hx) h) hs
theorem itemLast_L {value slice : Expr} {l : List Value} {u : Tok} {v : Value} {Q : Value → Shared → Prop} (N : News h₀ L s.heap news) (hm : (d, listOf (l ++ [v]).toArray n) ∈ news) (h : Q v s)
    (hs : subscripted slice false (.ref d) (.int (-1) u) = operate [.ref d, .int (-1) u] (getItem (.ref d) (.int (-1) u)) := by with_unfolding_all rfl) :
    wpAny (model prog w) A (subscriptTail value slice (.ref d) (.int (-1) u)) Q E s := by
  refine tail_any (isList_of N hm).typeIs slot_list_getitem.lookup (wpAny_getItem_list_neg (isList_of N hm) (by decide) ?_ (by decide) ?_ h) hs
  · rw [List.size_toArray, List.length_append, List.length_singleton]; omega
  · rw [List.size_toArray, List.length_append, List.length_singleton, show (-1 + ((l.length + 1 : Nat) : Int)).toNat = l.length by omega]; simp

theorem pop0_L {r : List Value} {u : Tok} {y : Value} {Q : Value → Shared → Prop} (F : Fr h₀ L s.heap m) (N : News h₀ L s.heap news) (U : Upd d (listOf (y :: r).toArray n) (listOf r.toArray (n + 1)) news news')
    (hz : (y :: r).length ≤ sizeLine) (h : ∀ h', Fr h₀ L h' m → News h₀ L h' news' → Q y { s with heap := h' }) : wpAny (model prog w) A (call (.builtin "list.pop") [.ref d, .int 0 u]) Q E s :=
  kl_popAt (p := []) (q := r) (k := 0) F N (by rfl) (by simp [seqIndex?]) rfl U hz h

theorem kl_last_append (l : List Value) (v : Value) : kl_last (l ++ [v]) = some (l, v) := by
  induction l with
  | nil => rfl
  | cons x r ih => show kl_last (x :: (r ++ [v])) = _; unfold kl_last; rw [ih]

theorem popLast_L {r : List Value} {y : Value} {Q : Value → Shared → Prop} (F : Fr h₀ L s.heap m) (N : News h₀ L s.heap news) (U : Upd d (listOf (r ++ [y]).toArray n) (listOf r.toArray (n + 1)) news news')
    (hz : (r ++ [y]).length ≤ sizeLine) (h : ∀ h', Fr h₀ L h' m → News h₀ L h' news' → Q y { s with heap := h' }) : wpAny (model prog w) A (call (.builtin "list.pop") [.ref d]) Q E s :=
  kl_pop (p := r) F N (kl_last_append r y) U hz h

theorem ins0_L {l : List Value} {u : Tok} {y : Value} {Q : Value → Shared → Prop} (F : Fr h₀ L s.heap m) (N : News h₀ L s.heap news) (U : Upd d (listOf l.toArray n) (listOf (y :: l).toArray (n + 1)) news news')
    (hz : l.length ≤ sizeLine) (h : ∀ h', Fr h₀ L h' m → News h₀ L h' news' → Q .none { s with heap := h' }) : wpAny (model prog w) A (call (.builtin "list.insert") [.ref d, .int 0 u, y]) Q E s :=
  kl_insert (l := y :: l) F N (by rfl) (by unfold kl_ins; simp) U hz h

theorem app_L {l : List Value} {y : Value} {Q : Value → Shared → Prop} (F : Fr h₀ L s.heap m) (N : News h₀ L s.heap news) (U : Upd d (listOf l.toArray n) (listOf (l ++ [y]).toArray (n + 1)) news news')
    (hz : l.length ≤ sizeLine) (h : ∀ h', Fr h₀ L h' m → News h₀ L h' news' → Q .none { s with heap := h' }) : wpAny (model prog w) A (call (.builtin "list.append") [.ref d, y]) Q E s :=
  append_K F N (by rw [List.push_toArray]; exact U) h (by rw [List.size_toArray]; exact hz)

theorem next_item_L {l : List Value} {dflt x : Value} {Q : Value → Shared → Prop} (F : Fr h₀ L s.heap m) (N : News h₀ L s.heap news) (hr : (row, listOf l.toArray n) ∈ news) (hx : l[i]? = some x)
    (U : Upd it (itObj (.ref row) i) (itObj (.ref row) (i + 1)) news news') (h : ∀ h', Fr h₀ L h' m → News h₀ L h' news' → Q x { s with heap := h' }) :
    wpAny (model prog w) A (call (.builtin "next") [.ref it, dflt]) Q E s := by
  have z := N _ (Upd.mem U)
  refine call_next ⟨_, z.1, rfl⟩ (pyNext_item z.1 (isList_of N hr) (by simpa using hx) fun h' e c => ?_)
  exact h h' (F.change c z.2.1 z.2.2) (News.turn N U c.extBut e)

theorem next_end_L {l : List Value} {dflt : Value} {Q : Value → Shared → Prop} (hh : A.handled = none) (F : Fr h₀ L s.heap m) (N : News h₀ L s.heap news) (hr : (row, listOf l.toArray n) ∈ news) (hx : l[i]? = none)
    (U : Upd it (itObj (.ref row) i) (itObj .none i) news news') (h : ∀ h', Fr h₀ L h' m → News h₀ L h' news' → Q dflt { s with heap := h' }) :
    wpAny (model prog w) A (call (.builtin "next") [.ref it, dflt]) Q E s := by
  have z := N _ (Upd.mem U)
  refine call_next ⟨_, z.1, rfl⟩ (pyNext_end hh z.1 (isList_of N hr) (by simpa using hx) fun h' e c => ?_)
  exact h h' (Fr.ext F c z.2.1 z.2.2) (News.turn N U c e)

theorem next_ended_L {dflt : Value} {Q : Value → Shared → Prop} (hh : A.handled = none) (F : Fr h₀ L s.heap m) (N : News h₀ L s.heap news)
    (U : Upd it (itObj .none i) (itObj .none i) news news) (h : ∀ h', Fr h₀ L h' m → News h₀ L h' news → Q dflt { s with heap := h' }) :
    wpAny (model prog w) A (call (.builtin "next") [.ref it, dflt]) Q E s := by
  have z := N _ (Upd.mem U)
  refine call_next ⟨_, z.1, rfl⟩ (pyNext_ended hh z.1 fun h' e c => ?_)
  exact h h' (Fr.ext F c z.2.1 z.2.2) (News.turn N U c e)
end

section
variable {prog : Program} {w : World} {A : Around} {E : Value → Shared → Prop} {s : Shared} {R : Result → Shared → Prop} {env : Env}
/-- one turn of a while -/
theorem whileTurnW {test : PySem.Expr} {body orelse : List Stmt}
    (h : wpAny (model prog w) A (isTrue test env (eval test env)) (fun b s₂ =>
        if b then wpAny (model prog w) A (execs body env) (fun f s₃ => match f with
            | .next | .cont => codeAny (model prog w) A (.whileLoop test body orelse env) R s₃
            | .brk => R (.ok .next) s₃
            | .ret v => R (.ok (.ret v)) s₃) (notedBy (model prog w) A env fun e s' => R (.error e) s') s₂
        else wpAny (model prog w) A (execs orelse env) (fun f s₃ => R (.ok f) s₃) (notedBy (model prog w) A env fun e s' => R (.error e) s') s₂)
        (notedBy (model prog w) A env fun e s' => R (.error e) s') s) : codeAny (model prog w) A (.whileLoop test body orelse env) R s := by
  refine codeAny_of_tree ?_
  show wpAny _ A ((whileTurn test body orelse env).onRaise (fun x => do noteFrame x env; theTreesLotGoes x)) _ _ s
  refine wpAny_noted ?_
  simp only [whileTurn]
  refine wpAny_bind (wpAny_mono h (fun b s₂ h₂ => ?_) fun _ _ h' => h')
  cases b with
  | false =>
    simp only [Bool.false_eq_true, if_false] at h₂ ⊢
    exact wpAny_bind (wpAny_mono h₂ (fun f s₃ h₃ => wpAny_pure h₃) fun _ _ h' => h')
  | true =>
    simp only [if_true] at h₂ ⊢
    refine wpAny_bind (wpAny_mono h₂ (fun f s₃ h₃ => ?_) fun _ _ h' => h')
    cases f with
    | next => exact wpAny_pure ⟨rfl, h₃⟩
    | cont => exact wpAny_pure ⟨rfl, h₃⟩
    | brk => exact wpAny_pure h₃
    | ret v => exact wpAny_pure h₃
/-- one turn of a for -/
theorem forTurnW {target : PySem.Expr} {it : Value} {body orelse : List Stmt}
    (h : wpAny (model prog w) A (pyNext it) (fun r s₁ => match r with
      | none => wpAny (model prog w) A (execs orelse env) (fun f s₃ => R (.ok f) s₃) (notedBy (model prog w) A env fun e s' => R (.error e) s') s₁
      | some v => wpAny (model prog w) A (assign target env v) (fun _ s₂ => wpAny (model prog w) A (execs body env) (fun f s₃ => match f with
          | .next | .cont => codeAny (model prog w) A (.forLoop target it body orelse env) R s₃
          | .brk => R (.ok .next) s₃
          | .ret v => R (.ok (.ret v)) s₃) (notedBy (model prog w) A env fun e s' => R (.error e) s') s₂) (notedBy (model prog w) A env fun e s' => R (.error e) s') s₁) (notedBy (model prog w) A env fun e s' => R (.error e) s') s)
    (ht : ∀ v, letOwnedTupleGo target it v = pure () := by intro _; rfl) : codeAny (model prog w) A (.forLoop target it body orelse env) R s := by
  refine codeAny_of_tree ?_
  show wpAny _ A ((forTurn target it body orelse env).onRaise (fun x => do noteFrame x env; theTreesLotGoes x)) _ _ s
  refine wpAny_noted ?_
  simp only [forTurn]
  refine wpAny_bind (wpAny_standAt (wpAny_bind (wpAny_onRaise (wpAny_mono h (fun r s₁ h₁ => ?_) fun _ _ h' => wpAny_standAt h'))))
  cases r with
  | none => exact wpAny_pure ⟨rfl, codeAny_block h₁⟩
  | some v =>
    refine wpAny_bind (wpAny_of_eq (ht v) ?_)
    refine wpAny_bind (wpAny_mono h₁ (fun _ s₂ h₂ => wpAny_bind (wpAny_mono h₂ (fun f s₃ h₃ => ?_) fun _ _ h' => h')) fun _ _ h' => h')
    cases f with
    | next => exact wpAny_pure ⟨rfl, h₃⟩
    | cont => exact wpAny_pure ⟨rfl, h₃⟩
    | brk => exact wpAny_pure h₃
    | ret v => exact wpAny_pure h₃

theorem news_sub {h₀ h : Heap} {L : Addr} {l l' : List (Addr × Obj)} (N : News h₀ L h l) (hs : ∀ q ∈ l', q ∈ l) : News h₀ L h l' := fun q hq => N q (hs q hq)
theorem news_swap {h₀ h : Heap} {L : Addr} {a b c : List (Addr × Obj)} (N : News h₀ L h (a ++ (b ++ c))) : News h₀ L h (b ++ (a ++ c)) :=
  news_sub N fun q hq => by
    rcases List.mem_append.mp hq with h | h
    · exact List.mem_append_right _ (List.mem_append_left _ h)
    · rcases List.mem_append.mp h with h | h
      · exact List.mem_append_left _ h
      · exact List.mem_append_right _ (List.mem_append_right _ h)
theorem news_rot {h₀ h : Heap} {L : Addr} {a b c : List (Addr × Obj)} (N : News h₀ L h (a ++ (b ++ c))) : News h₀ L h (c ++ (a ++ b)) :=
  news_sub N fun q hq => by
    rcases List.mem_append.mp hq with h | h
    · exact List.mem_append_right _ (List.mem_append_right _ h)
    · rcases List.mem_append.mp h with h | h
      · exact List.mem_append_left _ h
      · exact List.mem_append_right _ (List.mem_append_left _ h)
theorem news_drop {h₀ h : Heap} {L : Addr} {a b c : List (Addr × Obj)} (N : News h₀ L h (a ++ (b ++ c))) : News h₀ L h (a ++ c) :=
  news_sub N fun q hq => by
    rcases List.mem_append.mp hq with h | h
    · exact List.mem_append_left _ h
    · exact List.mem_append_right _ (List.mem_append_right _ h)
theorem here_swap {h : Heap} {a b c : List (Addr × Obj)} (N : Here h (a ++ (b ++ c))) : Here h (a ++ (c ++ b)) := fun q hq => by
  rcases List.mem_append.mp hq with h | h
  · exact N q (List.mem_append_left _ h)
  · rcases List.mem_append.mp h with h | h
    · exact N q (List.mem_append_right _ (List.mem_append_right _ h))
    · exact N q (List.mem_append_right _ (List.mem_append_left _ h))
theorem news_front {h₀ h : Heap} {L : Addr} {a b c d : List (Addr × Obj)} (N : News h₀ L h (a ++ (b ++ (c ++ d)))) : News h₀ L h (c ++ (a ++ (b ++ d))) :=
  news_sub N fun q hq => by simp only [List.mem_append] at hq ⊢; rcases hq with h | h | h | h <;> simp [h]
theorem news_back {h₀ h : Heap} {L : Addr} {a b c d : List (Addr × Obj)} (N : News h₀ L h (c ++ (a ++ (b ++ d)))) : News h₀ L h (a ++ (b ++ (c ++ d))) :=
  news_sub N fun q hq => by simp only [List.mem_append] at hq ⊢; rcases hq with h | h | h | h <;> simp [h]
theorem news_nil {h₀ h : Heap} {L : Addr} {l : List (Addr × Obj)} (N : News h₀ L h l) : News h₀ L h (l ++ []) := by rw [List.append_nil]; exact N
theorem instKeeps {h h' : Heap} {x C : Addr} {ox : Obj} {od : Option Obj} (I : PySem.W.InstAt h x ox C od) (k : ∀ b o, h.get? b = some o → h'.get? b = some o) : PySem.W.InstAt h' x ox C od := by
  obtain ⟨a, b, c, d⟩ := I
  refine ⟨k _ _ a, b, c, ?_⟩
  obtain ⟨oc, od', oda, osl⟩ := ox
  dsimp only at d ⊢
  cases od' <;> cases od <;> first | exact d | exact k _ _ d
theorem here1 {h : Heap} {a : Addr × Obj} {l : List (Addr × Obj)} (x : Here h (a :: l)) : Here h [a] := fun z hz => x z (by rw [List.mem_singleton.mp hz]; exact .head _)
theorem news_pick {h₀ h : Heap} {L : Addr} {a j e t : List (Addr × Obj)} (N : News h₀ L h (a ++ (j ++ (e ++ t)))) : News h₀ L h (e ++ (a ++ t)) :=
  news_sub N fun q hq => by simp only [List.mem_append] at hq ⊢; rcases hq with h | h | h <;> simp [h]
end
end
section
open PySem PySem.W PySem.Calls PyProof.Rows PySem.Spec
local macro_rules | `(tactic| kl_room) => `(tactic| (simp only [sizeLine_eq, List.length_cons, List.length_nil, List.length_append, List.length_singleton, List.length_map, List.length_reverse] at *; omega))
local macro_rules | `(tactic| k_room) => `(tactic| ((try simp only [depth_under_make, depth_under_kw, depth_in1, depth_deeper, depth_caller]); (simp only [recursionLimit] at *); omega))
local macro_rules | `(tactic| walk_at "truthy ref") => `(tactic| (k_here; k_dflt (first
  | (refine' truthy_L (b := true) ?N ?m ?z ?b ?_; (case N => k_asm); (case m => k_mem); (case b => first | exact rfl | (simp; done)); (case z => kl_room))
  | (refine' truthy_L (b := false) ?N ?m ?z ?b ?_; (case N => k_asm); (case m => k_mem); (case b => first | exact rfl | (simp; done)); (case z => kl_room)))))
local macro_rules | `(tactic| walk_at "subscriptTail") => `(tactic| (k_here; (with_reducible show wpAny _ _ (subscriptTail _ _ (Value.ref _) (Value.int _ _)) _ _ _); k_dflt (first
  | (refine' item_L ?N ?m ?a ?b ?x ?_; (case N => k_asm); (case m => k_mem); (case a => decide); (case b => decide); (case x => exact rfl); k_whole)
  | (refine' itemLast_L ?N ?m ?_; (case N => k_asm); (case m => k_mem); k_whole)
  | (refine' item_B ?l ?a ?b ?x ?_; (case l => is_list); (case a => decide); (case b => decide); (case x => exact rfl); k_whole))))
local macro_rules | `(tactic| walk_at "call builtin:list.pop") => `(tactic| (k_here; k_dflt (first
  | ((with_reducible show wpAny _ _ (call (Value.builtin _) [Value.ref _]) _ _ _); refine' popLast_L ?F ?N ?U ?z ?_; (case F => k_asm); (case N => k_asm); (case U => k_upd); (case z => kl_room))
  | ((with_reducible show wpAny _ _ (call (Value.builtin _) [Value.ref _, Value.int _ _]) _ _ _); refine' pop0_L ?F ?N ?U ?z ?_; (case F => k_asm); (case N => k_asm); (case U => k_upd); (case z => kl_room))); kl_rest))
local macro_rules | `(tactic| walk_at "call builtin:list.insert") => `(tactic| (k_here; (with_reducible show wpAny _ _ (call (Value.builtin _) [Value.ref _, Value.int _ _, _]) _ _ _); k_dflt (refine' ins0_L ?F ?N ?U ?z ?_; (case F => k_asm); (case N => k_asm); (case U => k_upd); (case z => kl_room)); kl_rest))
local macro_rules | `(tactic| walk_at "call builtin:list.append") => `(tactic| (k_here; (with_reducible show wpAny _ _ (call (Value.builtin _) [Value.ref _, _]) _ _ _); k_dflt (refine' app_L ?F ?N ?U ?z ?_; (case F => k_asm); (case N => k_asm); (case U => k_upd); (case z => kl_room)); kl_rest))
local macro_rules | `(tactic| walk_at "call builtin:next") => `(tactic| (k_here; (with_reducible show wpAny _ _ (call (Value.builtin "next") [Value.ref _, _]) _ _ _); k_dflt (first
  | (refine' next_item_L ?F ?N ?r ?x ?U ?_; (case F => k_asm); (case N => k_asm); (case U => k_upd); (case r => k_mem); (case x => assumption))
  | (refine' next_end_L ?hh ?F ?N ?r ?x ?U ?_; (case hh => first | assumption | exact rfl); (case F => k_asm); (case N => k_asm); (case U => k_upd); (case r => k_mem); (case x => assumption))
  | (refine' next_ended_L ?hh ?F ?N ?U ?_; (case hh => first | assumption | exact rfl); (case F => k_asm); (case N => k_asm); (case U => k_upd))); kl_rest))
local macro_rules | `(tactic| walk_at "subscriptTail Name Constant ref int") => `(tactic| (k_here; k_dflt (first
  | (refine' item_L ?N ?m ?a ?b ?x ?_; (case N => k_asm); (case m => k_mem); (case a => decide); (case b => decide); (case x => exact rfl); k_whole)
  | (refine' item_B ?l ?a ?b ?x ?_; (case l => is_list); (case a => decide); (case b => decide); (case x => exact rfl); k_whole))))
section
open PySem PySem.W PySem.Calls PyProof.Rows PySem.Spec
set_option Elab.async false
set_option maxRecDepth 100000
set_option maxHeartbeats 4000000
theorem offMacC : True ∧ True := by
  w_top off
  walk1 <;> trivial
/-- a macro's expansion: its objects; its row and buffer; where its iterator stands -/
structure Mac where
  x : Nat
  xd : Nat
  tb : Nat
  it : Nat
  row : Nat
  h1 : Int
  h2 : Int
  h3 : Int
  t1 : Nat
  t2 : Nat
  t3 : Nat
  hs : Value
  dn : Nat
  items : List Value
  rn : Nat
  buf : List Value
  n : Nat
  src : Value
  pos : Nat

abbrev ME (h1 h2 h3 : Int) (t1 t2 t3 : Tok) (it tb : Addr) (hs : Value) : List DictEntry := [⟨h1, .str (Str.ofString "tokens") t1, .ref it⟩, ⟨h2, .str (Str.ofString "token_buffer") t2, .ref tb⟩, ⟨h3, .str (Str.ofString "hideset") t3, hs⟩]
@[irreducible] def Mac.objs (c : Mac) : List (Addr × Obj) :=
  [(c.x, instObj 110 c.xd), (c.xd, dictOf (ME c.h1 c.h2 c.h3 c.t1 c.t2 c.t3 c.it c.tb c.hs) c.dn), (c.tb, listOf c.buf.toArray c.n), (c.it, itObj c.src c.pos), (c.row, listOf c.items.toArray c.rn)]
def Mac.adr (c : Mac) : List Nat := [c.x, c.xd, c.tb, c.it, c.row]
structure Mac.Ok (c : Mac) : Prop where
  d : c.adr.Nodup
  one : c.buf.length ≤ 1
  src : c.buf ≠ [.none] → c.src = .ref c.row
  items : ∀ v ∈ c.items, ∃ a, v = .ref a
  bufs : ∀ v ∈ c.buf, v = .none ∨ ∃ a, v = .ref a
def Mac.rest (c : Mac) : List Value := match c.buf with
  | [] => c.items.drop c.pos
  | .none :: _ => []
  | v :: _ => v :: c.items.drop c.pos
def Mac.peeked (c : Mac) : Mac := match c.buf with
  | [] => match c.items[c.pos]? with
    | some v => { c with buf := [v], n := c.n + 1, pos := c.pos + 1 }
    | none => { c with buf := [.none], n := c.n + 1, src := .none }
  | _ => c
def Mac.took (c : Mac) : Mac := { c with buf := [], n := c.n + 1 }

theorem Mac.objs_adr (c : Mac) : c.objs.map (·.1) = c.adr := by rw [Mac.objs]; rfl

section
variable {w : World} {p : Program} {loose : List Str} {mean : ExcName → Option Value} {mg mb : Str → Option Value} {A A₀ : Around} {env : Env} {outer : List Env} {base h₀ : Heap} {L : Addr} {m : Str → Option Value} {s : Shared} {R : Result → Shared → Prop}

theorem mac_peek (c : Mac) (ok : c.Ok) (S : Site (Mine.hd.heap_39 w.params) p loose mean mg mb A env outer A₀ base h₀ L m s.heap) (hd : A.depth < 900) (hu : A.units < 9000) (N : News h₀ L s.heap c.objs)
    (hq : ∀ h' tk', Chg c.adr s.heap h' → Here h' c.peeked.objs → R (.ok (.ret (c.rest.headD .none))) { s with heap := h', toks := tk' }) :
    codeAny (model PySem.Challenge.rw_rk0006_01.prog w) A (.call (.ref 92) ⟨[.ref c.x], []⟩) R s := by
  revert S; k_fill; intro S
  have hh := S.hh
  obtain ⟨x, xd, tb, it, row, h1, h2, h3, t1, t2, t3, hs, dn, items, rn, buf, n, src, pos⟩ := c
  obtain ⟨d, one, hsrc, hit, hbf⟩ := ok
  simp only [Mac.objs] at N
  simp only [Mac.adr, List.nodup_cons, List.mem_cons, List.not_mem_nil, or_false, not_or] at d hq one hsrc
  obtain ⟨⟨d1, d2, d3, d4⟩, ⟨d5, d6, d7⟩, ⟨d8, d9⟩, d10, -⟩ := d
  refine' enterH (binds := [(Str.ofString "self", .ref x)]) S N ?k6 ?k7 ?k8 ?k9 ?kB ?_ ?c2 ?c3 ?c4 ?c5
  case k6 => k_is
  case k7 => k_is
  case k8 => (simp only [recursionLimit]; omega)
  case k9 => exact BindsTo.of_eq rfl
  case kB => exact locs rfl
  case c2 => exact rfl
  case c3 => exact rfl
  case c4 => exact rfl
  case c5 => decide
  intro g' L' h' hg' F' N' B' X' T' l'
  try dsimp only
  try k_fold
  match buf, one with
  | [], _ =>
    have hs' : src = .ref row := hsrc (by simp)
    subst hs'
    cases hx : items[pos]? with
    | some v =>
      k_steps
      try dsimp only [qk]
      refine ⟨_, _, _, by k_asm, by k_asm, fun c hr => ?_⟩
      have q := hq _ (tk + 1 + 1) c (by simp only [Mac.peeked, Mac.objs, hx]; exact hr)
      simp only [Mac.rest, List.headD_eq_head?_getD, List.head?_drop, hx, Option.getD_some] at q
      exact q
    | none =>
      k_steps
      try dsimp only [qk]
      refine ⟨_, _, _, by k_asm, by k_asm, fun c hr => ?_⟩
      have q := hq _ (tk + 1 + 1) c (by simp only [Mac.peeked, Mac.objs, hx]; exact hr)
      simp only [Mac.rest, List.headD_eq_head?_getD, List.head?_drop, hx, Option.getD_none] at q
      exact q
  | [v], _ =>
    k_steps
    try dsimp only [qk]
    refine ⟨_, _, _, by k_asm, by k_asm, fun c hr => ?_⟩
    have q := hq _ (tk + 1 + 1) c (by simp only [Mac.peeked, Mac.objs]; exact hr)
    have e : (Mac.rest { x := x, xd := xd, tb := tb, it := it, row := row, h1 := h1, h2 := h2, h3 := h3, t1 := t1, t2 := t2, t3 := t3, hs := hs, dn := dn, items := items, rn := rn, buf := [v], n := n, src := src, pos := pos }).headD .none = v := by
      cases v <;> rfl
    rw [e] at q
    exact q

theorem mac_next (c : Mac) (ok : c.Ok) (v : Value) (hb : c.buf = [v]) (S : Site (Mine.hd.heap_39 w.params) p loose mean mg mb A env outer A₀ base h₀ L m s.heap) (hd : A.depth < 900) (hu : A.units < 9000) (N : News h₀ L s.heap c.objs)
    (hq : ∀ h' tk', Chg c.adr s.heap h' → Here h' c.took.objs → R (.ok (.ret v)) { s with heap := h', toks := tk' }) :
    codeAny (model PySem.Challenge.rw_rk0006_01.prog w) A (.call (.ref 100) ⟨[.ref c.x], []⟩) R s := by
  revert S; k_fill; intro S
  have hh := S.hh
  obtain ⟨x, xd, tb, it, row, h1, h2, h3, t1, t2, t3, hs, dn, items, rn, buf, n, src, pos⟩ := c
  obtain ⟨d, one, hsrc, hit, hbf⟩ := ok
  dsimp only at hb
  subst hb
  simp only [Mac.objs] at N
  simp only [Mac.adr, List.nodup_cons, List.mem_cons, List.not_mem_nil, or_false, not_or] at d hq one hsrc
  obtain ⟨⟨d1, d2, d3, d4⟩, ⟨d5, d6, d7⟩, ⟨d8, d9⟩, d10, -⟩ := d
  refine' enterH (binds := [(Str.ofString "self", .ref x)]) S N ?k6 ?k7 ?k8 ?k9 ?kB ?_ ?c2 ?c3 ?c4 ?c5
  case k6 => k_is
  case k7 => k_is
  case k8 => (simp only [recursionLimit]; omega)
  case k9 => exact BindsTo.of_eq rfl
  case kB => exact locs rfl
  case c2 => exact rfl
  case c3 => exact rfl
  case c4 => exact rfl
  case c5 => decide
  intro g' L' h' hg' F' N' B' X' T' l'
  try dsimp only
  try k_fold
  k_steps
  try dsimp only [qk]
  refine ⟨_, _, _, by k_asm, by k_asm, fun c hr => ?_⟩
  exact hq _ _ c (by simp only [Mac.took, Mac.objs]; exact hr)
end

theorem Mac.mem_adr {c : Mac} {q : Addr × Obj} (h : q ∈ c.objs) : q.1 ∈ c.adr := by rw [← Mac.objs_adr]; exact List.mem_map_of_mem h
theorem Mac.peeked_adr (c : Mac) : c.peeked.adr = c.adr := by
  unfold Mac.peeked; split
  · split <;> rfl
  · rfl
theorem Mac.peeked_x (c : Mac) : c.peeked.x = c.x := by
  unfold Mac.peeked; split
  · split <;> rfl
  · rfl
theorem Mac.rest_tok {c : Mac} (ok : c.Ok) : ∀ v ∈ c.rest, ∃ a, v = .ref a := by
  intro v hv
  unfold Mac.rest at hv
  split at hv
  · exact ok.items v (List.mem_of_mem_drop hv)
  · cases hv
  · rename_i u r e hn
    rcases List.mem_cons.mp hv with rfl | hv
    · rcases ok.bufs v (by rw [hn]; exact .head _) with h | h
      · exact absurd h e
      · exact h
    · exact ok.items v (List.mem_of_mem_drop hv)
theorem Mac.peeked_ok {c : Mac} (ok : c.Ok) : c.peeked.Ok := by
  refine ⟨by rw [Mac.peeked_adr]; exact ok.d, ?_, ?_, ?_, ?_⟩
  · unfold Mac.peeked; split
    · split <;> simp
    · exact ok.one
  · unfold Mac.peeked; split
    · rename_i e
      split
      · exact fun _ => ok.src (by rw [e]; simp)
      · intro h; exact absurd rfl h
    · exact ok.src
  · unfold Mac.peeked; split
    · split <;> exact ok.items
    · exact ok.items
  · unfold Mac.peeked; split
    · split
      · rename_i v hv
        intro u hu
        rw [List.mem_singleton.mp hu]
        exact .inr (ok.items v (List.mem_of_getElem? hv))
      · intro u hu
        exact .inl (List.mem_singleton.mp hu)
    · exact ok.bufs
theorem Mac.peeked_buf {c : Mac} (ok : c.Ok) : c.peeked.buf = [c.rest.headD .none] := by
  match hb : c.buf, ok.one with
  | [], _ =>
    have er : c.rest = c.items.drop c.pos := by unfold Mac.rest; simp only [hb]
    cases hv : c.items[c.pos]? with
    | some v =>
      have e1 : c.peeked = { c with buf := [v], n := c.n + 1, pos := c.pos + 1 } := by unfold Mac.peeked; simp only [hb, hv]
      rw [e1, er, List.headD_eq_head?_getD, List.head?_drop, hv]
      rfl
    | none =>
      have e1 : c.peeked = { c with buf := [.none], n := c.n + 1, src := .none } := by unfold Mac.peeked; simp only [hb, hv]
      rw [e1, er, List.headD_eq_head?_getD, List.head?_drop, hv]
      rfl
  | [v], _ =>
    have e1 : c.peeked = c := by unfold Mac.peeked; simp only [hb]
    rw [e1]
    unfold Mac.rest
    rw [hb]
    cases v <;> rfl
theorem Mac.peeked_rest {c : Mac} (ok : c.Ok) : c.peeked.rest = c.rest := by
  match hb : c.buf, ok.one with
  | [], _ =>
    cases hv : c.items[c.pos]? with
    | some v =>
      have e : c.items.drop c.pos = v :: c.items.drop (c.pos + 1) := by
        obtain ⟨hlt, he⟩ := List.getElem?_eq_some_iff.mp hv
        rw [List.drop_eq_getElem_cons hlt, he]
      obtain ⟨a, rfl⟩ := ok.items v (List.mem_of_getElem? hv)
      have e1 : c.peeked = { c with buf := [.ref a], n := c.n + 1, pos := c.pos + 1 } := by unfold Mac.peeked; simp only [hb, hv]
      rw [e1]
      unfold Mac.rest
      simp only [hb, e]
    | none =>
      have e1 : c.peeked = { c with buf := [.none], n := c.n + 1, src := .none } := by unfold Mac.peeked; simp only [hb, hv]
      rw [e1]
      unfold Mac.rest
      simp only [hb]
      exact (List.drop_eq_nil_of_le (List.getElem?_eq_none_iff.mp hv)).symm
  | [v], _ =>
    have e1 : c.peeked = c := by unfold Mac.peeked; simp only [hb]
    rw [e1]
theorem Mac.took_ok {c : Mac} (ok : c.Ok) {v : Value} (hb : c.buf = [v]) (hv : v ≠ .none) : c.took.Ok :=
  ⟨ok.d, by unfold Mac.took; simp, fun _ => ok.src (by rw [hb]; simp [hv]), ok.items, fun _ h => (nomatch h)⟩
theorem Mac.took_rest {c : Mac} {v : Value} (hb : c.buf = [v]) (hv : v ≠ .none) : c.rest = v :: c.took.rest := by
  unfold Mac.took Mac.rest
  rw [hb]
  cases v <;> first | exact absurd rfl hv | rfl

section
variable {w : World} {p : Program} {loose : List Str} {mean : ExcName → Option Value} {mg mb : Str → Option Value} {A A₀ : Around} {env : Env} {outer : List Env} {base h₀ : Heap} {L : Addr} {m : Str → Option Value} {s : Shared} {E : Value → Shared → Prop} {rest : List (Addr × Obj)}

theorem macNews {c : Mac} {h' : Heap} {l : List (Addr × Obj)} (N : News h₀ L s.heap (c.objs ++ rest)) (off : ∀ q ∈ rest, q.1 ∉ c.adr) (ch : Chg c.adr s.heap h') (hr : Here h' l) (hl : ∀ q ∈ l, q.1 ∈ c.adr) : News h₀ L h' (l ++ rest) := by
  intro q hq
  rcases List.mem_append.mp hq with hq | hq
  · have ha := hl q hq
    rw [← Mac.objs_adr] at ha
    obtain ⟨q', hq', e⟩ := List.mem_map.mp ha
    have z := N q' (List.mem_append_left _ hq')
    rw [e] at z
    exact ⟨hr q hq, z.2⟩
  · have z := N q (List.mem_append_right _ hq)
    exact ⟨ch _ _ (off q hq) z.1, z.2⟩
theorem macFr {c : Mac} {h' : Heap} (F : Fr h₀ L s.heap m) (N : News h₀ L s.heap (c.objs ++ rest)) (ch : Chg c.adr s.heap h') : Fr h₀ L h' m := by
  have key : ∀ b ∈ c.adr, b ≠ L ∧ h₀.get? b = none := fun b hb => by
    rw [← Mac.objs_adr] at hb
    obtain ⟨q', hq', e⟩ := List.mem_map.mp hb
    have z := N q' (List.mem_append_left _ hq')
    rw [e] at z
    exact z.2
  exact Fr.chg F ch (fun hb => (key L hb).1 rfl) fun b hb => (key b hb).2

theorem macPeekGet {expr : Bool} {Q : Value → Shared → Prop} (c : Mac) (ok : c.Ok) (S : Site (Mine.hd.heap_39 w.params) p loose mean mg mb A env outer A₀ base h₀ L m s.heap) (hd : A.depth < 900) (hu : A.units < 8999) (N : News h₀ L s.heap (c.objs ++ rest))
    (off : ∀ q ∈ rest, q.1 ∉ c.adr) (h : ∀ h' tk', Fr h₀ L h' m → News h₀ L h' (c.peeked.objs ++ rest) → Q (c.rest.headD .none) { s with heap := h', toks := tk' }) :
    wpAny (model PySem.Challenge.rw_rk0006_01.prog w) A (getAttr (.ref c.x) (Str.ofString "peek") expr) Q E s := by
  revert S; k_fill; intro S
  have I : PySem.W.InstAt s.heap c.x (instObj 110 c.xd) 110 (some (dictOf (ME c.h1 c.h2 c.h3 c.t1 c.t2 c.t3 c.it c.tb c.hs) c.dn)) :=
    InstAt.of_news N (List.mem_append_left _ (by rw [Mac.objs]; exact .head _)) (List.mem_append_left _ (by rw [Mac.objs]; exact .tail _ (.head _)))
  refine' get_prop S.F S.X I ?k4 ?k5 ?k6 ?k7 ?k8 ?k9 ?_
  case k4 => k_is
  case k5 => k_is
  case k6 => k_is
  case k7 => k_is
  case k8 => k_is
  case k9 => k_is
  refine mac_peek c ok (s := { s with toks := s.toks + 1 }) (A := A.in1) ⟨S.B, S.F, S.X, S.T, S.hA, S.hh, S.hf, S.hk⟩ hd (by show A.units + 1 < 9000; omega) (fun q hq => N q (List.mem_append_left _ hq)) fun h' tk' ch hr => ?_
  show wpAny _ _ (handedOut (c.rest.headD .none)) _ _ _
  rw [handedOut_of (by
    cases hc : c.rest with
    | nil => rfl
    | cons v r =>
      obtain ⟨a, rfl⟩ := Mac.rest_tok ok v (by rw [hc]; exact .head _)
      rfl)]
  exact wpAny_pure (h h' tk' (macFr S.F N ch) (macNews N off ch hr fun q hq => Mac.peeked_adr c ▸ Mac.mem_adr hq))

theorem macGetNext {pl : Sem Bool} {Q : Value × List Value → Shared → Prop} (c : Mac) (S : Site (Mine.hd.heap_39 w.params) p loose mean mg mb A env outer A₀ base h₀ L m s.heap) (N : News h₀ L s.heap (c.objs ++ rest)) (h : Q (.ref 100, [.ref c.x]) s) :
    wpAny (model PySem.Challenge.rw_rk0006_01.prog w) A (getMethod (.ref c.x) (Str.ofString "next_token") pl) Q E s := by
  revert S; k_fill; intro S
  have I : PySem.W.InstAt s.heap c.x (instObj 110 c.xd) 110 (some (dictOf (ME c.h1 c.h2 c.h3 c.t1 c.t2 c.t3 c.it c.tb c.hs) c.dn)) :=
    InstAt.of_news N (List.mem_append_left _ (by rw [Mac.objs]; exact .head _)) (List.mem_append_left _ (by rw [Mac.objs]; exact .tail _ (.head _)))
  refine' method_inst S.F S.X I ?k4 ?k5 ?k6 ?k7 ?_
  case k4 => k_is
  case k5 => k_is
  case k6 => k_is
  case k7 => k_get
  exact h

theorem macNextCall {R : Result → Shared → Prop} (c : Mac) (ok : c.Ok) (v : Value) (hb : c.buf = [v]) (S : Site (Mine.hd.heap_39 w.params) p loose mean mg mb A env outer A₀ base h₀ L m s.heap) (hd : A.depth < 900) (hu : A.units < 8999) (N : News h₀ L s.heap (c.objs ++ rest))
    (off : ∀ q ∈ rest, q.1 ∉ c.adr) (h : ∀ h' tk', Fr h₀ L h' m → News h₀ L h' (c.took.objs ++ rest) → R (.ok (.ret v)) { s with heap := h', toks := tk' }) :
    codeAny (model PySem.Challenge.rw_rk0006_01.prog w) A (.call (.ref 100) ⟨[.ref c.x], []⟩) R s := by
  refine mac_next c ok v hb S hd (by omega) (fun q hq => N q (List.mem_append_left _ hq)) fun h' tk' ch hr => ?_
  exact h h' tk' (macFr S.F N ch) (macNews N off ch hr fun q hq => (Mac.mem_adr hq : q.1 ∈ c.took.adr))
end
end
section
open PySem PySem.W PySem.Calls PyProof.Rows PySem.Spec
local macro_rules | `(tactic| walk_at "exec While") => `(tactic| (k_here; refine wpAny_While ?_))
local macro_rules | `(tactic| walk_at "call ref") => `(tactic| (k_here; (with_reducible show wpAny _ _ (call (Value.ref 100) _ _) _ _ _); refine wpAny_call ?_))
section
open PySem PySem.W PySem.Calls PyProof.Rows PySem.Spec
set_option Elab.async false
set_option maxRecDepth 100000
set_option maxHeartbeats 4000000
theorem offExpC : True ∧ True := by
  w_top off
  walk1 <;> trivial
/-- the expander of a file -/
structure Exp where
  f : Nat
  fd : Nat
  tb : Nat
  mx : Nat
  it : Nat
  row : Nat
  gh : Nat → Int
  kt : Nat → Nat
  sf : Value
  dp : Value
  ifs : Value
  pt : Nat
  dn : Nat
  items : List Value
  rn : Nat
  buf : List Value
  n : Nat
  macs : List Mac
  mn : Nat
  src : Value
  pos : Nat

abbrev XE (gh : Nat → Int) (kt : Nat → Nat) (sf dp ifs : Value) (tb it mx : Addr) (pt : Nat) : List DictEntry :=
  [⟨gh 0, .str (Str.ofString "source_file") (kt 0), sf⟩, ⟨gh 1, .str (Str.ofString "dependencies") (kt 1), dp⟩, ⟨gh 2, .str (Str.ofString "if_stack") (kt 2), ifs⟩, ⟨gh 3, .str (Str.ofString "token_buffer") (kt 3), .ref tb⟩,
   ⟨gh 4, .str (Str.ofString "tokens") (kt 4), .ref it⟩, ⟨gh 5, .str (Str.ofString "macro_expansions") (kt 5), .ref mx⟩, ⟨gh 6, .str (Str.ofString "in_directive") (kt 6), .bool false⟩, ⟨gh 7, .str (Str.ofString "paren_level") (kt 7), .int 0 pt⟩]
abbrev refs (l : List Mac) : List Value := l.map fun c => .ref c.x
abbrev macsObjs (l : List Mac) : List (Addr × Obj) := l.flatMap Mac.objs
abbrev macsAdr (l : List Mac) : List Nat := l.flatMap Mac.adr
def Exp.six (e : Exp) : List (Addr × Obj) :=
  [(e.f, instObj 67 e.fd), (e.fd, dictOf (XE e.gh e.kt e.sf e.dp e.ifs e.tb e.it e.mx e.pt) e.dn), (e.tb, listOf e.buf.toArray e.n), (e.mx, listOf (refs e.macs).toArray e.mn), (e.it, itObj e.src e.pos), (e.row, listOf e.items.toArray e.rn)]
def Exp.objs (e : Exp) : List (Addr × Obj) := e.six ++ macsObjs e.macs
def Exp.sixAdr (e : Exp) : List Nat := [e.f, e.fd, e.tb, e.mx, e.it, e.row]
def Exp.adr (e : Exp) : List Nat := e.sixAdr ++ macsAdr e.macs
def macsRest (l : List Mac) : List Value := l.reverse.flatMap Mac.rest
def Exp.flat (e : Exp) : List Value := e.buf ++ (macsRest e.macs ++ e.items.drop e.pos)
structure Exp.Ok (e : Exp) : Prop where
  d : e.adr.Nodup
  src : e.src = .ref e.row ∨ (e.src = .none ∧ e.items.drop e.pos = [])
  items : ∀ v ∈ e.items, ∃ a, v = .ref a
  bufs : ∀ v ∈ e.buf, ∃ a, v = .ref a
  macs : ∀ c ∈ e.macs, c.Ok
  zb : e.buf.length ≤ 1000
  zm : e.macs.length ≤ 1000

/-- what a step of the expander keeps -/
structure Exp.Step (e e' : Exp) : Prop where
  f : e'.f = e.f
  ok : e'.Ok
  adr : ∀ a ∈ e'.adr, a ∈ e.adr
  ml : e'.macs.length ≤ e.macs.length

theorem Exp.objs_adr (e : Exp) : e.objs.map (·.1) = e.adr := by
  unfold Exp.objs Exp.adr macsObjs macsAdr
  rw [List.map_append, List.map_flatMap]
  congr 1
  exact congrArg (fun g => List.flatMap g e.macs) (funext fun c => c.objs_adr)

theorem Exp.stepOf {e : Exp} (ok : e.Ok) {buf' : List Value} {n' : Nat} {l : List Mac} {mn' : Nat} {src' : Value} {pos' : Nat} (h1 : ∀ v ∈ buf', ∃ a, v = .ref a) (h2 : buf'.length ≤ 1000) (h3 : ∀ c ∈ l, c.Ok) (h4 : (macsAdr l).Nodup)
    (h5 : ∀ a ∈ macsAdr l, a ∈ macsAdr e.macs) (h6 : l.length ≤ e.macs.length) (h7 : src' = .ref e.row ∨ (src' = .none ∧ e.items.drop pos' = [])) : Exp.Step e { e with buf := buf', n := n', macs := l, mn := mn', src := src', pos := pos' } := by
  have d := List.nodup_append.mp ok.d
  refine ⟨rfl, ⟨?_, h7, ok.items, h1, h3, h2, Nat.le_trans h6 ok.zm⟩, ?_, h6⟩
  · exact List.nodup_append.mpr ⟨d.1, h4, fun a ha b hb => d.2.2 a ha b (h5 b hb)⟩
  · intro a ha
    rcases List.mem_append.mp ha with ha | ha
    · exact List.mem_append_left _ ha
    · exact List.mem_append_right _ (h5 a ha)
theorem macsRest_append (l : List Mac) (c : Mac) : macsRest (l ++ [c]) = c.rest ++ macsRest l := by
  unfold macsRest; rw [List.reverse_append]; simp
theorem Chg.of_objs {e : Exp} {h h' : Heap} (ch : Chg (e.objs.map (·.1)) h h') : Chg e.adr h h' := by rw [← e.objs_adr]; exact ch
section
variable {w : World} {p : Program} {loose : List Str} {mean : ExcName → Option Value} {mg mb : Str → Option Value} {A A₀ : Around} {env : Env} {outer : List Env} {base h₀ : Heap} {L : Addr} {m : Str → Option Value} {s : Shared} {R : Result → Shared → Prop}

theorem exp_next (e : Exp) (ok : e.Ok) (S : Site (Mine.hd.heap_39 w.params) p loose mean mg mb A env outer A₀ base h₀ L m s.heap) (hd : A.depth < 890) (hu : A.units < 8900) (N : News h₀ L s.heap e.objs)
    (hq : ∀ h' tk' e', Chg e.adr s.heap h' → Here h' e'.objs → Exp.Step e e' → e'.flat = e.flat.tail → e'.buf.length = e.buf.length - 1 → R (.ok (.ret (e.flat.headD .none))) { s with heap := h', toks := tk' }) :
    codeAny (model PySem.Challenge.rw_rk0006_01.prog w) A (.call (.ref 57) ⟨[.ref e.f], []⟩) R s := by
  revert S; k_fill; intro S
  obtain ⟨ah, adp, afr, agd, aun⟩ := A
  obtain ⟨B₀, F₀, X₀, T₀, hA, hh, hf, hk⟩ := S
  dsimp only at hA hh hd hu
  subst hA hh
  obtain ⟨e0, he0⟩ : ∃ e0, e0 = e := ⟨_, rfl⟩
  rw [← he0] at hq
  obtain ⟨f, fd, tb, mx, it, row, gh, kt, sf, dp, ifs, pt, dn, items, rn, buf, n, macs, mn, src, pos⟩ := e
  have ok0 := ok
  obtain ⟨d, hsrc, hit, hbf, hms, zb, zm⟩ := ok
  simp only [Exp.objs, Exp.six, List.cons_append, List.nil_append] at N
  dsimp only at hsrc hit hbf hms zb zm
  have d' := d
  simp only [Exp.adr, Exp.sixAdr, List.cons_append, List.nil_append, List.nodup_cons, List.mem_cons, not_or] at d'
  obtain ⟨⟨d1, d2, d3, d4, d5, o1⟩, ⟨d6, d7, d8, d9, o2⟩, ⟨d10, d11, d12, o3⟩, ⟨d13, d14, o4⟩, ⟨d15, o5⟩, o6, dm⟩ := d'
  refine' enterH (binds := [(Str.ofString "self", .ref f)]) ⟨B₀, F₀, X₀, T₀, rfl, rfl, hf, hk⟩ N ?k6 ?k7 ?k8 ?k9 ?kB ?_ ?c2 ?c3 ?c4 ?c5
  case k6 => k_is
  case k7 => k_is
  case k8 => (simp only [recursionLimit]; omega)
  case k9 => exact BindsTo.of_eq rfl
  case kB => exact locs rfl
  case c2 => exact rfl
  case c3 => exact rfl
  case c4 => exact rfl
  case c5 => decide
  intro g' L' h' hg' F' N' B' X' T' l'
  try dsimp only
  try k_fold
  have offOf : ∀ t : List (Addr × Obj), (∀ q ∈ t, q.1 ∈ macsAdr macs) → OwnOff t [f, fd, tb, mx, it, row] := by
    intro t ht q hq b hb e
    have hm := ht q hq
    rw [e] at hm
    simp only [List.mem_cons, List.not_mem_nil, or_false] at hb
    rcases hb with rfl | rfl | rfl | rfl | rfl | rfl <;> contradiction
  have macsIn : ∀ (l : List Mac), ∀ q ∈ macsObjs l, q.1 ∈ macsAdr l := by
    intro l q hq
    obtain ⟨c, hc, hq'⟩ := List.mem_flatMap.mp hq
    exact List.mem_flatMap.mpr ⟨c, hc, Mac.mem_adr hq'⟩
  have hoff : OwnOff (macsObjs macs) [f, fd, tb, mx, it, row] := offOf _ (macsIn _)
  match buf, zb, hbf with
  | v :: r, zb, hbf =>
    obtain ⟨a, rfl⟩ := hbf v (.head _)
    k_steps
    refine whileTurnW ?_
    k_fold
    k_steps
    repeat (first | k_unfold | dsimp only)
    refine ⟨_, _, _, by k_asm, by k_asm, fun ch hr => ?_⟩
    subst he0
    refine hq _ _ ⟨f, fd, tb, mx, it, row, gh, kt, sf, dp, ifs, pt, dn, items, rn, r, n + 1, macs, mn, src, pos⟩ (Chg.of_objs ch) hr ⟨rfl, ⟨d, hsrc, hit, fun v hv => hbf v (.tail _ hv), hms, ?_, zm⟩, fun _ h => h, Nat.le_refl _⟩ rfl rfl
    simp only [List.length_cons] at zb
    dsimp only
    omega
  | [], zb, hbf =>
    k_steps
    rename Fr _ _ _ _ => F1
    rename News _ _ _ _ => N1
    refine' (?loop : ∀ (l : List Mac) (mn' : Nat) (h1 : Heap) (tk1 : Nat), Fr g' L' h1 (fun y => if y = Str.ofString "token" then some Value.none else List.lookup y [(Str.ofString "self", Value.ref f)].reverse) →
      News g' L' h1 ((f, instObj 67 fd) :: (fd, dictOf (XE gh kt sf dp ifs tb it mx pt) dn) :: (tb, listOf [].toArray n) :: (mx, listOf (refs l).toArray mn') :: (it, itObj src pos) :: (row, listOf items.toArray rn) :: macsObjs l) →
      (∀ c ∈ l, c.Ok) → (∀ a ∈ macsAdr l, a ∈ macsAdr macs) → (macsAdr l).Nodup → macsRest l = macsRest macs → l.length ≤ macs.length → codeAny _ _ _ _ { heap := h1, gens := _, drawn := _, toks := tk1, os := _ }) macs mn _ _ F1 N1 hms (fun _ h => h) dm rfl (Nat.le_refl _)
    case loop =>
    intro l
    obtain ⟨r, rfl⟩ : ∃ r : List Mac, l = r.reverse := ⟨l.reverse, by simp⟩
    clear F1 N1
    induction r with
    | nil =>
      intro mn' h1 tk1 F1 N1 hok hsub hnd hrest hlen
      have hr0 : macsRest macs = [] := hrest.symm
      have hoff' : OwnOff (macsObjs ([] : List Mac).reverse) [f, fd, tb, mx, it, row] := fun _ h => nomatch h
      rcases hsrc with hs | ⟨hs, hdrop⟩
      · subst hs
        cases hx : items[pos]? with
        | some v =>
          obtain ⟨a, rfl⟩ := hit v (List.mem_of_getElem? hx)
          have e : items.drop pos = .ref a :: items.drop (pos + 1) := by
            obtain ⟨hlt, he⟩ := List.getElem?_eq_some_iff.mp hx
            rw [List.drop_eq_getElem_cons hlt, he]
          refine whileTurnW ?_
          k_fold
          k_steps
          repeat (first | k_unfold | dsimp only)
          refine ⟨_, _, _, by k_asm, by k_asm, fun ch hr => ?_⟩
          have hf : e0.flat = .ref a :: items.drop (pos + 1) := by subst he0; simp [Exp.flat, hr0, e]
          subst he0
          have q := fun tk => hq _ tk ⟨f, fd, tb, mx, it, row, gh, kt, sf, dp, ifs, pt, dn, items, rn, [], n, [], mn', .ref row, pos + 1⟩ (Chg.of_objs ch) hr (Exp.stepOf (buf' := []) (l := []) (src' := .ref row) (pos' := pos + 1) ok0 (fun _ h => nomatch h) (by simp) (fun _ h => nomatch h) List.nodup_nil (fun _ h => nomatch h) (by simp) (.inl rfl)) (by rw [hf]; rfl) rfl
          rw [hf] at q
          exact q _
        | none =>
          have e : items.drop pos = [] := List.drop_eq_nil_of_le (List.getElem?_eq_none_iff.mp hx)
          refine whileTurnW ?_
          k_fold
          k_steps
          repeat (first | k_unfold | dsimp only)
          refine ⟨_, _, _, by k_asm, by k_asm, fun ch hr => ?_⟩
          have hf : e0.flat = [] := by subst he0; simp [Exp.flat, hr0, e]
          subst he0
          have q := fun tk => hq _ tk ⟨f, fd, tb, mx, it, row, gh, kt, sf, dp, ifs, pt, dn, items, rn, [], n, [], mn', .none, pos⟩ (Chg.of_objs ch) hr (Exp.stepOf (buf' := []) (l := []) (src' := .none) (pos' := pos) ok0 (fun _ h => nomatch h) (by simp) (fun _ h => nomatch h) List.nodup_nil (fun _ h => nomatch h) (by simp) (.inr ⟨rfl, e⟩)) (by rw [hf]; exact e) rfl
          rw [hf] at q
          exact q _
      · subst hs
        refine whileTurnW ?_
        k_fold
        k_steps
        repeat (first | k_unfold | dsimp only)
        refine ⟨_, _, _, by k_asm, by k_asm, fun ch hr => ?_⟩
        have hf : e0.flat = [] := by subst he0; simp [Exp.flat, hr0, hdrop]
        subst he0
        have q := fun tk => hq _ tk ⟨f, fd, tb, mx, it, row, gh, kt, sf, dp, ifs, pt, dn, items, rn, [], n, [], mn', .none, pos⟩ (Chg.of_objs ch) hr (Exp.stepOf (buf' := []) (l := []) (src' := .none) (pos' := pos) ok0 (fun _ h => nomatch h) (by simp) (fun _ h => nomatch h) List.nodup_nil (fun _ h => nomatch h) (by simp) (.inr ⟨rfl, hdrop⟩)) (by rw [hf]; exact hdrop) rfl
        rw [hf] at q
        exact q _
    | cons c r ih =>
      intro mn' h1 tk1 F1 N1 hok hsub hnd hrest hlen
      simp only [List.reverse_cons] at N1 hok hsub hnd hrest hlen
      simp only [refs, macsObjs, List.map_append, List.map_cons, List.map_nil, List.flatMap_append, List.flatMap_cons, List.flatMap_nil, List.append_nil] at N1
      have okc : c.Ok := hok c (by simp)
      have cin : ∀ a ∈ c.adr, a ∈ macsAdr macs := fun a ha => hsub a (by simp [macsAdr, ha])
      have lin : ∀ a ∈ macsAdr r.reverse, a ∈ macsAdr macs := fun a ha => hsub a (by simp only [macsAdr, List.flatMap_append, List.mem_append]; exact .inl ha)
      have dis : ∀ a ∈ macsAdr r.reverse, a ∉ c.adr := by
        simp only [macsAdr, List.flatMap_append, List.flatMap_cons, List.flatMap_nil, List.append_nil, List.nodup_append] at hnd
        exact fun a ha hc => hnd.2.2 a ha a hc rfl
      have offc : ∀ q ∈ (f, instObj 67 fd) :: (fd, dictOf (XE gh kt sf dp ifs tb it mx pt) dn) :: (tb, listOf [].toArray n) :: (mx, listOf (List.map (fun c : Mac => Value.ref c.x) r.reverse ++ [Value.ref c.x]).toArray mn') :: (it, itObj src pos) :: (row, listOf items.toArray rn) :: macsObjs r.reverse, q.1 ∉ c.adr := by
        intro q hq hc
        simp only [List.mem_cons] at hq
        have hc' := cin _ hc
        rcases hq with rfl | rfl | rfl | rfl | rfl | rfl | hq
        · exact o1 hc'
        · exact o2 hc'
        · exact o3 hc'
        · exact o4 hc'
        · exact o5 hc'
        · exact o6 hc'
        · exact dis _ (macsIn r.reverse q hq) hc
      refine whileTurnW ?_
      k_fold
      k_steps
      refine macPeekGet c okc ⟨B', F1, X', T', rfl, rfl, rfl, rfl⟩ (by show adp + 1 < 900; omega) (by show aun + 3 < 8999; omega) (news_rot (a := [_, _, _, _, _, _]) N1) offc fun h2 tk2 F2 N2 => ?_
      have N3 := news_swap (b := [_, _, _, _, _, _]) N2
      simp only [List.cons_append, List.nil_append] at N3
      have hoff' : OwnOff (c.peeked.objs ++ macsObjs r.reverse) [f, fd, tb, mx, it, row] := offOf _ fun q hq => by
        rcases List.mem_append.mp hq with hq | hq
        · exact cin _ (Mac.peeked_adr c ▸ Mac.mem_adr hq)
        · exact lin _ (macsIn _ q hq)
      clear N2 N1
      rw [macsRest_append] at hrest
      cases hc : c.rest with
      | nil =>
        rw [hc] at hrest
        dsimp only [List.headD]
        k_steps
        dsimp only
        refine ih (mn' + 1) _ _ (by k_asm) (news_drop (a := [_, _, _, _, _, _]) (b := c.peeked.objs) (by k_asm)) (fun c hc => hok c (List.mem_append_left _ hc)) lin ?_ hrest ?_
        · simp only [macsAdr, List.flatMap_append, List.nodup_append] at hnd
          exact hnd.1
        · simp only [List.length_append, List.length_singleton] at hlen
          omega
      | cons v t =>
        obtain ⟨a, rfl⟩ := Mac.rest_tok okc v (by rw [hc]; exact .head _)
        dsimp only [List.headD]
        k_steps
        have px := Mac.peeked_x c
        have pb : c.peeked.buf = [.ref a] := by rw [Mac.peeked_buf okc, hc]; rfl
        have hv : (Value.ref a) ≠ .none := by intro h; cases h
        have pr : c.rest = .ref a :: c.peeked.took.rest := by rw [← Mac.peeked_rest okc]; exact Mac.took_rest pb hv
        rw [← px]
        refine macGetNext c.peeked ⟨B', F2, X', T', rfl, rfl, rfl, rfl⟩ (news_swap (a := [_, _, _, _, _, _]) N3) ?_
        k_steps
        refine macNextCall c.peeked (Mac.peeked_ok okc) (.ref a) pb ⟨B', F2, X', T', rfl, rfl, rfl, rfl⟩ (by show adp + 1 < 900; omega) (by show aun + 3 < 8999; omega) (news_swap (a := [_, _, _, _, _, _]) N3) (by rw [Mac.peeked_adr]; exact offc) fun h3 tk3 F3 N4 => ?_
        have N5 := news_swap (b := [_, _, _, _, _, _]) N4
        simp only [List.cons_append, List.nil_append] at N5
        have hoff2 : OwnOff (c.peeked.took.objs ++ macsObjs r.reverse) [f, fd, tb, mx, it, row] := offOf _ fun q hq => by
          rcases List.mem_append.mp hq with hq | hq
          · exact cin _ (Mac.peeked_adr c ▸ (Mac.mem_adr hq : q.1 ∈ c.peeked.took.adr))
          · exact lin _ (macsIn _ q hq)
        clear N4 N3
        dsimp only
        k_steps
        repeat (first | k_unfold | dsimp only)
        refine ⟨_, _, _, by k_asm, by k_asm, fun ch hr => ?_⟩
        have hf : e0.flat = .ref a :: (c.peeked.took.rest ++ (macsRest r.reverse ++ items.drop pos)) := by
          subst he0
          simp only [Exp.flat, List.nil_append]
          rw [← hrest, pr]
          simp
        have ea : macsAdr (r.reverse ++ [c.peeked.took]) = macsAdr (r.reverse ++ [c]) := by
          simp only [macsAdr, List.flatMap_append, List.flatMap_cons, List.flatMap_nil, List.append_nil]
          rw [show c.peeked.took.adr = c.adr from Mac.peeked_adr c]
        subst he0
        have q := fun tk => hq _ tk ⟨f, fd, tb, mx, it, row, gh, kt, sf, dp, ifs, pt, dn, items, rn, [], n, r.reverse ++ [c.peeked.took], mn', src, pos⟩ (Chg.of_objs ch) (by
            have h9 := here_swap (a := [_, _, _, _, _, _]) hr
            simp only [Exp.objs, Exp.six, refs, macsObjs, List.map_append, List.map_cons, List.map_nil, List.flatMap_append, List.flatMap_cons, List.flatMap_nil, List.append_nil]
            rw [show c.peeked.took.x = c.x from px]
            exact h9) (Exp.stepOf (buf' := []) (l := r.reverse ++ [c.peeked.took]) ok0 (fun _ h => nomatch h) (by simp)
              (fun c' h => (List.mem_append.mp h).elim (fun h => hok c' (List.mem_append_left _ h)) fun h => by rw [List.mem_singleton.mp h]; exact Mac.took_ok (Mac.peeked_ok okc) pb hv) (by rw [ea]; exact hnd) (fun a h => hsub a (by rw [← ea]; exact h)) (by simpa using hlen) hsrc)
          (by rw [hf, List.tail_cons]; simp only [Exp.flat, List.nil_append, macsRest_append, List.append_assoc]) rfl
        rw [hf] at q
        exact q _
end
end
end
section
open PySem PySem.W PySem.Calls PyProof.Rows PySem.Spec
local macro_rules | `(tactic| walk_at "exec While") => `(tactic| (k_here; k_dflt (refine wpAny_While ?_)))
local macro_rules | `(tactic| walk_at "exec For Name Call cons nil") => `(tactic| (k_here; k_dflt (refine wpAny_For ?_)))
local macro_rules | `(tactic| walk_at "call ref") => `(tactic| (k_here; (first | (with_reducible show wpAny _ _ (call (Value.ref 100) _ _) _ _ _) | (with_reducible show wpAny _ _ (call (Value.ref 64) _ _) _ _ _)); refine wpAny_call ?_))
local macro_rules | `(tactic| walk_at "call type:reversed") => `(tactic| (k_here; (with_reducible show wpAny _ _ (call (Value.type "reversed") [Value.ref _]) _ _ _); k_dflt (refine' rev_L ?F ?N ?m ?_; (case F => k_asm); (case N => k_asm); (case m => k_mem)); intro D' h' F' N' l1))
local macro_rules | `(tactic| walk_at "pyIter ref") => `(tactic| (k_here; (with_reducible show wpAny _ _ (pyIter (Value.ref _)) _ _ _); k_dflt (refine' iterRev_L ?N ?m ?_; (case N => k_asm); (case m => k_mem))))
section
open PySem PySem.W PySem.Calls PyProof.Rows PySem.Spec
set_option Elab.async false
set_option maxRecDepth 100000
set_option maxHeartbeats 4000000
theorem offExpP : True ∧ True := by
  w_top off
  walk1 <;> trivial
section
variable {prog : Program} {w : World} {A : Around} {E : Value → Shared → Prop} {s : Shared} {h₀ : Heap} {L d : Addr} {m : Str → Option Value} {news : List (Addr × Obj)} {n : Nat} {Q : Value → Shared → Prop}
theorem rev_L {l : List Value} (F : Fr h₀ L s.heap m) (N : News h₀ L s.heap news) (hm : (d, listOf l.toArray n) ∈ news)
    (h : ∀ D h', Fr h₀ L h' m → News h₀ L h' ((D, revObj d ((l.length : Int) - 1)) :: news) → (∀ p ∈ news, p.1 < D) → Q (.ref D) { s with heap := h' }) : wpAny (model prog w) A (call (.type "reversed") [.ref d]) Q E s :=
  krv_reversed F N (isList_of N hm) h
theorem iterRev_L {l : Addr} {i : Int} (N : News h₀ L s.heap news) (hm : (d, revObj l i) ∈ news) (h : Q (.ref d) s) : wpAny (model prog w) A (pyIter (.ref d)) Q E s :=
  wpAny_pyIter_revIter ⟨_, (N _ hm).1, rfl, rfl⟩ h
end

section
variable {w : World} {p : Program} {loose : List Str} {mean : ExcName → Option Value} {mg mb : Str → Option Value} {A A₀ : Around} {env : Env} {outer : List Env} {base h₀ : Heap} {L : Addr} {m : Str → Option Value} {s : Shared} {R : Result → Shared → Prop} {rest : List (Addr × Obj)}

theorem Exp.mem_adr {e : Exp} {q : Addr × Obj} (h : q ∈ e.objs) : q.1 ∈ e.adr := by rw [← Exp.objs_adr]; exact List.mem_map_of_mem h
theorem expKey {e : Exp} (N : News h₀ L s.heap (e.objs ++ rest)) : ∀ b ∈ e.adr, b ≠ L ∧ h₀.get? b = none := fun b hb => by
  rw [← Exp.objs_adr] at hb
  obtain ⟨q', hq', e⟩ := List.mem_map.mp hb
  have z := N q' (List.mem_append_left _ hq')
  rw [e] at z
  exact z.2
theorem expNews {e e' : Exp} {h' : Heap} (N : News h₀ L s.heap (e.objs ++ rest)) (off : ∀ q ∈ rest, q.1 ∉ e.adr) (ch : Chg e.adr s.heap h') (hr : Here h' e'.objs) (hl : ∀ a ∈ e'.adr, a ∈ e.adr) : News h₀ L h' (e'.objs ++ rest) := by
  intro q hq
  rcases List.mem_append.mp hq with hq | hq
  · exact ⟨hr q hq, expKey N _ (hl _ (Exp.mem_adr hq))⟩
  · have z := N q (List.mem_append_right _ hq)
    exact ⟨ch _ _ (off q hq) z.1, z.2⟩
theorem expFr {e : Exp} {h' : Heap} (F : Fr h₀ L s.heap m) (N : News h₀ L s.heap (e.objs ++ rest)) (ch : Chg e.adr s.heap h') : Fr h₀ L h' m :=
  Fr.chg F ch (fun hb => (expKey N L hb).1 rfl) fun b hb => (expKey N b hb).2

theorem exp_unget (e : Exp) (ok : e.Ok) (a : Addr) (zb' : e.buf.length ≤ 999) (S : Site (Mine.hd.heap_39 w.params) p loose mean mg mb A env outer A₀ base h₀ L m s.heap) (hd : A.depth < 890) (hu : A.units < 8900) (N : News h₀ L s.heap e.objs)
    (hq : ∀ h' tk', Chg e.adr s.heap h' → Here h' ({ e with buf := .ref a :: e.buf, n := e.n + 1 } : Exp).objs → Exp.Step e { e with buf := .ref a :: e.buf, n := e.n + 1 } → R (.ok (.ret .none)) { s with heap := h', toks := tk' }) :
    codeAny (model PySem.Challenge.rw_rk0006_01.prog w) A (.call (.ref 64) ⟨[.ref e.f, .ref a], []⟩) R s := by
  revert S; k_fill; intro S
  obtain ⟨ah, adp, afr, agd, aun⟩ := A
  obtain ⟨B₀, F₀, X₀, T₀, hA, hh, hf, hk⟩ := S
  dsimp only at hA hh hd hu
  subst hA hh
  have st := Exp.stepOf (buf' := .ref a :: e.buf) (n' := e.n + 1) (l := e.macs) (mn' := e.mn) (src' := e.src) (pos' := e.pos) ok
    (fun v hv => (List.mem_cons.mp hv).elim (fun h => ⟨a, h⟩) (ok.bufs v)) (by rw [List.length_cons]; omega) ok.macs (List.nodup_append.mp ok.d).2.1 (fun _ h => h) (Nat.le_refl _) ok.src
  obtain ⟨e0, he0⟩ : ∃ e0, e0 = e := ⟨_, rfl⟩
  rw [← he0] at hq st
  obtain ⟨f, fd, tb, mx, it, row, gh, kt, sf, dp, ifs, pt, dn, items, rn, buf, n, macs, mn, src, pos⟩ := e
  have d := ok.d
  simp only [Exp.objs, Exp.six, List.cons_append, List.nil_append] at N
  dsimp only at zb'
  have d' := d
  simp only [Exp.adr, Exp.sixAdr, List.cons_append, List.nil_append, List.nodup_cons, List.mem_cons, not_or] at d'
  obtain ⟨⟨d1, d2, d3, d4, d5, o1⟩, ⟨d6, d7, d8, d9, o2⟩, ⟨d10, d11, d12, o3⟩, ⟨d13, d14, o4⟩, ⟨d15, o5⟩, o6, dm⟩ := d'
  refine' enterH (binds := [(Str.ofString "self", .ref f), (Str.ofString "token", .ref a)]) ⟨B₀, F₀, X₀, T₀, rfl, rfl, hf, hk⟩ N ?k6 ?k7 ?k8 ?k9 ?kB ?_ ?c2 ?c3 ?c4 ?c5
  case k6 => k_is
  case k7 => k_is
  case k8 => (simp only [recursionLimit]; omega)
  case k9 => exact BindsTo.of_eq rfl
  case kB => exact locs rfl
  case c2 => exact rfl
  case c3 => exact rfl
  case c4 => exact rfl
  case c5 => decide
  intro g' L' h' hg' F' N' B' X' T' l'
  try dsimp only
  try k_fold
  have hoff : OwnOff (macsObjs macs) [f, fd, tb, mx, it, row] := by
    intro q hq b hb e
    obtain ⟨c, hc, hq'⟩ := List.mem_flatMap.mp hq
    have hm : q.1 ∈ macsAdr macs := List.mem_flatMap.mpr ⟨c, hc, Mac.mem_adr hq'⟩
    rw [e] at hm
    simp only [List.mem_cons, List.not_mem_nil, or_false] at hb
    rcases hb with rfl | rfl | rfl | rfl | rfl | rfl <;> contradiction
  k_steps
  repeat (first | k_unfold | dsimp only)
  refine ⟨_, _, _, by k_asm, by k_asm, fun ch hr => ?_⟩
  subst he0
  exact hq _ _ (Chg.of_objs ch) hr st
end
section
variable {w : World} {p : Program} {loose : List Str} {mean : ExcName → Option Value} {mg mb : Str → Option Value} {A A₀ : Around} {env : Env} {outer : List Env} {base h₀ : Heap} {L : Addr} {m : Str → Option Value} {s : Shared} {R : Result → Shared → Prop} {rest : List (Addr × Obj)}

theorem macsRest_mid (l hi : List Mac) (c : Mac) (h : ∀ c ∈ hi, c.rest = []) : macsRest (l ++ c :: hi) = c.rest ++ macsRest l := by
  have z : hi.reverse.flatMap Mac.rest = [] := List.flatMap_eq_nil_iff.mpr fun c hc => h c (List.mem_reverse.mp hc)
  unfold macsRest
  rw [List.reverse_append, List.reverse_cons, List.flatMap_append, List.flatMap_append, z]
  simp
theorem macsRest_nil (hi : List Mac) (h : ∀ c ∈ hi, c.rest = []) : macsRest hi = [] :=
  List.flatMap_eq_nil_iff.mpr fun c hc => h c (List.mem_reverse.mp hc)

theorem exp_peek (e : Exp) (ok : e.Ok) (S : Site (Mine.hd.heap_39 w.params) p loose mean mg mb A env outer A₀ base h₀ L m s.heap) (hd : A.depth < 880) (hu : A.units < 8800) (N : News h₀ L s.heap e.objs)
    (hq : ∀ h' tk' e', Chg e.adr s.heap h' → Here h' e'.objs → Exp.Step e e' → e'.flat = e.flat → e'.buf.length ≤ max e.buf.length 1 → R (.ok (.ret (e.flat.headD .none))) { s with heap := h', toks := tk' }) :
    codeAny (model PySem.Challenge.rw_rk0006_01.prog w) A (.call (.ref 49) ⟨[.ref e.f], []⟩) R s := by
  revert S; k_fill; intro S
  obtain ⟨ah, adp, afr, agd, aun⟩ := A
  obtain ⟨B₀, F₀, X₀, T₀, hA, hh, hf, hk⟩ := S
  dsimp only at hA hh hd hu
  subst hA hh
  have ok0 := ok
  obtain ⟨e0, he0⟩ : ∃ e0, e0 = e := ⟨_, rfl⟩
  rw [← he0] at hq
  obtain ⟨f, fd, tb, mx, it, row, gh, kt, sf, dp, ifs, pt, dn, items, rn, buf, n, macs, mn, src, pos⟩ := e
  obtain ⟨d, hsrc, hit, hbf, hms, zb, zm⟩ := ok
  simp only [Exp.objs, Exp.six, List.cons_append, List.nil_append] at N
  dsimp only at hsrc hit hbf hms zb zm
  have d' := d
  simp only [Exp.adr, Exp.sixAdr, List.cons_append, List.nil_append, List.nodup_cons, List.mem_cons, not_or] at d'
  obtain ⟨⟨d1, d2, d3, d4, d5, o1⟩, ⟨d6, d7, d8, d9, o2'⟩, ⟨d10, d11, d12, o3⟩, ⟨d13, d14, o4⟩, ⟨d15, o5⟩, o6, dm⟩ := d'
  refine' enterH (binds := [(Str.ofString "self", .ref f)]) ⟨B₀, F₀, X₀, T₀, rfl, rfl, hf, hk⟩ N ?k6 ?k7 ?k8 ?k9 ?kB ?_ ?c2 ?c3 ?c4 ?c5
  case k6 => k_is
  case k7 => k_is
  case k8 => (simp only [recursionLimit]; omega)
  case k9 => exact BindsTo.of_eq rfl
  case kB => exact locs rfl
  case c2 => exact rfl
  case c3 => exact rfl
  case c4 => exact rfl
  case c5 => decide
  intro g' L' h' hg' F' N' B' X' T' l'
  try dsimp only
  try k_fold
  have offOf : ∀ t : List (Addr × Obj), (∀ q ∈ t, q.1 ∈ macsAdr macs) → OwnOff t [f, fd, tb, mx, it, row] := by
    intro t ht q hq b hb e
    have hm := ht q hq
    rw [e] at hm
    simp only [List.mem_cons, List.not_mem_nil, or_false] at hb
    rcases hb with rfl | rfl | rfl | rfl | rfl | rfl <;> contradiction
  have macsIn : ∀ (l : List Mac), ∀ q ∈ macsObjs l, q.1 ∈ macsAdr l := by
    intro l q hq
    obtain ⟨c, hc, hq'⟩ := List.mem_flatMap.mp hq
    exact List.mem_flatMap.mpr ⟨c, hc, Mac.mem_adr hq'⟩
  have hoff : OwnOff (macsObjs macs) [f, fd, tb, mx, it, row] := offOf _ (macsIn _)
  match buf, zb, hbf with
  | v :: r, zb, hbf =>
    obtain ⟨a, rfl⟩ := hbf v (.head _)
    k_steps
    repeat (first | k_unfold | dsimp only)
    refine ⟨_, _, _, by k_asm, by k_asm, fun ch hr => ?_⟩
    subst he0
    exact hq _ _ ⟨f, fd, tb, mx, it, row, gh, kt, sf, dp, ifs, pt, dn, items, rn, .ref a :: r, n, macs, mn, src, pos⟩ (Chg.of_objs ch) hr ⟨rfl, ok0, fun _ h => h, Nat.le_refl _⟩ rfl (Nat.le_max_left _ _)
  | [], zb, hbf =>
    k_steps
    refine' iterRev_L ?N ?m ?_
    case N => k_asm
    case m => k_mem
    rename_i D1 h1 F1 N1 l1
    have F1' : Fr g' L' h1 (fun y => if y = Str.ofString "token" then some Value.none else if y = Str.ofString "self" then some (Value.ref f) else (fun _ => none) y) := by
      have e : (fun y => if y = Str.ofString "token" then some Value.none else List.lookup y [(Str.ofString "self", Value.ref f)].reverse) = (fun y => if y = Str.ofString "token" then some Value.none else if y = Str.ofString "self" then some (Value.ref f) else (fun _ => none) y) := by
        funext y
        by_cases h1 : y = Str.ofString "token"
        · simp [h1]
        · by_cases h2 : y = Str.ofString "self"
          · subst h2; simp [h1]
          · simp [h1, h2, List.lookup]
            rw [show (y == Str.ofString "self") = false from beq_eq_false_iff_ne.mpr h2]
      rw [← e]; exact F1
    have hD1 : ∀ a ∈ [f, fd, tb, mx, it, row] ++ macsAdr macs, a ≠ D1 := by
      intro a ha
      have hob : (Exp.objs ⟨f, fd, tb, mx, it, row, gh, kt, sf, dp, ifs, pt, dn, items, rn, [], n, macs, mn, src, pos⟩).map (·.1) = [f, fd, tb, mx, it, row] ++ macsAdr macs := Exp.objs_adr _
      rw [← hob] at ha
      obtain ⟨q, hq, rfl⟩ := List.mem_map.mp ha
      exact Nat.ne_of_lt (tb_ltOf (l := Exp.objs ⟨f, fd, tb, mx, it, row, gh, kt, sf, dp, ifs, pt, dn, items, rn, [], n, macs, mn, src, pos⟩) l1 q hq)
    refine' (?loop : ∀ (r hi : List Mac) (D : Nat) (oD : Obj) (u : Str → Option Value) (h1 : Heap) (tk1 : Nat), oD.cls = .type "list_reverseiterator" → oD.data = .fields #[.ref mx, rawInt ((r.length : Int) - 1)] →
      Fr g' L' h1 (fun y => if y = Str.ofString "token" then some Value.none else if y = Str.ofString "self" then some (Value.ref f) else u y) →
      News g' L' h1 ((D, oD) :: (f, instObj 67 fd) :: (fd, dictOf (XE gh kt sf dp ifs tb it mx pt) dn) :: (tb, listOf [].toArray n) :: (mx, listOf (refs macs).toArray mn) :: (it, itObj src pos) :: (row, listOf items.toArray rn) :: macsObjs (r.reverse ++ hi)) →
      (∀ c ∈ r.reverse ++ hi, c.Ok) → refs (r.reverse ++ hi) = refs macs → macsAdr (r.reverse ++ hi) = macsAdr macs → (∀ c ∈ hi, c.rest = []) → macsRest r.reverse = macsRest macs → (∀ a ∈ [f, fd, tb, mx, it, row] ++ macsAdr macs, a ≠ D) →
      codeAny _ _ (Code.forLoop _ (Value.ref D) _ _ _) _ { heap := h1, gens := _, drawn := _, toks := tk1, os := _ }) macs.reverse [] D1 (revObj mx (((refs macs).length : Int) - 1)) (fun _ => none) _ _ rfl (by rw [List.length_reverse, List.length_map]; rfl) F1' (by rw [List.reverse_reverse, List.append_nil]; exact N1) (by simpa using hms) (by simp) (by simp) (fun _ h => nomatch h) (by simp) hD1
    case loop =>
    intro r
    clear F1 F1' N1 l1 hD1
    induction r with
    | nil =>
      intro hi D oD u h1 tk1 hoc hod F1 N1 hok hrefs hadr hhi hrest hD
      simp only [List.reverse_nil, List.nil_append] at N1 hok hrefs hadr
      have hr0 : macsRest macs = [] := hrest.symm
      have hi0 := macsRest_nil hi hhi
      have zD := N1 _ (.head _)
      have lenhi : hi.length ≤ macs.length := by
        have := congrArg List.length hrefs
        simp only [refs, List.length_map] at this
        omega
      have hnd : (macsAdr hi).Nodup := by rw [hadr]; exact dm
      have hin : ∀ a ∈ macsAdr hi, a ∈ macsAdr macs := fun a ha => by rw [← hadr]; exact ha
      have hoff' : OwnOff (macsObjs hi) [f, fd, tb, mx, it, row] := offOf _ fun q hq => hin _ (macsIn _ q hq)
      have offD : ∀ q ∈ ((f, instObj 67 fd) :: (fd, dictOf (XE gh kt sf dp ifs tb it mx pt) dn) :: (tb, listOf [].toArray n) :: (mx, listOf (refs macs).toArray mn) :: (it, itObj src pos) :: (row, listOf items.toArray rn) :: macsObjs hi : List (Addr × Obj)), q.1 ≠ D := by
        intro q hq
        refine hD _ ?_
        simp only [List.mem_cons] at hq
        rcases hq with rfl | rfl | rfl | rfl | rfl | rfl | hq <;> first | (simp; done) | skip
        exact List.mem_append_right _ (hin _ (macsIn _ q hq))
      refine forTurnW ?_
      refine wpAny_pyNext_rev_end rfl ⟨oD, zD.1, hoc, hod⟩ fun h2 he2 => ?_
      dsimp only
      have F2 := Fr.ext F1 he2 zD.2.1 zD.2.2
      have N2 : News g' L' h2 ((f, instObj 67 fd) :: (fd, dictOf (XE gh kt sf dp ifs tb it mx pt) dn) :: (tb, listOf [].toArray n) :: (mx, listOf (refs macs).toArray mn) :: (it, itObj src pos) :: (row, listOf items.toArray rn) :: macsObjs hi) :=
        fun q hq => have z := N1 q (.tail _ hq); ⟨he2 _ _ (offD q hq) z.1, z.2⟩
      clear F1 N1
      rcases hsrc with hs | ⟨hs, hdrop⟩
      · subst hs
        cases hx : items[pos]? with
        | some v =>
          obtain ⟨a, rfl⟩ := hit v (List.mem_of_getElem? hx)
          have e : items.drop pos = .ref a :: items.drop (pos + 1) := by
            obtain ⟨hlt, he⟩ := List.getElem?_eq_some_iff.mp hx
            rw [List.drop_eq_getElem_cons hlt, he]
          refine wpAny_execs_nil ?_
          dsimp only
          k_steps
          rename Fr _ _ _ _ => F3
          rename News _ _ _ _ => N3
          have oke1 := (Exp.stepOf (n' := n) (mn' := mn) (buf' := []) (l := hi) (src' := .ref row) (pos' := pos + 1) ok0 (fun _ h => nomatch h) (by simp) hok hnd hin lenhi (.inl rfl)).ok
          rw [← hrefs] at N3
          refine exp_unget ⟨f, fd, tb, mx, it, row, gh, kt, sf, dp, ifs, pt, dn, items, rn, [], n, hi, mn, .ref row, pos + 1⟩ oke1 a (by simp) ⟨B', F3, X', T', rfl, rfl, rfl, rfl⟩ (by show adp + 1 < 890; omega) (by show aun + 3 < 8900; omega) N3 fun h5 tk5 ch5 hr5 st5 => ?_
          have N3' := news_nil (l := Exp.objs ⟨f, fd, tb, mx, it, row, gh, kt, sf, dp, ifs, pt, dn, items, rn, [], n, hi, mn, .ref row, pos + 1⟩) N3
          have F5 := expFr F3 N3' ch5
          have N5 := expNews (rest := []) N3' (by intro _ h; cases h) ch5 hr5 st5.adr
          rw [List.append_nil] at N5
          simp only [Exp.objs, Exp.six, List.cons_append, List.nil_append] at N5
          clear F3 N3 N3'
          dsimp only
          k_steps
          repeat (first | k_unfold | dsimp only)
          refine ⟨_, _, _, by k_asm, by k_asm, fun ch hr => ?_⟩
          have hf : e0.flat = .ref a :: items.drop (pos + 1) := by subst he0; simp [Exp.flat, hr0, e]
          subst he0
          have q := fun tk => hq _ tk ⟨f, fd, tb, mx, it, row, gh, kt, sf, dp, ifs, pt, dn, items, rn, [.ref a], n + 1, hi, mn, .ref row, pos + 1⟩ (Chg.of_objs ch) hr (Exp.stepOf (buf' := [.ref a]) (l := hi) (src' := .ref row) (pos' := pos + 1) ok0 (fun v h => ⟨a, List.mem_singleton.mp h⟩) (by simp) hok hnd hin lenhi (.inl rfl)) (by rw [hf]; simp [Exp.flat, hi0]) (by simp)
          rw [hf] at q
          exact q _
        | none =>
          have e : items.drop pos = [] := List.drop_eq_nil_of_le (List.getElem?_eq_none_iff.mp hx)
          refine wpAny_execs_nil ?_
          dsimp only
          k_steps
          repeat (first | k_unfold | dsimp only)
          refine ⟨_, _, _, by k_asm, by k_asm, fun ch hr => ?_⟩
          have hf : e0.flat = [] := by subst he0; simp [Exp.flat, hr0, e]
          subst he0
          have q := fun tk => hq _ tk ⟨f, fd, tb, mx, it, row, gh, kt, sf, dp, ifs, pt, dn, items, rn, [], n, hi, mn, .none, pos⟩ (Chg.of_objs ch) (by rw [← hrefs] at hr; exact hr) (Exp.stepOf (buf' := []) (l := hi) (src' := .none) (pos' := pos) ok0 (fun _ h => nomatch h) (by simp) hok hnd hin lenhi (.inr ⟨rfl, e⟩)) (by rw [hf]; simp [Exp.flat, hi0, e]) (by simp)
          rw [hf] at q
          exact q _
      · subst hs
        refine wpAny_execs_nil ?_
        dsimp only
        k_steps
        repeat (first | k_unfold | dsimp only)
        refine ⟨_, _, _, by k_asm, by k_asm, fun ch hr => ?_⟩
        have hf : e0.flat = [] := by subst he0; simp [Exp.flat, hr0, hdrop]
        subst he0
        have q := fun tk => hq _ tk ⟨f, fd, tb, mx, it, row, gh, kt, sf, dp, ifs, pt, dn, items, rn, [], n, hi, mn, .none, pos⟩ (Chg.of_objs ch) (by rw [← hrefs] at hr; exact hr) (Exp.stepOf (buf' := []) (l := hi) (src' := .none) (pos' := pos) ok0 (fun _ h => nomatch h) (by simp) hok hnd hin lenhi (.inr ⟨rfl, hdrop⟩)) (by rw [hf]; simp [Exp.flat, hi0, hdrop]) (by simp)
        rw [hf] at q
        exact q _
    | cons c r ih =>
      intro hi D oD u h1 tk1 hoc hod F1 N1 hok hrefs hadr hhi hrest hD
      simp only [List.reverse_cons, List.append_assoc, List.singleton_append] at N1 hok hrefs hadr
      rw [List.reverse_cons, macsRest_append] at hrest
      have e1 : (((c :: r).length : Nat) : Int) - 1 = (r.length : Int) := by rw [List.length_cons]; omega
      rw [e1] at hod
      have zD := N1 _ (.head _)
      have hx : (refs macs).toArray[r.length]? = some (.ref c.x) := by
        rw [← hrefs]; simp [refs]
      have offD : ∀ q ∈ ((f, instObj 67 fd) :: (fd, dictOf (XE gh kt sf dp ifs tb it mx pt) dn) :: (tb, listOf [].toArray n) :: (mx, listOf (refs macs).toArray mn) :: (it, itObj src pos) :: (row, listOf items.toArray rn) :: macsObjs (r.reverse ++ c :: hi) : List (Addr × Obj)), q.1 ≠ D := by
        intro q hq
        refine hD _ ?_
        simp only [List.mem_cons] at hq
        rcases hq with rfl | rfl | rfl | rfl | rfl | rfl | hq <;> first | (simp; done) | skip
        exact List.mem_append_right _ (by rw [← hadr]; exact macsIn _ q hq)
      refine forTurnW ?_
      refine wpAny_pyNext_rev_item ⟨oD, zD.1, hoc, hod⟩ (isList_of N1 (.tail _ (.tail _ (.tail _ (.tail _ (.head _)))))) hx fun h2 hit2 hs2 => ?_
      dsimp only
      obtain ⟨o2, ho2, hc2, hd2⟩ := hit2
      have F2 := F1.change hs2 zD.2.1 zD.2.2
      have N2 : News g' L' h2 ((D, o2) :: (f, instObj 67 fd) :: (fd, dictOf (XE gh kt sf dp ifs tb it mx pt) dn) :: (tb, listOf [].toArray n) :: (mx, listOf (refs macs).toArray mn) :: (it, itObj src pos) :: (row, listOf items.toArray rn) :: macsObjs (r.reverse ++ c :: hi)) :=
        News.turn N1 (Upd.head offD) hs2.extBut ho2
      clear F1 N1
      refine wpAny_assign_Name ?_
      k_fold
      k_steps
      rename Fr _ _ _ _ => F3
      rename News _ _ _ _ => N3
      simp only [macsObjs, List.flatMap_append, List.flatMap_cons] at N3
      have okc : c.Ok := hok c (by simp)
      have cin : ∀ a ∈ c.adr, a ∈ macsAdr macs := fun a ha => by rw [← hadr]; simp [macsAdr, ha]
      have lin : ∀ a ∈ macsAdr r.reverse, a ∈ macsAdr macs := fun a ha => by rw [← hadr]; simp only [macsAdr, List.flatMap_append, List.mem_append]; exact .inl ha
      have hiin : ∀ a ∈ macsAdr hi, a ∈ macsAdr macs := fun a ha => by rw [← hadr]; simp only [macsAdr, List.flatMap_append, List.flatMap_cons, List.mem_append]; exact .inr (.inr ha)
      have hnd : (macsAdr (r.reverse ++ c :: hi)).Nodup := by rw [hadr]; exact dm
      have dis : ∀ a, a ∈ macsAdr r.reverse ∨ a ∈ macsAdr hi → a ∉ c.adr := by
        simp only [macsAdr, List.flatMap_append, List.flatMap_cons, List.nodup_append] at hnd
        intro a ha hc
        rcases ha with ha | ha
        · exact hnd.2.2 a ha a (List.mem_append_left _ hc) rfl
        · exact hnd.2.1.2.2 a hc a ha rfl
      have offc : ∀ q ∈ [(D, o2), (f, instObj 67 fd), (fd, dictOf (XE gh kt sf dp ifs tb it mx pt) dn), (tb, listOf [].toArray n), (mx, listOf (refs macs).toArray mn), (it, itObj src pos), (row, listOf items.toArray rn)] ++ (macsObjs r.reverse ++ macsObjs hi), q.1 ∉ c.adr := by
        intro q hq hc
        have hc' := cin _ hc
        rcases List.mem_append.mp hq with hq | hq
        · simp only [List.mem_cons, List.not_mem_nil, or_false] at hq
          rcases hq with rfl | rfl | rfl | rfl | rfl | rfl | rfl
          · exact hD _ (List.mem_append_right _ hc') rfl
          · exact o1 hc'
          · exact o2' hc'
          · exact o3 hc'
          · exact o4 hc'
          · exact o5 hc'
          · exact o6 hc'
        · rcases List.mem_append.mp hq with hq | hq
          · exact dis _ (.inl (macsIn _ q hq)) hc
          · exact dis _ (.inr (macsIn _ q hq)) hc
      refine macPeekGet c okc ⟨B', F3, X', T', rfl, rfl, rfl, rfl⟩ (by show adp + 1 < 900; omega) (by show aun + 3 < 8999; omega) (news_front (a := [_, _, _, _, _, _, _]) N3) offc fun h4 tk4 F4 N4 => ?_
      have N5 := news_back (a := [_, _, _, _, _, _, _]) N4
      simp only [List.cons_append, List.nil_append] at N5
      clear N4 N3 F3
      have px := Mac.peeked_x c
      have okp := Mac.peeked_ok okc
      cases hc : c.rest with
      | nil =>
        rw [hc, List.nil_append] at hrest
        dsimp only [List.headD]
        k_steps
        dsimp only
        refine ih (c.peeked :: hi) D o2 (fun y => if y = Str.ofString "macro_expansion" then some (.ref c.x) else u y) _ _ hc2 hd2 ?_ ?_ ?_ ?_ ?_ ?_ hrest hD
        · have e : (fun y => if y = Str.ofString "macro_expansion" then some (Value.ref c.x) else if y = Str.ofString "token" then some Value.none else if y = Str.ofString "self" then some (Value.ref f) else u y)
              = (fun y => if y = Str.ofString "token" then some Value.none else if y = Str.ofString "self" then some (Value.ref f) else if y = Str.ofString "macro_expansion" then some (Value.ref c.x) else u y) := by
            funext y
            by_cases h1 : y = Str.ofString "macro_expansion"
            · subst h1; rfl
            · simp [h1]
          rw [← e]
          k_asm
        · simp only [macsObjs, List.flatMap_append, List.flatMap_cons]
          k_asm
        · intro c' hc'
          rcases List.mem_append.mp hc' with h | h
          · exact hok c' (List.mem_append_left _ h)
          · rcases List.mem_cons.mp h with rfl | h
            · exact okp
            · exact hok c' (List.mem_append_right _ (.tail _ h))
        · rw [← hrefs]; simp [refs, px]
        · rw [← hadr]; simp [macsAdr, Mac.peeked_adr c]
        · intro c' hc'
          rcases List.mem_cons.mp hc' with rfl | h
          · rw [Mac.peeked_rest okc]; exact hc
          · exact hhi c' h
      | cons v t =>
        obtain ⟨a, rfl⟩ := Mac.rest_tok okc v (by rw [hc]; exact .head _)
        dsimp only [List.headD]
        k_steps
        rename Fr _ _ _ _ => F6
        rename News _ _ _ _ => N6
        rw [← px]
        refine macPeekGet c.peeked okp ⟨B', F6, X', T', rfl, rfl, rfl, rfl⟩ (by show adp + 1 < 900; omega) (by show aun + 3 < 8999; omega) (news_front (a := [_, _, _, _, _, _, _]) N6) (by rw [Mac.peeked_adr]; exact offc) fun h7 tk7 F7 N7 => ?_
        rw [Mac.peeked_rest okc, hc]
        dsimp only [List.headD]
        have N8 := news_back (a := [_, _, _, _, _, _, _]) N7
        simp only [List.cons_append, List.nil_append] at N8
        clear N7 N6 F6
        k_steps
        repeat (first | k_unfold | dsimp only)
        refine ⟨_, _, _, by k_asm, by k_asm, fun ch hr => ?_⟩
        have r2 : c.peeked.peeked.rest = c.rest := by rw [Mac.peeked_rest okp, Mac.peeked_rest okc]
        have x2 : c.peeked.peeked.x = c.x := by rw [Mac.peeked_x, Mac.peeked_x]
        have a2 : c.peeked.peeked.adr = c.adr := by rw [Mac.peeked_adr, Mac.peeked_adr]
        have hf : e0.flat = .ref a :: (t ++ (macsRest r.reverse ++ items.drop pos)) := by
          subst he0
          simp only [Exp.flat, List.nil_append]
          rw [← hrest, hc]
          simp
        have hrf : refs (r.reverse ++ c.peeked.peeked :: hi) = refs macs := by rw [← hrefs]; simp [refs, x2]
        have had : macsAdr (r.reverse ++ c.peeked.peeked :: hi) = macsAdr macs := by rw [← hadr]; simp [macsAdr, a2]
        have hln : (r.reverse ++ c.peeked.peeked :: hi).length ≤ macs.length := by
          have := congrArg List.length hrf
          simp only [refs, List.length_map] at this
          omega
        subst he0
        have q := fun tk => hq _ tk ⟨f, fd, tb, mx, it, row, gh, kt, sf, dp, ifs, pt, dn, items, rn, [], n, r.reverse ++ c.peeked.peeked :: hi, mn, src, pos⟩ (Chg.of_objs ch) (by
            intro z hz
            simp only [Exp.objs, Exp.six, hrf] at hz
            simp only [macsObjs, List.flatMap_append, List.flatMap_cons] at hz
            exact hr z (.tail _ hz)) (Exp.stepOf (buf' := []) (l := r.reverse ++ c.peeked.peeked :: hi) ok0 (fun _ h => nomatch h) (by simp)
              (fun c' h => by
                rcases List.mem_append.mp h with h | h
                · exact hok c' (List.mem_append_left _ h)
                · rcases List.mem_cons.mp h with rfl | h
                  · exact Mac.peeked_ok okp
                  · exact hok c' (List.mem_append_right _ (.tail _ h))) (by rw [had]; exact dm) (fun a h => by rw [had] at h; exact h) hln hsrc)
          (by rw [hf]; simp only [Exp.flat, List.nil_append]; rw [macsRest_mid _ _ _ hhi, r2, hc]; simp) (by simp)
        rw [hf] at q
        exact q _
end
end
end
section
open PySem PySem.W PySem.Calls PyProof.Rows PySem.Spec
set_option Elab.async false
set_option maxRecDepth 100000
set_option maxHeartbeats 4000000
theorem offTok : True ∧ True := by
  w_top off
  walk1 <;> trivial
def Fresh (h : Heap) (l : List (Addr × Obj)) : Prop := ∀ q ∈ l, h.get? q.1 = none
theorem fresh1 {h : Heap} {a : Addr × Obj} {l : List (Addr × Obj)} (x : Fresh h (a :: l)) : Fresh h [a] := fun z hz => x z (by rw [List.mem_singleton.mp hz]; exact .head _)
section
variable {prog : Program} {w : World} {A A₀ : Around} {s : Shared} {K : Frag} {L : Addr} {h₀ base : Heap} {m mg mb : Str → Option Value} {p : Program} {loose : List Str} {mean : ExcName → Option Value}
  {env : Env} {outer : List Env} {R : Result → Shared → Prop} {name qual : Str} {params : Arguments} {body : List Stmt} {scope : Scope} {dV kV doc pm cdv ct oc : Value} {an od : Option Addr} {osl : Array (Option Value)} {f : Addr} {args : Args} {binds : List (Str × Value)}
/-- a def that changes nothing that stands; what it makes is new -/
theorem enterN (S : Site K p loose mean mg mb A env outer A₀ base h₀ L m s.heap)
    (ho : K.lookup f = some ⟨oc, od, .func (fnOf name qual params body scope dV kV doc pm an cdv ct), osl⟩) (hcd : codeIn K cdv qual = true) (hroom : A.depth < recursionLimit)
    (hbind : BindsTo s (fnOf name qual params body scope dV kV doc pm an cdv ct) args binds) (hloc : ∀ y ∈ binds, scope.names.lookup y.1 = some .local)
    (h : ∀ g L' h₁, (∀ b o, s.heap.get? b = some o → g.get? b = some o) → Fr g L' h₁ (fun y => binds.reverse.lookup y) → News g L' h₁ [] → Below A base (env :: outer) g → K.In g → Top p loose mean mg mb g →
      wpAny (model prog w) (A.deeper (envOf qual scope L' f cdv)) (execs body (envOf qual scope L' f cdv))
        (fun fl s' => LeaveH g (fun news' v s' => Chg [] s.heap s'.heap → Here s'.heap news' → Fresh s.heap news' → R (.ok (.ret v)) s') (match fl with | .ret v => v | _ => .none) s')
        (fun e s' => wpAny (model prog w) (A.deeper (envOf qual scope L' f cdv)) («leaving» (envOf qual scope L' f cdv) e) (fun _ s'' => R (.error e) s'') (fun e' s'' => R (.error e') s'') s')
        { s with heap := h₁, toks := s.toks + binds.length })
    (hco : scope.isCoroutine = false) (hgen : scope.isGenerator = false) (hk : scope.kind = .function)
    (hcell : ∀ x ∈ scope.names, x.2 ≠ .cell) : codeAny (model prog w) A (.call (.ref f) args) R s := by
  refine enterH S (muts := []) (fun _ h => nomatch h) ho hcd hroom hbind hloc (fun g L' h₁ hg F N B X T _ => ?_) hco hgen hk hcell
  have hg' : ∀ b o, s.heap.get? b = some o → g.get? b = some o := fun b o e => hg b o e (by simp)
  refine wpAny_mono (h g L' h₁ hg' F N B X T) (fun fl s' hl => ?_) fun _ _ y => y
  obtain ⟨L1, m1, n1, F1, N1, k⟩ := hl
  refine ⟨L1, m1, n1, F1, N1, fun c hr => k c hr fun q hq => ?_⟩
  cases e : s.heap.get? q.1 with
  | none => rfl
  | some o => have := (N1 q hq).2.2; rw [hg' _ _ e] at this; cases this
theorem freshNews {h' : Heap} {l news : List (Addr × Obj)} (F : Fr h₀ L s.heap m) (N : News h₀ L s.heap news) (c : Chg [] s.heap h') (hr : Here h' l) (fr : Fresh s.heap l) : News h₀ L h' (l ++ news) := by
  intro q hq
  rcases List.mem_append.mp hq with hq | hq
  · refine ⟨hr q hq, ?_, ?_⟩
    · rintro rfl
      obtain ⟨oL, _, _, hL, _⟩ := F.ns
      rw [fr q hq] at hL; cases hL
    · cases e : h₀.get? q.1 with
      | none => rfl
      | some o => have := F.keep _ _ e; rw [fr q hq] at this; cases this
  · have z := N q hq
    exact ⟨c _ _ (by simp) z.1, z.2⟩
theorem freshFr {h' : Heap} (F : Fr h₀ L s.heap m) (c : Chg [] s.heap h') : Fr h₀ L h' m := Fr.chg F c (by simp) (fun b hb => by cases hb)
theorem freshOff {l news : List (Addr × Obj)} (N : News h₀ L s.heap news) (fr : Fresh s.heap l) : ∀ q ∈ l, ∀ b ∈ news, q.1 ≠ b.1 := fun q hq b hb e => by
  have z := (N b hb).1
  rw [← e, fr q hq] at z; cases z
end

/-- a token: its number, its objects -/
structure Tokn where
  k : Int
  a : Nat
  d : Nat
  la : Nat
  ld : Nat
  t1 : Nat
  t2 : Nat
  t3 : Nat
  t4 : Nat
  t5 : Nat
  u1 : Nat
  u2 : Nat
  u3 : Nat
  u4 : Nat
  g1 : Int
  g2 : Int
abbrev valOf (k : Int) : Str := Str.ofString "t" ++ Str.ofString (toString k)
abbrev spaceOf (k : Int) : Str := Txt.mul (Str.ofString " ") (k.fmod 3)
abbrev firstOf (k : Int) : Bool := k.fmod 4 == 0
def Tokn.objs (T : Tokn) : List (Addr × Obj) :=
  [(T.a, { cls := .ref 248, dict := some T.d, data := .plain, slots := #[some (.ref T.la), some (.str (Str.ofString "ID") T.t1), some (.str (valOf T.k) T.t2)] }),
   (T.d, dictOf [⟨T.g1, .str (Str.ofString "space") T.t3, .str (spaceOf T.k) T.t4⟩, ⟨T.g2, .str (Str.ofString "first") T.t5, .bool (firstOf T.k)⟩] 2),
   (T.la, { cls := .ref 200, dict := some T.ld, data := .plain, slots := #[some (.int (2 * T.k + 1) T.u1), some (.str (Str.ofString "t.c") T.u2), some (.int 1 T.u3), some (.int (T.k + 1) T.u4), some .none] }),
   (T.ld, dictOf [] 0)]

local macro_rules | `(tactic| units_room) => `(tactic| (have hcL9 := cLine_is; (try simp only [units_in1, units_deeper, Around.mark_units, units_caller]); (try dsimp only); omega))
section
variable {w : World} {p : Program} {loose : List Str} {mean : ExcName → Option Value} {mg mb : Str → Option Value} {A A₀ : Around} {env : Env} {outer : List Env} {base h₀ : Heap} {L : Addr} {m : Str → Option Value} {s : Shared} {R : Result → Shared → Prop} {rest : List (Addr × Obj)}

theorem law_token (k : Int) (t : Nat) (h0 : 0 ≤ k) (h1 : k < 1000) (S : Site (Mine.hd.heap_39 w.params) p loose mean mg mb A env outer A₀ base h₀ L m s.heap) (hd : A.depth < 870) (hu : A.units < 8700)
    (hq : ∀ (T : Tokn) h' tk', T.k = k → Chg [] s.heap h' → Here h' T.objs → Fresh s.heap T.objs → R (.ok (.ret (.ref T.a))) { s with heap := h', toks := tk' }) :
    codeAny (model PySem.Challenge.rw_rk0006_01.prog w) A (.call (.ref 259) ⟨[.int k t], []⟩) R s := by
  revert S; k_fill; intro S
  obtain ⟨ah, adp, afr, agd, aun⟩ := A
  obtain ⟨B₀, F₀, X₀, T₀, hA, hh, hf, hk⟩ := S
  dsimp only at hA hh hd hu
  subst hA hh
  refine' enterN (A := { handled := none, depth := adp, frames := some (env :: outer), guards := agd, units := aun }) (binds := [(Str.ofString "k", .int k t)]) ⟨B₀, F₀, X₀, T₀, rfl, rfl, hf, hk⟩ ?k6 ?k7 ?k8 ?k9 ?kB ?_ ?c2 ?c3 ?c4 ?c5
  case k6 => k_is
  case k7 => k_is
  case k8 => (simp only [recursionLimit]; omega)
  case k9 => exact BindsTo.of_eq rfl
  case kB => exact locs rfl
  case c2 => exact rfl
  case c3 => exact rfl
  case c4 => exact rfl
  case c5 => decide
  intro g' L' h' hg' F' N' B' X' T'
  try dsimp only
  try k_fold
  k_steps
  repeat (first | k_unfold | dsimp only)
  refine ⟨_, _, _, by k_asm, by k_asm, fun ch hr fr => ?_⟩
  have hr' : Here _ _ := fun z hz => hr z (.tail _ (.tail _ hz))
  have fr' : Fresh _ _ := fun z hz => fr z (.tail _ (.tail _ hz))
  refine hq ⟨k, _, _, _, _, _, _, _, _, _, _, _, _, _, _, _⟩ _ _ rfl ch hr' fr'

/-- what a token is seen as -/
structure Six where
  o : Nat
  n : Nat
  t1 : Nat
  t2 : Nat
  t3 : Nat
  t4 : Nat
  t5 : Nat
def Six.objs (x : Six) (k : Int) : List (Addr × Obj) :=
  [(x.o, { cls := .type "tuple", data := .seq #[.str (Str.ofString "ID") x.t1, .str (valOf k) x.t2, .str (spaceOf k) x.t3, .bool (firstOf k), .int (k + 1) x.t4, .int (2 * k + 1) x.t5] x.n })]

theorem law_due_nil (fl : Nat) (S : Site (Mine.hd.heap_39 w.params) p loose mean mg mb A env outer A₀ base h₀ L m s.heap) (hd : A.depth < 870) (hu : A.units < 8700) (hf0 : s.heap.IsList fl ([] : List Value).toArray)
    (hq : ∀ h' tk', Chg [] s.heap h' → R (.ok (.ret .none)) { s with heap := h', toks := tk' }) :
    codeAny (model PySem.Challenge.rw_rk0006_01.prog w) A (.call (.ref 266) ⟨[.ref fl], []⟩) R s := by
  revert S; k_fill; intro S
  obtain ⟨ah, adp, afr, agd, aun⟩ := A
  obtain ⟨B₀, F₀, X₀, T₀, hA, hh, hf, hk⟩ := S
  dsimp only at hA hh hd hu
  subst hA hh
  refine' enterN (A := { handled := none, depth := adp, frames := some (env :: outer), guards := agd, units := aun }) (binds := [(Str.ofString "flat", .ref fl)]) ⟨B₀, F₀, X₀, T₀, rfl, rfl, hf, hk⟩ ?k6 ?k7 ?k8 ?k9 ?kB ?_ ?c2 ?c3 ?c4 ?c5
  case k6 => k_is
  case k7 => k_is
  case k8 => (simp only [recursionLimit]; omega)
  case k9 => exact BindsTo.of_eq rfl
  case kB => exact locs rfl
  case c2 => exact rfl
  case c3 => exact rfl
  case c4 => exact rfl
  case c5 => decide
  intro g' L' h' hg' F' N' B' X' T'
  try dsimp only
  try k_fold
  have hl : g'.IsList fl ([] : List Value).toArray := hf0.at fun o e => hg' _ _ e
  have hi0 : IntsAre [] [] := .nil
  k_steps
  repeat (first | k_unfold | dsimp only)
  refine ⟨_, _, _, by k_asm, by k_asm, fun ch hr fr => ?_⟩
  exact hq _ _ ch

theorem law_due_cons (fl : Nat) (k : Int) (t : Nat) (vs : List Value) (ns : List Int) (h0 : 0 ≤ k) (h1 : k < 1000) (S : Site (Mine.hd.heap_39 w.params) p loose mean mg mb A env outer A₀ base h₀ L m s.heap) (hd : A.depth < 870) (hu : A.units < 8700) (hf0 : s.heap.IsList fl (Value.int k t :: vs).toArray)
    (hi : IntsAre vs ns) (hz : vs.length ≤ 1000)
    (hq : ∀ (x : Six) h' tk', Chg [] s.heap h' → Here h' (x.objs k) → Fresh s.heap (x.objs k) → R (.ok (.ret (.ref x.o))) { s with heap := h', toks := tk' }) :
    codeAny (model PySem.Challenge.rw_rk0006_01.prog w) A (.call (.ref 266) ⟨[.ref fl], []⟩) R s := by
  revert S; k_fill; intro S
  obtain ⟨ah, adp, afr, agd, aun⟩ := A
  obtain ⟨B₀, F₀, X₀, T₀, hA, hh, hf, hk⟩ := S
  dsimp only at hA hh hd hu
  subst hA hh
  refine' enterN (A := { handled := none, depth := adp, frames := some (env :: outer), guards := agd, units := aun }) (binds := [(Str.ofString "flat", .ref fl)]) ⟨B₀, F₀, X₀, T₀, rfl, rfl, hf, hk⟩ ?k6 ?k7 ?k8 ?k9 ?kB ?_ ?c2 ?c3 ?c4 ?c5
  case k6 => k_is
  case k7 => k_is
  case k8 => (simp only [recursionLimit]; omega)
  case k9 => exact BindsTo.of_eq rfl
  case kB => exact locs rfl
  case c2 => exact rfl
  case c3 => exact rfl
  case c4 => exact rfl
  case c5 => decide
  intro g' L' h' hg' F' N' B' X' T'
  try dsimp only
  try k_fold
  have hl : g'.IsList fl (Value.int k t :: vs).toArray := hf0.at fun o e => hg' _ _ e
  have hi0 : IntsAre (Value.int k t :: vs) (k :: ns) := .cons k t hi
  k_steps
  · exact absurd (by assumption : decide (k :: ns = []) = true) (by simp)
  repeat (first | k_unfold | dsimp only)
  refine ⟨_, _, _, by k_asm, by k_asm, fun ch hr fr => ?_⟩
  exact hq ⟨_, _, _, _, _, _, _⟩ _ _ ch (here1 hr) (fresh1 fr)

theorem law_seen_none (S : Site (Mine.hd.heap_39 w.params) p loose mean mg mb A env outer A₀ base h₀ L m s.heap) (hd : A.depth < 870) (hu : A.units < 8700)
    (hq : ∀ h' tk', Chg [] s.heap h' → R (.ok (.ret .none)) { s with heap := h', toks := tk' }) :
    codeAny (model PySem.Challenge.rw_rk0006_01.prog w) A (.call (.ref 273) ⟨[.none], []⟩) R s := by
  revert S; k_fill; intro S
  obtain ⟨ah, adp, afr, agd, aun⟩ := A
  obtain ⟨B₀, F₀, X₀, T₀, hA, hh, hf, hk⟩ := S
  dsimp only at hA hh hd hu
  subst hA hh
  refine' enterN (A := { handled := none, depth := adp, frames := some (env :: outer), guards := agd, units := aun }) (binds := [(Str.ofString "token", .none)]) ⟨B₀, F₀, X₀, T₀, rfl, rfl, hf, hk⟩ ?k6 ?k7 ?k8 ?k9 ?kB ?_ ?c2 ?c3 ?c4 ?c5
  case k6 => k_is
  case k7 => k_is
  case k8 => (simp only [recursionLimit]; omega)
  case k9 => exact BindsTo.of_eq rfl
  case kB => exact locs rfl
  case c2 => exact rfl
  case c3 => exact rfl
  case c4 => exact rfl
  case c5 => decide
  intro g' L' h' hg' F' N' B' X' T'
  try dsimp only
  try k_fold
  k_steps
  repeat (first | k_unfold | dsimp only)
  refine ⟨_, _, _, by k_asm, by k_asm, fun ch hr fr => ?_⟩
  exact hq _ _ ch

local macro_rules | `(tactic| k_inst) => `(tactic| exact instKeeps (by assumption) (Fr.keep (by k_asm)))
theorem law_seen (T : Tokn) (hT : Here s.heap T.objs) (S : Site (Mine.hd.heap_39 w.params) p loose mean mg mb A env outer A₀ base h₀ L m s.heap) (hd : A.depth < 870) (hu : A.units < 8700)
    (hq : ∀ (x : Six) h' tk', Chg [] s.heap h' → Here h' (x.objs T.k) → Fresh s.heap (x.objs T.k) → R (.ok (.ret (.ref x.o))) { s with heap := h', toks := tk' }) :
    codeAny (model PySem.Challenge.rw_rk0006_01.prog w) A (.call (.ref 273) ⟨[.ref T.a], []⟩) R s := by
  revert S; k_fill; intro S
  obtain ⟨ah, adp, afr, agd, aun⟩ := A
  obtain ⟨B₀, F₀, X₀, T₀, hA, hh, hf, hk⟩ := S
  dsimp only at hA hh hd hu
  subst hA hh
  obtain ⟨k, a, d, la, ld, t1, t2, t3, t4, t5, u1, u2, u3, u4, g1, g2⟩ := T
  refine' enterN (A := { handled := none, depth := adp, frames := some (env :: outer), guards := agd, units := aun }) (binds := [(Str.ofString "token", .ref a)]) ⟨B₀, F₀, X₀, T₀, rfl, rfl, hf, hk⟩ ?k6 ?k7 ?k8 ?k9 ?kB ?_ ?c2 ?c3 ?c4 ?c5
  case k6 => k_is
  case k7 => k_is
  case k8 => (simp only [recursionLimit]; omega)
  case k9 => exact BindsTo.of_eq rfl
  case kB => exact locs rfl
  case c2 => exact rfl
  case c3 => exact rfl
  case c4 => exact rfl
  case c5 => decide
  intro g' L' h' hg' F' N' B' X' T'
  try dsimp only
  try k_fold
  simp only [Tokn.objs] at hT
  have I1 : PySem.W.InstAt g' a _ 248 (some _) := ⟨hg' _ _ (hT _ (.head _)), rfl, rfl, hg' _ _ (hT _ (.tail _ (.head _)))⟩
  have I2 : PySem.W.InstAt g' la _ 200 (some _) := ⟨hg' _ _ (hT _ (.tail _ (.tail _ (.head _)))), rfl, rfl, hg' _ _ (hT _ (.tail _ (.tail _ (.tail _ (.head _)))))⟩
  k_steps
  repeat (first | k_unfold | dsimp only)
  refine ⟨_, _, _, by k_asm, by k_asm, fun ch hr fr => ?_⟩
  exact hq ⟨_, _, _, _, _, _, _⟩ _ _ ch (here1 hr) (fresh1 fr)
end
end
section
open PySem PySem.W PySem.Calls PyProof.Rows PySem.Spec
set_option Elab.async false
set_option maxRecDepth 100000
set_option maxHeartbeats 4000000
theorem offLawR : True ∧ True := by
  w_top off
  walk1 <;> trivial
abbrev sixObj (x : Six) (k : Int) : Obj := { cls := .type "tuple", data := .seq #[.str (Str.ofString "ID") x.t1, .str (valOf k) x.t2, .str (spaceOf k) x.t3, .bool (firstOf k), .int (k + 1) x.t4, .int (2 * k + 1) x.t5] x.n }
theorem strOk_ofString (x : String) : PyData.strOk (Str.ofString x) = true := by
  unfold PyData.strOk
  rw [Str.ofString_eq_toList]
  simp only [List.all_toArray, List.all_eq_true, decide_eq_true_eq]
  intro n hn
  obtain ⟨c, _, rfl⟩ := List.mem_map.mp hn
  have hv : c.toNat.isValidChar := c.valid
  rcases hv with h | h <;> omega
theorem strOk_append {a b : Str} (ha : PyData.strOk a = true) (hb : PyData.strOk b = true) : PyData.strOk (a ++ b) = true := by
  unfold PyData.strOk at *
  show (a.cps ++ b.cps).all _ = true
  rw [Array.all_append, ha, hb]; rfl
theorem strOk_val (k : Int) : PyData.strOk (valOf k) = true := strOk_append (strOk_ofString _) (strOk_ofString _)
theorem strOk_space (k : Int) : PyData.strOk (spaceOf k) = true := by
  have h0 := Int.fmod_nonneg_of_pos k (show (0 : Int) < 3 by omega)
  have h1 := Int.fmod_lt_of_pos k (show (0 : Int) < 3 by omega)
  unfold spaceOf
  generalize k.fmod 3 = r at *
  have h2 : r = 0 ∨ r = 1 ∨ r = 2 := by omega
  rcases h2 with rfl | rfl | rfl <;> decide +kernel
theorem Six.objs_eq (x : Six) (k : Int) : x.objs k = [(x.o, sixObj x k)] := rfl

/-- the expander's objects, closed to the walk -/
@[irreducible] def ObjsOf (e : Exp) : List (Addr × Obj) := e.objs
theorem ObjsOf_eq (e : Exp) : ObjsOf e = e.objs := by rw [ObjsOf]
section
variable {w : World} {p : Program} {loose : List Str} {mean : ExcName → Option Value} {mg mb : Str → Option Value} {A A₀ : Around} {env : Env} {outer : List Env} {base h₀ : Heap} {L : Addr} {m : Str → Option Value} {s : Shared} {R : Result → Shared → Prop} {E : Value → Shared → Prop} {rest news : List (Addr × Obj)}

theorem due_nil_L {fl n : Nat} (S : Site (Mine.hd.heap_39 w.params) p loose mean mg mb A env outer A₀ base h₀ L m s.heap) (hd : A.depth < 870) (hu : A.units < 8700) (N : News h₀ L s.heap news) (hm : (fl, listOf ([] : List Value).toArray n) ∈ news)
    (h : ∀ h' tk', Fr h₀ L h' m → News h₀ L h' news → R (.ok (.ret .none)) { s with heap := h', toks := tk' }) :
    codeAny (model PySem.Challenge.rw_rk0006_01.prog w) A (.call (.ref 266) ⟨[.ref fl], []⟩) R s :=
  law_due_nil fl S hd hu (isList_of N hm) fun h' tk' c => h h' tk' (freshFr S.F c) (News.chg N c (by simp))

theorem due_cons_L {fl n : Nat} {k : Int} {t : Nat} {vs : List Value} {ns : List Int} (S : Site (Mine.hd.heap_39 w.params) p loose mean mg mb A env outer A₀ base h₀ L m s.heap) (hd : A.depth < 870) (hu : A.units < 8700) (N : News h₀ L s.heap news) (hm : (fl, listOf (Value.int k t :: vs).toArray n) ∈ news)
    (h0 : 0 ≤ k) (h1 : k < 1000) (hi : IntsAre vs ns) (hz : vs.length ≤ 1000)
    (h : ∀ x h' tk', Fr h₀ L h' m → News h₀ L h' ((x.o, sixObj x k) :: news) → (∀ b ∈ news, x.o ≠ b.1) → R (.ok (.ret (.ref x.o))) { s with heap := h', toks := tk' }) :
    codeAny (model PySem.Challenge.rw_rk0006_01.prog w) A (.call (.ref 266) ⟨[.ref fl], []⟩) R s :=
  law_due_cons fl k t vs ns h0 h1 S hd hu (isList_of N hm) hi hz fun x h' tk' c hr fr => h x h' tk' (freshFr S.F c) (freshNews S.F N c hr fr) (freshOff N fr _ (.head _))

theorem seen_none_L (S : Site (Mine.hd.heap_39 w.params) p loose mean mg mb A env outer A₀ base h₀ L m s.heap) (hd : A.depth < 870) (hu : A.units < 8700) (N : News h₀ L s.heap news)
    (h : ∀ h' tk', Fr h₀ L h' m → News h₀ L h' news → R (.ok (.ret .none)) { s with heap := h', toks := tk' }) :
    codeAny (model PySem.Challenge.rw_rk0006_01.prog w) A (.call (.ref 273) ⟨[.none], []⟩) R s :=
  law_seen_none S hd hu fun h' tk' c => h h' tk' (freshFr S.F c) (News.chg N c (by simp))

theorem seen_L (T : Tokn) (S : Site (Mine.hd.heap_39 w.params) p loose mean mg mb A env outer A₀ base h₀ L m s.heap) (hd : A.depth < 870) (hu : A.units < 8700) (N : News h₀ L s.heap news) (hT : ∀ q ∈ T.objs, q ∈ news)
    (h : ∀ x h' tk', Fr h₀ L h' m → News h₀ L h' ((x.o, sixObj x T.k) :: news) → (∀ b ∈ news, x.o ≠ b.1) → R (.ok (.ret (.ref x.o))) { s with heap := h', toks := tk' }) :
    codeAny (model PySem.Challenge.rw_rk0006_01.prog w) A (.call (.ref 273) ⟨[.ref T.a], []⟩) R s :=
  law_seen T (fun q hq => (N q (hT q hq)).1) S hd hu fun x h' tk' c hr fr => h x h' tk' (freshFr S.F c) (freshNews S.F N c hr fr) (freshOff N fr _ (.head _))

theorem token_L {k : Int} {t : Nat} (h0 : 0 ≤ k) (h1 : k < 1000) (S : Site (Mine.hd.heap_39 w.params) p loose mean mg mb A env outer A₀ base h₀ L m s.heap) (hd : A.depth < 870) (hu : A.units < 8700) (N : News h₀ L s.heap news)
    (h : ∀ (T : Tokn) h' tk', T.k = k → Fr h₀ L h' m → News h₀ L h' (T.objs ++ news) → (∀ q ∈ T.objs, ∀ b ∈ news, q.1 ≠ b.1) → R (.ok (.ret (.ref T.a))) { s with heap := h', toks := tk' }) :
    codeAny (model PySem.Challenge.rw_rk0006_01.prog w) A (.call (.ref 259) ⟨[.int k t], []⟩) R s :=
  law_token k t h0 h1 S hd hu fun T h' tk' e c hr fr => h T h' tk' e (freshFr S.F c) (freshNews S.F N c hr fr) (freshOff N fr)

theorem next_L (e : Exp) (ok : e.Ok) (S : Site (Mine.hd.heap_39 w.params) p loose mean mg mb A env outer A₀ base h₀ L m s.heap) (hd : A.depth < 870) (hu : A.units < 8700) (N : News h₀ L s.heap (ObjsOf e ++ rest)) (off : ∀ q ∈ rest, q.1 ∉ e.adr)
    (h : ∀ h' tk' e', Fr h₀ L h' m → News h₀ L h' (ObjsOf e' ++ rest) → Exp.Step e e' → e'.flat = e.flat.tail → e'.buf.length = e.buf.length - 1 → R (.ok (.ret (e.flat.headD .none))) { s with heap := h', toks := tk' }) :
    codeAny (model PySem.Challenge.rw_rk0006_01.prog w) A (.call (.ref 57) ⟨[.ref e.f], []⟩) R s := by
  rw [ObjsOf_eq] at N
  exact exp_next e ok S (by omega) (by omega) (fun q hq => N q (List.mem_append_left _ hq)) fun h' tk' e' ch hr st fl bl => h h' tk' e' (expFr S.F N ch) (by rw [ObjsOf_eq]; exact expNews N off ch hr st.adr) st fl bl

theorem unget_L (e : Exp) (ok : e.Ok) (a : Addr) (zb : e.buf.length ≤ 999) (S : Site (Mine.hd.heap_39 w.params) p loose mean mg mb A env outer A₀ base h₀ L m s.heap) (hd : A.depth < 870) (hu : A.units < 8700) (N : News h₀ L s.heap (ObjsOf e ++ rest)) (off : ∀ q ∈ rest, q.1 ∉ e.adr)
    (h : ∀ h' tk', Fr h₀ L h' m → News h₀ L h' (ObjsOf { e with buf := .ref a :: e.buf, n := e.n + 1 } ++ rest) → Exp.Step e { e with buf := .ref a :: e.buf, n := e.n + 1 } → R (.ok (.ret .none)) { s with heap := h', toks := tk' }) :
    codeAny (model PySem.Challenge.rw_rk0006_01.prog w) A (.call (.ref 64) ⟨[.ref e.f, .ref a], []⟩) R s := by
  rw [ObjsOf_eq] at N
  exact exp_unget e ok a zb S (by omega) (by omega) (fun q hq => N q (List.mem_append_left _ hq)) fun h' tk' ch hr st => h h' tk' (expFr S.F N ch) (by rw [ObjsOf_eq]; exact expNews N off ch hr st.adr) st

theorem expInst (e : Exp) (N : News h₀ L s.heap (ObjsOf e ++ rest)) : PySem.W.InstAt s.heap e.f (instObj 67 e.fd) 67 (some (dictOf (XE e.gh e.kt e.sf e.dp e.ifs e.tb e.it e.mx e.pt) e.dn)) :=
  InstAt.of_news N (List.mem_append_left _ (by rw [ObjsOf_eq]; unfold Exp.objs Exp.six; exact .head _)) (List.mem_append_left _ (by rw [ObjsOf_eq]; unfold Exp.objs Exp.six; exact .tail _ (.head _)))

theorem expGetMeth {pl : Sem Bool} {Q : Value × List Value → Shared → Prop} (e : Exp) (S : Site (Mine.hd.heap_39 w.params) p loose mean mg mb A env outer A₀ base h₀ L m s.heap) (N : News h₀ L s.heap (ObjsOf e ++ rest)) :
    (Q (.ref 57, [.ref e.f]) s → wpAny (model PySem.Challenge.rw_rk0006_01.prog w) A (getMethod (.ref e.f) (Str.ofString "next_token") pl) Q E s) ∧
    (Q (.ref 64, [.ref e.f]) s → wpAny (model PySem.Challenge.rw_rk0006_01.prog w) A (getMethod (.ref e.f) (Str.ofString "unget") pl) Q E s) := by
  revert S; k_fill; intro S
  have I := expInst e N
  constructor
  · intro h
    refine' method_inst S.F S.X I ?k4 ?k5 ?k6 ?k7 ?_
    case k4 => k_is
    case k5 => k_is
    case k6 => k_is
    case k7 => k_get
    exact h
  · intro h
    refine' method_inst S.F S.X I ?k4 ?k5 ?k6 ?k7 ?_
    case k4 => k_is
    case k5 => k_is
    case k6 => k_is
    case k7 => k_get
    exact h

theorem expGetNext {pl : Sem Bool} {Q : Value × List Value → Shared → Prop} (e : Exp) (S : Site (Mine.hd.heap_39 w.params) p loose mean mg mb A env outer A₀ base h₀ L m s.heap) (N : News h₀ L s.heap (ObjsOf e ++ rest)) (h : Q (.ref 57, [.ref e.f]) s) :
    wpAny (model PySem.Challenge.rw_rk0006_01.prog w) A (getMethod (.ref e.f) (Str.ofString "next_token") pl) Q E s := (expGetMeth e S N).1 h
theorem expGetUnget {pl : Sem Bool} {Q : Value × List Value → Shared → Prop} (e : Exp) (S : Site (Mine.hd.heap_39 w.params) p loose mean mg mb A env outer A₀ base h₀ L m s.heap) (N : News h₀ L s.heap (ObjsOf e ++ rest)) (h : Q (.ref 64, [.ref e.f]) s) :
    wpAny (model PySem.Challenge.rw_rk0006_01.prog w) A (getMethod (.ref e.f) (Str.ofString "unget") pl) Q E s := (expGetMeth e S N).2 h
theorem Exp.flat_tok {e : Exp} (ok : e.Ok) : ∀ v ∈ e.flat, ∃ a, v = .ref a := by
  intro v hv
  rcases List.mem_append.mp hv with h | h
  · exact ok.bufs v h
  · rcases List.mem_append.mp h with h | h
    · obtain ⟨c, hc, hv⟩ := List.mem_flatMap.mp h
      exact Mac.rest_tok (ok.macs c (List.mem_reverse.mp hc)) v hv
    · exact ok.items v (List.mem_of_mem_drop h)

theorem peek_L {expr : Bool} {Q : Value → Shared → Prop} (e : Exp) (ok : e.Ok) (S : Site (Mine.hd.heap_39 w.params) p loose mean mg mb A env outer A₀ base h₀ L m s.heap) (hd : A.depth < 870) (hu : A.units < 8700) (N : News h₀ L s.heap (ObjsOf e ++ rest)) (off : ∀ q ∈ rest, q.1 ∉ e.adr)
    (h : ∀ h' tk' e', Fr h₀ L h' m → News h₀ L h' (ObjsOf e' ++ rest) → Exp.Step e e' → e'.flat = e.flat → e'.buf.length ≤ max e.buf.length 1 → Q (e.flat.headD .none) { s with heap := h', toks := tk' }) :
    wpAny (model PySem.Challenge.rw_rk0006_01.prog w) A (getAttr (.ref e.f) (Str.ofString "peek") expr) Q E s := by
  revert S; k_fill; intro S
  have I := expInst e N
  rw [ObjsOf_eq] at N
  refine' get_prop S.F S.X I ?k4 ?k5 ?k6 ?k7 ?k8 ?k9 ?_
  case k4 => k_is
  case k5 => k_is
  case k6 => k_is
  case k7 => k_is
  case k8 => k_is
  case k9 => k_is
  refine exp_peek e ok (s := { s with toks := s.toks + 1 }) (A := A.in1) ⟨S.B, S.F, S.X, S.T, S.hA, S.hh, S.hf, S.hk⟩ (by show A.depth < 880; omega) (by show A.units + 1 < 8800; omega) (fun q hq => N q (List.mem_append_left _ hq)) fun h' tk' e' ch hr st fl bl => ?_
  show wpAny _ _ (handedOut (e.flat.headD .none)) _ _ _
  rw [handedOut_of (by
    cases hc : e.flat with
    | nil => rfl
    | cons v r =>
      obtain ⟨a, rfl⟩ := Exp.flat_tok ok v (by rw [hc]; exact .head _)
      rfl)]
  exact wpAny_pure (h h' tk' e' (expFr S.F N ch) (by rw [ObjsOf_eq]; exact expNews N off ch hr st.adr) st fl bl)

theorem six_ne {x y : Six} {k : Int} {Q : Value → Shared → Prop} {prog : Program} (N : News h₀ L s.heap news) (hx : (x.o, sixObj x k) ∈ news) (hy : (y.o, sixObj y k) ∈ news) (hu : A.units + 64 < cLine) (h : Q (.bool false) s) :
    wpAny (model prog w) A (compareOp .NotEq (.ref x.o) (.ref y.o)) Q E s := by
  have rd : ∀ z : Six, (z.o, sixObj z k) ∈ news → Reads s.heap (.ref z.o) (.tuple [.str (Str.ofString "ID"), .str (valOf k), .str (spaceOf k), .bool (firstOf k), .int (k + 1), .int (2 * k + 1)]) _ := fun z hz =>
    reads_tuple_at (N.get hz) rfl rfl (.cons (Reads.str _ _) (.cons (Reads.str _ _) (.cons (Reads.str _ _) (.cons (Reads.bool _) (.cons (Reads.int _ _) (.cons (Reads.int _ _) .nil))))))
  have sh : SeqAt.shaped (.tuple [.str (Str.ofString "ID"), .str (valOf k), .str (spaceOf k), .bool (firstOf k), .int (k + 1), .int (2 * k + 1)]) = true := by
    have e1 := strOk_val k
    have e2 := strOk_space k
    have e3 := strOk_ofString "ID"
    revert e1 e2
    generalize valOf k = v1
    generalize spaceOf k = v2
    generalize firstOf k = v3
    intro e1 e2
    simp [e1, e2, e3, SeqAt.shaped, PyData.canLay0, PyData.canLayAll0, PyData.depth, PyData.depthAll]
  refine ne_dataH (rd x hx) (rd y hy) sh sh hu ?_
  simp only [PyData.eqv, PyData.eqvAll, beq_self_eq_true, decide_true, Bool.and_true, Bool.not_true]
  exact h

theorem ne_cons_L {a b n n2 : Nat} {k : Int} {t : Nat} {vs : List Value} {ns : List Int} {Q : Value → Shared → Prop} {prog : Program} (N : News h₀ L s.heap news) (hi : IntsAre vs ns) (ha : (a, listOf (Value.int k t :: vs).toArray n) ∈ news) (hb : (b, listOf ([] : List Value).toArray n2) ∈ news) (hu : A.units + 64 < cLine) (h : Q (.bool true) s) :
    wpAny (model prog w) A (compareOp .NotEq (.ref a) (.ref b)) Q E s :=
  ke_ne_ints (isList_of N ha) (isList_of N hb) (.cons k t hi) .nil hu h
theorem ne_nil_L {a b n n2 : Nat} {Q : Value → Shared → Prop} {prog : Program} (N : News h₀ L s.heap news) (ha : (a, listOf ([] : List Value).toArray n) ∈ news) (hb : (b, listOf ([] : List Value).toArray n2) ∈ news) (hu : A.units + 64 < cLine) (h : Q (.bool false) s) :
    wpAny (model prog w) A (compareOp .NotEq (.ref a) (.ref b)) Q E s :=
  ke_ne_ints (isList_of N ha) (isList_of N hb) .nil .nil hu h
theorem eq_nil_L {a b n n2 : Nat} {Q : Value → Shared → Prop} {prog : Program} (N : News h₀ L s.heap news) (ha : (a, listOf ([] : List Value).toArray n) ∈ news) (hb : (b, listOf ([] : List Value).toArray n2) ∈ news) (hu : A.units + 64 < cLine) (h : Q (.bool true) s) :
    wpAny (model prog w) A (compareOp .Eq (.ref a) (.ref b)) Q E s :=
  ke_eq_ints (isList_of N ha) (isList_of N hb) .nil .nil hu h
theorem eq_one_L {a b n n2 : Nat} {x : Value} {Q : Value → Shared → Prop} {prog : Program} (N : News h₀ L s.heap news) (ha : (a, listOf [x].toArray n) ∈ news) (hb : (b, listOf ([] : List Value).toArray n2) ∈ news) (hu : A.units + 64 < cLine) (h : Q (.bool false) s) :
    wpAny (model prog w) A (compareOp .Eq (.ref a) (.ref b)) Q E s :=
  SeqAt.eq_list_lengthsAt (isList_of N ha) (isList_of N hb) rfl (by omega) h

abbrev pairObj (a b : Value) (n : Nat) : Obj := { cls := .type "tuple", data := .seq #[a, b] n }
theorem pair0_L {value slice : PySem.Expr} {d : Addr} {n : Nat} {a b : Value} {u : Tok} {Q : Value → Shared → Prop} {prog : Program} (N : News h₀ L s.heap news) (hm : (d, pairObj a b n) ∈ news) (h : Q a s)
    (hs : subscripted slice false (.ref d) (.int 0 u) = operate [.ref d, .int 0 u] (getItem (.ref d) (.int 0 u)) := by with_unfolding_all rfl) :
    wpAny (model prog w) A (subscriptTail value slice (.ref d) (.int 0 u)) Q E s :=
  item_tupleT (l := [a, b]) (j := 0) ⟨_, (N _ hm).1, rfl, _, rfl⟩ (by decide) (by decide) (by rfl) rfl h hs
theorem pair1_L {value slice : PySem.Expr} {d : Addr} {n : Nat} {a b : Value} {u : Tok} {Q : Value → Shared → Prop} {prog : Program} (N : News h₀ L s.heap news) (hm : (d, pairObj a b n) ∈ news) (h : Q b s)
    (hs : subscripted slice false (.ref d) (.int 1 u) = operate [.ref d, .int 1 u] (getItem (.ref d) (.int 1 u)) := by with_unfolding_all rfl) :
    wpAny (model prog w) A (subscriptTail value slice (.ref d) (.int 1 u)) Q E s :=
  item_tupleT (l := [a, b]) (j := 1) ⟨_, (N _ hm).1, rfl, _, rfl⟩ (by decide) (by decide) (by rfl) rfl h hs
end
end
section
open PySem PySem.W PySem.Calls PyProof.Rows PySem.Spec
set_option Elab.async false
set_option maxRecDepth 100000
set_option maxHeartbeats 4000000
theorem offLawD : True ∧ True := by
  w_top off
  walk1 <;> trivial
/-- the law's own text, picked out of the given term -/
def lawBody : List Stmt := match PySem.Challenge.pw_rk0006_01.main.body.getLast? with
  | some (.FunctionDef _ _ b _ _ _ _ _ _ _) => b
  | _ => []
def lawScope : Scope := match PySem.Challenge.pw_rk0006_01.main.body.getLast? with
  | some (.FunctionDef _ _ _ _ _ _ sc _ _ _) => sc
  | _ => default
def loopBody : List Stmt := match (lawBody[8]? : Option Stmt) with
  | some (PySem.Stmt.For _ _ b _ _) => b
  | _ => []
def chain : List Stmt := loopBody.drop 2
/-- the value v is the token of number k, its objects in the list -/
def TokAt (tail : List (Addr × Obj)) (v : Value) (k : Int) : Prop := ∃ T : Tokn, v = .ref T.a ∧ T.k = k ∧ ∀ q ∈ T.objs, q ∈ tail
inductive Rel (tail : List (Addr × Obj)) : List Value → List Int → Prop
  | nil : Rel tail [] []
  | cons {v : Value} {k : Int} {vs : List Value} {ks : List Int} : TokAt tail v k → Rel tail vs ks → Rel tail (v :: vs) (k :: ks)
theorem TokAt.mono {t t' : List (Addr × Obj)} {v : Value} {k : Int} (h : TokAt t v k) (s : ∀ q ∈ t, q ∈ t') : TokAt t' v k := let ⟨T, a, b, c⟩ := h; ⟨T, a, b, fun q hq => s q (c q hq)⟩
theorem Rel.mono {t t' : List (Addr × Obj)} {vs : List Value} {ks : List Int} (h : Rel t vs ks) (s : ∀ q ∈ t, q ∈ t') : Rel t' vs ks := by
  induction h with
  | nil => exact .nil
  | cons a _ ih => exact .cons (a.mono s) ih
theorem Rel.append {t : List (Addr × Obj)} {vs vs' : List Value} {ks ks' : List Int} (h : Rel t vs ks) (h' : Rel t vs' ks') : Rel t (vs ++ vs') (ks ++ ks') := by
  induction h with
  | nil => exact h'
  | cons a _ ih => exact .cons a ih
theorem Rel.length {t : List (Addr × Obj)} {vs : List Value} {ks : List Int} (h : Rel t vs ks) : vs.length = ks.length := by
  induction h with
  | nil => rfl
  | cons _ _ ih => simp [ih]

abbrev notIter (l : List (Addr × Obj)) : Prop := ∀ q ∈ l, q.2.cls ≠ .type "list_iterator"
/-- the expander and the law's own list say the same -/
structure LS (e : Exp) (tail : List (Addr × Obj)) (ns : List Int) : Prop where
  ok : e.Ok
  off : ∀ q ∈ tail, q.1 ∉ e.adr
  rel : Rel tail e.flat ns
  rng : ∀ k ∈ ns, 0 ≤ k ∧ k < 1000
  len : ns.length ≤ 1000
/-- the law's list of numbers -/
structure FlatAt (tail : List (Addr × Obj)) (fl : Nat) (ns : List Int) : Prop where
  at_ : ∃ vs n, (fl, listOf vs.toArray n) ∈ tail ∧ IntsAre vs ns
/-- what was last taken -/
inductive LastAt (tail : List (Addr × Obj)) (la : Nat) : Bool → Prop
  | nil (n : Nat) : (la, listOf ([] : List Value).toArray n) ∈ tail → LastAt tail la false
  | one (n n2 tup : Nat) (T : Tokn) (t : Nat) : (la, listOf [Value.ref tup].toArray n) ∈ tail → (tup, ({ cls := .type "tuple", data := .seq #[.ref T.a, .int T.k t] n2 } : Obj)) ∈ tail → (∀ q ∈ T.objs, q ∈ tail) → 0 ≤ T.k → T.k < 1000 → LastAt tail la true
theorem LS.step {e e' : Exp} {tail tail' : List (Addr × Obj)} {ns ns' : List Int} (l : LS e tail ns) (st : Exp.Step e e') (off : ∀ q ∈ tail', q.1 ∉ e.adr) (rel : Rel tail' e'.flat ns') (rng : ∀ k ∈ ns', 0 ≤ k ∧ k < 1000) (len : ns'.length ≤ 1000) : LS e' tail' ns' :=
  ⟨st.ok, fun q hq h => off q hq (st.adr _ h), rel, rng, len⟩
theorem Exp.fresh_off {e : Exp} {d : Nat} {l : List (Addr × Obj)} (h : AllLt d (ObjsOf e ++ l)) : d ∉ e.adr := by
  intro hd
  rw [ObjsOf_eq] at h
  rw [← Exp.objs_adr] at hd
  obtain ⟨q, hq, e2⟩ := List.mem_map.mp hd
  have := tb_ltOf h q (List.mem_append_left _ hq)
  exact Nat.ne_of_lt this e2
theorem Exp.fresh_off' {e : Exp} {d : Nat} {l : List (Addr × Obj)} (h : ∀ b ∈ ObjsOf e ++ l, d ≠ b.1) : d ∉ e.adr := by
  intro hd
  rw [ObjsOf_eq] at h
  rw [← Exp.objs_adr] at hd
  obtain ⟨q, hq, e2⟩ := List.mem_map.mp hd
  exact h q (List.mem_append_left _ hq) e2.symm

structure Bd (i : Nat) (e : Exp) (ns : List Int) (made held : Int) : Prop where
  buf : e.buf.length ≤ i
  macs : e.macs.length ≤ i
  len : ns.length ≤ 6 + 3 * i
  m0 : 0 ≤ made
  m1 : made ≤ 6 + 3 * i
  hb : (e.buf.length : Int) ≤ held
/-- what a turn of the events' loop leaves -/
def TurnDone (Q : Flow → Shared → Prop) (s : Shared) (h₀ : Heap) (L f : Nat) (tail : List (Addr × Obj)) (i : Nat) : Prop :=
  ∀ (e' : Exp) (nw : List (Addr × Obj)) (ns' : List Int) (fl' la' : Nat) (lb : Bool) (made' held' : Int) (mt' ht' : Nat) (h' : Heap) (tk' : Nat) (m' : Str → Option Value),
    LS e' (nw ++ tail) ns' → FlatAt (nw ++ tail) fl' ns' → LastAt (nw ++ tail) la' lb → notIter nw → e'.f = f → Bd (i + 1) e' ns' made' held' → Fr h₀ L h' m' →
    m' (Str.ofString "made") = some (.int made' mt') → m' (Str.ofString "flat") = some (.ref fl') → m' (Str.ofString "f") = some (.ref f) → m' (Str.ofString "held") = some (.int held' ht') → m' (Str.ofString "last") = some (.ref la') →
    News h₀ L h' (ObjsOf e' ++ (nw ++ tail)) → Q .next { s with heap := h', toks := tk' }
theorem LS.head {e : Exp} {tail : List (Addr × Obj)} {k : Int} {ns : List Int} (ls : LS e tail (k :: ns)) : ∃ T1 : Tokn, e.flat = .ref T1.a :: e.flat.tail ∧ T1.k = k ∧ (∀ q ∈ T1.objs, q ∈ tail) ∧ Rel tail e.flat.tail ns := by
  have := ls.rel
  generalize e.flat = fv at this
  cases this with
  | cons a r => obtain ⟨T, rfl, hk, hq⟩ := a; exact ⟨T, rfl, hk, hq, r⟩
theorem LS.nil {e : Exp} {tail : List (Addr × Obj)} (ls : LS e tail []) : e.flat = [] := by
  have := ls.rel
  generalize e.flat = fv at this
  cases this; rfl
abbrev lawEnv (L fa : Addr) (cd : Value) : Env := envOfC (Str.ofString "law") lawScope L fa cd
abbrev turnMap (kd : Int) (kt : Nat) (held : Int) (ht fl f la : Nat) (made : Int) (mt : Nat) (m : Str → Option Value) : Str → Option Value := fun y =>
  if y = Str.ofString "kind" then some (.int kd kt) else if y = Str.ofString "held" then some (.int held ht) else if y = Str.ofString "flat" then some (.ref fl) else if y = Str.ofString "f" then some (.ref f)
  else if y = Str.ofString "last" then some (.ref la) else if y = Str.ofString "made" then some (.int made mt) else m y

end
section
open PySem PySem.W PySem.Calls PyProof.Rows PySem.Spec
local macro_rules | `(tactic| k_mem) => `(tactic| assumption)
local macro_rules | `(tactic| units_room) => `(tactic| (have hcL9 := cLine_is; (try simp only [units_in1, units_deeper, Around.mark_units, units_caller]); (try dsimp only); omega))
local macro_rules | `(tactic| walk_at "call ref") => `(tactic| (k_here; (first | (with_reducible show wpAny _ _ (call (Value.ref 57) _ _) _ _ _) | (with_reducible show wpAny _ _ (call (Value.ref 64) _ _) _ _ _) | (with_reducible show wpAny _ _ (call (Value.ref 259) _ _) _ _ _) | (with_reducible show wpAny _ _ (call (Value.ref 266) _ _) _ _ _) | (with_reducible show wpAny _ _ (call (Value.ref 273) _ _) _ _ _)); k_dflt (refine wpAny_call ?_)))
local macro_rules | `(tactic| walk_at "compareOp NotEq ref ref") => `(tactic| (k_here; (with_reducible show wpAny _ _ (compareOp CmpOp.NotEq (Value.ref _) (Value.ref _)) _ _ _); k_dflt (first
  | (refine' six_ne ?N ?x ?y ?u ?_; (case N => k_asm); (case x => k_mem); (case y => k_mem); (case u => units_room))
  | (refine' ne_cons_L ?N ?i ?x ?y ?u ?_; (case N => k_asm); (case x => k_mem); (case y => k_mem); (case i => assumption); (case u => units_room))
  | (refine' ne_nil_L ?N ?x ?y ?u ?_; (case N => k_asm); (case x => k_mem); (case y => k_mem); (case u => units_room)))))
local macro_rules | `(tactic| walk_at "compareOp Eq ref ref") => `(tactic| (k_here; (with_reducible show wpAny _ _ (compareOp CmpOp.Eq (Value.ref _) (Value.ref _)) _ _ _); k_dflt (first
  | (refine' eq_nil_L ?N ?x ?y ?u ?_; (case N => k_asm); (case x => k_mem); (case y => k_mem); (case u => units_room))
  | (refine' eq_one_L ?N ?x ?y ?u ?_; (case N => k_asm); (case x => k_mem); (case y => k_mem); (case u => units_room)))))
section
open PySem PySem.W PySem.Calls PyProof.Rows PySem.Spec
set_option Elab.async false
set_option maxRecDepth 100000
set_option maxHeartbeats 4000000
theorem offTakeC : True ∧ True := by
  w_top off
  walk1 <;> trivial
section
variable {w : World} {p : Program} {loose : List Str} {mean : ExcName → Option Value} {mg mb : Str → Option Value} {A₀ : Around} {outer : List Env} {base h₀ : Heap} {L fa : Addr} {cd : Value} {m : Str → Option Value} {s : Shared} {Q : Flow → Shared → Prop} {E : Value → Shared → Prop}

theorem take_cons (dp un : Nat) (gd : Option (List Code)) (hd : dp < 800) (hu : un < 8000) (B : Below A₀ base outer h₀) (X : (Mine.hd.heap_39 w.params).In h₀) (T : Top p loose mean mg mb h₀)
   (kd : Int) (kt : Nat) (h0 : 0 ≤ kd) (h3 : kd < 3) (i : Nat) (hi16 : i ≤ 16) (e : Exp) (tail : List (Addr × Obj)) (k : Int) (ns : List Int) (ls : LS e tail (k :: ns)) (made held : Int) (mt ht : Nat) (fl la : Nat) (bd : Bd i e (k :: ns) made held) (fa_ : FlatAt tail fl (k :: ns))
   (F : Fr h₀ L s.heap (turnMap kd kt held ht fl e.f la made mt m)) (N : News h₀ L s.heap (ObjsOf e ++ tail)) (hq : TurnDone Q s h₀ L e.f tail i) :
   wpAny (model PySem.Challenge.rw_rk0006_01.prog w) { handled := none, depth := dp, frames := some (lawEnv L fa cd :: outer), guards := gd, units := un } (execs chain (lawEnv L fa cd)) Q E s := by
  revert X; k_fill; intro X
  dsimp only [lawEnv]
  conv in chain => whnf
  conv in (occs := *) lawScope => all_goals whnf
  obtain ⟨vs, n1, hfl, hi⟩ := fa_.at_
  obtain ⟨T1, hv1, hk1, hT1, hrel⟩ := ls.head
  cases hi with
  | cons _ t hi =>
  have hfl' : (fl, listOf (Value.int k t :: _).toArray n1) ∈ ObjsOf e ++ tail := List.mem_append_right _ hfl
  subst hk1
  have hlen := hi.length
  have hln := ls.len
  simp only [List.length_cons] at hln
  k_steps
  refine due_cons_L ⟨B, F, X, T, rfl, rfl, rfl, rfl⟩ (by show dp < 870; omega) (by show un < 8700; omega) N hfl' (ls.rng _ (.head _)).1 (ls.rng _ (.head _)).2 hi (by omega) fun x1 h1 tk1 F1 N1 fr1 => ?_
  dsimp only
  k_steps
  rename Fr _ _ _ _ => F2
  rename News _ _ _ _ => N2
  refine (expGetMeth e ⟨B, F2, X, T, rfl, rfl, rfl, rfl⟩ (news_swap (a := [_]) N2)).1 ?_
  k_steps
  refine next_L e ls.ok ⟨B, F2, X, T, rfl, rfl, rfl, rfl⟩ (by show dp < 870; omega) (by show un < 8700; omega) (news_swap (a := [_]) N2) (fun q hq => ?_) fun h3 tk3 e' F3 N3 st fl3 bl3 => ?_
  · rcases List.mem_cons.mp hq with rfl | hq
    · exact Exp.fresh_off' fr1
    · exact ls.off q hq
  have N3' := news_swap (b := [_]) N3
  simp only [List.cons_append, List.nil_append] at N3'
  clear N3 N2 F2
  rw [hv1]
  dsimp only [List.headD]
  k_steps
  rename Fr _ _ _ _ => F4
  rename News _ _ _ _ => N4
  refine seen_L T1 ⟨B, F4, X, T, rfl, rfl, rfl, rfl⟩ (by show dp < 870; omega) (by show un < 8700; omega) N4 (fun q hq => .tail _ (List.mem_append_right _ (hT1 q hq))) fun x2 h5 tk5 F5 N5 fr5 => ?_
  dsimp only
  have hfl2 : (fl, listOf (Value.int T1.k t :: _).toArray n1) ∈ ObjsOf e' ++ tail := List.mem_append_right _ hfl
  k_steps
  rename Fr _ _ _ _ => F9
  rename News _ _ _ _ => N9
  rename (IntsAre _ (List.drop 1 _)) => hI9
  have N10 := news_pick (a := [_, _, _]) (j := [_, _, _]) N9
  have fo := bd.hb
  have bb := bd.buf
  have bm := bd.macs
  have b0 := bd.m0
  have b1 := bd.m1
  have bn := bd.len
  simp only [List.length_cons] at bn
  refine hq e' _ ns _ _ true made _ mt _ _ _ _ ⟨st.ok, ?_, ?_, fun k hk => ls.rng k (.tail _ hk), by omega⟩ ⟨_, _, .head _, hI9⟩ (.one _ _ _ T1 t (.tail _ (.head _)) (.tail _ (.tail _ (.head _))) (fun q hq => List.mem_append_right _ (hT1 q hq)) (ls.rng _ (.head _)).1 (ls.rng _ (.head _)).2) ?_ st.f ⟨?_, ?_, ?_, b0, ?_, ?_⟩ F9 rfl rfl rfl rfl rfl N10
  · intro q hq
    rcases List.mem_append.mp hq with hq | hq
    · simp only [List.mem_cons, List.not_mem_nil, or_false] at hq
      rcases hq with rfl | rfl | rfl <;> exact Exp.fresh_off (l := tail) (by tbn_find)
    · exact fun h => ls.off q hq (st.adr _ h)
  · rw [fl3]; exact hrel.mono fun q hq => List.mem_append_right _ hq
  · intro q hq
    simp only [List.mem_cons, List.not_mem_nil, or_false] at hq
    rcases hq with rfl | rfl | rfl <;> (intro h; simp at h)
  · omega
  · have := st.ml; omega
  · omega
  · omega
  · rw [bl3]; split <;> omega
end
end
section
open PySem PySem.W PySem.Calls PyProof.Rows PySem.Spec
set_option Elab.async false
set_option maxRecDepth 100000
set_option maxHeartbeats 4000000
theorem offTakeN : True ∧ True := by
  w_top off
  walk1 <;> trivial
section
variable {w : World} {p : Program} {loose : List Str} {mean : ExcName → Option Value} {mg mb : Str → Option Value} {A₀ : Around} {outer : List Env} {base h₀ : Heap} {L fa : Addr} {cd : Value} {m : Str → Option Value} {s : Shared} {Q : Flow → Shared → Prop} {E : Value → Shared → Prop}

theorem take_nil (dp un : Nat) (gd : Option (List Code)) (hd : dp < 800) (hu : un < 8000) (B : Below A₀ base outer h₀) (X : (Mine.hd.heap_39 w.params).In h₀) (T : Top p loose mean mg mb h₀)
   (kd : Int) (kt : Nat) (h0 : 0 ≤ kd) (h3 : kd < 3) (i : Nat) (hi16 : i ≤ 16) (e : Exp) (tail : List (Addr × Obj)) (ls : LS e tail []) (made held : Int) (mt ht : Nat) (fl la : Nat) (bd : Bd i e [] made held) (fa_ : FlatAt tail fl [])
   (F : Fr h₀ L s.heap (turnMap kd kt held ht fl e.f la made mt m)) (N : News h₀ L s.heap (ObjsOf e ++ tail)) (hq : TurnDone Q s h₀ L e.f tail i) :
   wpAny (model PySem.Challenge.rw_rk0006_01.prog w) { handled := none, depth := dp, frames := some (lawEnv L fa cd :: outer), guards := gd, units := un } (execs chain (lawEnv L fa cd)) Q E s := by
  revert X; k_fill; intro X
  dsimp only [lawEnv]
  conv in chain => whnf
  conv in (occs := *) lawScope => all_goals whnf
  obtain ⟨vs, n1, hfl, hi⟩ := fa_.at_
  have hv1 := ls.nil
  cases hi
  have hfl' : (fl, listOf ([] : List Value).toArray n1) ∈ ObjsOf e ++ tail := List.mem_append_right _ hfl
  k_steps
  refine due_nil_L ⟨B, F, X, T, rfl, rfl, rfl, rfl⟩ (by show dp < 870; omega) (by show un < 8700; omega) N hfl' fun h1 tk1 F1 N1 => ?_
  dsimp only
  k_steps
  rename Fr _ _ _ _ => F2
  rename News _ _ _ _ => N2
  refine (expGetMeth e ⟨B, F2, X, T, rfl, rfl, rfl, rfl⟩ N2).1 ?_
  k_steps
  refine next_L e ls.ok ⟨B, F2, X, T, rfl, rfl, rfl, rfl⟩ (by show dp < 870; omega) (by show un < 8700; omega) N2 ls.off fun h3 tk3 e' F3 N3 st fl3 bl3 => ?_
  rw [hv1]
  dsimp only [List.headD]
  k_steps
  rename Fr _ _ _ _ => F4
  rename News _ _ _ _ => N4
  refine seen_none_L ⟨B, F4, X, T, rfl, rfl, rfl, rfl⟩ (by show dp < 870; omega) (by show un < 8700; omega) N4 fun h5 tk5 F5 N5 => ?_
  dsimp only
  have hfl2 : (fl, listOf ([] : List Value).toArray n1) ∈ ObjsOf e' ++ tail := List.mem_append_right _ hfl
  have hi0 : IntsAre [] [] := .nil
  k_steps
  rename Fr _ _ _ _ => F9
  rename News _ _ _ _ => N9
  have N10 := news_pick (a := [_, _]) (j := [_]) N9
  have fo := bd.hb
  have bb := bd.buf
  have bm := bd.macs
  have b0 := bd.m0
  have b1 := bd.m1
  refine hq e' _ [] _ _ false made _ mt _ _ _ _ ⟨st.ok, ?_, ?_, fun k hk => (by cases hk), by simp⟩ ⟨[], _, .head _, hi0⟩ (.nil _ (.tail _ (.head _))) ?_ st.f ⟨?_, ?_, by simp, b0, ?_, ?_⟩ F9 rfl rfl rfl rfl rfl N10
  · intro q hq
    rcases List.mem_append.mp hq with hq | hq
    · simp only [List.mem_cons, List.not_mem_nil, or_false] at hq
      rcases hq with rfl | rfl <;> exact Exp.fresh_off (l := tail) (by tbn_find)
    · exact fun h => ls.off q hq (st.adr _ h)
  · rw [fl3, hv1]; exact .nil
  · intro q hq
    simp only [List.mem_cons, List.not_mem_nil, or_false] at hq
    rcases hq with rfl | rfl <;> (intro h; simp at h)
  · omega
  · have := st.ml; omega
  · omega
  · rw [bl3]; split <;> omega
end
end
section
open PySem PySem.W PySem.Calls PyProof.Rows PySem.Spec
local macro_rules | `(tactic| walk_at "eval Name") => `(tactic| (k_here; k_dflt (refine' nameX_L ?F ?v ?_ ?a ?b; (case F => k_asm); (case a => rfl); (case b => rfl); (case v => assumption); k_whole)))
local macro_rules | `(tactic| walk_at "exec For Name Call cons nil") => `(tactic| (k_here; k_dflt (refine wpAny_For ?_)))
local macro_rules | `(tactic| walk_at "call type:range") => `(tactic| (k_here; (with_reducible show wpAny _ _ (call (Value.type "range") [Value.int _ _]) _ _ _); k_dflt (refine' range_L ?F ?N ?_; (case F => k_asm); (case N => k_asm)); intro D' h' tk' t' u' v' F' N' l1; (try k_lt l1)))
local macro_rules | `(tactic| walk_at "pyIter ref") => `(tactic| (k_here; (with_reducible show wpAny _ _ (pyIter (Value.ref _)) _ _ _); k_dflt (refine' iterRange_L ?F ?N ?m ?s ?_; (case F => k_asm); (case N => k_asm); (case m => k_mem); (case s => (first | rfl | decide | (simp only [Builtin.Range.small]; simp; omega)))); intro D' h' F' N' l1; (try k_lt l1)))
section
open PySem PySem.W PySem.Calls PyProof.Rows PySem.Spec
set_option Elab.async false
set_option maxRecDepth 100000
set_option maxHeartbeats 4000000
theorem offLook3 : True ∧ True := by
  w_top off
  walk1 <;> trivial
section
variable {w : World} {p : Program} {loose : List Str} {mean : ExcName → Option Value} {mg mb : Str → Option Value} {A₀ : Around} {outer : List Env} {base h₀ : Heap} {L fa : Addr} {cd : Value} {m : Str → Option Value} {s : Shared} {Q : Flow → Shared → Prop} {E : Value → Shared → Prop}

theorem range_L {prog : Program} {A : Around} {news : List (Addr × Obj)} {n : Int} {t : Tok} {Q : Value → Shared → Prop} (F : Fr h₀ L s.heap m) (N : News h₀ L s.heap news)
    (h : ∀ D h' tk t u v, Fr h₀ L h' m → News h₀ L h' ((D, ({ cls := .type "range", data := .fields #[.int 0 t, .int n u, .int 1 v] } : Obj)) :: news) → (∀ p ∈ news, p.1 < D) → Q (.ref D) { s with heap := h', toks := tk }) :
    wpAny (model prog w) A (call (.type "range") [.int n t]) Q E s :=
  call_range_1 (h _ _ _ _ _ _ (F.push _) (News.push F N _) fun p hp => Heap.lt_size (N p hp).1)
theorem iterRange_L {prog : Program} {A : Around} {news : List (Addr × Obj)} {r : Addr} {a b : Int} {t u v : Tok} {Q : Value → Shared → Prop} (F : Fr h₀ L s.heap m) (N : News h₀ L s.heap news) (hm : (r, ({ cls := .type "range", data := .fields #[.int a t, .int b u, .int 1 v] } : Obj)) ∈ news)
    (hs : Builtin.Range.small a b 1 = true)
    (h : ∀ D h', Fr h₀ L h' m → News h₀ L h' ((D, ({ cls := .type "range_iterator", data := .fields #[rawInt a, rawInt (((b - a).toNat : Nat) : Int), rawInt 1] } : Obj)) :: news) → (∀ p ∈ news, p.1 < D) → Q (.ref D) { s with heap := h' }) :
    wpAny (model prog w) A (pyIter (.ref r)) Q E s := by
  refine wpAny_pyIter_range (N _ hm).1 hs ?_
  rw [rangeSize_nat]
  exact h _ _ (F.push _) (News.push F N _) fun p hp => Heap.lt_size (N p hp).1
def lookBody : List Stmt := match chain with
  | [PySem.Stmt.If _ _ [PySem.Stmt.If _ (PySem.Stmt.For _ _ b _ _ :: _) _ _] _] => b
  | _ => []
theorem look_cons (dp un : Nat) (gd : Option (List Code)) (hd : dp < 800) (hu : un < 8000) (B : Below A₀ base outer h₀) (X : (Mine.hd.heap_39 w.params).In h₀) (T : Top p loose mean mg mb h₀)
   (e : Exp) (tail : List (Addr × Obj)) (k : Int) (ns : List Int) (ls : LS e tail (k :: ns)) (fl : Nat) (fa_ : FlatAt tail fl (k :: ns)) (itr : Nat) (io : Obj) (hit : ∀ b ∈ ObjsOf e ++ tail, itr ≠ b.1)
   (F : Fr h₀ L s.heap m) (hm1 : m (Str.ofString "flat") = some (.ref fl)) (hm2 : m (Str.ofString "f") = some (.ref e.f)) (N : News h₀ L s.heap ((itr, io) :: (ObjsOf e ++ tail)))
   (hq : ∀ e' h' tk', Exp.Step e e' → e'.flat = e.flat → e'.buf.length ≤ max e.buf.length 1 → Fr h₀ L h' m → News h₀ L h' ((itr, io) :: (ObjsOf e' ++ tail)) → Q .next { s with heap := h', toks := tk' }) :
   wpAny (model PySem.Challenge.rw_rk0006_01.prog w) { handled := none, depth := dp, frames := some (lawEnv L fa cd :: outer), guards := gd, units := un } (execs lookBody (lawEnv L fa cd)) Q E s := by
  revert X; k_fill; intro X
  dsimp only [lawEnv]
  conv in lookBody => whnf
  conv in (occs := *) lawScope => all_goals whnf
  obtain ⟨vs, n1, hfl, hi⟩ := fa_.at_
  obtain ⟨T1, hv1, hk1, hT1, hrel⟩ := ls.head
  cases hi with
  | cons _ t hi =>
  subst hk1
  have hlen := hi.length
  have hln := ls.len
  simp only [List.length_cons] at hln
  k_steps
  refine peek_L e ls.ok ⟨B, F, X, T, rfl, rfl, rfl, rfl⟩ (by show dp < 870; omega) (by show un < 8700; omega) (news_swap (a := [_]) N) (fun q hq => ?_) fun h1 tk1 e' F1 N1 st fl1 bl1 => ?_
  · rcases List.mem_cons.mp hq with rfl | hq
    · exact Exp.fresh_off' hit
    · exact ls.off q hq
  have N1' := news_swap (b := [_]) N1
  simp only [List.cons_append, List.nil_append] at N1'
  rw [hv1]
  dsimp only [List.headD]
  k_steps
  rename Fr _ _ _ _ => F2
  rename News _ _ _ _ => N2
  refine seen_L T1 ⟨B, F2, X, T, rfl, rfl, rfl, rfl⟩ (by show dp < 870; omega) (by show un < 8700; omega) N2 (fun q hq => .tail _ (List.mem_append_right _ (hT1 q hq))) fun x1 h3 tk3 F3 N3 fr3 => ?_
  dsimp only
  have hfl2 : (fl, listOf (Value.int T1.k t :: _).toArray n1) ∈ ObjsOf e' ++ tail := List.mem_append_right _ hfl
  k_steps
  rename Fr _ _ _ _ => F4
  rename News _ _ _ _ => N4
  refine due_cons_L ⟨B, F4, X, T, rfl, rfl, rfl, rfl⟩ (by show dp < 870; omega) (by show un < 8700; omega) N4 (.tail _ (.tail _ hfl2)) (ls.rng _ (.head _)).1 (ls.rng _ (.head _)).2 hi (by omega) fun x2 h5 tk5 F5 N5 fr5 => ?_
  dsimp only
  k_steps
  rename Fr _ _ _ _ => F6
  rename News _ _ _ _ => N6
  exact hq e' _ _ st fl1 bl1 F6 (news_sub N6 fun q hq => .tail _ (.tail _ hq))

theorem look_nil (dp un : Nat) (gd : Option (List Code)) (hd : dp < 800) (hu : un < 8000) (B : Below A₀ base outer h₀) (X : (Mine.hd.heap_39 w.params).In h₀) (T : Top p loose mean mg mb h₀)
   (e : Exp) (tail : List (Addr × Obj)) (ls : LS e tail []) (fl : Nat) (fa_ : FlatAt tail fl []) (itr : Nat) (io : Obj) (hit : ∀ b ∈ ObjsOf e ++ tail, itr ≠ b.1)
   (F : Fr h₀ L s.heap m) (hm1 : m (Str.ofString "flat") = some (.ref fl)) (hm2 : m (Str.ofString "f") = some (.ref e.f)) (N : News h₀ L s.heap ((itr, io) :: (ObjsOf e ++ tail)))
   (hq : ∀ e' h' tk', Exp.Step e e' → e'.flat = e.flat → e'.buf.length ≤ max e.buf.length 1 → Fr h₀ L h' m → News h₀ L h' ((itr, io) :: (ObjsOf e' ++ tail)) → Q .next { s with heap := h', toks := tk' }) :
   wpAny (model PySem.Challenge.rw_rk0006_01.prog w) { handled := none, depth := dp, frames := some (lawEnv L fa cd :: outer), guards := gd, units := un } (execs lookBody (lawEnv L fa cd)) Q E s := by
  revert X; k_fill; intro X
  dsimp only [lawEnv]
  conv in lookBody => whnf
  conv in (occs := *) lawScope => all_goals whnf
  obtain ⟨vs, n1, hfl, hi⟩ := fa_.at_
  have hv1 := ls.nil
  cases hi
  k_steps
  refine peek_L e ls.ok ⟨B, F, X, T, rfl, rfl, rfl, rfl⟩ (by show dp < 870; omega) (by show un < 8700; omega) (news_swap (a := [_]) N) (fun q hq => ?_) fun h1 tk1 e' F1 N1 st fl1 bl1 => ?_
  · rcases List.mem_cons.mp hq with rfl | hq
    · exact Exp.fresh_off' hit
    · exact ls.off q hq
  have N1' := news_swap (b := [_]) N1
  simp only [List.cons_append, List.nil_append] at N1'
  rw [hv1]
  dsimp only [List.headD]
  k_steps
  rename Fr _ _ _ _ => F2
  rename News _ _ _ _ => N2
  refine seen_none_L ⟨B, F2, X, T, rfl, rfl, rfl, rfl⟩ (by show dp < 870; omega) (by show un < 8700; omega) N2 fun h3 tk3 F3 N3 => ?_
  dsimp only
  have hfl2 : (fl, listOf ([] : List Value).toArray n1) ∈ ObjsOf e' ++ tail := List.mem_append_right _ hfl
  k_steps
  rename Fr _ _ _ _ => F4
  rename News _ _ _ _ => N4
  refine due_nil_L ⟨B, F4, X, T, rfl, rfl, rfl, rfl⟩ (by show dp < 870; omega) (by show un < 8700; omega) N4 (.tail _ hfl2) fun h5 tk5 F5 N5 => ?_
  dsimp only
  k_steps
  rename Fr _ _ _ _ => F6
  rename News _ _ _ _ => N6
  exact hq e' _ _ st fl1 bl1 F6 N6
end
end
end
theorem emptyLookA : True ∧ True := by
  walk1 <;> trivial
section
open PySem PySem.W PySem.Calls PyProof.Rows PySem.Spec
local macro_rules | `(tactic| walk_at "eval Name") => `(tactic| (k_here; k_dflt (refine' nameX_L ?F ?v ?_ ?a ?b; (case F => k_asm); (case a => rfl); (case b => rfl); (case v => assumption); k_whole)))
local macro_rules | `(tactic| walk_at "exec For Name Call cons nil") => `(tactic| (k_here; k_dflt (refine wpAny_For ?_)))
local macro_rules | `(tactic| walk_at "call type:range") => `(tactic| (k_here; (with_reducible show wpAny _ _ (call (Value.type "range") [Value.int _ _]) _ _ _); k_dflt (refine' range_L ?F ?N ?_; (case F => k_asm); (case N => k_asm)); intro D' h' tk' t' u' v' F' N' l1; (try k_lt l1)))
local macro_rules | `(tactic| walk_at "pyIter ref") => `(tactic| (k_here; (with_reducible show wpAny _ _ (pyIter (Value.ref _)) _ _ _); k_dflt (refine' iterRange_L ?F ?N ?m ?s ?_; (case F => k_asm); (case N => k_asm); (case m => k_mem); (case s => (first | rfl | decide | (simp only [Builtin.Range.small]; simp; omega)))); intro D' h' F' N' l1; (try k_lt l1)))
section
open PySem PySem.W PySem.Calls PyProof.Rows PySem.Spec
set_option Elab.async false
set_option maxRecDepth 100000
set_option maxHeartbeats 4000000
theorem offLookA : True ∧ True := by
  w_top off
  walk1 <;> trivial
section
variable {w : World} {p : Program} {loose : List Str} {mean : ExcName → Option Value} {mg mb : Str → Option Value} {A₀ : Around} {outer : List Env} {base h₀ : Heap} {L fa : Addr} {cd : Value} {m : Str → Option Value} {s : Shared} {Q : Flow → Shared → Prop} {E : Value → Shared → Prop}

theorem FlatAt.mono {t t' : List (Addr × Obj)} {fl : Nat} {ns : List Int} (h : FlatAt t fl ns) (s : ∀ q ∈ t, q ∈ t') : FlatAt t' fl ns := ⟨let ⟨vs, n, a, b⟩ := h.at_; ⟨vs, n, s _ a, b⟩⟩
theorem look_all {R : Result → Shared → Prop} {px : Pos} (dp un : Nat) (gd : Option (List Code)) (hd : dp < 800) (hu : un < 8000) (B : Below A₀ base outer h₀) (X : (Mine.hd.heap_39 w.params).In h₀) (T : Top p loose mean mg mb h₀)
   (tail : List (Addr × Obj)) (ns : List Int) (fl : Nat) (fa_ : FlatAt tail fl ns) (itr : Nat) (nt : ∀ b ∈ tail, itr ≠ b.1) :
   ∀ (n : Nat) (x : Int) (e : Exp) (s : Shared) (m : Str → Option Value), LS e tail ns → (∀ b ∈ ObjsOf e, itr ≠ b.1) → Fr h₀ L s.heap m → m (Str.ofString "flat") = some (.ref fl) → m (Str.ofString "f") = some (.ref e.f) →
   News h₀ L s.heap ((itr, ({ cls := .type "range_iterator", data := .fields #[rawInt x, rawInt (n : Int), rawInt 1] } : Obj)) :: (ObjsOf e ++ tail)) →
   (∀ e' h' tk' m', Exp.Step e e' → e'.flat = e.flat → e'.buf.length ≤ max e.buf.length 1 → Fr h₀ L h' m' → (∀ y, y ≠ Str.ofString "turn" → m' y = m y) → News h₀ L h' (ObjsOf e' ++ tail) → R (.ok .next) { s with heap := h', toks := tk' }) →
   codeAny (model PySem.Challenge.rw_rk0006_01.prog w) { handled := none, depth := dp, frames := some (lawEnv L fa cd :: outer), guards := gd, units := un } (.forLoop (.Name (Str.ofString "turn") px) (.ref itr) lookBody [] (lawEnv L fa cd)) R s := by
  intro n
  induction n with
  | zero =>
    intro x e s m ls ne F hm1 hm2 N hq
    have z := N _ (.head _)
    refine forTurnW ?_
    refine wpAny_pyNext_range_end rfl z.1 (by simp) fun h' he => ?_
    dsimp only
    refine wpAny_execs_nil ?_
    refine hq e h' _ m ⟨rfl, ls.ok, fun _ h => h, Nat.le_refl _⟩ rfl (Nat.le_max_left _ _) (Fr.ext F he z.2.1 z.2.2) (fun _ _ => rfl) fun q hq => ?_
    have zq := N q (.tail _ hq)
    refine ⟨he _ _ ?_ zq.1, zq.2⟩
    rcases List.mem_append.mp hq with h | h
    · exact (ne q h).symm
    · exact (nt q h).symm
  | succ n ih =>
    intro x e s m ls ne F hm1 hm2 N hq
    have z := N _ (.head _)
    have ne' : ∀ b ∈ ObjsOf e ++ tail, itr ≠ b.1 := fun b hb => (List.mem_append.mp hb).elim (ne b) (nt b)
    refine forTurnW ?_
    refine wpAny_pyNext_range_item z.1 (by omega) fun h' hit hs => ?_
    dsimp only
    have F1 := F.change hs z.2.1 z.2.2
    have N1 := News.turn N (Upd.head (o' := ({ cls := .type "range_iterator", data := .fields #[rawInt (x + 1), rawInt (n : Int), rawInt 1] } : Obj)) fun q hq => (ne' q hq).symm) hs.extBut (by rw [hit]; simp [rawInt])
    refine wpAny_assign_Name ?_
    refine wpAny_storeName_local (by with_unfolding_all rfl) F1.ns (fun h2 hn2 hs2 => ?_) (by with_unfolding_all rfl)
    have F2 := F1.set hn2 hs2
    have N2 := N1.set hs2
    have go : ∀ e' h' tk', Exp.Step e e' → e'.flat = e.flat → e'.buf.length ≤ max e.buf.length 1 → Fr h₀ L h' (fun y => if y = Str.ofString "turn" then some (.int x s.toks) else m y) →
        News h₀ L h' ((itr, ({ cls := .type "range_iterator", data := .fields #[rawInt (x + 1), rawInt (n : Int), rawInt 1] } : Obj)) :: (ObjsOf e' ++ tail)) →
        codeAny (model PySem.Challenge.rw_rk0006_01.prog w) { handled := none, depth := dp, frames := some (lawEnv L fa cd :: outer), guards := gd, units := un } (.forLoop (.Name (Str.ofString "turn") px) (.ref itr) lookBody [] (lawEnv L fa cd)) R { s with heap := h', toks := tk' } := by
      intro e' h' tk' st fl' bl' F' N'
      have ls' : LS e' tail ns := ⟨st.ok, fun q hq h => ls.off q hq (st.adr _ h), by rw [fl']; exact ls.rel, ls.rng, ls.len⟩
      refine ih (x + 1) e' _ _ ls' (fun b hb => ?_) F' hm1 (by rw [st.f]; exact hm2) N' fun e2 h2 tk2 m2 st2 fl2 bl2 F2 hm N2 => ?_
      · intro hbe
        rw [ObjsOf_eq] at hb
        have hb' := st.adr _ (Exp.mem_adr hb)
        rw [← Exp.objs_adr] at hb'
        obtain ⟨q, hq, e3⟩ := List.mem_map.mp hb'
        exact ne q (by rw [ObjsOf_eq]; exact hq) (hbe.trans e3.symm)
      · refine hq e2 h2 tk2 m2 ⟨st2.f.trans st.f, st2.ok, fun a h => st.adr a (st2.adr a h), Nat.le_trans st2.ml st.ml⟩ (fl2.trans fl') ?_ F2 (fun y hy => ?_) N2
        · omega
        · rw [hm y hy]; simp [hy]
    cases ns with
    | nil => exact look_nil dp un gd hd hu B X T e tail ls fl fa_ itr _ ne' F2 hm1 hm2 N2 go
    | cons k ns => exact look_cons dp un gd hd hu B X T e tail k ns ls fl fa_ itr _ ne' F2 hm1 hm2 N2 go
end
end
section
open PySem PySem.W PySem.Calls PyProof.Rows PySem.Spec
set_option Elab.async false
set_option maxRecDepth 100000
set_option maxHeartbeats 4000000
theorem offLookD : True ∧ True := by
  w_top off
  walk1 <;> trivial
section
variable {w : World} {p : Program} {loose : List Str} {mean : ExcName → Option Value} {mg mb : Str → Option Value} {A₀ : Around} {outer : List Env} {base h₀ : Heap} {L fa : Addr} {cd : Value} {m : Str → Option Value} {s : Shared} {Q : Flow → Shared → Prop} {E : Value → Shared → Prop}

theorem look (dp un : Nat) (gd : Option (List Code)) (hd : dp < 800) (hu : un < 8000) (B : Below A₀ base outer h₀) (X : (Mine.hd.heap_39 w.params).In h₀) (T : Top p loose mean mg mb h₀)
   (kd : Int) (kt : Nat) (h0 : 3 ≤ kd) (h5 : kd < 5) (i : Nat) (hi16 : i ≤ 16) (e : Exp) (tail : List (Addr × Obj)) (ns : List Int) (ls : LS e tail ns) (made held : Int) (mt ht : Nat) (fl la : Nat) (bd : Bd i e ns made held) (fa_ : FlatAt tail fl ns)
   (F : Fr h₀ L s.heap (turnMap kd kt held ht fl e.f la made mt m)) (N : News h₀ L s.heap (ObjsOf e ++ tail)) (hq : TurnDone Q s h₀ L e.f tail i) :
   wpAny (model PySem.Challenge.rw_rk0006_01.prog w) { handled := none, depth := dp, frames := some (lawEnv L fa cd :: outer), guards := gd, units := un } (execs chain (lawEnv L fa cd)) Q E s := by
  revert X; k_fill; intro X
  dsimp only [lawEnv]
  conv in chain => whnf
  conv in (occs := *) lawScope => all_goals whnf
  k_steps
  rename Fr _ _ _ _ => F2
  rename News _ _ _ _ => N2
  have hsm : Builtin.Range.small 0 (kd - 2) 1 = true := by
    have : kd = 3 ∨ kd = 4 := by omega
    rcases this with rfl | rfl <;> decide
  refine iterRange_L F2 N2 (.head _) hsm fun D2 h2 F3 N3 l2 => ?_
  refine look_all dp un gd hd hu B X T tail ns fl fa_ D2 (fun b hb => ?_) (kd - 2 - 0).toNat 0 e _ _ ls (fun b hb => ?_) F3 rfl rfl (news_sub N3 (l' := (D2, _) :: (ObjsOf e ++ tail)) fun q hq => ?_) fun e' h' tk' m' st fl' bl' F' hm N' => ?_
  · exact (Nat.ne_of_lt (l2 b (.tail _ (List.mem_append_right _ hb)))).symm
  · exact (Nat.ne_of_lt (l2 b (.tail _ (List.mem_append_left _ hb)))).symm
  · rcases List.mem_cons.mp hq with rfl | hq
    · exact .head _
    · exact .tail _ (.tail _ hq)
  dsimp only
  have m1 : m' (Str.ofString "held") = some (.int held ht) := hm _ (by decide)
  have m2 : m' (Str.ofString "flat") = some (.ref fl) := hm _ (by decide)
  have m3 : m' (Str.ofString "f") = some (.ref e.f) := hm _ (by decide)
  have m4 : m' (Str.ofString "made") = some (.int made mt) := hm _ (by decide)
  clear N3 F3 N2 F2 N F
  k_steps
  rename Fr _ _ _ _ => F9
  rename News _ _ _ _ => N9
  have N10 := news_pick (a := [_]) (j := []) N9
  have fo := bd.hb
  have bb := bd.buf
  have bm := bd.macs
  have b0 := bd.m0
  have b1 := bd.m1
  have bn := bd.len
  refine hq e' _ ns _ _ false made _ mt _ _ _ _ ⟨st.ok, ?_, ?_, ls.rng, ls.len⟩ (fa_.mono fun q hq => List.mem_append_right _ hq) (.nil _ (.head _)) ?_ st.f ⟨?_, ?_, ?_, b0, ?_, ?_⟩ F9 m4 m2 m3 rfl rfl N10
  · intro q hq
    rcases List.mem_append.mp hq with hq | hq
    · rw [List.mem_singleton.mp hq]; exact Exp.fresh_off (l := tail) (by first | tbn_find | exact allLt_of (by assumption))
    · exact fun h => ls.off q hq (st.adr _ h)
  · rw [fl']; exact ls.rel.mono fun q hq => List.mem_append_right _ hq
  · intro q hq
    rw [List.mem_singleton.mp hq]; intro h; simp at h
  · omega
  · have := st.ml; omega
  · omega
  · omega
  · split <;> omega
end
end
section
open PySem PySem.W PySem.Calls PyProof.Rows PySem.Spec
set_option Elab.async false
set_option maxRecDepth 100000
set_option maxHeartbeats 4000000
theorem offCatR : True ∧ True := by
  w_top off
  walk1 <;> trivial
theorem add_L {prog : Program} {A : Around} {news : List (Addr × Obj)} {h₀ : Heap} {L a b n n2 : Nat} {m : Str → Option Value} {vs ws : List Value} {ns ms : List Int} {s : Shared} {Q : Value → Shared → Prop} {E : Value → Shared → Prop} {w : World} (F : Fr h₀ L s.heap m) (N : News h₀ L s.heap news) (ha : (a, listOf vs.toArray n) ∈ news) (hb : (b, listOf ws.toArray n2) ∈ news) (hi : IntsAre vs ns) (hj : IntsAre ws ms)
    (hz : ns.length + ms.length ≤ sizeLine)
    (h : ∀ D us h', Fr h₀ L h' m → News h₀ L h' ((D, listOf (List.toArray us) 0) :: news) → (∀ p ∈ news, p.1 < D) → IntsAre us (ns ++ ms) → Q (.ref D) { s with heap := h' }) : wpAny (model prog w) A (binaryOp .Add (.ref a) (.ref b)) Q E s :=
  add_lists_ints (hsz := hz) F N (isList_of N ha) (isList_of N hb) hi hj fun h' F' N' hk => h _ _ h' F' N' (fun p hp => Heap.lt_size (N p hp).1) hk
end
section
open PySem PySem.W PySem.Calls PyProof.Rows PySem.Spec
local macro_rules | `(tactic| walk_at "subscriptTail Subscript Name Constant Constant ref int") => `(tactic| (k_here; k_dflt (first
  | ((with_reducible show wpAny _ _ (subscriptTail _ _ (Value.ref _) (Value.int 0 _)) _ _ _); refine' pair0_L ?N ?m ?_; (case N => k_asm); (case m => k_mem); k_whole)
  | ((with_reducible show wpAny _ _ (subscriptTail _ _ (Value.ref _) (Value.int 1 _)) _ _ _); refine' pair1_L ?N ?m ?_; (case N => k_asm); (case m => k_mem); k_whole))))
local macro_rules | `(tactic| walk_at "binaryOp Add ref ref") => `(tactic| (k_here; (with_reducible show wpAny _ _ (binaryOp BinOp.Add (Value.ref _) (Value.ref _)) _ _ _); k_dflt (refine' add_L ?F ?N ?a ?b ?i ?j ?z ?_; (case F => k_asm); (case N => k_asm); (case a => first | exact .head _ | k_mem); (case b => k_mem); (case i => first | exact .cons .nil | assumption | exact .cons _ .nil); (case j => assumption); (case z => (simp only [List.length_cons, List.length_nil]; kl_room))); intro D' us' h' F' N' l1 hI'; (try k_lt l1)))
section
open PySem PySem.W PySem.Calls PyProof.Rows PySem.Spec
set_option Elab.async false
set_option maxRecDepth 100000
set_option maxHeartbeats 4000000
theorem offFive : True ∧ True := by
  w_top off
  walk1 <;> trivial
section
variable {w : World} {p : Program} {loose : List Str} {mean : ExcName → Option Value} {mg mb : Str → Option Value} {A₀ : Around} {outer : List Env} {base h₀ : Heap} {L fa : Addr} {cd : Value} {m : Str → Option Value} {s : Shared} {Q : Flow → Shared → Prop} {E : Value → Shared → Prop}

theorem five (dp un : Nat) (gd : Option (List Code)) (hd : dp < 800) (hu : un < 8000) (B : Below A₀ base outer h₀) (X : (Mine.hd.heap_39 w.params).In h₀) (T : Top p loose mean mg mb h₀)
   (kt : Nat) (i : Nat) (hi16 : i ≤ 16) (e : Exp) (tail : List (Addr × Obj)) (ns : List Int) (ls : LS e tail ns) (made held : Int) (mt ht : Nat) (fl la : Nat) (bd : Bd i e ns made held) (fa_ : FlatAt tail fl ns) (lat : LastAt tail la true)
   (F : Fr h₀ L s.heap (turnMap 5 kt held ht fl e.f la made mt m)) (N : News h₀ L s.heap (ObjsOf e ++ tail)) (hq : TurnDone Q s h₀ L e.f tail i) :
   wpAny (model PySem.Challenge.rw_rk0006_01.prog w) { handled := none, depth := dp, frames := some (lawEnv L fa cd :: outer), guards := gd, units := un } (execs chain (lawEnv L fa cd)) Q E s := by
  revert X; k_fill; intro X
  dsimp only [lawEnv]
  conv in chain => whnf
  conv in (occs := *) lawScope => all_goals whnf
  obtain ⟨vs, n1, hfl, hi⟩ := fa_.at_
  obtain ⟨n2, n3, tup, T1, t, hla, htup, hT1, hk0, hk1⟩ : ∃ n2 n3 tup, ∃ (T1 : Tokn) (t : Nat), (la, listOf [Value.ref tup].toArray n2) ∈ tail ∧ (tup, ({ cls := .type "tuple", data := .seq #[.ref T1.a, .int T1.k t] n3 } : Obj)) ∈ tail ∧ (∀ q ∈ T1.objs, q ∈ tail) ∧ 0 ≤ T1.k ∧ T1.k < 1000 := by
    cases lat with
    | one n n2 tup T t a b c d e => exact ⟨n, n2, tup, T, t, a, b, c, d, e⟩
  have hla' : (la, listOf [Value.ref tup].toArray n2) ∈ ObjsOf e ++ tail := List.mem_append_right _ hla
  have htup' : (tup, ({ cls := .type "tuple", data := .seq #[.ref T1.a, .int T1.k t] n3 } : Obj)) ∈ ObjsOf e ++ tail := List.mem_append_right _ htup
  k_steps
  refine expGetUnget e ⟨B, F, X, T, rfl, rfl, rfl, rfl⟩ N ?_
  k_steps
  rename Fr _ _ _ _ => F2
  rename News _ _ _ _ => N2
  have bb := bd.buf
  refine unget_L e ls.ok T1.a (by omega) ⟨B, F2, X, T, rfl, rfl, rfl, rfl⟩ (by show dp < 870; omega) (by show un < 8700; omega) N2 ls.off fun h3 tk3 F3 N3 st => ?_
  dsimp only
  generalize he' : ({ e with buf := .ref T1.a :: e.buf, n := e.n + 1 } : Exp) = e' at N3 st
  have hfl2 : (fl, listOf vs.toArray n1) ∈ ObjsOf e' ++ tail := List.mem_append_right _ hfl
  have hla2 : (la, listOf [Value.ref tup].toArray n2) ∈ ObjsOf e' ++ tail := List.mem_append_right _ hla
  have htup2 : (tup, ({ cls := .type "tuple", data := .seq #[.ref T1.a, .int T1.k t] n3 } : Obj)) ∈ ObjsOf e' ++ tail := List.mem_append_right _ htup
  have hln := ls.len
  have hz9 := sizeLine_eq
  k_steps
  rename Fr _ _ _ _ => F9
  rename News _ _ _ _ => N9
  have N10 := news_pick (a := [_, _]) (j := [_]) N9
  have fo := bd.hb
  have bm := bd.macs
  have b0 := bd.m0
  have b1 := bd.m1
  have bn := bd.len
  have e1 : e'.flat = .ref T1.a :: e.flat := by rw [← he']; rfl
  have e2 : e'.buf.length = e.buf.length + 1 := by rw [← he']; rfl
  have rr : Rel tail e'.flat (T1.k :: ns) := by rw [e1]; exact .cons ⟨T1, rfl, rfl, hT1⟩ ls.rel
  refine hq e' _ (T1.k :: ns) _ _ false made _ mt _ _ _ _ ⟨st.ok, ?_, rr.mono fun q hq => List.mem_append_right _ hq, ?_, by simp only [List.length_cons]; omega⟩ ⟨_, _, .tail _ (.head _), by assumption⟩ (.nil _ (.head _)) ?_ st.f ⟨?_, ?_, ?_, b0, ?_, ?_⟩ F9 rfl rfl rfl rfl rfl N10
  · intro q hq
    rcases List.mem_append.mp hq with hq | hq
    · simp only [List.mem_cons, List.not_mem_nil, or_false] at hq
      rcases hq with rfl | rfl <;> exact Exp.fresh_off (l := tail) (by first | tbn_find | exact allLt_of (by assumption))
    · exact fun h => ls.off q hq (st.adr _ h)
  · intro k hk
    rcases List.mem_cons.mp hk with rfl | hk
    · exact ⟨hk0, hk1⟩
    · exact ls.rng k hk
  · intro q hq
    simp only [List.mem_cons, List.not_mem_nil, or_false] at hq
    rcases hq with rfl | rfl <;> (intro h; simp at h)
  · omega
  · have := st.ml; omega
  · simp only [List.length_cons]; omega
  · omega
  · omega
end
end
section
open PySem PySem.W PySem.Calls PyProof.Rows PySem.Spec
set_option Elab.async false
set_option maxRecDepth 100000
set_option maxHeartbeats 4000000
theorem offSixT : True ∧ True := by
  w_top off
  walk1 <;> trivial
section
variable {w : World} {p : Program} {loose : List Str} {mean : ExcName → Option Value} {mg mb : Str → Option Value} {A₀ : Around} {outer : List Env} {base h₀ : Heap} {L fa : Addr} {cd : Value} {m : Str → Option Value} {s : Shared} {Q : Flow → Shared → Prop} {E : Value → Shared → Prop}

theorem Tokn.notIter (T : Tokn) : Mine.notIter T.objs := by
  intro q hq
  simp only [Tokn.objs, List.mem_cons, List.not_mem_nil, or_false] at hq
  rcases hq with rfl | rfl | rfl | rfl <;> (intro h; simp at h)
theorem six (dp un : Nat) (gd : Option (List Code)) (hd : dp < 800) (hu : un < 8000) (B : Below A₀ base outer h₀) (X : (Mine.hd.heap_39 w.params).In h₀) (T : Top p loose mean mg mb h₀)
   (kt : Nat) (i : Nat) (hi16 : i ≤ 16) (e : Exp) (tail : List (Addr × Obj)) (ns : List Int) (ls : LS e tail ns) (made held : Int) (mt ht : Nat) (fl la : Nat) (bd : Bd i e ns made held) (fa_ : FlatAt tail fl ns)
   (F : Fr h₀ L s.heap (turnMap 6 kt held ht fl e.f la made mt m)) (N : News h₀ L s.heap (ObjsOf e ++ tail)) (hq : TurnDone Q s h₀ L e.f tail i) :
   wpAny (model PySem.Challenge.rw_rk0006_01.prog w) { handled := none, depth := dp, frames := some (lawEnv L fa cd :: outer), guards := gd, units := un } (execs chain (lawEnv L fa cd)) Q E s := by
  revert X; k_fill; intro X
  dsimp only [lawEnv]
  conv in chain => whnf
  conv in (occs := *) lawScope => all_goals whnf
  obtain ⟨vs, n1, hfl, hi⟩ := fa_.at_
  have fo := bd.hb
  have bb := bd.buf
  have bm := bd.macs
  have b0 := bd.m0
  have b1 := bd.m1
  have bn := bd.len
  k_steps
  refine expGetUnget e ⟨B, F, X, T, rfl, rfl, rfl, rfl⟩ N ?_
  k_steps
  rename Fr _ _ _ _ => F2
  rename News _ _ _ _ => N2
  refine token_L (k := made) b0 (by omega) ⟨B, F2, X, T, rfl, rfl, rfl, rfl⟩ (by show dp < 870; omega) (by show un < 8700; omega) N2 fun T1 h1 tk1 hk1 F1 N1 fr1 => ?_
  dsimp only
  k_steps
  have off2 : ∀ q ∈ T1.objs ++ tail, q.1 ∉ e.adr := fun q hq => by
    rcases List.mem_append.mp hq with hq | hq
    · exact Exp.fresh_off' (fr1 q hq)
    · exact ls.off q hq
  refine unget_L e ls.ok T1.a (by omega) ⟨B, F1, X, T, rfl, rfl, rfl, rfl⟩ (by show dp < 870; omega) (by show un < 8700; omega) (news_swap N1) off2 fun h3 tk3 F3 N3 st => ?_
  dsimp only
  generalize he' : ({ e with buf := .ref T1.a :: e.buf, n := e.n + 1 } : Exp) = e' at N3 st
  clear N1 N2 F1 F2
  have hfl2 : (fl, listOf vs.toArray n1) ∈ ObjsOf e' ++ (T1.objs ++ tail) := List.mem_append_right _ (List.mem_append_right _ hfl)
  have hln := ls.len
  have hz9 := sizeLine_eq
  k_steps
  rename Fr _ _ _ _ => F9
  rename News _ _ _ _ => N9
  have N10 := news_pick (a := [_, _]) (j := [_]) N9
  have e1 : e'.flat = .ref T1.a :: e.flat := by rw [← he']; rfl
  have e2 : e'.buf.length = e.buf.length + 1 := by rw [← he']; rfl
  have rr : Rel (T1.objs ++ tail) e'.flat (made :: ns) := by rw [e1]; exact .cons ⟨T1, rfl, hk1, fun q hq => List.mem_append_left _ hq⟩ (ls.rel.mono fun q hq => List.mem_append_right _ hq)
  refine hq e' (_ :: _ :: T1.objs) (made :: ns) _ _ false (made + 1) _ _ _ _ _ _ ⟨st.ok, ?_, rr.mono fun q hq => .tail _ (.tail _ hq), ?_, by simp only [List.length_cons]; omega⟩ ⟨_, _, .tail _ (.head _), by assumption⟩ (.nil _ (.head _)) ?_ st.f ⟨?_, ?_, ?_, by omega, ?_, ?_⟩ F9 rfl rfl rfl rfl rfl N10
  · intro q hq
    rcases List.mem_cons.mp hq with rfl | hq
    · exact Exp.fresh_off (l := T1.objs ++ tail) (by first | tbn_find | exact allLt_of (by assumption))
    rcases List.mem_cons.mp hq with rfl | hq
    · exact Exp.fresh_off (l := T1.objs ++ tail) (by first | tbn_find | exact allLt_of (by assumption))
    · exact fun h => off2 q hq (st.adr _ h)
  · intro k hk
    rcases List.mem_cons.mp hk with rfl | hk
    · exact ⟨b0, by omega⟩
    · exact ls.rng k hk
  · intro q hq
    rcases List.mem_cons.mp hq with rfl | hq
    · intro h; simp at h
    rcases List.mem_cons.mp hq with rfl | hq
    · intro h; simp at h
    · exact T1.notIter q hq
  · omega
  · have := st.ml; omega
  · simp only [List.length_cons]; omega
  · omega
  · omega
end
end
section
open PySem PySem.W PySem.Calls PyProof.Rows PySem.Spec
local macro_rules | `(tactic| walk_at "eval ListComp") => `(tactic| (k_here; k_dflt (refine LCg.ListComp_U (F₀ := by k_asm) (by rfl) (by decide) (by rfl) (by decide) (by rfl) ?_)))
local macro_rules | `(tactic| walk_at "call builtin:len") => `(tactic| (k_here; (with_reducible show wpAny _ _ (call (Value.builtin "len") [Value.ref _]) _ _ _); k_dflt (refine' len_L ?N ?m ?z ?_; (case N => k_asm); (case m => k_mem); (case z => kl_room)); intro t'))
section
open PySem PySem.W PySem.Calls PyProof.Rows PySem.Spec
set_option Elab.async false
set_option maxRecDepth 100000
set_option maxHeartbeats 4000000
theorem offTokComp : True ∧ True := by
  w_top off
  walk1 <;> trivial
section
variable {w : World} {p : Program} {loose : List Str} {mean : ExcName → Option Value} {mg mb : Str → Option Value} {A₀ : Around} {outer : List Env} {base h₀ : Heap} {L fa : Addr} {cd : Value} {m : Str → Option Value} {s : Shared} {Q : Flow → Shared → Prop} {E : Value → Shared → Prop}

/-- the scope of the two blocks that make tokens -/
abbrev blockScope : Scope := { kind := .function, names := [(Str.ofString ".0", .local), (Str.ofString "k", .local), (Str.ofString "_law_token", .globalImplicit)], isGenerator := false, isCoroutine := false }
abbrev blockElt (p1 p2 p3 : Pos) : PySem.Expr := .Call (.Name (Str.ofString "_law_token") p1) [.Name (Str.ofString "k") p2] [] p3
def toksObjs (Ts : List Tokn) : List (Addr × Obj) := Ts.flatMap Tokn.objs
theorem tok_turn {Sx : List (Addr × Obj) → Prop} (dp un : Nat) (gd : Option (List Code)) (hd : dp < 800) (hu : un < 8000) (B : Below A₀ base outer h₀) (X : (Mine.hd.heap_39 w.params).In h₀) (T : Top p loose mean mg mb h₀)
   (p1 p2 p3 : Pos) (I C D : Nat) (oI oC : Obj) (ys : List Value) (news : List (Addr × Obj)) (m₂ : Str → Option Value) (k : Int) (t : Nat) (h0 : 0 ≤ k) (h1 : k < 1000) (rest : Value → List (Addr × Obj) → Prop) (E' : Value → Shared → Prop)
   (hC : LCg.NsObj oC m₂) (hx : m₂ (Str.ofString "k") = some (.int k t)) (F : Fr h₀ L s.heap m) (N : News h₀ L s.heap ((I, oI) :: (C, oC) :: (D, LCg.lst ys) :: news)) (off : LCg.Off3 I C D news)
   (hS : ∀ l, Sx news → Sx (l ++ news)) (S0 : Sx news)
   (hr : ∀ T1 : Tokn, T1.k = k → (∀ q ∈ T1.objs, ∀ b ∈ news, q.1 ≠ b.1) → rest (.ref T1.a) (T1.objs ++ news)) :
   wpAny (model PySem.Challenge.rw_rk0006_01.prog w) { handled := none, depth := dp, frames := some (lawEnv L fa cd :: outer), guards := gd, units := un } (eval (blockElt p1 p2 p3) (compEnvC blockScope [] C (lawEnv L fa cd)))
     (LCg.CompEnd h₀ L m s I oI C oC D (LCg.lst ys) Sx rest) E' s := by
  revert X; k_fill; intro X
  dsimp only [lawEnv]
  conv in (occs := *) lawScope => all_goals whnf
  k_steps
  rename Fr _ _ _ _ => F2
  rename News _ _ _ _ => N2
  refine token_L (k := k) h0 h1 ⟨B, F2, X, T, rfl, rfl, rfl, rfl⟩ (by show dp < 870; omega) (by show un < 8700; omega) N2 fun T1 h2 tk2 hk1 F1 N1 fr1 => ?_
  dsimp only
  refine LCg.CompEnd.intro F1 N1 (T1.objs ++ news) (fun q hq => ?_) (LCg.Off3.of fun q hq => ?_) (hS _ S0) (hr T1 hk1 fun q hq b hb => fr1 q hq b (by simp [hb]))
  · simp only [List.mem_append, List.mem_cons] at hq ⊢
    rcases hq with h | h | h | h | h <;> simp [h]
  · rcases List.mem_append.mp hq with hq | hq
    · exact ⟨fr1 q hq (I, oI) (by simp), fr1 q hq (C, oC) (by simp), fr1 q hq (D, LCg.lst ys) (by simp)⟩
    · exact off.mem q hq
theorem ints_at {vs : List Value} {ks : List Int} (h : IntsAre vs ks) : ∀ (i : Nat) (v : Value), vs[i]? = some v → ∃ k t, v = .int k t ∧ k ∈ ks ∧ ks.drop i = k :: ks.drop (i + 1) := by
  induction h with
  | nil => intro i v hv; simp at hv
  | cons n t _ ih =>
    intro i v hv
    cases i with
    | zero => simp at hv; exact ⟨n, t, hv.symm, .head _, rfl⟩
    | succ j =>
      obtain ⟨k, t', a, b, c⟩ := ih j v (by simpa using hv)
      exact ⟨k, t', a, .tail _ b, by simpa using c⟩
theorem notIter_append {a b : List (Addr × Obj)} (x : notIter a) (y : notIter b) : notIter (a ++ b) := fun q hq => (List.mem_append.mp hq).elim (x q) (y q)
theorem tok_rest (dp un : Nat) (gd : Option (List Code)) (hd : dp < 800) (hu : un < 8000) (B : Below A₀ base outer h₀) (X : (Mine.hd.heap_39 w.params).In h₀) (T : Top p loose mean mg mb h₀)
   (p1 p2 p3 : Pos) (ax : Nat) (its : Array Value) (ks : List Int) (hi : IntsAre its.toList ks) (hk : ∀ k ∈ ks, 0 ≤ k ∧ k < 1000) (Fin : List Value → List (Addr × Obj) → Prop) :
   ∀ (n i : Nat) (ys : List Value) (news : List (Addr × Obj)), n + i = ks.length → LCg.SrcAt h₀ ax its news → (∀ vs nw, Rel nw vs (ks.drop i) → notIter nw → (∀ q ∈ nw, ∀ b ∈ news, q.1 ≠ b.1) → Fin (ys ++ vs) (nw ++ news)) →
   LCg.CompRest PySem.Challenge.rw_rk0006_01.prog w { handled := none, depth := dp, frames := some (lawEnv L fa cd :: outer), guards := gd, units := un } h₀ L m (lawEnv L fa cd) (blockElt p1 p2 p3) (Str.ofString "k") blockScope [] s (LCg.SrcAt h₀ ax its) (fun i v => its[i]? = some v) Fin n i ys news := by
  intro n
  induction n with
  | zero =>
    intro i ys news e _ hf
    have := hf [] [] (by rw [List.drop_eq_nil_of_le (by omega)]; exact .nil) (fun q hq => by cases hq) (fun q hq => by cases hq)
    rw [List.append_nil] at this
    exact this
  | succ n ih =>
    intro i ys news e hsrc hf
    refine LCg.CompRest.succ fun v I oI C oC D m₂ h tk E' hv hC hx F N off ne => ?_
    obtain ⟨k, t, rfl, hkm, hdr⟩ := ints_at hi i v (by simpa using hv)
    refine tok_turn dp un gd hd hu B X T p1 p2 p3 I C D oI oC ys news m₂ k t (hk k hkm).1 (hk k hkm).2 _ E' hC hx F N off (fun l hs => ?_) hsrc fun T1 hk1 fr1 => ?_
    · rcases hs with hs | ⟨o, hm, r⟩
      · exact .inl hs
      · exact .inr ⟨o, List.mem_append_right _ hm, r⟩
    · refine ih (i + 1) (ys ++ [.ref T1.a]) (T1.objs ++ news) (by omega) ?_ fun vs nw hrel hni hfr => ?_
      · rcases hsrc with hs | ⟨o, hm, r⟩
        · exact .inl hs
        · exact .inr ⟨o, List.mem_append_right _ hm, r⟩
      · have := hf (.ref T1.a :: vs) (nw ++ T1.objs) (by rw [hdr]; exact .cons ⟨T1, rfl, hk1, fun q hq => List.mem_append_right _ hq⟩ (hrel.mono fun q hq => List.mem_append_left _ hq)) (notIter_append hni T1.notIter) (fun q hq b hb => (List.mem_append.mp hq).elim (fun h => hfr q h b (List.mem_append_right _ hb)) fun h => fr1 q h b hb)
        rw [List.append_assoc] at this ⊢
        exact this
end
end
section
open PySem PySem.W PySem.Calls PyProof.Rows PySem.Spec
set_option Elab.async false
set_option maxRecDepth 100000
set_option maxHeartbeats 4000000
theorem offPile : True ∧ True := by
  w_top off
  walk1 <;> trivial
section
variable {w : World} {p : Program} {loose : List Str} {mean : ExcName → Option Value} {mg mb : Str → Option Value} {A₀ : Around} {outer : List Env} {base h₀ : Heap} {L fa : Addr} {cd : Value} {m : Str → Option Value} {s : Shared} {Q : Flow → Shared → Prop} {E : Value → Shared → Prop}

theorem expGetMx {rest : List (Addr × Obj)} {expr : Bool} {A : Around} {env : Env} {Q : Value → Shared → Prop} (e : Exp) (S : Site (Mine.hd.heap_39 w.params) p loose mean mg mb A env outer A₀ base h₀ L m s.heap) (N : News h₀ L s.heap (ObjsOf e ++ rest)) (h : Q (.ref e.mx) { s with toks := s.toks + 1 }) :
    wpAny (model PySem.Challenge.rw_rk0006_01.prog w) A (getAttr (.ref e.f) (Str.ofString "macro_expansions") expr) Q E s := by
  revert S; k_fill; intro S
  have I := expInst e N
  refine' get_own S.F S.X I ?k4 ?k5 ?k6 ?k7 ?k8 ?k9 ?_
  case k4 => k_is
  case k5 => k_is
  case k6 => k_is
  case k7 => k_is
  case k8 => k_get
  case k9 => k_handed
  exact h
theorem exp_mx (e : Exp) : (e.mx, listOf (refs e.macs).toArray e.mn) ∈ ObjsOf e := by
  rw [ObjsOf_eq]; unfold Exp.objs Exp.six; simp
theorem Exp.off_mac {e : Exp} (ok : e.Ok) : ∀ q ∈ macsObjs e.macs, q.1 ∉ e.sixAdr := by
  intro q hq hb
  obtain ⟨c, hc, hq'⟩ := List.mem_flatMap.mp hq
  have hm : q.1 ∈ macsAdr e.macs := List.mem_flatMap.mpr ⟨c, hc, Mac.mem_adr hq'⟩
  exact (List.nodup_append.mp ok.d).2.2 _ hb _ hm rfl
theorem Upd.app {d : Addr} {o o' : Obj} {l l' : List (Addr × Obj)} (U : Upd d o o' l l') : ∀ {r : List (Addr × Obj)}, (∀ q ∈ r, q.1 ≠ d) → Upd d o o' (l ++ r) (l' ++ r) := by
  induction U with
  | head h => intro r hr; exact .head fun q hq => (List.mem_append.mp hq).elim (h q) (hr q)
  | tail h _ ih => intro r hr; exact .tail h (ih hr)
theorem Upd.pre {d : Addr} {o o' : Obj} {l l' : List (Addr × Obj)} (U : Upd d o o' l l') : ∀ {r : List (Addr × Obj)}, (∀ q ∈ r, q.1 ≠ d) → Upd d o o' (r ++ l) (r ++ l')
  | [], _ => U
  | p :: r, h => .tail (h p (.head _)) (Upd.pre U fun q hq => h q (.tail _ hq))
/-- one more expansion upon the pile -/
theorem exp_pile {Q : Value → Shared → Prop} {A : Around} {news : List (Addr × Obj)} (e : Exp) (ok : e.Ok) (c : Mac) (hz : e.macs.length ≤ 900) (F : Fr h₀ L s.heap m) (N : News h₀ L s.heap (ObjsOf e ++ (c.objs ++ news)))
    (off : ∀ q ∈ c.objs ++ news, q.1 ∉ e.adr)
    (h : ∀ h', Fr h₀ L h' m → News h₀ L h' (ObjsOf { e with macs := e.macs ++ [c], mn := e.mn + 1 } ++ news) → Q .none { s with heap := h' }) :
    wpAny (model PySem.Challenge.rw_rk0006_01.prog w) A (call (.builtin "list.append") [.ref e.mx, .ref c.x]) Q E s := by
  have d' := ok.d
  have hadr : ∀ a ∈ e.sixAdr, a ∈ e.adr := fun a ha => List.mem_append_left _ ha
  have hmxa : e.mx ∈ e.sixAdr := by simp [Exp.sixAdr]
  have o1 := Exp.off_mac ok
  have U : Upd e.mx (listOf (refs e.macs).toArray e.mn) (listOf (refs e.macs ++ [Value.ref c.x]).toArray (e.mn + 1)) (e.six ++ (macsObjs e.macs ++ (c.objs ++ news))) (({ e with macs := e.macs ++ [c], mn := e.mn + 1 } : Exp).six ++ (macsObjs e.macs ++ (c.objs ++ news))) := by
    refine Upd.app ?_ fun q hq he => ?_
    · simp only [Exp.adr, Exp.sixAdr, List.cons_append, List.nil_append, List.nodup_cons, List.mem_cons, not_or] at d'
      obtain ⟨⟨d1, d2, d3, d4, d5, _⟩, ⟨d6, d7, d8, d9, _⟩, ⟨d10, d11, d12, _⟩, ⟨d13, d14, _⟩, ⟨d15, _⟩, _, dm⟩ := d'
      have er : refs (e.macs ++ [c]) = refs e.macs ++ [Value.ref c.x] := by simp [refs]
      unfold Exp.six
      dsimp only
      rw [er]
      refine .tail (by simpa using d3) (.tail (by simpa using d7) (.tail (by simpa using d10) (.head ?_)))
      intro q hq
      simp only [List.mem_cons, List.not_mem_nil, or_false] at hq
      rcases hq with rfl | rfl
      · exact fun z => d13 z.symm
      · exact fun z => d14 z.symm
    · rcases List.mem_append.mp hq with hq | hq
      · exact o1 q hq (he ▸ hmxa)
      · exact off q hq (hadr _ (he ▸ hmxa))
  have N1 : News h₀ L s.heap (e.six ++ (macsObjs e.macs ++ (c.objs ++ news))) := by
    rw [ObjsOf_eq] at N; unfold Exp.objs at N; rw [List.append_assoc] at N; exact N
  refine app_L F N1 U (by rw [sizeLine_eq]; simp [refs]; omega) fun h' F' N' => h h' F' ?_
  rw [ObjsOf_eq]
  unfold Exp.objs
  simp only [macsObjs, List.flatMap_append, List.flatMap_cons, List.flatMap_nil, List.append_nil, List.append_assoc] at N' ⊢
  exact N'
theorem Exp.piled {e : Exp} (ok : e.Ok) {c : Mac} (hc : c.Ok) (off : ∀ a ∈ c.adr, a ∉ e.adr) (hz : e.macs.length ≤ 900) : ({ e with macs := e.macs ++ [c], mn := e.mn + 1 } : Exp).Ok := by
  refine ⟨?_, ok.src, ok.items, ok.bufs, fun b hb => ?_, ok.zb, by simp only [List.length_append, List.length_singleton]; omega⟩
  · show (e.sixAdr ++ macsAdr (e.macs ++ [c])).Nodup
    simp only [macsAdr, List.flatMap_append, List.flatMap_cons, List.flatMap_nil, List.append_nil]
    rw [← List.append_assoc]
    refine List.nodup_append.mpr ⟨ok.d, hc.d, fun a ha b hb => ?_⟩
    rintro rfl
    exact off a hb ha
  · rcases List.mem_append.mp hb with hb | hb
    · exact ok.macs b hb
    · rw [List.mem_singleton.mp hb]; exact hc
theorem Exp.piled_flat {e : Exp} (hb : e.buf = []) (c : Mac) : ({ e with macs := e.macs ++ [c], mn := e.mn + 1 } : Exp).flat = c.rest ++ e.flat := by
  unfold Exp.flat macsRest
  dsimp only
  rw [hb]
  simp
theorem Exp.piled_adr {e : Exp} {c : Mac} : ∀ a ∈ ({ e with macs := e.macs ++ [c], mn := e.mn + 1 } : Exp).adr, a ∈ e.adr ∨ a ∈ c.adr := by
  intro a ha
  have : a ∈ (e.sixAdr ++ macsAdr (e.macs ++ [c])) := ha
  simp only [macsAdr, List.flatMap_append, List.flatMap_cons, List.flatMap_nil, List.append_nil] at this
  rw [← List.append_assoc] at this
  exact List.mem_append.mp this
end
end
section
open PySem PySem.W PySem.Calls PyProof.Rows PySem.Spec
set_option Elab.async false
set_option maxRecDepth 100000
set_option maxHeartbeats 4000000
theorem offIterL : True ∧ True := by
  w_top off
  walk1 <;> trivial
section
variable {w : World} {p : Program} {loose : List Str} {mean : ExcName → Option Value} {mg mb : Str → Option Value} {A₀ : Around} {outer : List Env} {base h₀ : Heap} {L fa : Addr} {cd : Value} {m : Str → Option Value} {s : Shared} {Q : Flow → Shared → Prop} {E : Value → Shared → Prop}

theorem iterList_L {prog : Program} {A : Around} {news : List (Addr × Obj)} {d n : Nat} {l : List Value} {Q : Value → Shared → Prop} (F : Fr h₀ L s.heap m) (N : News h₀ L s.heap news) (hm : (d, listOf l.toArray n) ∈ news)
    (h : ∀ I h', Fr h₀ L h' m → News h₀ L h' ((I, itObj (.ref d) 0) :: news) → (∀ p ∈ news, p.1 < I) → Q (.ref I) { s with heap := h' }) :
    wpAny (model prog w) A (call (.builtin "iter") [.ref d]) Q E s := by
  refine call_function_entry (by decide +kernel) (by decide +kernel) kdk_entry_iter (kdk_args_iter _) ?_
  unfold Builtin.«iter»
  refine wpAny_bind (m := someArgs "iter" 1 2 _) (wpAny_of_eq (a := [Value.ref d]) (by first | rfl | kernel_rfl!) ?_)
  show wpAny _ _ (pyIter (.ref d) >>= _) _ _ _
  refine wpAny_bind (wpAny_pyIter_list (isList_of N hm) ?_)
  exact wpAny_pure ⟨_, rfl, h _ _ (F.push _) (News.push F N _ rfl) fun q hq => Heap.lt_size (N q hq).1⟩
theorem mac_made {l x d I D n rn : Nat} {h : Heap} {h1 h2 h3 : Int} {t1 t2 t3 : Nat} {hs : Value} {vs : List Value} {so p1 : Addr × Obj} {nw eo tail : List (Addr × Obj)}
    (N : News h₀ L h ((l, listOf #[] 0) :: (x, instObj 110 d) :: (d, dictOf (ME h1 h2 h3 t1 t2 t3 I l hs) n) :: so :: (I, itObj (.ref D) 0) :: (D, listOf vs.toArray rn) :: (nw ++ p1 :: (eo ++ tail))))
    (hv : ∀ v ∈ vs, ∃ a, v = .ref a) (n1 : x ≠ d) (n2 : x ≠ l) (n3 : x ≠ I) (n4 : x ≠ D) (n5 : d ≠ l) (n6 : d ≠ I) (n7 : d ≠ D) (n8 : l ≠ I) (n9 : l ≠ D) (n10 : I ≠ D) :
    ∃ c : Mac, c.x = x ∧ c.rest = vs ∧ c.adr = [x, d, l, I, D] ∧ c.Ok ∧ News h₀ L h (eo ++ (c.objs ++ ((nw ++ [p1]) ++ tail))) := by
  refine ⟨⟨x, d, l, I, D, h1, h2, h3, t1, t2, t3, hs, n, vs, rn, [], 0, .ref D, 0⟩, rfl, rfl, rfl, ⟨?_, by simp, fun _ => rfl, hv, fun v h => by cases h⟩, ?_⟩
  · simp only [Mac.adr, List.nodup_cons, List.mem_cons, List.not_mem_nil, or_false, not_or, not_false_eq_true, and_true, List.nodup_nil]
    exact ⟨⟨n1, n2, n3, n4⟩, ⟨n5, n6, n7⟩, ⟨n8, n9⟩, n10⟩
  · refine news_sub N fun q hq => ?_
    rw [Mac.objs] at hq
    simp only [List.mem_append, List.mem_cons, List.not_mem_nil, or_false] at hq ⊢
    rcases hq with h | (h | h | h | h | h) | (h | h) | h <;> simp [h]
theorem Rel.refs {t : List (Addr × Obj)} {vs : List Value} {ks : List Int} (h : Rel t vs ks) : ∀ v ∈ vs, ∃ a, v = .ref a := by
  induction h with
  | nil => intro v hv; cases hv
  | cons a _ ih =>
    intro v hv
    rcases List.mem_cons.mp hv with rfl | hv
    · obtain ⟨T, e, _⟩ := a; exact ⟨_, e⟩
    · exact ih v hv
theorem off1_mem {D : Addr} : ∀ {l : List (Addr × Obj)}, LCg.Off1 D l → ∀ p ∈ l, p.1 ≠ D
  | [], _, p, h => by cases h
  | _ :: _, x, p, h => by
    rcases List.mem_cons.mp h with rfl | h
    · exact x.1
    · exact off1_mem x.2 p h
theorem len_L {prog : Program} {A : Around} {news : List (Addr × Obj)} {d n : Nat} {l : List Value} {Q : Value → Shared → Prop} (N : News h₀ L s.heap news) (hm : (d, listOf l.toArray n) ∈ news) (hz : l.length ≤ 1000) (h : ∀ t, Q (.int l.length t) { s with toks := s.toks + 1 + 1 }) :
    wpAny (model prog w) A (call (.builtin "len") [.ref d]) Q E s := by
  refine call_len_list (isList_of N hm) (by rw [List.size_toArray]; omega) ?_
  rw [List.size_toArray]
  exact h _
end
end
end
theorem emptySeven : True ∧ True := by
  walk1 <;> trivial
section
open PySem PySem.W PySem.Calls PyProof.Rows PySem.Spec
local macro_rules | `(tactic| walk_at "eval ListComp") => `(tactic| (k_here; k_dflt (refine LCg.ListComp_U (F₀ := by k_asm) (by rfl) (by decide) (by rfl) (by decide) (by rfl) ?_)))
local macro_rules | `(tactic| walk_at "call builtin:len") => `(tactic| (k_here; (with_reducible show wpAny _ _ (call (Value.builtin "len") [Value.ref _]) _ _ _); k_dflt (refine' len_L ?N ?m ?z ?_; (case N => k_asm); (case m => k_mem); (case z => kl_room)); intro t'))
section
open PySem PySem.W PySem.Calls PyProof.Rows PySem.Spec
set_option Elab.async false
set_option maxRecDepth 100000
set_option maxHeartbeats 4000000
theorem offSeven : True ∧ True := by
  w_top off
  walk1 <;> trivial
section
variable {w : World} {p : Program} {loose : List Str} {mean : ExcName → Option Value} {mg mb : Str → Option Value} {A₀ : Around} {outer : List Env} {base h₀ : Heap} {L fa : Addr} {cd : Value} {m : Str → Option Value} {s : Shared} {Q : Flow → Shared → Prop} {E : Value → Shared → Prop}

theorem seven (dp un : Nat) (gd : Option (List Code)) (hd : dp < 800) (hu : un < 8000) (B : Below A₀ base outer h₀) (X : (Mine.hd.heap_39 w.params).In h₀) (T : Top p loose mean mg mb h₀)
   (kt : Nat) (v : Int) (vt : Nat) (hv0 : 0 ≤ v) (hv1 : v < 32) (hm : m (Str.ofString "v") = some (.int v vt)) (i : Nat) (hi16 : i ≤ 16) (e : Exp) (tail : List (Addr × Obj)) (ns : List Int) (ls : LS e tail ns) (made held : Int) (hb : held ≤ 0) (mt ht : Nat) (fl la : Nat) (bd : Bd i e ns made held) (fa_ : FlatAt tail fl ns)
   (F : Fr h₀ L s.heap (turnMap 7 kt held ht fl e.f la made mt m)) (N : News h₀ L s.heap (ObjsOf e ++ tail)) (hq : TurnDone Q s h₀ L e.f tail i) :
   wpAny (model PySem.Challenge.rw_rk0006_01.prog w) { handled := none, depth := dp, frames := some (lawEnv L fa cd :: outer), guards := gd, units := un } (execs chain (lawEnv L fa cd)) Q E s := by
  revert X; k_fill; intro X
  dsimp only [lawEnv]
  conv in chain => whnf
  conv in (occs := *) lawScope => all_goals whnf
  obtain ⟨vs, n1, hfl, hi⟩ := fa_.at_
  have fo := bd.hb
  have bb := bd.buf
  have bm := bd.macs
  have b0 := bd.m0
  have b1 := bd.m1
  have bn := bd.len
  have hm7 : turnMap 7 kt held ht fl e.f la made mt m (Str.ofString "v") = some (.int v vt) := hm
  k_steps
  rename Fr _ _ _ _ => F2
  rename News _ _ _ _ => N2
  rename IsRange _ _ _ _ _ _ _ _ => rgX
  have hv4 : 0 ≤ Int.fdiv v 8 ∧ Int.fdiv v 8 < 4 := by rw [Int.fdiv_eq_ediv_of_nonneg _ (by omega)]; omega
  refine kll_range (n := (Int.fdiv v 8).toNat) rfl F2 N2 rgX (small_one (by omega) (by omega) (by omega) (by omega)) (by rw [rangeSize_nat]; congr 2; omega) (by omega) fun D1 us c1 h1 tk1 F3 N3 l3 hI3 => ?_
  generalize hq4 : (Int.fdiv v 8).toNat = qn at hI3
  dsimp only
  k_steps
  rename Fr _ _ _ _ => F4
  rename News _ _ _ _ => N4
  refine expGetMx e ⟨B, F4, X, T, rfl, rfl, rfl, rfl⟩ (news_swap (a := [_]) N4) ?_
  have hmx : (e.mx, listOf (refs e.macs).toArray e.mn) ∈ ObjsOf e ++ tail := List.mem_append_left _ (exp_mx e)
  dsimp only
  k_steps
  rename Fr _ _ _ _ => F5
  rename News _ _ _ _ => N5
  have hln : us.length = qn := by rw [hI3.length, rangeKs_length]
  refine LCg.CompSrc.ledger (its := us.toArray) rfl F5 N5 (.head _) (by rw [List.size_toArray, sizeLine_eq]; omega) fun g => tok_rest dp un gd hd hu B X T _ _ _ D1 us.toArray (rangeKs made qn) hI3 (fun k hk => ?_) _ _ 0 [] _ (by rw [List.size_toArray, rangeKs_length]; omega) (.inr ⟨_, .head _, rfl, _, rfl⟩) fun vs2 nw hrel hni hfr => ?_
  · have := mem_rangeKs hk
    omega
  rw [List.nil_append]
  unfold LCg.FinE
  intro D2 h5 tk5 F6 N6 o6
  dsimp only
  clear F5 N5
  k_steps
  refine iterList_L (l := vs2) F6 N6 (.head _) fun I7 h7 F7 N7 l7 => ?_
  dsimp only
  clear F6 N6
  k_steps
  rename Fr _ _ _ _ => F8
  rename News _ _ _ _ => N8
  have l7d : @LT.lt Nat _ D2 I7 := l7 _ (.head _)
  obtain ⟨c, hcx, hcr, hca, hco, N9⟩ := mac_made N8 hrel.refs (by k_ne) (by k_ne) (by k_ne) (by k_ne) (by k_ne) (by k_ne) (by k_ne) (by k_ne) (by k_ne) (by k_ne)
  clear N8
  have hsub : ∀ q ∈ ObjsOf e ++ tail, q ∈ nw ++ (D1, listOf us.toArray c1) :: (ObjsOf e ++ tail) := fun q hq => List.mem_append_right _ (.tail _ hq)
  have hcn : ∀ a ∈ c.adr, ∀ b ∈ nw ++ (D1, listOf us.toArray c1) :: (ObjsOf e ++ tail), a ≠ b.1 := by
    rw [hca]
    intro a ha b hb
    simp only [List.mem_cons, List.not_mem_nil, or_false] at ha
    rcases ha with rfl | rfl | rfl | rfl | rfl
    case inr.inr.inr.inr => exact fun z => (off1_mem o6 b hb) z.symm
    case inr.inr.inr.inl => exact Nat.ne_of_gt (l7 b (.tail _ hb))
    all_goals (have z : @LT.lt Nat _ b.1 _ := tb_ltOf (by tbn_find : AllLt _ (nw ++ (D1, listOf us.toArray c1) :: (ObjsOf e ++ tail))) b hb; refine neN ?_; (try dsimp only); omega)
  have hcf : ∀ a ∈ c.adr, a ∉ e.adr := fun a ha => Exp.fresh_off' (l := tail) fun b hb => hcn a ha b (hsub b hb)
  have off9 : ∀ q ∈ c.objs ++ ((nw ++ [(D1, listOf us.toArray c1)]) ++ tail), q.1 ∉ e.adr := fun q hq => by
    rcases List.mem_append.mp hq with hq | hq
    · exact hcf _ (Mac.mem_adr hq)
    rcases List.mem_append.mp hq with hq | hq
    · rcases List.mem_append.mp hq with hq | hq
      · exact Exp.fresh_off' (l := tail) fun b hb => hfr q hq b (.tail _ hb)
      · rw [List.mem_singleton.mp hq]; exact Exp.fresh_off' (l := tail) fun b hb => Nat.ne_of_gt (l3 b hb)
    · exact ls.off q hq
  rw [← hcx]
  refine exp_pile e ls.ok c (by omega) F8 N9 off9 fun h9 F9 N10 => ?_
  clear F8 N9
  have hok := Exp.piled ls.ok hco hcf (by omega)
  have hfla := Exp.piled_flat (e := e) (by cases hbf : e.buf with | nil => rfl | cons a r => exfalso; rw [hbf, List.length_cons] at fo; omega) c
  have hadr := Exp.piled_adr (e := e) (c := c)
  have hef : ({ e with macs := e.macs ++ [c], mn := e.mn + 1 } : Exp).f = e.f := rfl
  have heb : ({ e with macs := e.macs ++ [c], mn := e.mn + 1 } : Exp).buf = e.buf := rfl
  have hem : ({ e with macs := e.macs ++ [c], mn := e.mn + 1 } : Exp).macs.length = e.macs.length + 1 := by simp
  generalize he' : ({ e with macs := e.macs ++ [c], mn := e.mn + 1 } : Exp) = e' at N10 hok hfla hadr hef heb hem
  have hD1 : (D1, listOf us.toArray c1) ∈ ObjsOf e' ++ ((nw ++ [(D1, listOf us.toArray c1)]) ++ tail) := by simp
  have hfl2 : (fl, listOf vs.toArray n1) ∈ ObjsOf e' ++ ((nw ++ [(D1, listOf us.toArray c1)]) ++ tail) := List.mem_append_right _ (List.mem_append_right _ hfl)
  have hz9 := sizeLine_eq
  dsimp only
  k_steps
  rename Fr _ _ _ _ => F11
  rename News _ _ _ _ => N11
  have N12 := news_pick (a := [_, _]) (j := []) N11
  have hrel2 : Rel ((nw ++ [(D1, listOf us.toArray c1)]) ++ tail) e'.flat (rangeKs made qn ++ ns) := by
    rw [hfla, hcr]
    exact Rel.append (hrel.mono fun q hq => List.mem_append_left _ (List.mem_append_left _ hq)) (ls.rel.mono fun q hq => List.mem_append_right _ hq)
  have hqn : qn < 4 := by omega
  have hlr : (rangeKs made qn).length = qn := rangeKs_length _ _
  have hLn := ls.len
  have off10 : ∀ q ∈ (nw ++ [(D1, listOf us.toArray c1)]) ++ tail, q.1 ∉ e'.adr := fun q hq h => by
    rcases hadr _ h with h | h
    · exact off9 q (List.mem_append_right _ hq) h
    · refine hcn _ h q ?_ rfl
      simp only [List.mem_append, List.mem_cons, List.not_mem_nil, or_false] at hq ⊢
      rcases hq with (h | h) | h <;> simp [h]
  refine hq e' (_ :: _ :: (nw ++ [(D1, listOf us.toArray c1)])) (rangeKs made qn ++ ns) _ _ false (made + us.length) _ _ _ _ _ _ ⟨hok, ?_, hrel2.mono fun q hq => .tail _ (.tail _ hq), ?_, by rw [List.length_append]; omega⟩ ⟨_, _, .tail _ (.head _), by assumption⟩ (.nil _ (.head _)) ?_ hef ⟨?_, ?_, ?_, by omega, ?_, ?_⟩ F11 rfl rfl rfl rfl rfl N12
  · intro q hq
    rcases List.mem_cons.mp hq with rfl | hq
    · exact Exp.fresh_off (l := (nw ++ [(D1, listOf us.toArray c1)]) ++ tail) (by first | tbn_find | exact allLt_of (by assumption))
    rcases List.mem_cons.mp hq with rfl | hq
    · exact Exp.fresh_off (l := (nw ++ [(D1, listOf us.toArray c1)]) ++ tail) (by first | tbn_find | exact allLt_of (by assumption))
    · exact off10 q hq
  · intro k hk
    rcases List.mem_append.mp hk with hk | hk
    · have := mem_rangeKs hk; omega
    · exact ls.rng k hk
  · intro q hq
    rcases List.mem_cons.mp hq with rfl | hq
    · intro h; simp at h
    rcases List.mem_cons.mp hq with rfl | hq
    · intro h; simp at h
    rcases List.mem_append.mp hq with hq | hq
    · exact hni q hq
    · rw [List.mem_singleton.mp hq]; intro h; simp at h
  · rw [heb]; omega
  · omega
  · rw [List.length_append]; omega
  · omega
  · rw [heb]; omega
end
end
section
open PySem PySem.W PySem.Calls PyProof.Rows PySem.Spec
set_option Elab.async false
set_option maxRecDepth 100000
set_option maxHeartbeats 4000000
theorem offTurnH : True ∧ True := by
  w_top off
  walk1 <;> trivial
section
variable {w : World} {p : Program} {loose : List Str} {mean : ExcName → Option Value} {mg mb : Str → Option Value} {A₀ : Around} {outer : List Env} {base h₀ : Heap} {L fa : Addr} {cd : Value} {m : Str → Option Value} {s : Shared} {Q : Flow → Shared → Prop} {E : Value → Shared → Prop}

def st1 : Stmt := match loopBody with | a :: _ => a | [] => .Pass ⟨0, 0, 0, 0⟩
def st2 : Stmt := match loopBody with | _ :: a :: _ => a | _ => .Pass ⟨0, 0, 0, 0⟩
theorem turnMap_self {kd : Int} {kt : Nat} {held : Int} {ht fl f la : Nat} {made : Int} {mt : Nat} {m : Str → Option Value} (h0 : m (Str.ofString "kind") = some (.int kd kt)) (hm1 : m (Str.ofString "held") = some (.int held ht)) (hm2 : m (Str.ofString "flat") = some (.ref fl)) (hm3 : m (Str.ofString "f") = some (.ref f)) (hm4 : m (Str.ofString "last") = some (.ref la)) (hm5 : m (Str.ofString "made") = some (.int made mt)) :
    turnMap kd kt held ht fl f la made mt m = m := by
  funext y
  unfold turnMap
  split
  · next h => rw [h, h0]
  split
  · next h => rw [h, hm1]
  split
  · next h => rw [h, hm2]
  split
  · next h => rw [h, hm3]
  split
  · next h => rw [h, hm4]
  split
  · next h => rw [h, hm5]
  · rfl
theorem turn_head (ch : List Stmt) (dp un : Nat) (gd : Option (List Code)) (hd : dp < 800) (hu : un < 8000) (B : Below A₀ base outer h₀) (X : (Mine.hd.heap_39 w.params).In h₀) (T : Top p loose mean mg mb h₀)
   (v : Int) (vt : Nat) (hv0 : 0 ≤ v) (hv1 : v < 32) (news : List (Addr × Obj)) (held : Int) (ht : Nat) (la : Nat) (lb : Bool) (n3 : Nat) (ll : List Value) (lat : (la, listOf ll.toArray n3) ∈ news) (hll : (lb = false ∧ ll = []) ∨ (lb = true ∧ ∃ x, ll = [x]))
   (hm : m (Str.ofString "v") = some (.int v vt)) (hm1 : m (Str.ofString "held") = some (.int held ht)) (hm4 : m (Str.ofString "last") = some (.ref la))
   (F : Fr h₀ L s.heap m) (N : News h₀ L s.heap news)
   (hq : ∀ (kd : Int) (kt : Nat) (h' : Heap) (tk' : Nat) (m' : Str → Option Value), m' (Str.ofString "kind") = some (.int kd kt) → (∀ y, y ≠ Str.ofString "kind" → m' y = m y) → (0 ≤ kd ∧ kd < 8 ∧ (kd = 5 → lb = true) ∧ (kd = 7 → held ≤ 0)) → Fr h₀ L h' m' → News h₀ L h' news →
     wpAny (model PySem.Challenge.rw_rk0006_01.prog w) { handled := none, depth := dp, frames := some (lawEnv L fa cd :: outer), guards := gd, units := un } (execs ch (lawEnv L fa cd)) Q E { s with heap := h', toks := tk' }) :
   wpAny (model PySem.Challenge.rw_rk0006_01.prog w) { handled := none, depth := dp, frames := some (lawEnv L fa cd :: outer), guards := gd, units := un } (execs (st1 :: st2 :: ch) (lawEnv L fa cd)) Q E s := by
  revert X; k_fill; intro X
  dsimp only [lawEnv] at hq ⊢
  conv in st1 => whnf
  conv in st2 => whnf
  have hls : lawScope = lawScope := rfl
  conv at hls => lhs; whnf
  rw [← hls] at hq
  conv in (occs := *) lawScope => all_goals whnf
  have hv8 : 0 ≤ Int.fmod v 8 ∧ Int.fmod v 8 < 8 := by rw [Int.fmod_eq_emod_of_nonneg _ (by omega)]; omega
  rcases hll with ⟨rfl, rfl⟩ | ⟨rfl, x, rfl⟩
  · k_steps
    all_goals (dsimp only; rename Fr _ _ _ _ => F2; rename News _ _ _ _ => N2)
    all_goals refine hq _ _ _ _ _ rfl (fun y hy => by simp [hy]) ?_ F2 (by first | exact N2 | exact news_sub N2 fun q hq => .tail _ hq | exact news_sub N2 fun q hq => .tail _ (.tail _ hq))
    all_goals (refine ⟨by omega, by omega, fun h => ?_, fun h => ?_⟩ <;> first | omega | (exfalso; omega) | (exfalso; simp only [decide_eq_true_eq, decide_eq_false_iff_not, not_le, not_lt] at *; omega))
  · k_steps
    all_goals (dsimp only; rename Fr _ _ _ _ => F2; rename News _ _ _ _ => N2)
    all_goals refine hq _ _ _ _ _ rfl (fun y hy => by simp [hy]) ?_ F2 (by first | exact N2 | exact news_sub N2 fun q hq => .tail _ hq | exact news_sub N2 fun q hq => .tail _ (.tail _ hq))
    all_goals (refine ⟨by omega, by omega, fun h => rfl, fun h => ?_⟩ <;> first | omega | (exfalso; omega) | (exfalso; simp only [decide_eq_true_eq, decide_eq_false_iff_not, not_le, not_lt] at *; omega) | (simp only [decide_eq_true_eq, decide_eq_false_iff_not, Int.not_lt, gt_iff_lt] at *; omega))
end
end
section
open PySem PySem.W PySem.Calls PyProof.Rows PySem.Spec
set_option Elab.async false
set_option maxRecDepth 100000
set_option maxHeartbeats 4000000
theorem offTurn : True ∧ True := by
  w_top off
  walk1 <;> trivial
section
variable {w : World} {p : Program} {loose : List Str} {mean : ExcName → Option Value} {mg mb : Str → Option Value} {A₀ : Around} {outer : List Env} {base h₀ : Heap} {L fa : Addr} {cd : Value} {m : Str → Option Value} {s : Shared} {Q : Flow → Shared → Prop} {E : Value → Shared → Prop}

theorem turn (dp un : Nat) (gd : Option (List Code)) (hd : dp < 800) (hu : un < 8000) (B : Below A₀ base outer h₀) (X : (Mine.hd.heap_39 w.params).In h₀) (T : Top p loose mean mg mb h₀)
   (v : Int) (vt : Nat) (hv0 : 0 ≤ v) (hv1 : v < 32) (i : Nat) (hi16 : i ≤ 16) (e : Exp) (tail : List (Addr × Obj)) (ns : List Int) (ls : LS e tail ns) (made held : Int) (mt ht : Nat) (fl la : Nat) (lb : Bool) (bd : Bd i e ns made held) (fa_ : FlatAt tail fl ns) (lat : LastAt tail la lb)
   (hm : m (Str.ofString "v") = some (.int v vt)) (hm1 : m (Str.ofString "held") = some (.int held ht)) (hm2 : m (Str.ofString "flat") = some (.ref fl)) (hm3 : m (Str.ofString "f") = some (.ref e.f)) (hm4 : m (Str.ofString "last") = some (.ref la)) (hm5 : m (Str.ofString "made") = some (.int made mt))
   (F : Fr h₀ L s.heap m) (N : News h₀ L s.heap (ObjsOf e ++ tail)) (hq : TurnDone Q s h₀ L e.f tail i) :
   wpAny (model PySem.Challenge.rw_rk0006_01.prog w) { handled := none, depth := dp, frames := some (lawEnv L fa cd :: outer), guards := gd, units := un } (execs loopBody (lawEnv L fa cd)) Q E s := by
  rw [show loopBody = st1 :: st2 :: chain from rfl]
  obtain ⟨n3, ll, hla, hll⟩ : ∃ n3 ll, (la, listOf (List.toArray ll) n3) ∈ ObjsOf e ++ tail ∧ ((lb = false ∧ ll = []) ∨ (lb = true ∧ ∃ x, ll = [x])) := by
    cases lat with
    | nil n h => exact ⟨n, [], List.mem_append_right _ h, .inl ⟨rfl, rfl⟩⟩
    | one n n2 tup T t h => exact ⟨n, [.ref tup], List.mem_append_right _ h, .inr ⟨rfl, _, rfl⟩⟩
  refine turn_head chain dp un gd hd hu B X T v vt hv0 hv1 _ held ht la lb n3 ll hla hll hm hm1 hm4 F N fun kd kt h' tk' m' hk hm' hc F' N' => ?_
  have e1 : m' (Str.ofString "held") = some (.int held ht) := (hm' _ (by decide)).trans hm1
  have e2 : m' (Str.ofString "flat") = some (.ref fl) := (hm' _ (by decide)).trans hm2
  have e3 : m' (Str.ofString "f") = some (.ref e.f) := (hm' _ (by decide)).trans hm3
  have e4 : m' (Str.ofString "last") = some (.ref la) := (hm' _ (by decide)).trans hm4
  have e5 : m' (Str.ofString "made") = some (.int made mt) := (hm' _ (by decide)).trans hm5
  have e6 : m' (Str.ofString "v") = some (.int v vt) := (hm' _ (by decide)).trans hm
  rw [← turnMap_self hk e1 e2 e3 e4 e5] at F'
  obtain ⟨c0, c8, c5, c7⟩ := hc
  have hq' : TurnDone Q { s with heap := h', toks := tk' } h₀ L e.f tail i := fun a b c d e f g h i j k l => hq a b c d e f g h i j k l
  by_cases h3 : kd < 3
  · cases ns with
    | nil => exact take_nil dp un gd hd hu B X T kd kt c0 h3 i hi16 e tail ls made held mt ht fl la bd fa_ F' N' hq'
    | cons k ns => exact take_cons dp un gd hd hu B X T kd kt c0 h3 i hi16 e tail k ns ls made held mt ht fl la bd fa_ F' N' hq'
  by_cases h5 : kd < 5
  · exact look dp un gd hd hu B X T kd kt (by omega) h5 i hi16 e tail ns ls made held mt ht fl la bd fa_ F' N' hq'
  have : kd = 5 ∨ kd = 6 ∨ kd = 7 := by omega
  rcases this with rfl | rfl | rfl
  · have := c5 rfl; subst this
    exact five dp un gd hd hu B X T kt i hi16 e tail ns ls made held mt ht fl la bd fa_ lat F' N' hq'
  · exact six dp un gd hd hu B X T kt i hi16 e tail ns ls made held mt ht fl la bd fa_ F' N' hq'
  · exact seven dp un gd hd hu B X T kt v vt hv0 hv1 e6 i hi16 e tail ns ls made held (c7 rfl) mt ht fl la bd fa_ F' N' hq'
end
end
section
open PySem PySem.W PySem.Calls PyProof.Rows PySem.Spec
set_option Elab.async false
set_option maxRecDepth 100000
set_option maxHeartbeats 4000000
theorem offTurns : True ∧ True := by
  w_top off
  walk1 <;> trivial
section
variable {w : World} {p : Program} {loose : List Str} {mean : ExcName → Option Value} {mg mb : Str → Option Value} {A₀ : Around} {outer : List Env} {base h₀ : Heap} {L fa : Addr} {cd : Value} {m : Str → Option Value} {s : Shared} {Q : Flow → Shared → Prop} {E : Value → Shared → Prop}

abbrev itCls : Value := .type "list_iterator"
theorem TokAt.keep {t t' : List (Addr × Obj)} {v : Value} {k : Int} (h : TokAt t v k) (s : ∀ q ∈ t, q.2.cls ≠ itCls → q ∈ t') : TokAt t' v k := let ⟨T, a, b, c⟩ := h; ⟨T, a, b, fun q hq => s q (c q hq) (T.notIter q hq)⟩
theorem Rel.keep {t t' : List (Addr × Obj)} {vs : List Value} {ks : List Int} (h : Rel t vs ks) (s : ∀ q ∈ t, q.2.cls ≠ itCls → q ∈ t') : Rel t' vs ks := by
  induction h with
  | nil => exact .nil
  | cons a _ ih => exact .cons (a.keep s) ih
theorem list_ne (l : List Value) (n : Nat) : (listOf l.toArray n).cls ≠ itCls := by intro h; simp at h
theorem FlatAt.keep {t t' : List (Addr × Obj)} {fl : Nat} {ns : List Int} (h : FlatAt t fl ns) (s : ∀ q ∈ t, q.2.cls ≠ itCls → q ∈ t') : FlatAt t' fl ns := let ⟨vs, n, a, b⟩ := h.at_; ⟨vs, n, s _ a (list_ne _ _), b⟩
theorem LastAt.keep {t t' : List (Addr × Obj)} {la : Nat} {lb : Bool} (h : LastAt t la lb) (s : ∀ q ∈ t, q.2.cls ≠ itCls → q ∈ t') : LastAt t' la lb := by
  cases h with
  | nil n h => exact .nil n (s _ h (list_ne _ _))
  | one n n2 tup T tt a b c d e => exact .one n n2 tup T tt (s _ a (list_ne _ _)) (s _ b (by intro h; simp at h)) (fun q hq => s q (c q hq) (T.notIter q hq)) d e
def setIt (itr : Nat) (o : Obj) (t : List (Addr × Obj)) : List (Addr × Obj) := (itr, o) :: t.filter fun q => decide (¬ q.1 = itr)
theorem setIt_keep {h : Heap} {L : Nat} {itr evl i : Nat} {o : Obj} {l t : List (Addr × Obj)} (N : News h₀ L h (l ++ t)) (hi : (itr, itObj (.ref evl) i) ∈ t) : ∀ q ∈ t, q.2.cls ≠ itCls → q ∈ setIt itr o t := by
  intro q hq hc
  refine .tail _ (List.mem_filter.mpr ⟨hq, ?_⟩)
  refine decide_eq_true fun hqe => hc ?_
  have a := (N _ (List.mem_append_right _ hi)).1
  have b := (N q (List.mem_append_right _ hq)).1
  rw [hqe] at b
  have := a.symm.trans b
  injection this with this
  rw [← this]
theorem setIt_news {h h' : Heap} {L : Nat} {itr evl i : Nat} {o : Obj} {e : Exp} {t : List (Addr × Obj)} (N : News h₀ L h (ObjsOf e ++ t)) (hi : (itr, itObj (.ref evl) i) ∈ t) (off : ∀ q ∈ t, q.1 ∉ e.adr) (c : Heap.ExtBut itr h h') (g : h'.get? itr = some o) : News h₀ L h' (ObjsOf e ++ setIt itr o t) := by
  intro q hq
  rcases List.mem_append.mp hq with hq | hq
  · have z := N q (List.mem_append_left _ hq)
    refine ⟨c _ _ (fun he => off _ hi ?_) z.1, z.2⟩
    rw [ObjsOf_eq] at hq
    have := Exp.mem_adr hq
    rw [he] at this
    exact this
  · rcases List.mem_cons.mp hq with rfl | hq
    · exact ⟨g, (N _ (List.mem_append_right _ hi)).2⟩
    · have hf := List.mem_filter.mp hq
      have z := N q (List.mem_append_right _ hf.1)
      exact ⟨c _ _ (of_decide_eq_true hf.2) z.1, z.2⟩
theorem setIt_off {itr evl i : Nat} {o : Obj} {e : Exp} {t : List (Addr × Obj)} (hi : (itr, itObj (.ref evl) i) ∈ t) (off : ∀ q ∈ t, q.1 ∉ e.adr) : ∀ q ∈ setIt itr o t, q.1 ∉ e.adr := by
  intro q hq
  rcases List.mem_cons.mp hq with rfl | hq
  · exact off (itr, itObj (.ref evl) i) hi
  · exact off q (List.mem_filter.mp hq).1
theorem turns {R : Result → Shared → Prop} {px : Pos} (dp un : Nat) (gd : Option (List Code)) (hd : dp < 800) (hu : un < 8000) (B : Below A₀ base outer h₀) (X : (Mine.hd.heap_39 w.params).In h₀) (T : Top p loose mean mg mb h₀)
   (itr evl nE : Nat) (evs : List Value) (es : List Int) (hi : IntsAre evs es) (hes : ∀ x ∈ es, 0 ≤ x ∧ x < 32) (h16 : evs.length ≤ 16) :
   ∀ (r i : Nat) (e : Exp) (tail : List (Addr × Obj)) (ns : List Int) (made held : Int) (mt ht fl la : Nat) (lb : Bool) (s : Shared) (m : Str → Option Value), r + i = evs.length → (evl, listOf evs.toArray nE) ∈ tail → (itr, itObj (.ref evl) i) ∈ tail → LS e tail ns → Bd i e ns made held → FlatAt tail fl ns → LastAt tail la lb →
   m (Str.ofString "held") = some (.int held ht) → m (Str.ofString "flat") = some (.ref fl) → m (Str.ofString "f") = some (.ref e.f) → m (Str.ofString "last") = some (.ref la) → m (Str.ofString "made") = some (.int made mt) →
   Fr h₀ L s.heap m → News h₀ L s.heap (ObjsOf e ++ tail) →
   (∀ e' tail' ns' made' held' mt' fl' h' tk' m', LS e' tail' ns' → Bd evs.length e' ns' made' held' → FlatAt tail' fl' ns' → m' (Str.ofString "flat") = some (.ref fl') → m' (Str.ofString "f") = some (.ref e'.f) → m' (Str.ofString "made") = some (.int made' mt') → Fr h₀ L h' m' → News h₀ L h' (ObjsOf e' ++ tail') → R (.ok .next) { s with heap := h', toks := tk' }) →
   codeAny (model PySem.Challenge.rw_rk0006_01.prog w) { handled := none, depth := dp, frames := some (lawEnv L fa cd :: outer), guards := gd, units := un } (.forLoop (.Name (Str.ofString "v") px) (.ref itr) loopBody [] (lawEnv L fa cd)) R s := by
  intro r
  induction r with
  | zero =>
    intro i e tail ns made held mt ht fl la lb s m hri hev hit ls bd fa_ lat m1 m2 m3 m4 m5 F N hq
    have z := N _ (List.mem_append_right _ hit)
    refine forTurnW ?_
    refine pyNext_end (row := evl) rfl z.1 (isList_of N (List.mem_append_right _ hev)) (by simp; omega) fun h' he hc => ?_
    dsimp only
    refine wpAny_execs_nil ?_
    have kp := setIt_keep (o := itObj .none i) N hit
    obtain rfl : i = evs.length := by omega
    exact hq e _ ns made held mt fl h' _ m ⟨ls.ok, setIt_off hit ls.off, ls.rel.keep kp, ls.rng, ls.len⟩ bd (fa_.keep kp) m2 m3 m5 (Fr.ext F hc z.2.1 z.2.2) (setIt_news N hit ls.off hc he)
  | succ r ih =>
    intro i e tail ns made held mt ht fl la lb s m hri hev hit ls bd fa_ lat m1 m2 m3 m4 m5 F N hq
    have z := N _ (List.mem_append_right _ hit)
    have hilt : i < evs.length := by omega
    have hxi : evs[i]? = some evs[i] := List.getElem?_eq_getElem hilt
    obtain ⟨x, xt, hx, hxm, _⟩ := ints_at hi i _ hxi
    rw [hx] at hxi
    refine forTurnW ?_
    refine pyNext_item (row := evl) z.1 (isList_of N (List.mem_append_right _ hev)) (by simpa using hxi) fun h' he hc => ?_
    dsimp only
    have kp := setIt_keep (o := itObj (.ref evl) (i + 1)) N hit
    have F1 := F.change hc z.2.1 z.2.2
    have N1 := setIt_news N hit ls.off hc.extBut he
    refine wpAny_assign_Name ?_
    refine wpAny_storeName_local (by with_unfolding_all rfl) F1.ns (fun h2 hn2 hs2 => ?_) (by with_unfolding_all rfl)
    have F2 := F1.set hn2 hs2
    have N2 := N1.set hs2
    refine turn (m := fun y => if y = Str.ofString "v" then some (.int x xt) else m y) dp un gd hd hu B X T x xt (hes x hxm).1 (hes x hxm).2 i (by omega) e (setIt itr (itObj (.ref evl) (i + 1)) tail) ns ⟨ls.ok, setIt_off hit ls.off, ls.rel.keep kp, ls.rng, ls.len⟩ made held mt ht fl la lb bd (fa_.keep kp) (lat.keep kp) rfl m1 m2 m3 m4 m5 F2 N2 ?_
    intro e' nw ns' fl' la' lb' made' held' mt' ht' h3 tk3 m' ls' fa' lat' _ ef bd' F3 n1 n2 n3 n4 n5 N3
    dsimp only
    refine ih (i + 1) e' _ ns' made' held' mt' ht' fl' la' lb' _ m' (by omega) (List.mem_append_right _ (kp _ hev (list_ne _ _))) (List.mem_append_right _ (.head _)) ls' bd' fa' lat' n4 n2 (by rw [ef]; exact n3) n5 n1 F3 N3 ?_
    intro e2 tail2 ns2 made2 held2 mt2 fl2 h4 tk4 m4' a b c d e f g hN
    exact hq e2 tail2 ns2 made2 held2 mt2 fl2 h4 tk4 m4' a b c d e f g hN
end
end
end
section
open PySem PySem.W PySem.Calls PyProof.Rows PySem.Spec
local macro_rules | `(tactic| walk_at "call builtin:len") => `(tactic| (k_here; (with_reducible show wpAny _ _ (call (Value.builtin "len") [Value.ref _]) _ _ _); k_dflt (refine' len_L ?N ?m ?z ?_; (case N => k_asm); (case m => k_mem); (case z => kl_room)); intro t'))
section
open PySem PySem.W PySem.Calls PyProof.Rows PySem.Spec
set_option Elab.async false
set_option maxRecDepth 100000
set_option maxHeartbeats 4000000
theorem offFromL : True ∧ True := by
  w_top off
  walk1 <;> trivial
section
variable {w : World} {p : Program} {loose : List Str} {mean : ExcName → Option Value} {mg mb : Str → Option Value} {A₀ : Around} {outer : List Env} {base h₀ : Heap} {L fa : Addr} {cd : Value} {m : Str → Option Value} {s : Shared} {Q : Flow → Shared → Prop} {E : Value → Shared → Prop}

theorem from_L {prog : Program} {A : Around} {news : List (Addr × Obj)} {value slice : PySem.Expr} {l n : Nat} {vs : List Value} {ns : List Int} {x : Int} {t : Nat} {Q : Value → Shared → Prop} (F : Fr h₀ L s.heap m) (N : News h₀ L s.heap news) (hm : (l, listOf vs.toArray n) ∈ news) (hi : IntsAre vs ns) (hx : 0 ≤ x) (hz : vs.length ≤ 1000)
    (hs : subscripted slice false (.ref l) (.ref s.heap.objs.size) = operate [.ref s.heap.objs.size, .ref l] (getItem (.ref l) (.ref s.heap.objs.size))) (ht : ∀ r, letTemporaryGo value (.ref l) r = pure ())
    (h : ∀ D ws h', Fr h₀ L h' m → News h₀ L h' ((D, listOf (List.toArray ws) 0) :: news) → (∀ p ∈ news, p.1 < D) → IntsAre ws (ns.drop x.toNat) → Q (.ref D) { s with heap := h' }) :
    wpAny (model prog w) A (subscriptTail value slice (.ref l) (.ref s.heap.objs.size)) Q E { s with heap := s.heap.push { cls := .type "slice", data := .fields #[.int x t, .none, .none] } } :=
  kmk_slice_ints F N (isList_of N hm) (.int _ _) .none hi (kmk_from hi hx) rfl (fun D ws h' F N l1 hI _ _ => h D ws h' F N l1 hI) hs ht (by rw [List.size_toArray, sizeLine_eq]; omega)
end
end
section
open PySem PySem.W PySem.Calls PyProof.Rows PySem.Spec
local macro_rules | `(tactic| walk_at "eval ListComp") => `(tactic| (k_here; k_dflt (refine LCg.ListComp_U (F₀ := by k_asm) (by rfl) (by decide) (by rfl) (by decide) (by rfl) ?_)))
local macro_rules | `(tactic| walk_at "subscriptTail Name Slice ref ref") => `(tactic| (k_here; (with_reducible show wpAny _ _ (subscriptTail _ (PySem.Expr.Slice _ _ none _) (Value.ref _) (Value.ref _)) _ _ _); k_dflt (refine' from_L ?F ?N ?m ?i ?x ?z ?s ?t ?_; (case F => k_asm); (case N => k_asm); (case m => k_mem); (case i => assumption); (case x => omega); (case z => omega); (case s => with_unfolding_all rfl); (case t => (intro _; with_unfolding_all rfl))); intro D' us' h' F' N' l1 hI'; (try k_lt l1)))
section
open PySem PySem.W PySem.Calls PyProof.Rows PySem.Spec
set_option Elab.async false
set_option maxRecDepth 100000
set_option maxHeartbeats 4000000
theorem offDrainB : True ∧ True := by
  w_top off
  walk1 <;> trivial
section
variable {w : World} {p : Program} {loose : List Str} {mean : ExcName → Option Value} {mg mb : Str → Option Value} {A₀ : Around} {outer : List Env} {base h₀ : Heap} {L fa : Addr} {cd : Value} {m : Str → Option Value} {s : Shared} {Q : Flow → Shared → Prop} {E : Value → Shared → Prop}

def drainBody : List Stmt := match (lawBody[9]? : Option Stmt) with
  | some (PySem.Stmt.For _ _ b _ _) => b
  | _ => []
theorem drain_body (dp un : Nat) (gd : Option (List Code)) (hd : dp < 800) (hu : un < 8000) (B : Below A₀ base outer h₀) (X : (Mine.hd.heap_39 w.params).In h₀) (T : Top p loose mean mg mb h₀)
   (e : Exp) (tail : List (Addr × Obj)) (k : Int) (ks : List Int) (ls : LS e tail (k :: ks)) (fl : Nat) (ns : List Int) (fa_ : FlatAt tail fl ns) (hnl : ns.length ≤ 1000) (j : Nat) (pt : Nat) (hj : ns.drop j = k :: ks) (itr : Nat) (io : Obj) (hit : ∀ b ∈ ObjsOf e ++ tail, itr ≠ b.1)
   (F : Fr h₀ L s.heap m) (hm1 : m (Str.ofString "flat") = some (.ref fl)) (hm2 : m (Str.ofString "f") = some (.ref e.f)) (hm3 : m (Str.ofString "place") = some (.int j pt)) (N : News h₀ L s.heap ((itr, io) :: (ObjsOf e ++ tail)))
   (hq : ∀ e' h' tk', Exp.Step e e' → e'.flat = e.flat.tail → Fr h₀ L h' m → News h₀ L h' ((itr, io) :: (ObjsOf e' ++ tail)) → Q .next { s with heap := h', toks := tk' }) :
   wpAny (model PySem.Challenge.rw_rk0006_01.prog w) { handled := none, depth := dp, frames := some (lawEnv L fa cd :: outer), guards := gd, units := un } (execs drainBody (lawEnv L fa cd)) Q E s := by
  revert X; k_fill; intro X
  dsimp only [lawEnv]
  conv in drainBody => whnf
  conv in (occs := *) lawScope => all_goals whnf
  obtain ⟨vs, n1, hfl, hi⟩ := fa_.at_
  obtain ⟨T1, hv1, hk1, hT1, hrel⟩ := ls.head
  have hln := ls.len
  have hlen := hi.length
  simp only [List.length_cons] at hln
  have hjl : j < ns.length := by
    rcases Nat.lt_or_ge j ns.length with h | h
    · exact h
    · rw [List.drop_eq_nil_of_le h] at hj; cases hj
  k_steps
  refine expGetNext e ⟨B, F, X, T, rfl, rfl, rfl, rfl⟩ (news_swap (a := [_]) N) ?_
  k_steps
  refine next_L e ls.ok ⟨B, F, X, T, rfl, rfl, rfl, rfl⟩ (by show dp < 870; omega) (by show un < 8700; omega) (news_swap (a := [_]) N) (fun q hq => ?_) fun h1 tk1 e' F1 N1 st fl1 bl1 => ?_
  · rcases List.mem_cons.mp hq with rfl | hq
    · exact Exp.fresh_off' hit
    · exact ls.off q hq
  have N1' := news_swap (b := [_]) N1
  simp only [List.cons_append, List.nil_append] at N1'
  clear N1
  rw [hv1]
  dsimp only [List.headD]
  k_steps
  rename Fr _ _ _ _ => F2
  rename News _ _ _ _ => N2
  refine seen_L T1 ⟨B, F2, X, T, rfl, rfl, rfl, rfl⟩ (by show dp < 870; omega) (by show un < 8700; omega) N2 (fun q hq => .tail _ (List.mem_append_right _ (hT1 q hq))) fun x1 h3 tk3 F3 N3 fr3 => ?_
  dsimp only
  have hfl2 : (fl, listOf vs.toArray n1) ∈ ObjsOf e' ++ tail := List.mem_append_right _ hfl
  k_steps
  rename Fr _ _ _ _ => F4
  rename News _ _ _ _ => N4
  rename IntsAre _ _ => hI4
  have hI5 := hI4
  simp only [Int.toNat_natCast, hj] at hI5
  cases hI5 with
  | cons _ t hi5 =>
  have hz5 := hi5.length
  subst hk1
  refine due_cons_L ⟨B, F4, X, T, rfl, rfl, rfl, rfl⟩ (by show dp < 870; omega) (by show un < 8700; omega) N4 (.head _) (ls.rng _ (.head _)).1 (ls.rng _ (.head _)).2 hi5 (by omega) fun x2 h5 tk5 F5 N5 fr5 => ?_
  dsimp only
  k_steps
  rename Fr _ _ _ _ => F6
  rename News _ _ _ _ => N6
  exact hq e' _ _ st fl1 F6 (news_sub N6 fun q hq => .tail _ (.tail _ (.tail _ hq)))
end
end
end
section
open PySem PySem.W PySem.Calls PyProof.Rows PySem.Spec
local macro_rules | `(tactic| walk_at "eval ListComp") => `(tactic| (k_here; k_dflt (refine LCg.ListComp_U (F₀ := by k_asm) (by rfl) (by decide) (by rfl) (by decide) (by rfl) ?_)))
section
open PySem PySem.W PySem.Calls PyProof.Rows PySem.Spec
set_option Elab.async false
set_option maxRecDepth 100000
set_option maxHeartbeats 4000000
theorem offDrain : True ∧ True := by
  w_top off
  walk1 <;> trivial
section
variable {w : World} {p : Program} {loose : List Str} {mean : ExcName → Option Value} {mg mb : Str → Option Value} {A₀ : Around} {outer : List Env} {base h₀ : Heap} {L fa : Addr} {cd : Value} {m : Str → Option Value} {s : Shared} {Q : Flow → Shared → Prop} {E : Value → Shared → Prop}

theorem drain {R : Result → Shared → Prop} {px : Pos} (dp un : Nat) (gd : Option (List Code)) (hd : dp < 800) (hu : un < 8000) (B : Below A₀ base outer h₀) (X : (Mine.hd.heap_39 w.params).In h₀) (T : Top p loose mean mg mb h₀)
   (tail : List (Addr × Obj)) (ns : List Int) (fl : Nat) (fa_ : FlatAt tail fl ns) (hnl : ns.length ≤ 1000) (itr : Nat) (nt : ∀ b ∈ tail, itr ≠ b.1) :
   ∀ (n x : Nat) (e : Exp) (s : Shared) (m : Str → Option Value), n + x = ns.length → LS e tail (ns.drop x) → (∀ b ∈ ObjsOf e, itr ≠ b.1) → Fr h₀ L s.heap m → m (Str.ofString "flat") = some (.ref fl) → m (Str.ofString "f") = some (.ref e.f) →
   News h₀ L s.heap ((itr, ({ cls := .type "range_iterator", data := .fields #[rawInt (x : Int), rawInt (n : Int), rawInt 1] } : Obj)) :: (ObjsOf e ++ tail)) →
   (∀ e' h' tk' m', Exp.Step e e' → e'.flat = [] → Fr h₀ L h' m' → (∀ y, y ≠ Str.ofString "place" → m' y = m y) → News h₀ L h' (ObjsOf e' ++ tail) → R (.ok .next) { s with heap := h', toks := tk' }) →
   codeAny (model PySem.Challenge.rw_rk0006_01.prog w) { handled := none, depth := dp, frames := some (lawEnv L fa cd :: outer), guards := gd, units := un } (.forLoop (.Name (Str.ofString "place") px) (.ref itr) drainBody [] (lawEnv L fa cd)) R s := by
  intro n
  induction n with
  | zero =>
    intro x e s m hx ls ne F hm1 hm2 N hq
    have z := N _ (.head _)
    refine forTurnW ?_
    refine wpAny_pyNext_range_end rfl z.1 (by simp) fun h' he => ?_
    dsimp only
    refine wpAny_execs_nil ?_
    have hf : e.flat = [] := by
      rw [List.drop_eq_nil_of_le (by omega)] at ls
      exact ls.nil
    refine hq e h' _ m ⟨rfl, ls.ok, fun _ h => h, Nat.le_refl _⟩ hf (Fr.ext F he z.2.1 z.2.2) (fun _ _ => rfl) fun q hq => ?_
    have zq := N q (.tail _ hq)
    refine ⟨he _ _ ?_ zq.1, zq.2⟩
    rcases List.mem_append.mp hq with h | h
    · exact (ne q h).symm
    · exact (nt q h).symm
  | succ n ih =>
    intro x e s m hx ls ne F hm1 hm2 N hq
    have z := N _ (.head _)
    have ne' : ∀ b ∈ ObjsOf e ++ tail, itr ≠ b.1 := fun b hb => (List.mem_append.mp hb).elim (ne b) (nt b)
    obtain ⟨k, ks, hks⟩ : ∃ k ks, ns.drop x = k :: ks := by
      cases hc : ns.drop x with
      | nil => have := congrArg List.length hc; simp at this; omega
      | cons k ks => exact ⟨k, ks, rfl⟩
    have hks2 : ns.drop (x + 1) = ks := by rw [← List.tail_drop, hks]; rfl
    refine forTurnW ?_
    refine wpAny_pyNext_range_item z.1 (by omega) fun h' hit hs => ?_
    dsimp only
    have F1 := F.change hs z.2.1 z.2.2
    have N1 := News.turn N (Upd.head (o' := ({ cls := .type "range_iterator", data := .fields #[rawInt (((x + 1 : Nat)) : Int), rawInt (n : Int), rawInt 1] } : Obj)) fun q hq => (ne' q hq).symm) hs.extBut (by rw [hit]; simp [rawInt])
    refine wpAny_assign_Name ?_
    refine wpAny_storeName_local (by with_unfolding_all rfl) F1.ns (fun h2 hn2 hs2 => ?_) (by with_unfolding_all rfl)
    have F2 := F1.set hn2 hs2
    have N2 := N1.set hs2
    rw [hks] at ls
    refine drain_body (m := fun y => if y = Str.ofString "place" then some (.int x s.toks) else m y) dp un gd hd hu B X T e tail k ks ls fl ns fa_ hnl x _ hks itr _ ne' F2 hm1 hm2 rfl N2 fun e' h3 tk3 st fl3 F3 N3 => ?_
    dsimp only
    have ls' : LS e' tail (ns.drop (x + 1)) := by
      rw [hks2]
      have hl := ls.len
      simp only [List.length_cons] at hl
      obtain ⟨T1, _, _, _, hrel⟩ := ls.head
      exact ⟨st.ok, fun q hq h => ls.off q hq (st.adr _ h), by rw [fl3]; exact hrel, fun k hk => ls.rng k (.tail _ hk), by omega⟩
    refine ih (x + 1) e' _ _ (by omega) ls' (fun b hb => ?_) F3 hm1 (by rw [st.f]; exact hm2) N3 fun e2 h2 tk2 m2 st2 fl2 F2 hm N2 => ?_
    · intro hbe
      rw [ObjsOf_eq] at hb
      have hb' := st.adr _ (Exp.mem_adr hb)
      rw [← Exp.objs_adr] at hb'
      obtain ⟨q, hq, e3⟩ := List.mem_map.mp hb'
      exact ne q (by rw [ObjsOf_eq]; exact hq) (hbe.trans e3.symm)
    · refine hq e2 h2 tk2 m2 ⟨st2.f.trans st.f, st2.ok, fun a h => st.adr a (st2.adr a h), Nat.le_trans st2.ml st.ml⟩ fl2 F2 (fun y hy => ?_) N2
      rw [hm y hy]; simp [hy]
end
end
section
open PySem PySem.W PySem.Calls PyProof.Rows PySem.Spec
set_option Elab.async false
set_option maxRecDepth 100000
set_option maxHeartbeats 4000000
theorem offTwoNe : True ∧ True := by
  w_top off
  walk1 <;> trivial
section
variable {w : World} {p : Program} {loose : List Str} {mean : ExcName → Option Value} {mg mb : Str → Option Value} {A₀ : Around} {outer : List Env} {base h₀ : Heap} {L fa : Addr} {cd : Value} {m : Str → Option Value} {s : Shared} {Q : Flow → Shared → Prop} {E : Value → Shared → Prop}

theorem two_ne {prog : Program} {A : Around} {news : List (Addr × Obj)} {x1 x2 x3 : Six} {k : Int} {a b n n2 : Nat} {Q : Value → Shared → Prop} (N : News h₀ L s.heap news) (h1 : (x1.o, sixObj x1 k) ∈ news) (h2 : (x2.o, sixObj x2 k) ∈ news) (h3 : (x3.o, sixObj x3 k) ∈ news)
    (ha : (a, listOf [Value.ref x1.o, Value.ref x2.o].toArray n) ∈ news) (hb : (b, listOf [Value.ref x3.o, Value.ref x3.o].toArray n2) ∈ news) (hu : A.units + 64 < cLine) (h : Q (.bool false) s) :
    wpAny (model prog w) A (compareOp .NotEq (.ref a) (.ref b)) Q E s := by
  have rd : ∀ z : Six, (z.o, sixObj z k) ∈ news → Reads s.heap (.ref z.o) (.tuple [.str (Str.ofString "ID"), .str (valOf k), .str (spaceOf k), .bool (firstOf k), .int (k + 1), .int (2 * k + 1)]) _ := fun z hz =>
    reads_tuple_at (N.get hz) rfl rfl (.cons (Reads.str _ _) (.cons (Reads.str _ _) (.cons (Reads.str _ _) (.cons (Reads.bool _) (.cons (Reads.int _ _) (.cons (Reads.int _ _) .nil))))))
  have ra := reads_list_at (N.get ha) rfl rfl (.cons (rd x1 h1) (.cons (rd x2 h2) .nil))
  have rb := reads_list_at (N.get hb) rfl rfl (.cons (rd x3 h3) (.cons (rd x3 h3) .nil))
  have sh : SeqAt.shaped (.list [.tuple [.str (Str.ofString "ID"), .str (valOf k), .str (spaceOf k), .bool (firstOf k), .int (k + 1), .int (2 * k + 1)], .tuple [.str (Str.ofString "ID"), .str (valOf k), .str (spaceOf k), .bool (firstOf k), .int (k + 1), .int (2 * k + 1)]]) = true := by
    have e1 := strOk_val k
    have e2 := strOk_space k
    have e3 := strOk_ofString "ID"
    revert e1 e2
    generalize valOf k = v1
    generalize spaceOf k = v2
    generalize firstOf k = v3
    intro e1 e2
    simp [e1, e2, e3, SeqAt.shaped, PyData.canLay0, PyData.canLayAll0, PyData.depth, PyData.depthAll]
  refine ne_dataH ra rb sh sh hu ?_
  simp only [PyData.eqv, PyData.eqvAll, beq_self_eq_true, decide_true, Bool.and_true, Bool.not_true]
  exact h
end
end
section
open PySem PySem.W PySem.Calls PyProof.Rows PySem.Spec
set_option Elab.async false
set_option maxRecDepth 100000
set_option maxHeartbeats 4000000
theorem offEnding : True ∧ True := by
  w_top off
  walk1 <;> trivial
section
variable {w : World} {p : Program} {loose : List Str} {mean : ExcName → Option Value} {mg mb : Str → Option Value} {A₀ : Around} {outer : List Env} {base h₀ : Heap} {L fa : Addr} {cd : Value} {m : Str → Option Value} {s : Shared} {Q : Flow → Shared → Prop} {E : Value → Shared → Prop}

def endBody : List Stmt := lawBody.drop 10
theorem ending (dp un : Nat) (gd : Option (List Code)) (hd : dp < 800) (hu : un < 8000) (B : Below A₀ base outer h₀) (X : (Mine.hd.heap_39 w.params).In h₀) (T : Top p loose mean mg mb h₀)
   (e : Exp) (tail : List (Addr × Obj)) (ok : e.Ok) (off : ∀ q ∈ tail, q.1 ∉ e.adr) (hf : e.flat = []) (made : Int) (mt : Nat) (b0 : 0 ≤ made) (b1 : made < 900)
   (F : Fr h₀ L s.heap m) (hm1 : m (Str.ofString "made") = some (.int made mt)) (hm2 : m (Str.ofString "f") = some (.ref e.f)) (N : News h₀ L s.heap (ObjsOf e ++ tail))
   (hq : ∀ h' tk', (∀ b o, h₀.get? b = some o → h'.get? b = some o) → Q (.ret (.bool true)) { s with heap := h', toks := tk' }) :
   wpAny (model PySem.Challenge.rw_rk0006_01.prog w) { handled := none, depth := dp, frames := some (lawEnv L fa cd :: outer), guards := gd, units := un } (execs endBody (lawEnv L fa cd)) Q E s := by
  revert X; k_fill; intro X
  dsimp only [lawEnv]
  conv in endBody => whnf
  conv in (occs := *) lawScope => all_goals whnf
  k_steps
  refine expGetNext e ⟨B, F, X, T, rfl, rfl, rfl, rfl⟩ N ?_
  k_steps
  rename Fr _ _ _ _ => F1
  rename News _ _ _ _ => N1
  refine next_L e ok ⟨B, F1, X, T, rfl, rfl, rfl, rfl⟩ (by show dp < 870; omega) (by show un < 8700; omega) N1 off fun h1 tk1 e1 F2 N2 st1 fl1 bl1 => ?_
  rw [hf] at fl1 ⊢
  dsimp only [List.headD]
  k_steps
  dsimp only [List.tail] at fl1
  rw [← st1.f]
  refine expGetNext e1 ⟨B, F2, X, T, rfl, rfl, rfl, rfl⟩ N2 ?_
  k_steps
  rename Fr _ _ _ _ => F3
  rename News _ _ _ _ => N3
  have off1 : ∀ q ∈ tail, q.1 ∉ e1.adr := fun q hq h => off q hq (st1.adr _ h)
  refine next_L e1 st1.ok ⟨B, F3, X, T, rfl, rfl, rfl, rfl⟩ (by show dp < 870; omega) (by show un < 8700; omega) N3 off1 fun h4 tk4 e2 F4 N4 st2 fl2 bl2 => ?_
  rw [fl1] at fl2 ⊢
  dsimp only [List.headD, List.tail] at fl2 ⊢
  have bz2 : e2.buf = [] := by
    have := fl2
    unfold Exp.flat at this
    exact (List.append_eq_nil_iff.mp this).1
  k_steps
  rw [show e.f = e2.f from (st2.f.trans st1.f).symm]
  refine expGetUnget e2 ⟨B, F4, X, T, rfl, rfl, rfl, rfl⟩ N4 ?_
  k_steps
  rename Fr _ _ _ _ => F5
  rename News _ _ _ _ => N5
  have off2 : ∀ q ∈ tail, q.1 ∉ e2.adr := fun q hq h => off1 q hq (st2.adr _ h)
  refine token_L (k := made) b0 (by omega) ⟨B, F5, X, T, rfl, rfl, rfl, rfl⟩ (by show dp < 870; omega) (by show un < 8700; omega) N5 fun T1 h6 tk6 hk1 F6 N6 fr1 => ?_
  dsimp only
  k_steps
  have off3 : ∀ q ∈ T1.objs ++ tail, q.1 ∉ e2.adr := fun q hq => by
    rcases List.mem_append.mp hq with hq | hq
    · exact Exp.fresh_off' (fr1 q hq)
    · exact off2 q hq
  refine unget_L e2 st2.ok T1.a (by rw [bz2]; simp) ⟨B, F6, X, T, rfl, rfl, rfl, rfl⟩ (by show dp < 870; omega) (by show un < 8700; omega) (news_swap N6) off3 fun h7 tk7 F7 N7 st3 => ?_
  dsimp only
  have fl3 : ({ e2 with buf := .ref T1.a :: e2.buf, n := e2.n + 1 } : Exp).flat = [.ref T1.a] := by
    show Value.ref T1.a :: e2.flat = _
    rw [fl2]
  have hef3 : ({ e2 with buf := .ref T1.a :: e2.buf, n := e2.n + 1 } : Exp).f = e.f := st2.f.trans st1.f
  generalize he3 : ({ e2 with buf := .ref T1.a :: e2.buf, n := e2.n + 1 } : Exp) = e3 at N7 st3 fl3 hef3
  clear N6 N5 F6 F5
  k_steps
  rw [← hef3]
  refine peek_L e3 st3.ok ⟨B, F7, X, T, rfl, rfl, rfl, rfl⟩ (by show dp < 870; omega) (by show un < 8700; omega) N7 (fun q hq h => off3 q hq (st3.adr _ h)) fun h8 tk8 e4 F8 N8 st4 fl4 bl4 => ?_
  rw [fl3] at fl4 ⊢
  dsimp only [List.headD]
  k_steps
  rename Fr _ _ _ _ => F9
  rename News _ _ _ _ => N9
  subst hk1
  refine seen_L T1 ⟨B, F9, X, T, rfl, rfl, rfl, rfl⟩ (by show dp < 870; omega) (by show un < 8700; omega) N9 (fun q hq => List.mem_append_right _ (List.mem_append_left _ hq)) fun x1 h9 tk9 F10 N10 fr10 => ?_
  dsimp only
  k_steps
  have N10' := news_swap (a := [_]) N10
  have off4 : ∀ q ∈ (x1.o, sixObj x1 T1.k) :: (T1.objs ++ tail), q.1 ∉ e4.adr := fun q hq h => by
    rcases List.mem_cons.mp hq with rfl | hq
    · exact Exp.fresh_off' fr10 h
    · exact off3 q hq (st3.adr _ (st4.adr _ h))
  rw [show e.f = e4.f from (st4.f.trans hef3).symm]
  refine expGetNext e4 ⟨B, F10, X, T, rfl, rfl, rfl, rfl⟩ N10' ?_
  k_steps
  rename Fr _ _ _ _ => F11
  rename News _ _ _ _ => N11
  refine next_L e4 st4.ok ⟨B, F11, X, T, rfl, rfl, rfl, rfl⟩ (by show dp < 870; omega) (by show un < 8700; omega) N11 off4 fun h12 tk12 e5 F12 N12 st5 fl5 bl5 => ?_
  rw [fl4] at fl5 ⊢
  dsimp only [List.headD, List.tail] at fl5 ⊢
  k_steps
  rename Fr _ _ _ _ => F13
  rename News _ _ _ _ => N13
  refine seen_L T1 ⟨B, F13, X, T, rfl, rfl, rfl, rfl⟩ (by show dp < 870; omega) (by show un < 8700; omega) N13 (fun q hq => List.mem_append_right _ (List.mem_append_right [_] (List.mem_append_left _ hq))) fun x2 h14 tk14 F14 N14 fr14 => ?_
  dsimp only
  have hx1 : (x1.o, sixObj x1 T1.k) ∈ ObjsOf e5 ++ ([(x1.o, sixObj x1 T1.k)] ++ (T1.objs ++ tail)) := List.mem_append_right _ (.head _)
  k_steps
  rename Fr _ _ _ _ => F15
  rename News _ _ _ _ => N15
  refine due_cons_L (vs := []) (ns := []) ⟨B, F15, X, T, rfl, rfl, rfl, rfl⟩ (by show dp < 870; omega) (by show un < 8700; omega) N15 (.head _) b0 (by omega) .nil (by simp) fun x3 h16 tk16 F16 N16 fr16 => ?_
  dsimp only
  k_steps
  rename Fr _ _ _ _ => F17
  rename News _ _ _ _ => N17
  refine KMa.mul (vs := [.ref x3.o]) (ws := [.ref x3.o, .ref x3.o]) F17 N17 (isList_of N17 (.head _)) (by decide) (by decide) (by show 1 * 2 ≤ 256; decide) rfl fun D18 h18 F18 N18 l18 => ?_
  dsimp only
  refine two_ne (x1 := x1) (x2 := x2) (x3 := x3) (k := T1.k) N18 (.tail _ (.tail _ (.tail _ (.tail _ (.tail _ (.tail _ hx1)))))) (.tail _ (.tail _ (.tail _ (.tail _ (.tail _ (.head _)))))) (.tail _ (.tail _ (.head _))) (.tail _ (.tail _ (.tail _ (.tail _ (.head _))))) (.head _) (by units_room) ?_
  have N19 : News h₀ L h18 (ObjsOf e5 ++ tail) := news_sub N18 fun q hq => by
    refine .tail _ (.tail _ (.tail _ (.tail _ (.tail _ (.tail _ ?_)))))
    rcases List.mem_append.mp hq with hq | hq
    · exact List.mem_append_left _ hq
    · exact List.mem_append_right _ (List.mem_append_right [_] (List.mem_append_right _ hq))
  clear N18 N17 F17
  k_steps
  have hef5 : e5.f = e.f := st5.f.trans (st4.f.trans hef3)
  rw [← hef5]
  refine expGetNext e5 ⟨B, F18, X, T, rfl, rfl, rfl, rfl⟩ N19 ?_
  k_steps
  rename Fr _ _ _ _ => F20
  rename News _ _ _ _ => N20
  refine next_L e5 st5.ok ⟨B, F20, X, T, rfl, rfl, rfl, rfl⟩ (by show dp < 870; omega) (by show un < 8700; omega) N20 (fun q hq h => off2 q hq (st3.adr _ (st4.adr _ (st5.adr _ h)))) fun h21 tk21 e6 F21 N21 st6 fl6 bl6 => ?_
  rw [fl5] at fl6 ⊢
  dsimp only [List.headD]
  k_steps

  rename Fr _ _ _ _ => F22
  exact hq _ _ F22.keep
end
end
end
section
open PySem PySem.W PySem.Calls PyProof.Rows PySem.Spec
set_option Elab.async false
set_option maxRecDepth 100000
set_option maxHeartbeats 4000000
theorem offExtL : True ∧ True := by
  w_top off
  walk1 <;> trivial
section
variable {w : World} {p : Program} {loose : List Str} {mean : ExcName → Option Value} {mg mb : Str → Option Value} {A₀ : Around} {outer : List Env} {base h₀ : Heap} {L fa : Addr} {cd : Value} {m : Str → Option Value} {s : Shared} {Q : Flow → Shared → Prop} {E : Value → Shared → Prop}

theorem ext_L {prog : Program} {A : Around} {news : List (Addr × Obj)} {D b n n2 : Nat} {evs ws : List Value} {news' : Nat → List (Addr × Obj)} {Q : Value → Shared → Prop} (F : Fr h₀ L s.heap m) (N : News h₀ L s.heap news) (hb : (b, listOf ws.toArray n2) ∈ news)
    (U : ∀ n', Upd D (listOf evs.toArray n) (listOf (evs ++ ws).toArray n') news (news' n')) (hz : evs.length ≤ 500) (hz2 : ws.length ≤ 500) 
    (h : ∀ h' n', Fr h₀ L h' m → News h₀ L h' (news' n') → Q .none { s with heap := h' }) : wpAny (model prog w) A (call (.builtin "list.extend") [.ref D, .ref b]) Q E s := by
  have hdoor : ¬(!evs.toArray.isEmpty && Builtin.List.listTooLong (evs.toArray.size + ws.toArray.size)) = true := by
    refine extend_door ?_
    rw [List.size_toArray, List.size_toArray, sizeLine_eq]; omega
  cases ws with
  | nil =>
    have Un := U n
    rw [List.append_nil] at Un
    refine kxn_extend F N hb rfl Un hdoor ?_ ?_ fun h' F' N' => h h' n F' N'
    · rw [sizeLine_eq]; simpa using Nat.le_trans hz (by omega)
    · rw [sizeLine_eq]; simp; omega
  | cons a r =>
    refine kl_extend F N hb (by simp) (by simp) (U (n + 1)) hdoor ?_ ?_ fun h' F' N' => h h' (n + 1) F' N'
    · rw [sizeLine_eq]; simp; omega
    · rw [sizeLine_eq]; simp at hz2 ⊢; omega
end
end
section
open PySem PySem.W PySem.Calls PyProof.Rows PySem.Spec
set_option Elab.async false
set_option maxRecDepth 100000
set_option maxHeartbeats 4000000
theorem offExt : True ∧ True := by
  w_top off
  walk1 <;> trivial
section
variable {w : World} {p : Program} {loose : List Str} {mean : ExcName → Option Value} {mg mb : Str → Option Value} {A₀ : Around} {outer : List Env} {base h₀ : Heap} {L fa : Addr} {cd : Value} {m : Str → Option Value} {s : Shared} {Q : Flow → Shared → Prop} {E : Value → Shared → Prop}

def extBody : List Stmt := match (lawBody[2]? : Option Stmt) with
  | some (PySem.Stmt.For _ _ b _ _) => b
  | _ => []
theorem ext_turn (dp un : Nat) (gd : Option (List Code)) (hd : dp < 800) (hu : un < 8000) (B : Below A₀ base outer h₀) (X : (Mine.hd.heap_39 w.params).In h₀) (T : Top p loose mean mg mb h₀)
   (evl nl sl it : Nat) (evs yn : List Value) (es qs : List Int) (n n2 : Nat) (so ito : Obj) (hie : IntsAre evs es) (hiq : IntsAre yn qs) (hql : qs.length ≤ 16) (hel : es.length ≤ 64) (sh : Int) (st : Nat) (hsh : sh = 1 ∨ sh = 32 ∨ sh = 1024 ∨ sh = 32768) (co : Obj) (hco : co.data = .cell (some (.int sh st)))
   (d1 : evl ≠ nl) (d2 : evl ≠ L + 1) (d3 : evl ≠ sl) (d4 : evl ≠ it)
   (hm1 : m (Str.ofString "events") = some (.ref evl)) (hm2 : m (Str.ofString "nums") = some (.ref nl))
   (F : Fr h₀ L s.heap m) (N : News h₀ L s.heap [(evl, listOf evs.toArray n), (nl, listOf yn.toArray n2), (L + 1, co), (sl, so), (it, ito)])
   (hq : ∀ ws h' tk' n', IntsAre ws (qs.map fun a => (a.fdiv sh).fmod 32) → Fr h₀ L h' m → News h₀ L h' [(evl, listOf (evs ++ ws).toArray n'), (nl, listOf yn.toArray n2), (L + 1, co), (sl, so), (it, ito)] → Q .next { s with heap := h', toks := tk' }) :
   wpAny (model PySem.Challenge.rw_rk0006_01.prog w) { handled := none, depth := dp, frames := some (lawEnv L fa cd :: outer), guards := gd, units := un } (execs extBody (lawEnv L fa cd)) Q E s := by
  revert X; k_fill; intro X
  dsimp only [lawEnv]
  conv in extBody => whnf
  conv in (occs := *) lawScope => all_goals whnf
  rcases hsh with rfl | rfl | rfl | rfl
  all_goals k_steps
  all_goals (rename Fr _ _ _ _ => F2; rename News _ _ _ _ => N2; rename IntsAre _ _ => hI2)
  all_goals (
    refine ext_L F2 N2 (.head _) (news' := fun n' => [_, (evl, listOf (evs ++ ys).toArray n'), (nl, listOf yn.toArray n2), (L + 1, co), (sl, so), (it, ito)]) (fun n' => .tail (by first | k_ne | (intro h; simp_all; done)) (.head fun q hq => ?_)) (by rw [hie.length]; omega) (by rw [hI2.length, List.length_map]; omega) fun h' n' F3 N3 => ?_
    · simp only [List.mem_cons, List.not_mem_nil, or_false] at hq
      rcases hq with rfl | rfl | rfl | rfl
      · exact fun z => d1 z.symm
      · exact fun z => d2 z.symm
      · exact fun z => d3 z.symm
      · exact fun z => d4 z.symm
    · refine wpAny_execs_nil ?_
      exact hq _ h' _ n' hI2 F3 (news_sub N3 fun q hq => .tail _ hq))
end
end
section
open PySem PySem.W PySem.Calls PyProof.Rows PySem.Spec
set_option Elab.async false
set_option maxRecDepth 100000
set_option maxHeartbeats 4000000
theorem offShift : True ∧ True := by
  w_top off
  walk1 <;> trivial
section
variable {w : World} {p : Program} {loose : List Str} {mean : ExcName → Option Value} {mg mb : Str → Option Value} {A₀ : Around} {outer : List Env} {base h₀ : Heap} {L fa : Addr} {cd : Value} {m : Str → Option Value} {s : Shared} {Q : Flow → Shared → Prop} {E : Value → Shared → Prop}

theorem shift_loop {R : Result → Shared → Prop} {px : Pos} (dp un : Nat) (gd : Option (List Code)) (hd : dp < 800) (hu : un < 8000) (B : Below A₀ base outer h₀) (X : (Mine.hd.heap_39 w.params).In h₀) (T : Top p loose mean mg mb h₀)
   (evl nl sl it : Nat) (sls yn : List Value) (qs : List Int) (n2 n3 : Nat) (hsl : IntsAre sls [1, 32, 1024, 32768]) (hiq : IntsAre yn qs) (hql : qs.length ≤ 16)
   (d1 : evl ≠ nl) (d2 : evl ≠ L + 1) (d3 : evl ≠ sl) (d4 : evl ≠ it) (d5 : nl ≠ it) (d6 : L + 1 ≠ it) (d7 : sl ≠ it) (d8 : nl ≠ L + 1) (d9 : sl ≠ L + 1)
   (hm1 : m (Str.ofString "events") = some (.ref evl)) (hm2 : m (Str.ofString "nums") = some (.ref nl)) :
   ∀ (r i : Nat) (evs : List Value) (es : List Int) (n : Nat) (co : Obj) (v0 : Option Value) (s : Shared), r + i = 4 → IntsAre evs es → es.length ≤ 16 * i → (∀ x ∈ es, 0 ≤ x ∧ x < 32) → co.data = .cell v0 → Fr h₀ L s.heap m →
   News h₀ L s.heap [(evl, listOf evs.toArray n), (nl, listOf yn.toArray n2), (L + 1, co), (sl, listOf sls.toArray n3), (it, itObj (.ref sl) i)] →
   (∀ evs' es' n' h' tk', IntsAre evs' es' → es'.length ≤ 64 → (∀ x ∈ es', 0 ≤ x ∧ x < 32) → Fr h₀ L h' m → News h₀ L h' [(evl, listOf evs'.toArray n'), (nl, listOf yn.toArray n2)] → R (.ok .next) { s with heap := h', toks := tk' }) →
   codeAny (model PySem.Challenge.rw_rk0006_01.prog w) { handled := none, depth := dp, frames := some (lawEnv L fa cd :: outer), guards := gd, units := un } (.forLoop (.Name (Str.ofString "shift") px) (.ref it) extBody [] (lawEnv L fa cd)) R s := by
  have hsll : sls.length = 4 := hsl.length
  intro r
  induction r with
  | zero =>
    intro i evs es n co v0 s hri hie hel heb hco F N hq
    have z := N _ (.tail _ (.tail _ (.tail _ (.tail _ (.head _)))))
    refine forTurnW ?_
    refine pyNext_end (row := sl) rfl z.1 (isList_of N (.tail _ (.tail _ (.tail _ (.head _))))) (by simp; omega) fun h' he hc => ?_
    dsimp only
    refine wpAny_execs_nil ?_
    refine hq evs es n h' _ hie (by omega) heb (Fr.ext F hc z.2.1 z.2.2) fun q hq => ?_
    have hq2 : q.1 ≠ it := by
      simp only [List.mem_cons, List.not_mem_nil, or_false] at hq
      rcases hq with rfl | rfl
      · exact d4
      · exact d5
    have zq := N q (by simp only [List.mem_cons, List.not_mem_nil, or_false] at hq ⊢; rcases hq with h | h <;> simp [h])
    exact ⟨hc _ _ hq2 zq.1, zq.2⟩
  | succ r ih =>
    intro i evs es n co v0 s hri hie hel heb hco F N hq
    have z := N _ (.tail _ (.tail _ (.tail _ (.tail _ (.head _)))))
    have hilt : i < sls.length := by omega
    have hxi : sls[i]? = some sls[i] := List.getElem?_eq_getElem hilt
    obtain ⟨sh, st, hx, hxm, _⟩ := ints_at hsl i _ hxi
    rw [hx] at hxi
    have hsh : sh = 1 ∨ sh = 32 ∨ sh = 1024 ∨ sh = 32768 := by simpa using hxm
    refine forTurnW ?_
    refine pyNext_item (row := sl) z.1 (isList_of N (.tail _ (.tail _ (.tail _ (.head _))))) (by simpa using hxi) fun h' he hc => ?_
    dsimp only
    have F1 := F.change hc z.2.1 z.2.2
    have N1 : News h₀ L h' [(evl, listOf evs.toArray n), (nl, listOf yn.toArray n2), (L + 1, co), (sl, listOf sls.toArray n3), (it, itObj (.ref sl) (i + 1))] :=
      News.turn N (.tail d4 (.tail d5 (.tail d6 (.tail d7 (.head (by intro q hq; cases hq)))))) hc.extBut he
    refine wpAny_assign_Name ?_
    have zc := N1 _ (.tail _ (.tail _ (.head _)))
    refine wpAny_storeName_cell rfl (by with_unfolding_all rfl) (c := L + 1) (by with_unfolding_all rfl) ⟨co, zc.1, hco⟩ fun h2 hv hs2 => ?_
    obtain ⟨co2, hg2, hd2⟩ := hv
    have F2 := F1.change hs2 zc.2.1 zc.2.2
    have N2 : News h₀ L h2 [(evl, listOf evs.toArray n), (nl, listOf yn.toArray n2), (L + 1, co2), (sl, listOf sls.toArray n3), (it, itObj (.ref sl) (i + 1))] :=
      News.turn N1 (.tail d2 (.tail d8 (.head (by
        intro q hq
        simp only [List.mem_cons, List.not_mem_nil, or_false] at hq
        rcases hq with rfl | rfl
        · exact d9
        · exact fun h => d6 h.symm)))) hs2.extBut hg2
    refine ext_turn dp un gd hd hu B X T evl nl sl it evs yn es qs n n2 _ _ hie hiq hql (by omega) sh st hsh co2 hd2 d1 d2 d3 d4 hm1 hm2 F2 N2 fun ws h3 tk3 n' hiw F3 N3 => ?_
    dsimp only
    refine ih (i + 1) (evs ++ ws) _ n' co2 _ _ (by omega) (hie.append hiw) ?_ ?_ hd2 F3 N3 fun evs' es' n'' h' tk' a b c d e => hq evs' es' n'' h' tk' a b c d e
    · rw [List.length_append, List.length_map]; omega
    · intro x hx
      rcases List.mem_append.mp hx with hx | hx
      · exact heb x hx
      · obtain ⟨y, _, rfl⟩ := List.mem_map.mp hx
        rw [Int.fmod_eq_emod_of_nonneg _ (by omega)]
        omega
end
end
section
open PySem PySem.W PySem.Calls PyProof.Rows PySem.Spec
set_option Elab.async false
set_option maxRecDepth 100000
set_option maxHeartbeats 4000000
theorem offPre1 : True ∧ True := by
  w_top off
  walk1 <;> trivial
section
variable {w : World} {p : Program} {loose : List Str} {mean : ExcName → Option Value} {mg mb : Str → Option Value} {A₀ : Around} {outer : List Env} {base h₀ : Heap} {L fa : Addr} {cd : Value} {m : Str → Option Value} {s : Shared} {Q : Flow → Shared → Prop} {E : Value → Shared → Prop}

def ls0 : Stmt := match lawBody with | a :: _ => a | [] => .Pass ⟨0, 0, 0, 0⟩
def ls1 : Stmt := match lawBody with | _ :: a :: _ => a | _ => .Pass ⟨0, 0, 0, 0⟩
theorem pre1 (ch : List Stmt) (dp un : Nat) (gd : Option (List Code)) (hd : dp < 800) (hu : un < 8000) (B : Below A₀ base outer h₀) (X : (Mine.hd.heap_39 w.params).In h₀) (T : Top p loose mean mg mb h₀)
   (a : Nat) (vs : List Value) (ns : List Int) (hl : h₀.IsList a vs.toArray) (hi : IntsAre vs ns) (hlen : ns.length ≤ 63) (hm : m (Str.ofString "script") = some (.ref a)) (co : Obj)
   (F : Fr h₀ L s.heap m) (N : News h₀ L s.heap [(L + 1, co)])
   (hq : ∀ evl nl yn h' tk' m', IntsAre yn ((ns.take 16).map fun a => a.fmod 1048576) → @Ne Nat evl nl → @Ne Nat evl (L + 1) → @Ne Nat nl (L + 1) → m' (Str.ofString "events") = some (.ref evl) → m' (Str.ofString "nums") = some (.ref nl) → Fr h₀ L h' m' → News h₀ L h' [(evl, listOf ([] : List Value).toArray 0), (nl, listOf yn.toArray yn.length), (L + 1, co)] →
     wpAny (model PySem.Challenge.rw_rk0006_01.prog w) { handled := none, depth := dp, frames := some (lawEnv L fa cd :: outer), guards := gd, units := un } (execs ch (lawEnv L fa cd)) Q E { s with heap := h', toks := tk' }) :
   wpAny (model PySem.Challenge.rw_rk0006_01.prog w) { handled := none, depth := dp, frames := some (lawEnv L fa cd :: outer), guards := gd, units := un } (execs (ls0 :: ls1 :: ch) (lawEnv L fa cd)) Q E s := by
  revert X; k_fill; intro X
  dsimp only [lawEnv] at hq ⊢
  have hls : lawScope = lawScope := rfl
  conv at hls => lhs; whnf
  rw [← hls] at hq
  conv in ls0 => whnf
  conv in ls1 => whnf
  conv in (occs := *) lawScope => all_goals whnf
  k_steps
  rename Fr _ _ _ _ => F2
  rename News _ _ _ _ => N2
  rename IntsAre _ (List.map _ _) => hI2
  exact hq _ _ _ _ _ _ hI2 (by k_ne) (by k_ne) (by k_ne) rfl rfl F2 (news_sub N2 fun q hq => by simp only [List.mem_cons, List.not_mem_nil, or_false] at hq ⊢; rcases hq with h | h | h <;> simp [h])
end
end
section
open PySem PySem.W PySem.Calls PyProof.Rows PySem.Spec
set_option Elab.async false
set_option maxRecDepth 100000
set_option maxHeartbeats 4000000
theorem offPre2 : True ∧ True := by
  w_top off
  walk1 <;> trivial
section
variable {w : World} {p : Program} {loose : List Str} {mean : ExcName → Option Value} {mg mb : Str → Option Value} {A₀ : Around} {outer : List Env} {base h₀ : Heap} {L fa : Addr} {cd : Value} {m : Str → Option Value} {s : Shared} {Q : Flow → Shared → Prop} {E : Value → Shared → Prop}

theorem pyIterList_L {prog : Program} {A : Around} {news : List (Addr × Obj)} {d n : Nat} {l : List Value} {Q : Value → Shared → Prop} (F : Fr h₀ L s.heap m) (N : News h₀ L s.heap news) (hm : (d, listOf l.toArray n) ∈ news)
    (h : ∀ I h', Fr h₀ L h' m → News h₀ L h' ((I, itObj (.ref d) 0) :: news) → (∀ p ∈ news, p.1 < I) → Q (.ref I) { s with heap := h' }) :
    wpAny (model prog w) A (pyIter (.ref d)) Q E s :=
  wpAny_pyIter_list (isList_of N hm) (h _ _ (F.push _) (News.push F N _ rfl) fun q hq => Heap.lt_size (N q hq).1)
def ls2 : Stmt := match lawBody with | _ :: _ :: a :: _ => a | _ => .Pass ⟨0, 0, 0, 0⟩
theorem pre2 (ch : List Stmt) (dp un : Nat) (gd : Option (List Code)) (hd : dp < 800) (hu : un < 8000) (B : Below A₀ base outer h₀) (X : (Mine.hd.heap_39 w.params).In h₀) (T : Top p loose mean mg mb h₀)
   (evl nl : Nat) (yn : List Value) (qs : List Int) (n2 : Nat) (hiq : IntsAre yn qs) (hql : qs.length ≤ 16) (d1 : evl ≠ nl) (d2 : evl ≠ L + 1) (d8 : nl ≠ L + 1) (co : Obj) (v0 : Option Value) (hco : co.data = .cell v0)
   (hm1 : m (Str.ofString "events") = some (.ref evl)) (hm2 : m (Str.ofString "nums") = some (.ref nl))
   (F : Fr h₀ L s.heap m) (N : News h₀ L s.heap [(evl, listOf ([] : List Value).toArray 0), (nl, listOf yn.toArray n2), (L + 1, co)])
   (hq : ∀ evs' es' n' h' tk', IntsAre evs' es' → es'.length ≤ 64 → (∀ x ∈ es', 0 ≤ x ∧ x < 32) → Fr h₀ L h' m → News h₀ L h' [(evl, listOf evs'.toArray n'), (nl, listOf yn.toArray n2)] → 
     wpAny (model PySem.Challenge.rw_rk0006_01.prog w) { handled := none, depth := dp, frames := some (lawEnv L fa cd :: outer), guards := gd, units := un } (execs ch (lawEnv L fa cd)) Q E { s with heap := h', toks := tk' }) :
   wpAny (model PySem.Challenge.rw_rk0006_01.prog w) { handled := none, depth := dp, frames := some (lawEnv L fa cd :: outer), guards := gd, units := un } (execs (ls2 :: ch) (lawEnv L fa cd)) Q E s := by
  have X0 := X
  revert X; k_fill; intro X
  dsimp only [lawEnv] at hq ⊢
  have hls : lawScope = lawScope := rfl
  conv at hls => lhs; whnf
  rw [← hls] at hq
  conv in ls2 => whnf
  conv in (occs := *) lawScope => all_goals whnf
  refine wpAny_execs_cons ?_
  refine wpAny_For ?_
  k_steps
  rename Fr _ _ _ _ => F2
  rename News _ _ _ _ => N2
  refine pyIterList_L (l := [.int 1 s.toks, .int 32 (s.toks + 1), .int 1024 (s.toks + 1 + 1), .int 32768 (s.toks + 1 + 1 + 1)]) F2 N2 (.head _) fun I7 h7 F7 N7 l7 => ?_
  dsimp only
  have e1 : @LT.lt Nat _ _ I7 := l7 _ (.head _)
  have e2 : @LT.lt Nat _ evl I7 := l7 _ (.tail _ (.head _))
  have e3 : @LT.lt Nat _ nl I7 := l7 _ (.tail _ (.tail _ (.head _)))
  have e4 : @LT.lt Nat _ (L + 1) I7 := l7 _ (.tail _ (.tail _ (.tail _ (.head _))))
  refine shift_loop dp un gd hd hu B X0 T evl nl _ I7 [.int 1 s.toks, .int 32 (s.toks + 1), .int 1024 (s.toks + 1 + 1), .int 32768 (s.toks + 1 + 1 + 1)] yn qs n2 0 (.cons _ _ (.cons _ _ (.cons _ _ (.cons _ _ .nil)))) hiq hql d1 d2 (by k_ne) (Nat.ne_of_lt e2) (Nat.ne_of_lt e3) (Nat.ne_of_lt e4) (Nat.ne_of_lt e1) d8 (by k_ne) hm1 hm2 4 0 [] [] 0 co v0 _ rfl .nil (by simp) (fun x hx => by cases hx) hco F7 (news_sub N7 fun q hq => by simp only [List.mem_cons, List.not_mem_nil, or_false] at hq ⊢; rcases hq with h | h | h | h | h <;> simp [h]) fun evs' es' n' h' tk' a b c d e => ?_
  dsimp only
  exact hq evs' es' n' h' tk' a b c d e
end
end
section
open PySem PySem.W PySem.Calls PyProof.Rows PySem.Spec
local macro_rules | `(tactic| walk_at "eval ListComp") => `(tactic| (k_here; k_dflt (refine LCg.ListComp_U (F₀ := by k_asm) (by rfl) (by decide) (by rfl) (by decide) (by rfl) ?_)))
section
open PySem PySem.W PySem.Calls PyProof.Rows PySem.Spec
set_option Elab.async false
set_option maxRecDepth 100000
set_option maxHeartbeats 4000000
theorem offPre3 : True ∧ True := by
  w_top off
  walk1 <;> trivial
section
variable {w : World} {p : Program} {loose : List Str} {mean : ExcName → Option Value} {mg mb : Str → Option Value} {A₀ : Around} {outer : List Env} {base h₀ : Heap} {L fa : Addr} {cd : Value} {m : Str → Option Value} {s : Shared} {Q : Flow → Shared → Prop} {E : Value → Shared → Prop}

def ls3 : Stmt := match (lawBody[3]? : Option Stmt) with | some a => a | _ => .Pass ⟨0, 0, 0, 0⟩
theorem pre3 (ch : List Stmt) (dp un : Nat) (gd : Option (List Code)) (hd : dp < 800) (hu : un < 8000) (B : Below A₀ base outer h₀) (X : (Mine.hd.heap_39 w.params).In h₀) (T : Top p loose mean mg mb h₀)
   (evl nl : Nat) (evs yn : List Value) (qs : List Int) (n2 n : Nat) (hiq : IntsAre yn qs) (hql : qs.length ≤ 16) (d1 : evl ≠ nl)
   (hm1 : m (Str.ofString "events") = some (.ref evl)) (hm2 : m (Str.ofString "nums") = some (.ref nl))
   (F : Fr h₀ L s.heap m) (N : News h₀ L s.heap [(evl, listOf evs.toArray n), (nl, listOf yn.toArray n2)])
   (hq : ∀ made mt h' tk' m', 0 ≤ made → made < 7 → m' (Str.ofString "made") = some (.int made mt) → m' (Str.ofString "events") = some (.ref evl) → Fr h₀ L h' m' → News h₀ L h' [(evl, listOf evs.toArray n)] →
     wpAny (model PySem.Challenge.rw_rk0006_01.prog w) { handled := none, depth := dp, frames := some (lawEnv L fa cd :: outer), guards := gd, units := un } (execs ch (lawEnv L fa cd)) Q E { s with heap := h', toks := tk' }) :
   wpAny (model PySem.Challenge.rw_rk0006_01.prog w) { handled := none, depth := dp, frames := some (lawEnv L fa cd :: outer), guards := gd, units := un } (execs (ls3 :: ch) (lawEnv L fa cd)) Q E s := by
  revert X; k_fill; intro X
  dsimp only [lawEnv] at hq ⊢
  have hls : lawScope = lawScope := rfl
  conv at hls => lhs; whnf
  rw [← hls] at hq
  conv in ls3 => whnf
  conv in (occs := *) lawScope => all_goals whnf
  k_steps
  rename Fr _ _ _ _ => F2
  rename News _ _ _ _ => N2
  have hb : 0 ≤ Int.fmod qs.sum 7 ∧ Int.fmod qs.sum 7 < 7 := ⟨Int.fmod_nonneg_of_pos _ (by decide), Int.fmod_lt_of_pos _ (by decide)⟩
  exact hq (6 - Int.fmod qs.sum 7) _ _ _ _ (by omega) (by omega) rfl (by exact hm1) F2 (news_sub N2 fun q hq => by rw [List.mem_singleton.mp hq]; exact .head _)
end
end
end
section
open PySem PySem.W PySem.Calls PyProof.Rows PySem.Spec
set_option Elab.async false
set_option maxRecDepth 100000
set_option maxHeartbeats 4000000
theorem offHoldT : True ∧ True := by
  w_top off
  walk1 <;> trivial
section
variable {w : World} {p : Program} {loose : List Str} {mean : ExcName → Option Value} {mg mb : Str → Option Value} {A₀ : Around} {outer : List Env} {base h₀ : Heap} {L fa : Addr} {cd : Value} {m : Str → Option Value} {s : Shared} {Q : Flow → Shared → Prop} {E : Value → Shared → Prop}

@[irreducible] def Hold (P : Prop) : Prop := P
theorem Hold.mk {P : Prop} (h : P) : Hold P := by rw [Hold]; exact h
theorem listComp_hold {prog : Program} {A : Around} {env : Env} {elt iter : PySem.Expr} {x : Str} {px : Pos} {scope : Scope} {cl : List (Str × Addr)} {pos : Pos} {Q : Value → Shared → Prop} (F₀ : Fr h₀ L s.heap m)
    (hclos : closureFor scope env = pure cl) (hcell : ∀ y ∈ scope.names, y.2 ≠ .cell) (hkind : scope.kind = .function)
    (hnames : ∀ y ∈ scope.names, y.2 = .local → scope.names.lookup y.1 = some .local) (hx : scope.names.lookup x = some .local)
    (h : wpAny (model prog w) A (eval iter env) (fun xv s₁ => Hold (LCg.CompSrc prog w A h₀ L m env elt x scope cl (fun s₂ => LCg.FinE h₀ L m s₂ Q) xv s₁)) E s)
    (hs : ∀ x, foldedSetIterable iter env x = pure x := by intro _; rfl) :
    wpAny (model prog w) A (eval (.ListComp elt [⟨.Name x px, iter, [], 0⟩] scope pos) env) Q E s :=
  LCg.ListComp_U F₀ hclos hcell hkind hnames hx (wpAny_mono h (fun _ _ z => by rw [Hold] at z; exact z) fun _ _ e => e) hs
end
end
section
open PySem PySem.W PySem.Calls PyProof.Rows PySem.Spec
set_option Elab.async false
set_option maxRecDepth 100000
set_option maxHeartbeats 4000000
theorem offExpM : True ∧ True := by
  w_top off
  walk1 <;> trivial
section
variable {w : World} {p : Program} {loose : List Str} {mean : ExcName → Option Value} {mg mb : Str → Option Value} {A₀ : Around} {outer : List Env} {base h₀ : Heap} {L fa : Addr} {cd : Value} {m : Str → Option Value} {s : Shared} {Q : Flow → Shared → Prop} {E : Value → Shared → Prop}

def pick8 {α : Type} (a b c d e f g h : α) : Nat → α
  | 0 => a | 1 => b | 2 => c | 3 => d | 4 => e | 5 => f | 6 => g | _ => h
theorem exp_made {la mx tb f fd it row nm nt dn rn : Nat} {i1 i2 : Addr × Obj} {g0 g1 g2 g3 g4 g5 g6 g7 : Int} {k0 k1 k2 k3 k4 k5 k6 k7 pt : Nat} {sf dp ifs : Value} {vs : List Value} {rest : List (Addr × Obj)} {h : Heap}
    (N : News h₀ L h ((la, listOf ([] : List Value).toArray 0) :: (mx, listOf ([] : List Value).toArray nm) :: (tb, listOf ([] : List Value).toArray nt) :: i1 :: i2 :: (f, instObj 67 fd) :: (fd, dictOf [⟨g0, .str (Str.ofString "source_file") k0, sf⟩, ⟨g1, .str (Str.ofString "dependencies") k1, dp⟩, ⟨g2, .str (Str.ofString "if_stack") k2, ifs⟩, ⟨g3, .str (Str.ofString "token_buffer") k3, .ref tb⟩,
       ⟨g4, .str (Str.ofString "tokens") k4, .ref it⟩, ⟨g5, .str (Str.ofString "macro_expansions") k5, .ref mx⟩, ⟨g6, .str (Str.ofString "in_directive") k6, .bool false⟩, ⟨g7, .str (Str.ofString "paren_level") k7, .int 0 pt⟩] dn) :: (it, itObj (.ref row) 0) :: (row, listOf vs.toArray rn) :: rest))
    (hv : ∀ v ∈ vs, ∃ a, v = .ref a) (nd : [f, fd, tb, mx, it, row].Nodup) (hfar : ∀ a ∈ [f, fd, tb, mx, it, row], ∀ b ∈ rest, @Ne Nat a b.1) (hla : la ∉ [f, fd, tb, mx, it, row]) :
    ∃ e : Exp, e.f = f ∧ e.flat = vs ∧ e.buf = [] ∧ e.macs = [] ∧ e.adr = [f, fd, tb, mx, it, row] ∧ e.Ok ∧ (∀ q ∈ (la, listOf ([] : List Value).toArray 0) :: rest, q.1 ∉ e.adr) ∧ News h₀ L h (ObjsOf e ++ ((la, listOf ([] : List Value).toArray 0) :: rest)) := by
  refine ⟨⟨f, fd, tb, mx, it, row, pick8 g0 g1 g2 g3 g4 g5 g6 g7, pick8 k0 k1 k2 k3 k4 k5 k6 k7, sf, dp, ifs, pt, dn, vs, rn, [], nt, [], nm, .ref row, 0⟩, rfl, rfl, rfl, rfl, rfl, ⟨nd, .inl rfl, hv, fun v h => (by cases h), fun v h => (by cases h), (by simp), (by simp)⟩, ?_, ?_⟩
  · intro q hq hm
    rcases List.mem_cons.mp hq with rfl | hq
    · exact hla hm
    · exact hfar _ hm q hq rfl
  refine news_sub N fun q hq => ?_
  rw [ObjsOf_eq] at hq
  unfold Exp.objs Exp.six at hq
  rcases List.mem_append.mp hq with hq | hq
  · simp only [List.append_nil, macsObjs, List.flatMap_nil, List.mem_cons, List.not_mem_nil, or_false] at hq
    rcases hq with rfl | rfl | rfl | rfl | rfl | rfl
    · exact .tail _ (.tail _ (.tail _ (.tail _ (.tail _ (.head _)))))
    · exact .tail _ (.tail _ (.tail _ (.tail _ (.tail _ (.tail _ (.head _))))))
    · exact .tail _ (.tail _ (.head _))
    · exact .tail _ (.head _)
    · exact .tail _ (.tail _ (.tail _ (.tail _ (.tail _ (.tail _ (.tail _ (.head _)))))))
    · exact .tail _ (.tail _ (.tail _ (.tail _ (.tail _ (.tail _ (.tail _ (.tail _ (.head _))))))))
  · rcases List.mem_cons.mp hq with rfl | hq
    · exact .head _
    · exact .tail _ (.tail _ (.tail _ (.tail _ (.tail _ (.tail _ (.tail _ (.tail _ (.tail _ hq))))))))
end
end
section
open PySem PySem.W PySem.Calls PyProof.Rows PySem.Spec
local macro_rules | `(tactic| walk_at "eval ListComp") => `(tactic| (k_here; k_dflt (refine listComp_hold (F₀ := by k_asm) (by rfl) (by decide) (by rfl) (by decide) (by rfl) ?_)))
section
open PySem PySem.W PySem.Calls PyProof.Rows PySem.Spec
set_option Elab.async false
set_option maxRecDepth 100000
set_option maxHeartbeats 4000000
theorem offPre4 : True ∧ True := by
  w_top off
  walk1 <;> trivial
section
variable {w : World} {p : Program} {loose : List Str} {mean : ExcName → Option Value} {mg mb : Str → Option Value} {A₀ : Around} {outer : List Env} {base h₀ : Heap} {L fa : Addr} {cd : Value} {m : Str → Option Value} {s : Shared} {Q : Flow → Shared → Prop} {E : Value → Shared → Prop}

def ls4 : Stmt := match (lawBody[4]? : Option Stmt) with | some a => a | _ => .Pass ⟨0, 0, 0, 0⟩
def ls5 : Stmt := match (lawBody[5]? : Option Stmt) with | some a => a | _ => .Pass ⟨0, 0, 0, 0⟩
def ls6 : Stmt := match (lawBody[6]? : Option Stmt) with | some a => a | _ => .Pass ⟨0, 0, 0, 0⟩
def ls7 : Stmt := match (lawBody[7]? : Option Stmt) with | some a => a | _ => .Pass ⟨0, 0, 0, 0⟩
theorem pre4 (ch : List Stmt) (dp un : Nat) (gd : Option (List Code)) (hd : dp < 800) (hu : un < 8000) (B : Below A₀ base outer h₀) (X : (Mine.hd.heap_39 w.params).In h₀) (T : Top p loose mean mg mb h₀)
   (evl : Nat) (evs : List Value) (n : Nat) (made : Int) (mt : Nat) (b0 : 0 ≤ made) (b1 : made < 7)
   (hm1 : m (Str.ofString "made") = some (.int made mt)) (hm2 : m (Str.ofString "events") = some (.ref evl))
   (F : Fr h₀ L s.heap m) (N : News h₀ L s.heap [(evl, listOf evs.toArray n)])
   (hq : ∀ e tail ns fl la ht h' tk' m', LS e tail ns → Bd 0 e ns made 0 → FlatAt tail fl ns → LastAt tail la false → (evl, listOf evs.toArray n) ∈ tail → m' (Str.ofString "held") = some (.int 0 ht) → m' (Str.ofString "flat") = some (.ref fl) → m' (Str.ofString "f") = some (.ref e.f) → m' (Str.ofString "last") = some (.ref la) → m' (Str.ofString "made") = some (.int made mt) → m' (Str.ofString "events") = some (.ref evl) → Fr h₀ L h' m' → News h₀ L h' (ObjsOf e ++ tail) →
     wpAny (model PySem.Challenge.rw_rk0006_01.prog w) { handled := none, depth := dp, frames := some (lawEnv L fa cd :: outer), guards := gd, units := un } (execs ch (lawEnv L fa cd)) Q E { s with heap := h', toks := tk' }) :
   wpAny (model PySem.Challenge.rw_rk0006_01.prog w) { handled := none, depth := dp, frames := some (lawEnv L fa cd :: outer), guards := gd, units := un } (execs (ls4 :: ls5 :: ls6 :: ls7 :: ch) (lawEnv L fa cd)) Q E s := by
  revert X; k_fill; intro X
  dsimp only [lawEnv] at hq ⊢
  have hls : lawScope = lawScope := rfl
  conv at hls => lhs; whnf
  rw [← hls] at hq
  conv in ls4 => whnf
  conv in ls5 => whnf
  conv in ls6 => whnf
  conv in ls7 => whnf
  conv in (occs := *) lawScope => all_goals whnf
  k_steps
  rename Fr _ _ _ _ => F2
  rename News _ _ _ _ => N2
  refine kll_range (n := made.toNat) rfl F2 N2 (N2 _ (.head _)).1 (small_one (by omega) (by omega) (by omega) (by omega)) (by rw [rangeSize_nat]; congr 2; omega) (by omega) fun D1 us c1 h1 tk1 F3 N3 l3 hI3 => ?_
  dsimp only
  have N3' := news_sub (l' := [(D1, listOf us.toArray c1), (evl, listOf evs.toArray n)]) N3 fun q hq => by simp only [List.mem_cons, List.not_mem_nil, or_false] at hq ⊢; rcases hq with h | h <;> simp [h]
  have l3' : @LT.lt Nat _ evl D1 := l3 _ (.tail _ (.head _))
  clear N3 N2 F2 l3
  k_steps
  rename Fr _ _ _ _ => F5
  rename News _ _ _ _ => N5
  have hln : us.length = made.toNat := by rw [hI3.length, rangeKs_length]
  refine Hold.mk (LCg.CompSrc.ledger (its := us.toArray) rfl F5 N5 (.tail _ (.tail _ (.head _))) (by rw [List.size_toArray, sizeLine_eq]; omega) fun g => tok_rest dp un gd hd hu B X T _ _ _ D1 us.toArray (rangeKs 0 made.toNat) hI3 (fun k hk => ?_) _ _ 0 [] _ (by rw [List.size_toArray, rangeKs_length]; omega) (.inr ⟨_, .tail _ (.tail _ (.head _)), rfl, _, rfl⟩) fun vs2 nw hrel hni hfr => ?_)
  · have := mem_rangeKs hk
    omega
  rw [List.nil_append]
  unfold LCg.FinE
  intro D2 h5 tk5 F6 N6 o6
  dsimp only
  clear F5 N5
  k_steps
  rename Fr _ _ _ _ => F6
  rename News _ _ _ _ => N6
  refine iterList_L (l := vs2) F6 N6 (.head _) fun I7 h7 F7 N7 l7 => ?_
  dsimp only
  have l7d : @LT.lt Nat _ D2 I7 := l7 _ (.head _)
  clear F6 N6
  k_steps
  rename Fr _ _ _ _ => F8
  rename News _ _ _ _ => N8
  have hrl : vs2.length = made.toNat := by rw [hrel.length, List.drop_zero, rangeKs_length]
  obtain ⟨e, hef, hefl, heb, hem, hea, heo, hoff, N9⟩ := exp_made N8 hrel.refs (by
    simp only [List.nodup_cons, List.mem_cons, List.not_mem_nil, or_false, not_or, not_false_eq_true, and_true, List.nodup_nil]
    exact ⟨⟨by k_ne, by k_ne, by k_ne, by k_ne, by k_ne⟩, ⟨by k_ne, by k_ne, by k_ne, by k_ne⟩, ⟨by k_ne, by k_ne, by k_ne⟩, ⟨by k_ne, by k_ne⟩, by k_ne⟩) (by
    intro a ha b hb
    simp only [List.mem_cons, List.not_mem_nil, or_false] at ha
    rcases ha with rfl | rfl | rfl | rfl | rfl | rfl
    case inr.inr.inr.inr.inr => exact fun z => (off1_mem o6 b hb) z.symm
    case inr.inr.inr.inr.inl => exact Nat.ne_of_gt (l7 b (.tail _ hb))
    all_goals (have z : @LT.lt Nat _ b.1 _ := @tb_ltOf _ _ (by tbn_find) b hb; refine neN ?_; (try dsimp only); omega)) (by
    simp only [List.mem_cons, List.not_mem_nil, or_false, not_or]
    exact ⟨by k_ne, by k_ne, by k_ne, by k_ne, by k_ne, by k_ne⟩)
  have hlr : (rangeKs 0 made.toNat).length = made.toNat := rangeKs_length _ _
  subst hef
  refine hq e _ (rangeKs 0 made.toNat) D1 _ _ _ _ _ ⟨heo, hoff, ?_, ?_, by omega⟩ ⟨?_, ?_, by omega, b0, by omega, ?_⟩ ⟨us, c1, .tail _ (List.mem_append_right _ (.tail _ (.tail _ (.head _)))), hI3⟩ (.nil 0 (.head _)) (.tail _ (List.mem_append_right _ (.tail _ (.tail _ (.tail _ (.head _)))))) rfl rfl rfl rfl (by exact hm1) (by exact hm2) F8 N9
  · rw [hefl]
    exact hrel.mono fun q hq => .tail _ (List.mem_append_left _ hq)
  · intro k hk
    have := mem_rangeKs hk
    omega
  · rw [heb]; simp
  · rw [hem]; simp
  · rw [heb]; simp
end
end
end
section
open PySem PySem.W PySem.Calls PyProof.Rows PySem.Spec
set_option Elab.async false
set_option maxRecDepth 100000
set_option maxHeartbeats 4000000
theorem offPre5 : True ∧ True := by
  w_top off
  walk1 <;> trivial
section
variable {w : World} {p : Program} {loose : List Str} {mean : ExcName → Option Value} {mg mb : Str → Option Value} {A₀ : Around} {outer : List Env} {base h₀ : Heap} {L fa : Addr} {cd : Value} {m : Str → Option Value} {s : Shared} {Q : Flow → Shared → Prop} {E : Value → Shared → Prop}

def ls8 : Stmt := match (lawBody[8]? : Option Stmt) with | some a => a | _ => .Pass ⟨0, 0, 0, 0⟩
theorem pre5 (ch : List Stmt) (dp un : Nat) (gd : Option (List Code)) (hd : dp < 800) (hu : un < 8000) (B : Below A₀ base outer h₀) (X : (Mine.hd.heap_39 w.params).In h₀) (T : Top p loose mean mg mb h₀)
   (evl n : Nat) (evs : List Value) (es : List Int) (hie : IntsAre evs es) (hel : es.length ≤ 64) (heb : ∀ x ∈ es, 0 ≤ x ∧ x < 32) (e : Exp) (tail : List (Addr × Obj)) (ns : List Int) (made : Int) (mt ht fl la : Nat) (ls : LS e tail ns) (bd : Bd 0 e ns made 0) (fa_ : FlatAt tail fl ns) (lat : LastAt tail la false) (hev : (evl, listOf evs.toArray n) ∈ tail)
   (m1 : m (Str.ofString "held") = some (.int 0 ht)) (m2 : m (Str.ofString "flat") = some (.ref fl)) (m3 : m (Str.ofString "f") = some (.ref e.f)) (m4 : m (Str.ofString "last") = some (.ref la)) (m5 : m (Str.ofString "made") = some (.int made mt)) (m6 : m (Str.ofString "events") = some (.ref evl))
   (F : Fr h₀ L s.heap m) (N : News h₀ L s.heap (ObjsOf e ++ tail))
   (hq : ∀ e' tail' ns' made' mt' fl' h' tk' m', LS e' tail' ns' → ns'.length ≤ 100 → 0 ≤ made' → made' < 900 → FlatAt tail' fl' ns' → m' (Str.ofString "flat") = some (.ref fl') → m' (Str.ofString "f") = some (.ref e'.f) → m' (Str.ofString "made") = some (.int made' mt') → Fr h₀ L h' m' → News h₀ L h' (ObjsOf e' ++ tail') →
     wpAny (model PySem.Challenge.rw_rk0006_01.prog w) { handled := none, depth := dp, frames := some (lawEnv L fa cd :: outer), guards := gd, units := un } (execs ch (lawEnv L fa cd)) Q E { s with heap := h', toks := tk' }) :
   wpAny (model PySem.Challenge.rw_rk0006_01.prog w) { handled := none, depth := dp, frames := some (lawEnv L fa cd :: outer), guards := gd, units := un } (execs (ls8 :: ch) (lawEnv L fa cd)) Q E s := by
  have X0 := X
  revert X; k_fill; intro X
  dsimp only [lawEnv] at hq ⊢
  have hls : lawScope = lawScope := rfl
  conv at hls => lhs; whnf
  rw [← hls] at hq
  conv in ls8 => whnf
  conv in (occs := *) lawScope => all_goals whnf
  have hev2 : (evl, listOf evs.toArray n) ∈ ObjsOf e ++ tail := List.mem_append_right _ hev
  refine wpAny_execs_cons ?_
  refine wpAny_For ?_
  k_steps
  rename Fr _ _ _ _ => F2
  rename News _ _ _ _ => N2
  rename IntsAre _ (List.take _ _) => hI2
  refine pyIterList_L F2 N2 (.head _) fun I7 h7 F7 N7 l7 => ?_
  dsimp only
  have hl2 := hI2.length
  rw [List.length_take] at hl2
  refine turns dp un gd hd hu B X0 T I7 _ 0 _ (es.take 16) hI2 (fun x hx => heb x (List.mem_of_mem_take hx)) (by omega) _ 0 e ((I7, itObj (.ref _) 0) :: (_, listOf (List.toArray _) 0) :: tail) ns made 0 mt ht fl la false _ _ rfl (.tail _ (.head _)) (.head _) ⟨ls.ok, ?_, ls.rel.mono fun q hq => .tail _ (.tail _ hq), ls.rng, ls.len⟩ bd (fa_.mono fun q hq => .tail _ (.tail _ hq)) (lat.keep fun q hq _ => .tail _ (.tail _ hq)) m1 m2 m3 m4 m5 F7 (news_swap (a := [_, _]) N7) ?_
  · intro q hq
    rcases List.mem_cons.mp hq with rfl | hq
    · exact Exp.fresh_off' (l := tail) fun b hb => Nat.ne_of_gt (l7 b (.tail _ hb))
    rcases List.mem_cons.mp hq with rfl | hq
    · exact Exp.fresh_off (l := tail) (by first | tbn_find | exact allLt_of (by assumption))
    · exact ls.off q hq
  · intro e' tail' ns' made' held' mt' fl' h' tk' m' ls' bd' fa' n2 n3 n5 F' N'
    have c1 := bd'.len
    have c2 := bd'.m0
    have c3 := bd'.m1
    dsimp only
    exact hq e' tail' ns' made' mt' fl' h' tk' m' ls' (by omega) c2 (by omega) fa' n2 n3 n5 F' N'
end
end
section
open PySem PySem.W PySem.Calls PyProof.Rows PySem.Spec
set_option Elab.async false
set_option maxRecDepth 100000
set_option maxHeartbeats 4000000
theorem offPre6 : True ∧ True := by
  w_top off
  walk1 <;> trivial
section
variable {w : World} {p : Program} {loose : List Str} {mean : ExcName → Option Value} {mg mb : Str → Option Value} {A₀ : Around} {outer : List Env} {base h₀ : Heap} {L fa : Addr} {cd : Value} {m : Str → Option Value} {s : Shared} {Q : Flow → Shared → Prop} {E : Value → Shared → Prop}

def ls9 : Stmt := match (lawBody[9]? : Option Stmt) with | some a => a | _ => .Pass ⟨0, 0, 0, 0⟩
theorem pre6 (dp un : Nat) (gd : Option (List Code)) (hd : dp < 800) (hu : un < 8000) (B : Below A₀ base outer h₀) (X : (Mine.hd.heap_39 w.params).In h₀) (T : Top p loose mean mg mb h₀)
   (e : Exp) (tail : List (Addr × Obj)) (ns : List Int) (made : Int) (mt fl : Nat) (ls : LS e tail ns) (hnl : ns.length ≤ 100) (b0 : 0 ≤ made) (b1 : made < 900) (fa_ : FlatAt tail fl ns)
   (m2 : m (Str.ofString "flat") = some (.ref fl)) (m3 : m (Str.ofString "f") = some (.ref e.f)) (m5 : m (Str.ofString "made") = some (.int made mt))
   (F : Fr h₀ L s.heap m) (N : News h₀ L s.heap (ObjsOf e ++ tail)) (hq : ∀ h' tk', (∀ b o, h₀.get? b = some o → h'.get? b = some o) → Q (.ret (.bool true)) { s with heap := h', toks := tk' }) :
   wpAny (model PySem.Challenge.rw_rk0006_01.prog w) { handled := none, depth := dp, frames := some (lawEnv L fa cd :: outer), guards := gd, units := un } (execs (ls9 :: endBody) (lawEnv L fa cd)) Q E s := by
  have X0 := X
  revert X; k_fill; intro X
  generalize hEB : endBody = EB
  dsimp only [lawEnv]
  conv in ls9 => whnf
  conv in (occs := *) lawScope => all_goals whnf
  obtain ⟨vs, n1, hfl, hi⟩ := fa_.at_
  have hlen := hi.length
  have hfl2 : (fl, listOf vs.toArray n1) ∈ ObjsOf e ++ tail := List.mem_append_right _ hfl
  refine wpAny_execs_cons ?_
  refine wpAny_For ?_
  k_steps
  rename Fr _ _ _ _ => F2
  rename News _ _ _ _ => N2
  refine len_L N2 hfl2 (by omega) fun t => ?_
  k_steps
  rename Fr _ _ _ _ => F3
  rename News _ _ _ _ => N3
  refine iterRange_L F3 N3 (.head _) (small_one (by omega) (by omega) (by omega) (by omega)) fun D2 h2 F4 N4 l2 => ?_
  dsimp only
  refine drain dp un gd hd hu B X0 T tail ns fl fa_ (by omega) D2 (fun b hb => ?_) ((vs.length : Int) - 0).toNat 0 e _ _ (by omega) ls (fun b hb => ?_) F4 m2 m3 (news_sub N4 fun q hq => ?_) fun e' h' tk' m' st hf F' hm N' => ?_
  · exact Nat.ne_of_gt (l2 b (.tail _ (List.mem_append_right _ hb)))
  · exact Nat.ne_of_gt (l2 b (.tail _ (List.mem_append_left _ hb)))
  · rcases List.mem_cons.mp hq with rfl | hq
    · exact .head _
    · exact .tail _ (.tail _ hq)
  · dsimp only
    rw [← hEB]
    exact ending dp un gd hd hu B X0 T e' tail st.ok (fun q hq h => ls.off q hq (st.adr _ h)) hf made mt b0 b1 F' ((hm _ (by decide)).trans m5) (by rw [st.f]; exact (hm _ (by decide)).trans m3) N' fun h'' tk'' kk => hq h'' tk'' kk
end
end
section
open PySem PySem.W PySem.Calls PyProof.Rows PySem.Spec
set_option Elab.async false
set_option maxRecDepth 100000
set_option maxHeartbeats 4000000
theorem offLawAll : True ∧ True := by
  w_top off
  walk1 <;> trivial
section
variable {w : World} {p : Program} {loose : List Str} {mean : ExcName → Option Value} {mg mb : Str → Option Value} {A₀ : Around} {outer : List Env} {base h₀ : Heap} {L fa : Addr} {cd : Value} {m : Str → Option Value} {s : Shared} {Q : Flow → Shared → Prop} {E : Value → Shared → Prop}

theorem law_all (dp un : Nat) (gd : Option (List Code)) (hd : dp < 800) (hu : un < 8000) (B : Below A₀ base outer h₀) (X : (Mine.hd.heap_39 w.params).In h₀) (T : Top p loose mean mg mb h₀)
   (a : Nat) (vs : List Value) (ns : List Int) (hl : h₀.IsList a vs.toArray) (hi : IntsAre vs ns) (hlen : ns.length ≤ 63) (hm : m (Str.ofString "script") = some (.ref a)) (co : Obj) (v0 : Option Value) (hco : co.data = .cell v0)
   (F : Fr h₀ L s.heap m) (N : News h₀ L s.heap [(L + 1, co)]) (hq : ∀ h' tk', (∀ b o, h₀.get? b = some o → h'.get? b = some o) → Q (.ret (.bool true)) { s with heap := h', toks := tk' }) :
   wpAny (model PySem.Challenge.rw_rk0006_01.prog w) { handled := none, depth := dp, frames := some (lawEnv L fa cd :: outer), guards := gd, units := un } (execs lawBody (lawEnv L fa cd)) Q E s := by
  rw [show lawBody = ls0 :: ls1 :: ls2 :: ls3 :: ls4 :: ls5 :: ls6 :: ls7 :: ls8 :: ls9 :: endBody from rfl]
  refine pre1 _ dp un gd hd hu B X T a vs ns hl hi hlen hm co F N fun evl nl yn h1 tk1 m1 hi1 d1 d2 d3 e1 e2 F1 N1 => ?_
  refine pre2 _ dp un gd hd hu B X T evl nl yn _ _ hi1 (by rw [List.length_map, List.length_take]; omega) d1 d2 d3 co v0 hco e1 e2 F1 N1 fun evs es n h2 tk2 hie hel heb F2 N2 => ?_
  refine pre3 _ dp un gd hd hu B X T evl nl evs yn _ _ n hi1 (by rw [List.length_map, List.length_take]; omega) d1 e1 e2 F2 N2 fun made mt h3 tk3 m3 b0 b1 f1 f2 F3 N3 => ?_
  refine pre4 _ dp un gd hd hu B X T evl evs n made mt b0 b1 f1 f2 F3 N3 fun e tail ks fl la ht h4 tk4 m4 ls bd fa_ lat hev g1 g2 g3 g4 g5 g6 F4 N4 => ?_
  refine pre5 _ dp un gd hd hu B X T evl n evs es hie hel heb e tail ks made mt ht fl la ls bd fa_ lat hev g1 g2 g3 g4 g5 g6 F4 N4 fun e' tail' ns' made' mt' fl' h5 tk5 m5 ls' hn' c0 c1 fa' k1 k2 k3 F5 N5 => ?_
  exact pre6 dp un gd hd hu B X T e' tail' ns' made' mt' fl' ls' hn' c0 c1 fa' k1 k2 k3 F5 N5 fun h'' tk'' kk => hq h'' tk'' kk
end
end
end
end
end
end
end
theorem offFin : True ∧ True := by
  w_top off
  walk1 <;> trivial
end Mine
open PySem PySem.W PySem.Calls PyProof.Rows PySem.Spec
set_option maxRecDepth 100000
set_option maxHeartbeats 8000000
theorem PySem.Challenge.cw_rk0006_01_holds : PySem.Challenge.rw_rk0006_01.Holds :=
  Mine.hd ⟨Mine.left, by w_strict (k_go0; (rename Fr _ _ _ _ => F0); (rename News _ _ _ _ => N0); (rename Below _ _ _ _ => K0); (rename Frag.In _ _ => KX); (rename Top _ _ _ _ _ _ => T0); (rename IntsAre _ _ => hI); (rename Heap.IsList _ _ _ => hL); (rename (_ = Data.cell _) => hC); refine Mine.law_all (A₀ := callerA) (outer := []) _ _ _ ?g1 ?g2 K0 KX T0 _ _ _ hL hI ?g3 ?g4 _ _ hC F0 N0 ?g5; (case g1 => decide); (case g2 => decide); (case g3 => omega); (case g4 => rfl); (case g5 => intro h' tk' hk; exact ⟨.inl ⟨_, .bool true, [], rfl, raisesW_false (by wrow_none_raised), .bool true, by wrow_post, unshared_nil⟩, hk, rfl, by assumption⟩))⟩
